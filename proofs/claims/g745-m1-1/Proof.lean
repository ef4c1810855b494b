import JvmDerived
import JvmDerived.Pilot.@@N@@Statement
import JvmDerived.Pilot.@@N@@Code
set_option linter.unusedVariables false
set_option linter.unusedSimpArgs false
namespace Jvm.OwnKit
open Sem ClassFile Op Lib Jvm.Stand Jvm.Free Jvm.LawKit Jvm.RoadKit
/-- from the state A the run comes to an end as the contract asks it -/
def OwnEnd (p : Program) (e : Env) (below : List Frame) (s : State) (Q : Option Value → Heap → List Loc → Prop) (kc ks : Nat) (A : State) : Prop :=
  ∃ (s₂ : State) (o : Outcome), Steps p.tables e below A s₂ ∧ s₂.status = .running ∧ Ended s₂ below o ∧ ∃ v L, o = .returned v ∧ Q v s₂.heap L ∧ FrameEnd s o s₂ L kc ks
section Own
variable {p : Program} {l : Launch} {e : Env} {R : Room} {s : State} {m : MethodId} {args : Array Value} {below : List Frame} {meth : Method} {c : Code} {T : State} {locs : List Loc} {cells slots : Nat} {Z : State} {a0 : Array Value} {h : Heap}
variable {Q : Option Value → Heap → List Loc → Prop} {kc ks : Nat}
theorem go {A B : State} (k : ∀ t, Steps p.tables e below B t → Steps p.tables e below A t) (F : OwnEnd p e below s Q kc ks B) : OwnEnd p e below s Q kc ks A := by
  obtain ⟨s₂, o, h1, r⟩ := F; exact ⟨s₂, o, k _ h1, r⟩
theorem up {cells' slots' : Nat} (X : Stand p l e R s m args below meth c T locs cells slots) (h1 : cells ≤ cells') (h2 : slots ≤ slots') : Stand p l e R s m args below meth c T locs cells' slots' :=
  ⟨X.admits, X.cas, X.clock, X.frames, X.room, X.hears, X.method, X.code, X.here, X.tail, X.warmed, X.limits, X.bytes, X.same.mono h1 h2⟩
theorem done (X : Stand p l e R s m args below meth c T locs cells slots) (hlk : meth.locks = false) {v : Option Value} (hv : meth.sig.returnType = none → v = none) {A : State}
    (st : ∀ fs, (∀ (f : JFrame) (acts : List Action), f.method = m → f.locked = none → f.entered = [] → (doReturn e (T.setTop f) acts v).1 = T.setFrames fs) → Steps p.tables e below A (T.setFrames fs))
    (eT : T.heap = h) (hk : cells ≤ kc) (hs : slots ≤ ks) (hQ : Q v h locs) : OwnEnd p e below s Q kc ks A := by
  obtain ⟨fs, hr, hrun, hended, hW, hsame⟩ := X.leave (v := v) hv hlk
  exact ⟨_, _, st fs hr, hrun, hended, _, _, rfl, (by show Q v T.heap locs; rw [eT]; exact hQ), ⟨_, rfl⟩, hW, hsame.mono hk hs⟩
theorem endI (X : Stand p l e R s m args below meth c T locs cells slots) (hx : p.tables.exec = Jvm.exec) (hlk : meth.locks = false) (hret : meth.sig.returnType = some .int) {pc : Nat} {Ls : Array Slot} {z : Int32} {rest : List Value} (hd : decode c.code pc = .ok (.ireturn, 1))
    (eT : T.heap = h) (hk : cells ≤ kc) (hs : slots ≤ ks) (hQ : Q (some (.int z)) h locs) : OwnEnd p e below s Q kc ks (T.setTop (mkF m pc Ls (.int z :: rest))) :=
  done X hlk (fun q => by rw [hret] at q; cases q) (fun fs hr => retOut X hx (w := .int z) hret rfl (Or.inl ⟨rfl, Or.inl rfl, z, rfl⟩) hd hr) eT hk hs hQ
theorem endN (X : Stand p l e R s m args below meth c T locs cells slots) (hx : p.tables.exec = Jvm.exec) (hlk : meth.locks = false) {t : FieldType} (ht : t = .boolean ∨ t = .byte ∨ t = .char ∨ t = .short) (hret : meth.sig.returnType = some t) {pc : Nat} {Ls : Array Slot} {z : Int32} {rest : List Value} (hd : decode c.code pc = .ok (.ireturn, 1))
    (eT : T.heap = h) (hk : cells ≤ kc) (hs : slots ≤ ks) (hQ : Q (some (.int (nar t z))) h locs) : OwnEnd p e below s Q kc ks (T.setTop (mkF m pc Ls (.int z :: rest))) :=
  done X hlk (fun q => by rw [hret] at q; cases q) (fun fs hr => retN X hx hret ht hd hr) eT hk hs hQ
theorem endJ (X : Stand p l e R s m args below meth c T locs cells slots) (hx : p.tables.exec = Jvm.exec) (hlk : meth.locks = false) (hret : meth.sig.returnType = some .long) {pc : Nat} {Ls : Array Slot} {z : Int64} {rest : List Value} (hd : decode c.code pc = .ok (.lreturn, 1))
    (eT : T.heap = h) (hk : cells ≤ kc) (hs : slots ≤ ks) (hQ : Q (some (.long z)) h locs) : OwnEnd p e below s Q kc ks (T.setTop (mkF m pc Ls (.long z :: rest))) :=
  done X hlk (fun q => by rw [hret] at q; cases q) (fun fs hr => retOut X hx (w := .long z) hret rfl (Or.inr (Or.inl ⟨rfl, rfl, z, rfl⟩)) hd hr) eT hk hs hQ
theorem endA (X : Stand p l e R s m args below meth c T locs cells slots) (hx : p.tables.exec = Jvm.exec) (hlk : meth.locks = false) {t : FieldType} (hret : meth.sig.returnType = some t) (ht : t.isReference = true) {pc : Nat} {Ls : Array Slot} {w : Value} (hw : w.isRef = true) {rest : List Value} (hd : decode c.code pc = .ok (.areturn, 1))
    (eT : T.heap = h) (hk : cells ≤ kc) (hs : slots ≤ ks) (hQ : Q (some w) h locs) : OwnEnd p e below s Q kc ks (T.setTop (mkF m pc Ls (w :: rest))) :=
  done X hlk (fun q => by rw [hret] at q; cases q) (fun fs hr => retOut X hx (w := w) hret (by cases t <;> first | rfl | cases ht) (Or.inr (Or.inr (Or.inr (Or.inr ⟨rfl, ht, hw⟩)))) hd hr) eT hk hs hQ
theorem endV (X : Stand p l e R s m args below meth c T locs cells slots) (hx : p.tables.exec = Jvm.exec) (hlk : meth.locks = false) (hret : meth.sig.returnType = none) {pc : Nat} {Ls : Array Slot} (hd : decode c.code pc = .ok (.return_, 1))
    (eT : T.heap = h) (hk : cells ≤ kc) (hs : slots ≤ ks) (hQ : Q none h locs) : OwnEnd p e below s Q kc ks (T.setTop (mkF m pc Ls [])) :=
  done X hlk (fun _ => rfl) (fun fs hr => X.returnOut hx hret hd hr) eT hk hs hQ
theorem nar01 {P : Prop} [Decidable P] : nar .boolean (if P then (1 : Int32) else 0) = if P then (1 : Int32) else 0 := by split <;> rfl
section Call
variable {own : String} {index : Nat} {y z : MethodName} {bytes : ByteArray} {maxL W : Nat} {ret : Option FieldType} {rm : Room} {as' : Array Value} {Qc : Option Value → Heap → List Loc → Prop} {g : JFrame} {argsL rest : List Value}
theorem callStat (X : Stand p l e R s m args below meth c T locs cells slots) (hx : p.tables.exec = Jvm.exec) (hZ : Z.Warmed39 s.vm) (hown : s.vm.findClass own = some m.cls)
    (w1 : (Cond.methodLink own index y).before a0 Z = true) (w2 : (Cond.static y).before a0 Z = true) (w3 : (Cond.initialized y.cls).before a0 Z = true) (w4 : (Cond.code y bytes maxL ret).before a0 Z = true)
    (hy : y.cls ≠ "java/lang/invoke/MethodHandle" ∧ y.cls ≠ "java/lang/invoke/VarHandle")
    (hM : MetFree l y (head1 [Cond.code y bytes maxL ret] rm) (fun a U => a = as' ∧ Z.Warmed39 U.vm ∧ U.heap = h) (fun _ _ _ _ _ => True) (fun _ U o U' => ∃ v L, o = .returned v ∧ Qc v U'.heap L ∧ FrameEnd U o U' L rm.cells rm.slots))
    (hf : rm.frames + 1 ≤ R.frames) (hl : W + (maxL + 11) + rm.locals ≤ R.locals) (eT : T.heap = h) (hg : g.method = m) (hsize : g.locals.size = c.maxLocals) (ha : argsL.toArray = as')
    (hlen : ∀ sig, parseMethodDescriptor y.desc = some sig → argsL.length = sig.parameters.length) (hstack : g.stack = argsL.reverse ++ rest) (hW : 2 * g.monitorRoom + (rest.map fun v => v.category).sum ≤ W) (hdg : decode c.code g.pc = .ok (.invokestatic index, 3))
    (hc : cells + rm.cells ≤ R.cells) (hs : slots + rm.slots ≤ R.slots) :
    ∃ (v : Option Value) (T' : State) (L : List Loc), Stand p l e R s m args below meth c T' (locs ++ L) (cells + rm.cells) (slots + rm.slots) ∧ Qc v T'.heap L ∧ ∀ target, Steps p.tables e below (T'.setTop { g with pc := g.pc + 3, stack := v.toList ++ rest }) target → Steps p.tables e below (T.setTop g) target := by
  obtain ⟨v, _, ⟨T', L', k', n'⟩, -, X', ⟨L, hQ, l1, l2, l3⟩, st⟩ := Jvm.LawKit.callS X hx hown (mvT hZ w1) (mvT hZ w2) (mvT hZ w3) (mvT hZ w4) hy (backOf (W := W) hM hZ w4 w3 hf hl) (g := g) hg hsize (argsL := argsL) (rest := rest) hlen hstack hW hdg (fun _ _ => ⟨ha, eT, hc, hs⟩)
  dsimp only [Pt.U, Pt.locs, Pt.cells, Pt.slots] at X' l1 l2 l3 st hQ
  subst l1 l2 l3
  exact ⟨v, T', L, X', hQ, st⟩
theorem callInit (X : Stand p l e R s m args below meth c T locs cells slots) (hx : p.tables.exec = Jvm.exec) (hZ : Z.Warmed39 s.vm) (hown : s.vm.findClass own = some m.cls) (hy1 : y.name = "<init>")
    (w1 : (Cond.methodLink own index y).before a0 Z = true) (w2 : (Cond.instanceMethod y).before a0 Z = true) (w3 : (Cond.initialized y.cls).before a0 Z = true) (w4 : (Cond.code y bytes maxL none).before a0 Z = true)
    (hy : y.cls ≠ "java/lang/invoke/MethodHandle" ∧ y.cls ≠ "java/lang/invoke/VarHandle")
    (hM : MetFree l y (head1 [Cond.code y bytes maxL none] rm) (fun a U => a = as' ∧ Z.Warmed39 U.vm ∧ U.heap = h) (fun _ _ _ _ _ => True) (fun _ U o U' => ∃ v L, o = .returned v ∧ Qc v U'.heap L ∧ FrameEnd U o U' L rm.cells rm.slots))
    (hf : rm.frames + 1 ≤ R.frames) (hl : W + (maxL + 11) + rm.locals ≤ R.locals) (eT : T.heap = h) (hg : g.method = m) (hsize : g.locals.size = c.maxLocals) {a : Addr} (ha : (Value.ref a :: argsL).toArray = as')
    (hlen : ∀ sig, parseMethodDescriptor y.desc = some sig → argsL.length = sig.parameters.length) (hstack : g.stack = argsL.reverse ++ .ref a :: rest) (hW : 2 * g.monitorRoom + (rest.map fun v => v.category).sum ≤ W) (hdg : decode c.code g.pc = .ok (.invokespecial index, 3))
    (hc : cells + rm.cells ≤ R.cells) (hs : slots + rm.slots ≤ R.slots) :
    ∃ (v : Option Value) (T' : State) (L : List Loc), Stand p l e R s m args below meth c T' (locs ++ L) (cells + rm.cells) (slots + rm.slots) ∧ Qc v T'.heap L ∧ ∀ target, Steps p.tables e below (T'.setTop { g with pc := g.pc + 3, stack := v.toList ++ rest }) target → Steps p.tables e below (T.setTop g) target := by
  obtain ⟨v, _, ⟨T', L', k', n'⟩, -, X', ⟨L, hQ, l1, l2, l3⟩, st⟩ := X.specialBack hx hy1 hown (mvT hZ w1) (mvT hZ w2) (mvT hZ w4) hy (backOf (W := W) hM hZ w4 w3 hf hl) (g := g) hg hsize (Steps.refl _) (a := a) (argsL := argsL) (rest := rest) hlen hstack hW hdg (fun _ _ => ⟨ha, eT, hc, hs⟩)
  dsimp only [Pt.U, Pt.locs, Pt.cells, Pt.slots] at X' l1 l2 l3 st hQ
  subst l1 l2 l3
  exact ⟨v, T', L, X', hQ, fun _ k => st.trans k⟩
theorem callVirt (X : Stand p l e R s m args below meth c T locs cells slots) (hx : p.tables.exec = Jvm.exec) (hZ : Z.Warmed39 s.vm) (hown : s.vm.findClass own = some m.cls) {C : String}
    (w1 : (Cond.methodLink own index y).before a0 Z = true) (w2 : (Cond.declares y).before a0 Z = true) (hnf : NotFace s y) (w3 : (Cond.selects C y z).before a0 Z = true) (w5 : (Cond.instanceMethod z).before a0 Z = true) (w6 : (Cond.initialized z.cls).before a0 Z = true) (w4 : (Cond.code z bytes maxL ret).before a0 Z = true)
    (hy : y.cls ≠ "java/lang/invoke/MethodHandle" ∧ y.cls ≠ "java/lang/invoke/VarHandle")
    (hM : MetFree l z (head1 [Cond.code z bytes maxL ret] rm) (fun a U => a = as' ∧ Z.Warmed39 U.vm ∧ U.heap = h) (fun _ _ _ _ _ => True) (fun _ U o U' => ∃ v L, o = .returned v ∧ Qc v U'.heap L ∧ FrameEnd U o U' L rm.cells rm.slots))
    (hf : rm.frames + 1 ≤ R.frames) (hl : W + (maxL + 11) + rm.locals ≤ R.locals) (eT : T.heap = h) {a : Addr} (E : Exa Z h a C) (hg : g.method = m) (hsize : g.locals.size = c.maxLocals) (ha : (Value.ref a :: argsL).toArray = as')
    (hlen : ∀ sig, parseMethodDescriptor y.desc = some sig → argsL.length = sig.parameters.length) (hstack : g.stack = argsL.reverse ++ .ref a :: rest) (hW : 2 * g.monitorRoom + (rest.map fun v => v.category).sum ≤ W) (hdg : decode c.code g.pc = .ok (.invokevirtual index, 3))
    (hc : cells + rm.cells ≤ R.cells) (hs : slots + rm.slots ≤ R.slots) :
    ∃ (v : Option Value) (T' : State) (L : List Loc), Stand p l e R s m args below meth c T' (locs ++ L) (cells + rm.cells) (slots + rm.slots) ∧ Qc v T'.heap L ∧ ∀ target, Steps p.tables e below (T'.setTop { g with pc := g.pc + 3, stack := v.toList ++ rest }) target → Steps p.tables e below (T.setTop g) target := by
  obtain ⟨cq, kq, q1, q2, q3⟩ := isOf hZ eT E
  obtain ⟨v, _, ⟨T', L', k', n'⟩, -, X', ⟨L, hQ, l1, l2, l3⟩, st⟩ := X.virtualBack hx hown (mvT hZ w1) (mvT hZ w2) hnf (mvT hZ w3) (mvT hZ w5) hy (backOf (W := W) hM hZ w4 w6 hf hl) q1 q3 (g := g) hg hsize (Steps.refl _) (argsL := argsL) (rest := rest) hlen hstack hW hdg (fun _ _ => ⟨ha, eT, hc, hs⟩)
  dsimp only [Pt.U, Pt.locs, Pt.cells, Pt.slots] at X' l1 l2 l3 st hQ
  subst l1 l2 l3
  exact ⟨v, T', L, X', hQ, fun _ k => st.trans k⟩
theorem callUp (X : Stand p l e R s m args below meth c T locs cells slots) (hx : p.tables.exec = Jvm.exec) (hZ : Z.Warmed39 s.vm) (hown : s.vm.findClass own = some m.cls) {C owner : String}
    (w1 : (Cond.methodLink own index y).before a0 Z = true) (w0 : (Cond.sameMethod y.cls owner y.name y.desc).before a0 Z = true) (w2 : (Cond.declares ⟨owner, y.name, y.desc⟩).before a0 Z = true) (ho : owner ≠ "java/lang/invoke/MethodHandle" ∧ owner ≠ "java/lang/invoke/VarHandle")
    (w3 : (Cond.selects C y z).before a0 Z = true) (w5 : (Cond.instanceMethod z).before a0 Z = true) (w6 : (Cond.initialized z.cls).before a0 Z = true) (w4 : (Cond.code z bytes maxL ret).before a0 Z = true)
    (hM : MetFree l z (head1 [Cond.code z bytes maxL ret] rm) (fun a U => a = as' ∧ Z.Warmed39 U.vm ∧ U.heap = h) (fun _ _ _ _ _ => True) (fun _ U o U' => ∃ v L, o = .returned v ∧ Qc v U'.heap L ∧ FrameEnd U o U' L rm.cells rm.slots))
    (hf : rm.frames + 1 ≤ R.frames) (hl : W + (maxL + 11) + rm.locals ≤ R.locals) (eT : T.heap = h) {a : Addr} (E : Exa Z h a C) (hg : g.method = m) (hsize : g.locals.size = c.maxLocals) (ha : (Value.ref a :: argsL).toArray = as')
    (hlen : ∀ sig, parseMethodDescriptor y.desc = some sig → argsL.length = sig.parameters.length) (hstack : g.stack = argsL.reverse ++ .ref a :: rest) (hW : 2 * g.monitorRoom + (rest.map fun v => v.category).sum ≤ W) (hdg : decode c.code g.pc = .ok (.invokevirtual index, 3))
    (hc : cells + rm.cells ≤ R.cells) (hs : slots + rm.slots ≤ R.slots) :
    ∃ (v : Option Value) (T' : State) (L : List Loc), Stand p l e R s m args below meth c T' (locs ++ L) (cells + rm.cells) (slots + rm.slots) ∧ Qc v T'.heap L ∧ ∀ target, Steps p.tables e below (T'.setTop { g with pc := g.pc + 3, stack := v.toList ++ rest }) target → Steps p.tables e below (T.setTop g) target := by
  obtain ⟨cq, kq, q1, q2, q3⟩ := isOf hZ eT E
  obtain ⟨v, _, ⟨T', L', k', n'⟩, -, X', ⟨L, hQ, l1, l2, l3⟩, st⟩ := X.virtualBackUp hx hown (mvT hZ w1) (mvT hZ w0) (mvT hZ w2) ho (mvT hZ w3) (mvT hZ w5) (backOf (W := W) hM hZ w4 w6 hf hl) q1 q3 (g := g) hg hsize (Steps.refl _) (argsL := argsL) (rest := rest) hlen hstack hW hdg (fun _ _ => ⟨ha, eT, hc, hs⟩)
  dsimp only [Pt.U, Pt.locs, Pt.cells, Pt.slots] at X' l1 l2 l3 st hQ
  subst l1 l2 l3
  exact ⟨v, T', L, X', hQ, fun _ k => st.trans k⟩
theorem callPriv (X : Stand p l e R s m args below meth c T locs cells slots) (hx : p.tables.exec = Jvm.exec) (hZ : Z.Warmed39 s.vm) (hown : s.vm.findClass own = some m.cls) {C : String} {kk : Nat}
    (w1 : (Cond.methodLink own index y).before a0 Z = true) (w2 : (Cond.instanceMethod y).before a0 Z = true) (wp : (Cond.privateMethod y).before a0 Z = true) (wi : (Cond.instantiable y.cls kk).before a0 Z = true) (w6 : (Cond.initialized y.cls).before a0 Z = true) (w4 : (Cond.code y bytes maxL ret).before a0 Z = true)
    (hy : y.cls ≠ "java/lang/invoke/MethodHandle" ∧ y.cls ≠ "java/lang/invoke/VarHandle")
    (hM : MetFree l y (head1 [Cond.code y bytes maxL ret] rm) (fun a U => a = as' ∧ Z.Warmed39 U.vm ∧ U.heap = h) (fun _ _ _ _ _ => True) (fun _ U o U' => ∃ v L, o = .returned v ∧ Qc v U'.heap L ∧ FrameEnd U o U' L rm.cells rm.slots))
    (hf : rm.frames + 1 ≤ R.frames) (hl : W + (maxL + 11) + rm.locals ≤ R.locals) (eT : T.heap = h) {a : Addr} (E : Exa Z h a C) (hg : g.method = m) (hsize : g.locals.size = c.maxLocals) (ha : (Value.ref a :: argsL).toArray = as')
    (hlen : ∀ sig, parseMethodDescriptor y.desc = some sig → argsL.length = sig.parameters.length) (hstack : g.stack = argsL.reverse ++ .ref a :: rest) (hW : 2 * g.monitorRoom + (rest.map fun v => v.category).sum ≤ W) (hdg : decode c.code g.pc = .ok (.invokevirtual index, 3))
    (hc : cells + rm.cells ≤ R.cells) (hs : slots + rm.slots ≤ R.slots) :
    ∃ (v : Option Value) (T' : State) (L : List Loc), Stand p l e R s m args below meth c T' (locs ++ L) (cells + rm.cells) (slots + rm.slots) ∧ Qc v T'.heap L ∧ ∀ target, Steps p.tables e below (T'.setTop { g with pc := g.pc + 3, stack := v.toList ++ rest }) target → Steps p.tables e below (T.setTop g) target := by
  obtain ⟨c2, k2, i1, i2, -, i4, -⟩ := Cond.instantiable_spec (mvT hZ wi (args := args))
  simp only [Bool.or_eq_false_iff] at i4
  have hpriv := Cond.privateMethod_at (mvP hZ wp (args := args))
  have hsel := selects_self_of_private (args := args) i1 i2 i4.1 hpriv (mvT hZ w2) hy
  obtain ⟨cl, q1, q2⟩ := E.cell
  obtain ⟨v, _, ⟨T', L', k', n'⟩, -, X', ⟨L, hQ, l1, l2, l3⟩, st⟩ := X.privateBack hx hown (mvT hZ w1) (mvT hZ w2) hsel hpriv (mvT hZ w4) hy (backOf (W := W) hM hZ w4 w6 hf hl) (g := g) hg hsize (Steps.refl _) (a := a) (cell := cl) (by rw [eT]; exact q1) q2 (argsL := argsL) (rest := rest) hlen hstack hW hdg (fun _ _ => ⟨ha, eT, hc, hs⟩)
  dsimp only [Pt.U, Pt.locs, Pt.cells, Pt.slots] at X' l1 l2 l3 st hQ
  subst l1 l2 l3
  exact ⟨v, T', L, X', hQ, fun _ k => st.trans k⟩
theorem callFace (X : Stand p l e R s m args below meth c T locs cells slots) (hx : p.tables.exec = Jvm.exec) (hZ : Z.Warmed39 s.vm) (hown : s.vm.findClass own = some m.cls) {C : String} {count : Nat}
    (w1 : (Cond.methodLink own index y).before a0 Z = true) (w2 : (Cond.declares y).before a0 Z = true) (wf : (Cond.interfaceMethod y.cls y.cls y.name y.desc).before args s = true) (w3 : (Cond.selects C y z).before a0 Z = true) (w5 : (Cond.instanceMethod z).before a0 Z = true) (wu : (Cond.publicMethod z).before a0 Z = true) (wh : (Cond.unhidden C y.name y.desc).before a0 Z = true) (wk : (Cond.castable C y.cls).before a0 Z = true) (w6 : (Cond.initialized z.cls).before a0 Z = true) (w4 : (Cond.code z bytes maxL ret).before a0 Z = true)
    (hy : y.cls ≠ "java/lang/invoke/MethodHandle" ∧ y.cls ≠ "java/lang/invoke/VarHandle")
    (hM : MetFree l z (head1 [Cond.code z bytes maxL ret] rm) (fun a U => a = as' ∧ Z.Warmed39 U.vm ∧ U.heap = h) (fun _ _ _ _ _ => True) (fun _ U o U' => ∃ v L, o = .returned v ∧ Qc v U'.heap L ∧ FrameEnd U o U' L rm.cells rm.slots))
    (hf : rm.frames + 1 ≤ R.frames) (hl : W + (maxL + 11) + rm.locals ≤ R.locals) (eT : T.heap = h) {a : Addr} (E : Exa Z h a C) (hg : g.method = m) (hsize : g.locals.size = c.maxLocals) (ha : (Value.ref a :: argsL).toArray = as')
    (hlen : ∀ sig, parseMethodDescriptor y.desc = some sig → argsL.length = sig.parameters.length) (hstack : g.stack = argsL.reverse ++ .ref a :: rest) (hW : 2 * g.monitorRoom + (rest.map fun v => v.category).sum ≤ W) (hdg : decode c.code g.pc = .ok (.invokeinterface index count, 5))
    (hc : cells + rm.cells ≤ R.cells) (hs : slots + rm.slots ≤ R.slots) :
    ∃ (v : Option Value) (T' : State) (L : List Loc), Stand p l e R s m args below meth c T' (locs ++ L) (cells + rm.cells) (slots + rm.slots) ∧ Qc v T'.heap L ∧ ∀ target, Steps p.tables e below (T'.setTop { g with pc := g.pc + 5, stack := v.toList ++ rest }) target → Steps p.tables e below (T.setTop g) target := by
  obtain ⟨cq, kq, q1, q2, q3⟩ := isOf hZ eT E
  obtain ⟨v, _, ⟨T', L', k', n'⟩, -, X', ⟨L, hQ, l1, l2, l3⟩, st⟩ := X.interfaceBack hx hown (mvT hZ w1) (mvT hZ w2) wf (mvT hZ w3) (mvT hZ w5) (mvT hZ wu) (mvT hZ wh) (mvT hZ wk) hy (backOf (W := W) hM hZ w4 w6 hf hl) q1 q2 q3 (g := g) hg hsize (Steps.refl _) (argsL := argsL) (rest := rest) hlen hstack hW hdg (fun _ _ => ⟨ha, eT, hc, hs⟩)
  dsimp only [Pt.U, Pt.locs, Pt.cells, Pt.slots] at X' l1 l2 l3 st hQ
  subst l1 l2 l3
  exact ⟨v, T', L, X', hQ, fun _ k => st.trans k⟩
end Call
/-- an object of C is none of K (K a class that can be made) -/
theorem NSroot {O K : String} {kk : Nat} (w : (Cond.noSuperclass O).before a0 Z = true) (wk : (Cond.instantiable K kk).before a0 Z = true) (hn : O ≠ K) : NS Z O K := by
  obtain ⟨c, k, h1, h2, h3, -, -⟩ := Cond.noSuperclass_spec w
  obtain ⟨t, kt, g1, -⟩ := Cond.instantiable_spec wk
  have ne := ids_ne h1 g1 hn
  refine ⟨c, t, h1, g1, fun fuel => ?_⟩
  cases fuel with
  | zero => rfl
  | succ f => simp [Vm.isSubclassAux, ne, h2, h3]
theorem NSno {C S K : String} {kk : Nat} (w : (Cond.superclass C S).before a0 Z = true) (wk : (Cond.instantiable K kk).before a0 Z = true) (n : NS Z C K) (hn : C ≠ K) : ∃ c t, Z.vm.findClass C = some c ∧ Z.vm.findClass K = some t ∧ Z.vm.assignable c t = false := by
  obtain ⟨c, t, h0, g0, n3⟩ := n
  obtain ⟨p, k, kp, h1, h2, h3, h4, h5, -, h7⟩ := Cond.superclass_spec h0 w
  obtain ⟨t', k', g1, g2, g5, g7, -⟩ := Cond.instantiable_spec wk
  cases g0.symm.trans g1
  simp only [Bool.or_eq_false_iff] at g7
  have ne := ids_ne h0 g0 hn
  refine ⟨c, t, h0, g0, ?_⟩
  show Z.vm.assignableAux (255 + 1) c t = false
  simp [Vm.assignableAux, ne, h2, g2, h5, g5, g7.1, Vm.isSubclass, n3]
end Own
end Jvm.OwnKit
namespace Jvm.OwnKit
open Sem ClassFile Op Lib Jvm.Stand Jvm.Free Jvm.LawKit Jvm.RoadKit
section Arrays
variable {p : Program} {l : Launch} {e : Env} {R : Room} {s : State} {m : MethodId} {args : Array Value} {below : List Frame} {meth : Method} {c : Code} {T : State} {locs : List Loc} {cells slots : Nat} {Z : State} {h : Heap}
variable {a : Addr} {k : ClassId} {z j : Int32} {vs : List Value} {dv : Value} {i : Nat} {g : JFrame} {rest : List Value}
theorem stBv (X : Stand p l e R s m args below meth c T locs cells slots) (hx : p.tables.exec = Jvm.exec) (hZ : Z.Warmed39 s.vm) (eT : T.heap = h) (F : Arv Z h a k .byte z vs dv) {x : Int32} (h1 : ¬ j < 0) (h2 : j < z) (h3 : j.toNatClampNeg = i) (h4 : i < vs.length)
    (hg : g.method = m) (hs : g.stack = .int x :: .int j :: .ref a :: rest) (hd : decode c.code g.pc = .ok (.bastore, 1)) :
    ∃ T' h', Stand p l e R s m args below meth c T' (locs ++ [⟨a, i⟩]) cells slots ∧ T'.heap = h' ∧ Wr h h' a i (.int (nar .byte x)) ∧ Arv Z h' a k .byte z (vs.set i (.int (nar .byte x))) dv ∧ ∀ target, Steps p.tables e below (T'.setTop { g with pc := g.pc + 1, stack := rest }) target → Steps p.tables e below (T.setTop g) target := by
  obtain ⟨cl, A, q1, S, q3, H, G⟩ := F
  subst h3
  obtain ⟨T', h', X', e', W, st⟩ := stB X hx hZ eT A (inb_of S ⟨h1, h2⟩) hg hs hd
  exact ⟨T', h', X', e', W, Arv.set A q1 S q3 H G (fits_nar_byte _) W _ rfl h4, st⟩
theorem stIv (X : Stand p l e R s m args below meth c T locs cells slots) (hx : p.tables.exec = Jvm.exec) (hZ : Z.Warmed39 s.vm) (eT : T.heap = h) (F : Arv Z h a k .int z vs dv) {x : Int32} (h1 : ¬ j < 0) (h2 : j < z) (h3 : j.toNatClampNeg = i) (h4 : i < vs.length)
    (hg : g.method = m) (hs : g.stack = .int x :: .int j :: .ref a :: rest) (hd : decode c.code g.pc = .ok (.iastore, 1)) :
    ∃ T' h', Stand p l e R s m args below meth c T' (locs ++ [⟨a, i⟩]) cells slots ∧ T'.heap = h' ∧ Wr h h' a i (.int x) ∧ Arv Z h' a k .int z (vs.set i (.int x)) dv ∧ ∀ target, Steps p.tables e below (T'.setTop { g with pc := g.pc + 1, stack := rest }) target → Steps p.tables e below (T.setTop g) target := by
  obtain ⟨cl, A, q1, S, q3, H, G⟩ := F
  subst h3
  obtain ⟨T', h', X', e', W, st⟩ := stI X hx hZ eT A (inb_of S ⟨h1, h2⟩) hg hs hd
  exact ⟨T', h', X', e', W, Arv.set A q1 S q3 H G rfl W _ rfl h4, st⟩
theorem stCv (X : Stand p l e R s m args below meth c T locs cells slots) (hx : p.tables.exec = Jvm.exec) (hZ : Z.Warmed39 s.vm) (eT : T.heap = h) (F : Arv Z h a k .char z vs dv) {x : Int32} (h1 : ¬ j < 0) (h2 : j < z) (h3 : j.toNatClampNeg = i) (h4 : i < vs.length)
    (hg : g.method = m) (hs : g.stack = .int x :: .int j :: .ref a :: rest) (hd : decode c.code g.pc = .ok (.castore, 1)) :
    ∃ T' h', Stand p l e R s m args below meth c T' (locs ++ [⟨a, i⟩]) cells slots ∧ T'.heap = h' ∧ Wr h h' a i (.int (nar .char x)) ∧ Arv Z h' a k .char z (vs.set i (.int (nar .char x))) dv ∧ ∀ target, Steps p.tables e below (T'.setTop { g with pc := g.pc + 1, stack := rest }) target → Steps p.tables e below (T.setTop g) target := by
  obtain ⟨cl, A, q1, S, q3, H, G⟩ := F
  subst h3
  obtain ⟨T', h', X', e', W, st⟩ := stC X hx hZ eT A (inb_of S ⟨h1, h2⟩) hg hs hd
  exact ⟨T', h', X', e', W, Arv.set A q1 S q3 H G (fits_nar_char _) W _ rfl h4, st⟩
theorem ldBv (X : Stand p l e R s m args below meth c T locs cells slots) (hx : p.tables.exec = Jvm.exec) (hZ : Z.Warmed39 s.vm) (eT : T.heap = h) (F : Arv Z h a k .byte z vs dv) {w : Int32} (h1 : ¬ j < 0) (h2 : j < z) (h3 : j.toNatClampNeg = i) (hv : vs.getD i dv = .int w)
    (hg : g.method = m) (hs : g.stack = .int j :: .ref a :: rest) (hd : decode c.code g.pc = .ok (.baload, 1)) : ∀ target, Steps p.tables e below (T.setTop { g with pc := g.pc + 1, stack := .int w :: rest }) target → Steps p.tables e below (T.setTop g) target := by
  obtain ⟨cl, A, q1, S, q3, H, G⟩ := F
  subst h3
  exact X.baloadBytes hx (by rw [eT]; exact A.1) (State.isArrayOf_alike hZ.alike A.2.1) A.2.2 (inb_of S ⟨h1, h2⟩) (H.at (inb_of S ⟨h1, h2⟩) hv) hg hs hd
theorem ldIv (X : Stand p l e R s m args below meth c T locs cells slots) (hx : p.tables.exec = Jvm.exec) (hZ : Z.Warmed39 s.vm) (eT : T.heap = h) (F : Arv Z h a k .int z vs dv) {w : Int32} (h1 : ¬ j < 0) (h2 : j < z) (h3 : j.toNatClampNeg = i) (hv : vs.getD i dv = .int w)
    (hg : g.method = m) (hs : g.stack = .int j :: .ref a :: rest) (hd : decode c.code g.pc = .ok (.iaload, 1)) : ∀ target, Steps p.tables e below (T.setTop { g with pc := g.pc + 1, stack := .int w :: rest }) target → Steps p.tables e below (T.setTop g) target := by
  obtain ⟨cl, A, q1, S, q3, H, G⟩ := F
  subst h3
  exact X.iaload hx (by rw [eT]; exact A.1) (State.isArrayOf_alike hZ.alike A.2.1) A.2.2 (inb_of S ⟨h1, h2⟩) (H.at (inb_of S ⟨h1, h2⟩) hv) hg hs hd
theorem ldCv (X : Stand p l e R s m args below meth c T locs cells slots) (hx : p.tables.exec = Jvm.exec) (hZ : Z.Warmed39 s.vm) (eT : T.heap = h) (F : Arv Z h a k .char z vs dv) {w : Int32} (h1 : ¬ j < 0) (h2 : j < z) (h3 : j.toNatClampNeg = i) (hv : vs.getD i dv = .int w)
    (hg : g.method = m) (hs : g.stack = .int j :: .ref a :: rest) (hd : decode c.code g.pc = .ok (.caload, 1)) : ∀ target, Steps p.tables e below (T.setTop { g with pc := g.pc + 1, stack := .int w :: rest }) target → Steps p.tables e below (T.setTop g) target := by
  obtain ⟨cl, A, q1, S, q3, H, G⟩ := F
  subst h3
  exact X.caload hx (by rw [eT]; exact A.1) (State.isArrayOf_alike hZ.alike A.2.1) A.2.2 (inb_of S ⟨h1, h2⟩) (H.at (inb_of S ⟨h1, h2⟩) hv) hg hs hd
theorem stRv {ty : FieldType} {y : Addr} {C : String} (X : Stand p l e R s m args below meth c T locs cells slots) (hx : p.tables.exec = Jvm.exec) (hZ : Z.Warmed39 s.vm) (eT : T.heap = h) (F : Arv Z h a k ty z vs dv) (O : Ovr Z k C) (I : Ins Z h y C true) (hty : ty.isReference = true) (hfit : fits ty (.ref y) = true) (h1 : ¬ j < 0) (h2 : j < z) (h3 : j.toNatClampNeg = i) (h4 : i < vs.length)
    (hg : g.method = m) (hs : g.stack = .ref y :: .int j :: .ref a :: rest) (hd : decode c.code g.pc = .ok (.aastore, 1)) :
    ∃ T' h', Stand p l e R s m args below meth c T' (locs ++ [⟨a, i⟩]) cells slots ∧ T'.heap = h' ∧ Wr h h' a i (.ref y) ∧ Arv Z h' a k ty z (vs.set i (.ref y)) dv ∧ ∀ target, Steps p.tables e below (T'.setTop { g with pc := g.pc + 1, stack := rest }) target → Steps p.tables e below (T.setTop g) target := by
  obtain ⟨cl, A, q1, S, q3, H, G⟩ := F
  subst h3
  obtain ⟨T', h', X', e', W, st⟩ := stR X hx hZ eT A (inb_of S ⟨h1, h2⟩) hty (Sto.ofV A q1 O I) hg hs hd
  exact ⟨T', h', X', e', W, Arv.set A q1 S q3 H G hfit W _ rfl h4, st⟩
theorem stNv {ty : FieldType} (X : Stand p l e R s m args below meth c T locs cells slots) (hx : p.tables.exec = Jvm.exec) (hZ : Z.Warmed39 s.vm) (eT : T.heap = h) (F : Arv Z h a k ty z vs dv) (hty : ty.isReference = true) (hfit : fits ty .null = true) (h1 : ¬ j < 0) (h2 : j < z) (h3 : j.toNatClampNeg = i) (h4 : i < vs.length)
    (hg : g.method = m) (hs : g.stack = .null :: .int j :: .ref a :: rest) (hd : decode c.code g.pc = .ok (.aastore, 1)) :
    ∃ T' h', Stand p l e R s m args below meth c T' (locs ++ [⟨a, i⟩]) cells slots ∧ T'.heap = h' ∧ Wr h h' a i .null ∧ Arv Z h' a k ty z (vs.set i .null) dv ∧ ∀ target, Steps p.tables e below (T'.setTop { g with pc := g.pc + 1, stack := rest }) target → Steps p.tables e below (T.setTop g) target := by
  obtain ⟨cl, A, q1, S, q3, H, G⟩ := F
  subst h3
  obtain ⟨T', h', X', e', W, st⟩ := stR X hx hZ eT A (inb_of S ⟨h1, h2⟩) hty (Or.inl rfl) hg hs hd
  exact ⟨T', h', X', e', W, Arv.set A q1 S q3 H G hfit W _ rfl h4, st⟩
theorem lenV {ty : FieldType} (X : Stand p l e R s m args below meth c T locs cells slots) (hx : p.tables.exec = Jvm.exec) (hZ : Z.Warmed39 s.vm) (eT : T.heap = h) (F : Arv Z h a k ty z vs dv) (hg : g.method = m) (hs : g.stack = .ref a :: rest) (hd : decode c.code g.pc = .ok (.arraylength, 1)) :
    ∀ target, Steps p.tables e below (T.setTop { g with pc := g.pc + 1, stack := .int z :: rest }) target → Steps p.tables e below (T.setTop g) target := by
  obtain ⟨cl, A, q1, S, q3, H, G⟩ := F
  intro target kk
  rw [← len_of S q3] at kk
  exact X.arraylength hx (by rw [eT]; exact A.1) (State.isArrayOf_alike hZ.alike A.2.1) hg hs hd target kk
end Arrays
end Jvm.OwnKit
namespace Jvm.Pilot.@@N@@
open Jvm Jvm.ClassFile Sem Op Lib Jvm.Free Jvm.Stand Jvm.LawKit Jvm.RoadKit Bundle Jvm.OwnKit Jvm.Pilot.@@N@@.Jvm.D

theorem own_bxL (q : Int64) (h1 : ¬ q < (-128 : Int64)) (h2 : ¬ (127 : Int64) < q) : ¬ ((q.toInt32) + (128 : Int32)) < 0 ∧ ((q.toInt32) + (128 : Int32)).toNatClampNeg < 256 := by
  have a1 := c_l2i q
  have a2 := c_iadd q.toInt32 128
  have a3 := rng32 q.toInt32
  have a4 := rng32 (q.toInt32 + 128)
  have a5 := rng64 q
  simp only [Int64.lt_iff_toInt_lt, Int32.lt_iff_toInt_lt, Int32.toNatClampNeg, Int64.reduceToInt, Int32.reduceToInt] at *
  omega
theorem own_bxI (q : Int32) (h1 : ¬ q < (-128 : Int32)) (h2 : ¬ (127 : Int32) < q) : ¬ (q + (128 : Int32)) < 0 ∧ (q + (128 : Int32)).toNatClampNeg < 256 := by
  have a2 := c_iadd q 128
  have a3 := rng32 q
  have a4 := rng32 (q + 128)
  simp only [Int32.lt_iff_toInt_lt, Int32.toNatClampNeg, Int32.reduceToInt] at *
  omega
theorem own_len {args : Array Value} {s : State} {t : Term} {a : Addr} {cc : Cell} {ty : FieldType} {k : Int32} (ht : t.eval args s none [] s = some (.ref a)) (A : Arr s s.heap a cc ty) (h : (Jvm.Cond.eq (Jvm.Term.length t) (Jvm.Term.int k)).value args s none s [] = some true) : cc.slots.size.toInt32 = k ∧ cc.slots.size < 2 ^ 31 := by
  obtain ⟨x, y, e1, e2, -, k2⟩ := cmp_v (Or.inl h)
  have e3 : y = .int k := (Option.some.inj e2).symm
  subst e3
  obtain ⟨z, rfl⟩ := k2
  have e4 : z = k := gotT (Cond.eq_ints e1 rfl) h
  subst e4
  have e5 := A.fin (Vm.Alike.refl _)
  simp only [Term.eval, ht, e5, Option.bind_eq_bind, Option.bind_some] at e1
  split at e1
  · rename_i hl
    exact ⟨Value.int.inj (Option.some.inj e1), hl⟩
  · cases e1
theorem own_all {args : Array Value} {s : State} {t : Term} {d : Jvm.Cond} {a : Addr} {cc : Cell} {ty : FieldType} {C : String} (ht : t.eval args s none [] s = some (.ref a)) (A : Arr s s.heap a cc ty)
    (h : (Jvm.Cond.all t (Jvm.Cond.and (Jvm.Cond.exactly (Jvm.Term.elem t (Jvm.Term.index 0)) C) d)).value args s none s [] = some true) (hs : cc.slots.size < 2 ^ 31) (ht' : ∀ i, t.eval args s none [i] s = some (.ref a)) : ∀ i, i < cc.slots.size → ∃ b, cc.slots[i]? = some (.ref b) ∧ Exa s s.heap b C := by
  intro i hi
  have h1 := (and_e (Cond.all_elim ht (A.fin (Vm.Alike.refl _)) h i hi)).1
  obtain ⟨b, hb⟩ := exa_v h1
  have hidx : (Jvm.Term.index 0).eval args s none [i] s = some (.int i.toInt32) := by simp [Term.eval]
  obtain ⟨-, e⟩ := elem_in hb (ht' i) hidx A.1
  have en : i.toInt32.toNatClampNeg = i := by simp only [Int32.toNatClampNeg, len_toInt (Nat.lt_trans hi hs)]; rfl
  rw [en] at e
  refine ⟨b, e, ?_⟩
  have hx' := beq_iff_eq.mpr h1
  obtain ⟨a', c', cell, k, e1, e2, e3, e4, e5, rfl, e7⟩ := Cond.exactly_spec (beq_iff_eq.mpr h1 : (Jvm.Cond.exactly (Jvm.Term.elem t (Jvm.Term.index 0)) C).holds args s none s [i] = true)
  cases hb.symm.trans e1
  exact ⟨cell, k, e3, e2, e4, e5, e7⟩

abbrev own_eq (s1 : Int32) (n1 : Int64) (s2 : Int32) (n2 : Int64) : Prop := s1 = s2 ∧ n1 = n2
theorem own_fin (s1 : Int32) (n1 : Int64) (s2 : Int32) (n2 : Int64) (x : Int32) (q : x = (if s1 = s2 then (if n1 = n2 then (1 : Int32) else (0 : Int32)) else (0 : Int32))) : (if own_eq s1 n1 s2 n2 then (1 : Int32) else 0) = x ∧ (if own_eq s2 n2 s1 n1 then (1 : Int32) else 0) = x := by
  subst q
  by_cases a : s1 = s2
  · subst a
    by_cases b : n1 = n2
    · subst b; simp [own_eq]
    · have b' : ¬ n2 = n1 := fun e => b e.symm
      simp [own_eq, b, b']
  · have a' : ¬ s2 = s1 := fun e => a e.symm
    simp [own_eq, a, a']
def own_max (a b : Int32) : Int32 := if a < b then b else a
abbrev fL0 (y0 : Addr) (y1 : Int64) (y2 : Int64) (y3 : Int64) (y4 : Int32) (y5 : Int64) (y6 : Addr) (y7 : Addr) (y8 : Int32) : Array Slot := #[.val (.ref y0), .val (.long y1), .second, .val (.long y2), .second, .val (.long y3), .second, .val (.int y4), .val (.long y5), .second, .val .null, .val (.ref y6), .val (.ref y7), .val (.int y8), .val .null]
abbrev fL1 (y0 : Addr) (y1 : Int64) (y2 : Int64) (y3 : Int32) (y4 : Int64) (y5 : Addr) (y6 : Addr) (y7 : Int32) : Array Slot := #[.val (.ref y0), .val (.long y1), .second, .val (.long y2), .second, .val (.int y3), .val (.long y4), .second, .val .null, .val (.ref y5), .val (.ref y6), .val (.int y7)]
abbrev fL2 (y0 : Int32) (y1 : Int64) (y2 : Int32) (y3 : Int64) (y4 : Int64) (y5 : Int32) : Array Slot := #[.val (.int y0), .val (.long y1), .second, .val (.int y2), .val (.long y3), .second, .val (.long y4), .second, .val (.int y5), .unset, .unset, .unset, .unset, .unset, .unset, .unset, .unset, .unset, .unset, .unset, .unset, .unset, .unset]
abbrev fL3 (y0 : Int32) (y1 : Int64) (y2 : Int32) (y3 : Int64) (y4 : Int64) (y5 : Int32) (y6 : Int32) : Array Slot := #[.val (.int y0), .val (.long y1), .second, .val (.int y2), .val (.long y3), .second, .val (.long y4), .second, .val (.int y5), .val (.int y6), .unset, .unset, .unset, .unset, .unset, .unset, .unset, .unset, .unset, .unset, .unset, .unset, .unset]
abbrev fL4 (y0 : Int32) (y1 : Int64) (y2 : Int32) (y3 : Int64) (y4 : Int64) (y5 : Int32) (y6 : Int32) (y7 : Int64) : Array Slot := #[.val (.int y0), .val (.long y1), .second, .val (.int y2), .val (.long y3), .second, .val (.long y4), .second, .val (.int y5), .val (.int y6), .val (.long y7), .second, .unset, .unset, .unset, .unset, .unset, .unset, .unset, .unset, .unset, .unset, .unset]
abbrev fL5 (y0 : Int32) (y1 : Int64) (y2 : Int32) (y3 : Int64) (y4 : Int64) (y5 : Int32) (y6 : Int32) (y7 : Int64) (y8 : Addr) : Array Slot := #[.val (.int y0), .val (.long y1), .second, .val (.int y2), .val (.long y3), .second, .val (.long y4), .second, .val (.int y5), .val (.int y6), .val (.long y7), .second, .val (.ref y8), .unset, .unset, .unset, .unset, .unset, .unset, .unset, .unset, .unset, .unset]
abbrev fL6 (y0 : Int32) (y1 : Int64) (y2 : Int32) (y3 : Int64) (y4 : Int64) (y5 : Int32) (y6 : Int32) (y7 : Int64) (y8 : Addr) (y9 : Addr) : Array Slot := #[.val (.int y0), .val (.long y1), .second, .val (.int y2), .val (.long y3), .second, .val (.long y4), .second, .val (.int y5), .val (.int y6), .val (.long y7), .second, .val (.ref y8), .val (.ref y9), .unset, .unset, .unset, .unset, .unset, .unset, .unset, .unset, .unset]
abbrev fL7 (y0 : Int32) (y1 : Int64) (y2 : Int32) (y3 : Int64) (y4 : Int64) (y5 : Int32) (y6 : Int32) (y7 : Int64) (y8 : Addr) (y9 : Addr) (y10 : Int32) : Array Slot := #[.val (.int y0), .val (.long y1), .second, .val (.int y2), .val (.long y3), .second, .val (.long y4), .second, .val (.int y5), .val (.int y6), .val (.long y7), .second, .val (.ref y8), .val (.ref y9), .val (.int y10), .unset, .unset, .unset, .unset, .unset, .unset, .unset, .unset]
abbrev fL8 (y0 : Int32) (y1 : Int64) (y2 : Int32) (y3 : Int64) (y4 : Int64) (y5 : Int32) (y6 : Int32) (y7 : Int64) (y8 : Addr) (y9 : Addr) (y10 : Int32) (y11 : Addr) : Array Slot := #[.val (.int y0), .val (.long y1), .second, .val (.int y2), .val (.long y3), .second, .val (.long y4), .second, .val (.int y5), .val (.int y6), .val (.long y7), .second, .val (.ref y8), .val (.ref y9), .val (.int y10), .val (.ref y11), .unset, .unset, .unset, .unset, .unset, .unset, .unset]
abbrev fL9 (y0 : Int32) (y1 : Int64) (y2 : Int32) (y3 : Int64) (y4 : Int64) (y5 : Int32) (y6 : Int32) (y7 : Int64) (y8 : Addr) (y9 : Addr) (y10 : Int32) (y11 : Addr) (y12 : Addr) : Array Slot := #[.val (.int y0), .val (.long y1), .second, .val (.int y2), .val (.long y3), .second, .val (.long y4), .second, .val (.int y5), .val (.int y6), .val (.long y7), .second, .val (.ref y8), .val (.ref y9), .val (.int y10), .val (.ref y11), .val (.ref y12), .unset, .unset, .unset, .unset, .unset, .unset]
abbrev fL10 (y0 : Int32) (y1 : Int64) (y2 : Int32) (y3 : Int64) (y4 : Int64) (y5 : Int32) (y6 : Int32) (y7 : Int64) (y8 : Addr) (y9 : Addr) (y10 : Int32) (y11 : Addr) (y12 : Addr) (y13 : Int32) : Array Slot := #[.val (.int y0), .val (.long y1), .second, .val (.int y2), .val (.long y3), .second, .val (.long y4), .second, .val (.int y5), .val (.int y6), .val (.long y7), .second, .val (.ref y8), .val (.ref y9), .val (.int y10), .val (.ref y11), .val (.ref y12), .val (.int y13), .unset, .unset, .unset, .unset, .unset]
abbrev fL11 (y0 : Int32) (y1 : Int64) (y2 : Int32) (y3 : Int64) (y4 : Int64) (y5 : Int32) (y6 : Int32) (y7 : Int64) (y8 : Addr) (y9 : Addr) (y10 : Int32) (y11 : Addr) (y12 : Addr) (y13 : Int32) (y14 : Int32) : Array Slot := #[.val (.int y0), .val (.long y1), .second, .val (.int y2), .val (.long y3), .second, .val (.long y4), .second, .val (.int y5), .val (.int y6), .val (.long y7), .second, .val (.ref y8), .val (.ref y9), .val (.int y10), .val (.ref y11), .val (.ref y12), .val (.int y13), .val (.int y14), .unset, .unset, .unset, .unset]
abbrev fL12 (y0 : Int32) (y1 : Int64) (y2 : Int32) (y3 : Int64) (y4 : Int64) (y5 : Int32) (y6 : Int32) (y7 : Int64) (y8 : Addr) (y9 : Addr) (y10 : Int32) (y11 : Addr) (y12 : Addr) (y13 : Int32) (y14 : Int32) (y15 : Int32) : Array Slot := #[.val (.int y0), .val (.long y1), .second, .val (.int y2), .val (.long y3), .second, .val (.long y4), .second, .val (.int y5), .val (.int y6), .val (.long y7), .second, .val (.ref y8), .val (.ref y9), .val (.int y10), .val (.ref y11), .val (.ref y12), .val (.int y13), .val (.int y14), .val (.int y15), .unset, .unset, .unset]
abbrev fL13 (y0 : Int32) (y1 : Int64) (y2 : Int32) (y3 : Int64) (y4 : Int64) (y5 : Int32) (y6 : Int32) (y7 : Int64) (y8 : Addr) (y9 : Addr) (y10 : Int32) (y11 : Addr) (y12 : Addr) (y13 : Int32) (y14 : Int32) (y15 : Int32) (y16 : Int32) : Array Slot := #[.val (.int y0), .val (.long y1), .second, .val (.int y2), .val (.long y3), .second, .val (.long y4), .second, .val (.int y5), .val (.int y6), .val (.long y7), .second, .val (.ref y8), .val (.ref y9), .val (.int y10), .val (.ref y11), .val (.ref y12), .val (.int y13), .val (.int y14), .val (.int y15), .val (.int y16), .unset, .unset]
abbrev fL14 (y0 : Int32) (y1 : Int64) (y2 : Int32) (y3 : Int64) (y4 : Int64) (y5 : Int32) (y6 : Int32) (y7 : Int64) (y8 : Addr) (y9 : Addr) (y10 : Int32) (y11 : Addr) (y12 : Addr) (y13 : Int32) (y14 : Int32) (y15 : Int32) (y16 : Int32) (y17 : Int32) : Array Slot := #[.val (.int y0), .val (.long y1), .second, .val (.int y2), .val (.long y3), .second, .val (.long y4), .second, .val (.int y5), .val (.int y6), .val (.long y7), .second, .val (.ref y8), .val (.ref y9), .val (.int y10), .val (.ref y11), .val (.ref y12), .val (.int y13), .val (.int y14), .val (.int y15), .val (.int y16), .val (.int y17), .unset]
abbrev fL15 (y0 : Int32) (y1 : Int64) (y2 : Int32) (y3 : Int64) (y4 : Int64) (y5 : Int32) (y6 : Int32) (y7 : Int64) (y8 : Addr) (y9 : Addr) (y10 : Int32) (y11 : Addr) (y12 : Addr) (y13 : Int32) (y14 : Int32) (y15 : Int32) (y16 : Int32) (y17 : Int32) (y18 : Int32) : Array Slot := #[.val (.int y0), .val (.long y1), .second, .val (.int y2), .val (.long y3), .second, .val (.long y4), .second, .val (.int y5), .val (.int y6), .val (.long y7), .second, .val (.ref y8), .val (.ref y9), .val (.int y10), .val (.ref y11), .val (.ref y12), .val (.int y13), .val (.int y14), .val (.int y15), .val (.int y16), .val (.int y17), .val (.int y18)]
theorem d_jdk_29_method_65_code_0 : decode jdk_29_method_65_code 0 = .ok (.iload_n 0, 1) := by decide +kernel
theorem d_jdk_29_method_65_code_1 : decode jdk_29_method_65_code 1 = .ok (.iload_n 1, 1) := by decide +kernel
theorem d_jdk_29_method_65_code_2 : decode jdk_29_method_65_code 2 = .ok (.if_icmp .lt 7, 3) := by decide +kernel
theorem d_jdk_29_method_65_code_9 : decode jdk_29_method_65_code 9 = .ok (.iload_n 1, 1) := by decide +kernel
theorem d_jdk_29_method_65_code_10 : decode jdk_29_method_65_code 10 = .ok (.ireturn, 1) := by decide +kernel
theorem d_jdk_29_method_65_code_5 : decode jdk_29_method_65_code 5 = .ok (.iload_n 0, 1) := by decide +kernel
theorem d_jdk_29_method_65_code_6 : decode jdk_29_method_65_code 6 = .ok (.goto 4, 3) := by decide +kernel
theorem ef_rm_max (m : MethodId) (y0 : Int32) (y1 : Int32) : entryFrame m #[(.int y0), (.int y1)] 2 = mkF m 0 #[.val (.int y0), .val (.int y1)] [] := by first | (simp [entryFrame, mkF, argsToLocals, Value.category]; done) | rfl
def Q_rm_max (Z : State) (p0 : Int32) (p1 : Int32) (h0 : Heap) (n0 : Nat) (v : Option Value) (h : Heap) (L : List Loc) : Prop := v = some (.int (own_max p0 p1)) ∧ Fr n0 L ∧ h = h0
set_option maxRecDepth 65536 in
set_option maxHeartbeats 40000000 in
theorem rm_max (l : Launch) (Z : State) (a0 : Array Value) (hw : ∀ d ∈ tables_1, d.before a0 Z = true) (ws : List Jvm.Cond) (p0 : Int32) (p1 : Int32) (h0 : Heap) (n0 : Nat) :
    MetFree l (⟨"java/lang/Math", "max", "(II)I"⟩ : MethodName) (head1 (Jvm.Cond.code (⟨"java/lang/Math", "max", "(II)I"⟩ : MethodName) jdk_29_method_65_code 2 (some .int) :: ws) ({ frames := 0, cells := 0, slots := 0, locals := 0 } : Room)) (fun a U => a = #[(.int p0), (.int p1)] ∧ Z.Warmed39 U.vm ∧ U.heap = h0) (fun _ _ _ _ _ => True) (fun _ U o U' => ∃ v L, o = .returned v ∧ Q_rm_max Z p0 p1 h0 n0 v U'.heap L ∧ FrameEnd U o U' L 0 0) := by
  refine MetFree.of_bodySF (Jvm.Free.JP.mathPlain rfl (by decide +kernel)) hisR ?_
  intro p e s m args below meth c s₁ Bd hml0 hP hK
  obtain ⟨rfl, hZ, hh⟩ := hP
  have hx := Bd.exec
  have hby := Bd.bytes
  have hlk := Bd.notSynchronized
  have hml : c.maxLocals = 2 := hml0
  have hown : s.vm.findClass "java/lang/Math" = some m.cls := findClass_of_methodNamed Bd.named
  have hnm := (name_of_methodNamed Bd.named Bd.method).1
  have X0 : Stand p l e ({ frames := 0, cells := 0, slots := 0, locals := 0 } : Room) s m #[(.int p0), (.int p1)] below meth c s₁ [] 0 0 := Stand.of_body Bd
  have e0 : s₁.heap = h0 := by rw [← hh, Bd.state]; rfl
  have N0 := Fr.nil n0
  show OwnEnd p e below s (Q_rm_max Z p0 p1 h0 n0) 0 0 (s₁.setTop (entryFrame m #[(.int p0), (.int p1)] 2))
  refine go (fun t k => castTop (ef_rm_max m p0 p1) k) ?_
  show OwnEnd _ _ _ _ _ _ _ (s₁.setTop (mkF m 0 #[.val (.int p0), .val (.int p1)] []))
  refine go (fun _ k => by refine XS.iloadN X0.here hx rfl (hb hby d_jdk_29_method_65_code_0) rfl ?_; exact k) ?_
  refine go (fun _ k => by refine XS.iloadN X0.here hx rfl (hb hby d_jdk_29_method_65_code_1) rfl ?_; exact k) ?_
  show OwnEnd _ _ _ _ _ _ _ (s₁.setTop (mkF m 2 #[.val (.int p0), .val (.int p1)] [(.int p1), (.int p0)]))
  by_cases hc2_1 : p0 < p1
  · refine go (fun _ k => by refine XS.icmpYes X0.here hx rfl (pc0 := 2) (pc' := 9) rfl (hb hby d_jdk_29_method_65_code_2) rfl (tlt hc2_1).1 (by decide) (by decide) ?_; exact k) ?_
    show OwnEnd _ _ _ _ _ _ _ (s₁.setTop (mkF m 9 #[.val (.int p0), .val (.int p1)] []))
    refine go (fun _ k => by refine XS.iloadN X0.here hx rfl (hb hby d_jdk_29_method_65_code_9) rfl ?_; exact k) ?_
    show OwnEnd _ _ _ _ _ _ _ (s₁.setTop (mkF m 10 #[.val (.int p0), .val (.int p1)] [(.int p1)]))
    refine endI X0 hx hlk Bd.returns (hb hby d_jdk_29_method_65_code_10) e0 (by decide) (by decide) ?_
    exact ⟨by unfold own_max; rw [if_pos (by assumption)], N0, rfl⟩
  · refine go (fun _ k => by refine XS.icmpNo X0.here hx rfl (hb hby d_jdk_29_method_65_code_2) rfl (flt hc2_1).1 ?_; exact k) ?_
    show OwnEnd _ _ _ _ _ _ _ (s₁.setTop (mkF m 5 #[.val (.int p0), .val (.int p1)] []))
    refine go (fun _ k => by refine XS.iloadN X0.here hx rfl (hb hby d_jdk_29_method_65_code_5) rfl ?_; exact k) ?_
    refine go (fun _ k => by refine XS.goto X0.here hx rfl (pc0 := 6) (pc' := 10) rfl (hb hby d_jdk_29_method_65_code_6) (by decide) (by decide) ?_; exact k) ?_
    show OwnEnd _ _ _ _ _ _ _ (s₁.setTop (mkF m 10 #[.val (.int p0), .val (.int p1)] [(.int p0)]))
    refine endI X0 hx hlk Bd.returns (hb hby d_jdk_29_method_65_code_10) e0 (by decide) (by decide) ?_
    exact ⟨by unfold own_max; rw [if_neg (by assumption)], N0, rfl⟩
theorem d_jdk_22_method_1_code_0 : decode jdk_22_method_1_code 0 = .ok (.aload_n 0, 1) := by decide +kernel
theorem d_jdk_22_method_1_code_1 : decode jdk_22_method_1_code 1 = .ok (.invokespecial 1, 3) := by decide +kernel
theorem d_jdk_22_method_1_code_4 : decode jdk_22_method_1_code 4 = .ok (.return_, 1) := by decide +kernel
theorem pn_java_util_AbstractCollection : plainName "java/util/AbstractCollection" = true := by first | (simp [plainName, overriddenIn]; done) | decide +kernel
theorem ef_rm_aci (m : MethodId) (y0 : Addr) : entryFrame m #[(.ref y0)] 1 = mkF m 0 #[.val (.ref y0)] [] := by first | (simp [entryFrame, mkF, argsToLocals, Value.category]; done) | rfl
def Q_rm_aci (Z : State) (a0' : Addr) (h0 : Heap) (n0 : Nat) (v : Option Value) (h : Heap) (L : List Loc) : Prop := v = none ∧ Fr n0 L ∧ h = h0
set_option maxRecDepth 65536 in
set_option maxHeartbeats 40000000 in
theorem rm_aci (l : Launch) (Z : State) (a0 : Array Value) (hw : ∀ d ∈ tables_1, d.before a0 Z = true) (ws : List Jvm.Cond) (a0' : Addr) (h0 : Heap) (n0 : Nat) :
    MetFree l (⟨"java/util/AbstractCollection", "<init>", "()V"⟩ : MethodName) (head1 (Jvm.Cond.code (⟨"java/util/AbstractCollection", "<init>", "()V"⟩ : MethodName) jdk_22_method_1_code 1 none :: ws) ({ frames := 1, cells := 0, slots := 0, locals := 12 } : Room)) (fun a U => a = #[(.ref a0')] ∧ Z.Warmed39 U.vm ∧ U.heap = h0) (fun _ _ _ _ _ => True) (fun _ U o U' => ∃ v L, o = .returned v ∧ Q_rm_aci Z a0' h0 n0 v U'.heap L ∧ FrameEnd U o U' L 0 0) := by
  refine MetFree.of_bodySF (plainFor_of_name pn_java_util_AbstractCollection) hisR ?_
  intro p e s m args below meth c s₁ Bd hml0 hP hK
  obtain ⟨rfl, hZ, hh⟩ := hP
  have hx := Bd.exec
  have hby := Bd.bytes
  have hlk := Bd.notSynchronized
  have hml : c.maxLocals = 1 := hml0
  have hown : s.vm.findClass "java/util/AbstractCollection" = some m.cls := findClass_of_methodNamed Bd.named
  have hnm := (name_of_methodNamed Bd.named Bd.method).1
  have X0 : Stand p l e ({ frames := 1, cells := 0, slots := 0, locals := 12 } : Room) s m #[(.ref a0')] below meth c s₁ [] 0 0 := Stand.of_body Bd
  have e0 : s₁.heap = h0 := by rw [← hh, Bd.state]; rfl
  have N0 := Fr.nil n0
  show OwnEnd p e below s (Q_rm_aci Z a0' h0 n0) 0 0 (s₁.setTop (entryFrame m #[(.ref a0')] 1))
  refine go (fun t k => castTop (ef_rm_aci m a0') k) ?_
  show OwnEnd _ _ _ _ _ _ _ (s₁.setTop (mkF m 0 #[.val (.ref a0')] []))
  refine go (fun _ k => by refine XS.aloadN X0.here hx rfl (hb hby d_jdk_22_method_1_code_0) rfl rfl ?_; exact k) ?_
  show OwnEnd _ _ _ _ _ _ _ (s₁.setTop (mkF m 1 #[.val (.ref a0')] [(.ref a0')]))
  obtain ⟨T1, X1, e1, st1⟩ := initO X0 hx hZ hown (hw _ (List.mem_of_getElem? (i := 18) rfl)) (hw _ (List.mem_of_getElem? (i := 19) rfl)) (hw _ (List.mem_of_getElem? (i := 20) rfl)) e0 (g := (mkF m 1 #[.val (.ref a0')] [(.ref a0')])) rfl (by rw [hml]; rfl) rfl (hb hby d_jdk_22_method_1_code_1) (by decide) (W := 0) (by show 2 * 0 + _ ≤ _; exact Nat.le_of_eq rfl) (by decide)
  refine go st1 ?_
  show OwnEnd _ _ _ _ _ _ _ (T1.setTop (mkF m 4 #[.val (.ref a0')] []))
  refine endV X1 hx hlk Bd.returns (hb hby d_jdk_22_method_1_code_4) e1 (by decide) (by decide) ?_
  exact ⟨rfl, N0, rfl⟩
theorem d_jdk_39_method_1_code_0 : decode jdk_39_method_1_code 0 = .ok (.aload_n 0, 1) := by decide +kernel
theorem d_jdk_39_method_1_code_1 : decode jdk_39_method_1_code 1 = .ok (.invokespecial 1, 3) := by decide +kernel
theorem pd___V : parseMethodDescriptor "()V" = some ⟨[], none⟩ := by decide +kernel
theorem d_jdk_39_method_1_code_4 : decode jdk_39_method_1_code 4 = .ok (.aload_n 0, 1) := by decide +kernel
theorem d_jdk_39_method_1_code_5 : decode jdk_39_method_1_code 5 = .ok (.iconst 0, 1) := by decide +kernel
theorem d_jdk_39_method_1_code_6 : decode jdk_39_method_1_code 6 = .ok (.putfield 7, 3) := by decide +kernel
theorem d_jdk_39_method_1_code_9 : decode jdk_39_method_1_code 9 = .ok (.return_, 1) := by decide +kernel
theorem pn_java_util_AbstractList : plainName "java/util/AbstractList" = true := by first | (simp [plainName, overriddenIn]; done) | decide +kernel
theorem ef_rm_abi (m : MethodId) (y0 : Addr) : entryFrame m #[(.ref y0)] 1 = mkF m 0 #[.val (.ref y0)] [] := by first | (simp [entryFrame, mkF, argsToLocals, Value.category]; done) | rfl
def Q_rm_abi (Z : State) (a0' : Addr) (h0 : Heap) (n0 : Nat) (v : Option Value) (h : Heap) (L : List Loc) : Prop := v = none ∧ Fr n0 L ∧ Keep h0 h [a0'] ∧ Exa Z h a0' "java/util/ArrayList" ∧ Fld Z h a0' "java/util/AbstractList" "modCount" "I" (.int (0 : Int32)) ∧ Fld Z h a0' "java/util/ArrayList" "elementData" "[Ljava/lang/Object;" .null ∧ Fld Z h a0' "java/util/ArrayList" "size" "I" (.int (0 : Int32))
set_option maxRecDepth 65536 in
set_option maxHeartbeats 40000000 in
theorem rm_abi (l : Launch) (Z : State) (a0 : Array Value) (hw : ∀ d ∈ tables_1, d.before a0 Z = true) (ws : List Jvm.Cond) (a0' : Addr) (h0 : Heap) (n0 : Nat) (ga : n0 ≤ a0') (EA : Exa Z h0 a0' "java/util/ArrayList") (F_modCount : Fld Z h0 a0' "java/util/AbstractList" "modCount" "I" (.int (0 : Int32))) (F_elementData : Fld Z h0 a0' "java/util/ArrayList" "elementData" "[Ljava/lang/Object;" .null) (F_size : Fld Z h0 a0' "java/util/ArrayList" "size" "I" (.int (0 : Int32))) :
    MetFree l (⟨"java/util/AbstractList", "<init>", "()V"⟩ : MethodName) (head1 (Jvm.Cond.code (⟨"java/util/AbstractList", "<init>", "()V"⟩ : MethodName) jdk_39_method_1_code 1 none :: ws) ({ frames := 2, cells := 0, slots := 0, locals := 24 } : Room)) (fun a U => a = #[(.ref a0')] ∧ Z.Warmed39 U.vm ∧ U.heap = h0) (fun _ _ _ _ _ => True) (fun _ U o U' => ∃ v L, o = .returned v ∧ Q_rm_abi Z a0' h0 n0 v U'.heap L ∧ FrameEnd U o U' L 0 0) := by
  refine MetFree.of_bodySF (plainFor_of_name pn_java_util_AbstractList) hisR ?_
  intro p e s m args below meth c s₁ Bd hml0 hP hK
  obtain ⟨rfl, hZ, hh⟩ := hP
  have hx := Bd.exec
  have hby := Bd.bytes
  have hlk := Bd.notSynchronized
  have hml : c.maxLocals = 1 := hml0
  have hown : s.vm.findClass "java/util/AbstractList" = some m.cls := findClass_of_methodNamed Bd.named
  have hnm := (name_of_methodNamed Bd.named Bd.method).1
  have X0 : Stand p l e ({ frames := 2, cells := 0, slots := 0, locals := 24 } : Room) s m #[(.ref a0')] below meth c s₁ [] 0 0 := Stand.of_body Bd
  have e0 : s₁.heap = h0 := by rw [← hh, Bd.state]; rfl
  have N0 := Fr.nil n0
  show OwnEnd p e below s (Q_rm_abi Z a0' h0 n0) 0 0 (s₁.setTop (entryFrame m #[(.ref a0')] 1))
  refine go (fun t k => castTop (ef_rm_abi m a0') k) ?_
  have KK := Keep.refl h0 [a0']
  show OwnEnd _ _ _ _ _ _ _ (s₁.setTop (mkF m 0 #[.val (.ref a0')] []))
  refine go (fun _ k => by refine XS.aloadN X0.here hx rfl (hb hby d_jdk_39_method_1_code_0) rfl rfl ?_; exact k) ?_
  show OwnEnd _ _ _ _ _ _ _ (s₁.setTop (mkF m 1 #[.val (.ref a0')] [(.ref a0')]))
  obtain ⟨_, T1, L1, X1, hQ1, st1⟩ := callInit X0 hx hZ hown rfl (hw _ (List.mem_of_getElem? (i := 12) rfl)) (hw _ (List.mem_of_getElem? (i := 13) rfl)) (hw _ (List.mem_of_getElem? (i := 16) rfl)) (hw _ (List.mem_of_getElem? (i := 17) rfl)) (by decide) (rm_aci l Z a0 hw [] a0' h0 n0 ) (W := 0) (by decide) (by decide) e0 (g := (mkF m 1 #[.val (.ref a0')] [(.ref a0')])) rfl (by rw [hml]; rfl) (argsL := []) (rest := []) rfl (lenOf pd___V rfl) rfl (by show 2 * 0 + _ ≤ _; exact Nat.le_of_eq rfl) (hb hby d_jdk_39_method_1_code_1) (by decide) (by decide)
  obtain ⟨rfl, Nq1, eq1⟩ := hQ1
  have N1 := Fr.app N0 Nq1
  refine go st1 ?_
  refine go (fun _ k => by refine XS.aloadN X1.here hx rfl (hb hby d_jdk_39_method_1_code_4) rfl rfl ?_; exact k) ?_
  refine go (fun _ k => by refine XS.iconst X1.here hx rfl (hb hby d_jdk_39_method_1_code_5) ?_; exact k) ?_
  show OwnEnd _ _ _ _ _ _ _ (T1.setTop (mkF m 6 #[.val (.ref a0')] [(.int (0 : Int32)), (.ref a0')]))
  obtain ⟨T2, h2, X2, e2, W2, st2⟩ := putF X1 hx hZ hown (host := "") (Or.inl (hw _ (List.mem_of_getElem? (i := 21) rfl))) Via.refl eq1 F_modCount EA (Or.inl (hw _ (List.mem_of_getElem? (i := 22) rfl))) (hw _ (List.mem_of_getElem? (i := 1) rfl)) (ty := .int) (by decide) rfl rfl (g := (mkF m 6 #[.val (.ref a0')] [(.int (0 : Int32)), (.ref a0')])) rfl rfl (hb hby d_jdk_39_method_1_code_6)
  have N2 := Fr.snoc X2 N1 ga
  have EA := EA.wr W2
  have KK := Keep.wr KK W2 (Or.inl (List.mem_of_getElem? (i := 0) rfl))
  have F_elementData := F_elementData.other W2 (Or.inr (slot_ne (Or.inl (hw _ (List.mem_of_getElem? (i := 25) rfl))) (Or.inl (hw _ (List.mem_of_getElem? (i := 22) rfl))) (by decide) (t := (.array (.object "java/lang/Object"))) (t' := .int) (by decide) (by decide)))
  have F_size := F_size.other W2 (Or.inr (slot_ne (Or.inl (hw _ (List.mem_of_getElem? (i := 46) rfl))) (Or.inl (hw _ (List.mem_of_getElem? (i := 22) rfl))) (by decide) (t := .int) (t' := .int) (by decide) (by decide)))
  have F_modCount := F_modCount.same W2
  refine go st2 ?_
  show OwnEnd _ _ _ _ _ _ _ (T2.setTop (mkF m 9 #[.val (.ref a0')] []))
  refine endV X2 hx hlk Bd.returns (hb hby d_jdk_39_method_1_code_9) e2 (by decide) (by decide) ?_
  exact ⟨rfl, N2, KK, EA, F_modCount, F_elementData, F_size⟩
theorem d_jdk_38_method_2_code_0 : decode jdk_38_method_2_code 0 = .ok (.aload_n 0, 1) := by decide +kernel
theorem d_jdk_38_method_2_code_1 : decode jdk_38_method_2_code 1 = .ok (.invokespecial 1, 3) := by decide +kernel
theorem d_jdk_38_method_2_code_4 : decode jdk_38_method_2_code 4 = .ok (.aload_n 0, 1) := by decide +kernel
theorem d_jdk_38_method_2_code_5 : decode jdk_38_method_2_code 5 = .ok (.getstatic 39, 3) := by decide +kernel
theorem d_jdk_38_method_2_code_8 : decode jdk_38_method_2_code 8 = .ok (.putfield 9, 3) := by decide +kernel
theorem d_jdk_38_method_2_code_11 : decode jdk_38_method_2_code 11 = .ok (.return_, 1) := by decide +kernel
theorem pn_java_util_ArrayList : plainName "java/util/ArrayList" = true := by first | (simp [plainName, overriddenIn]; done) | decide +kernel
theorem ef_rm_ali (m : MethodId) (y0 : Addr) : entryFrame m #[(.ref y0)] 1 = mkF m 0 #[.val (.ref y0)] [] := by first | (simp [entryFrame, mkF, argsToLocals, Value.category]; done) | rfl
def Q_rm_ali (Z : State) (a0' : Addr) (da : Addr) (h0 : Heap) (n0 : Nat) (v : Option Value) (h : Heap) (L : List Loc) : Prop := v = none ∧ Fr n0 L ∧ Keep h0 h [a0'] ∧ Exa Z h a0' "java/util/ArrayList" ∧ Fld Z h a0' "java/util/AbstractList" "modCount" "I" (.int (0 : Int32)) ∧ Fld Z h a0' "java/util/ArrayList" "elementData" "[Ljava/lang/Object;" (.ref da) ∧ Fld Z h a0' "java/util/ArrayList" "size" "I" (.int (0 : Int32))
set_option maxRecDepth 65536 in
set_option maxHeartbeats 40000000 in
theorem rm_ali (l : Launch) (Z : State) (a0 : Array Value) (hw : ∀ d ∈ tables_1, d.before a0 Z = true) (ws : List Jvm.Cond) (a0' : Addr) (da : Addr) (h0 : Heap) (n0 : Nat) (ga : n0 ≤ a0') (EA : Exa Z h0 a0' "java/util/ArrayList") (F_modCount : Fld Z h0 a0' "java/util/AbstractList" "modCount" "I" (.int (0 : Int32))) (F_elementData : Fld Z h0 a0' "java/util/ArrayList" "elementData" "[Ljava/lang/Object;" .null) (F_size : Fld Z h0 a0' "java/util/ArrayList" "size" "I" (.int (0 : Int32))) (O : Old Z n0 h0) (SD : Sta Z Z.heap "java/util/ArrayList" "DEFAULTCAPACITY_EMPTY_ELEMENTDATA" "[Ljava/lang/Object;" (.ref da)) :
    MetFree l (⟨"java/util/ArrayList", "<init>", "()V"⟩ : MethodName) (head1 (Jvm.Cond.code (⟨"java/util/ArrayList", "<init>", "()V"⟩ : MethodName) jdk_38_method_2_code 1 none :: ws) ({ frames := 3, cells := 0, slots := 0, locals := 36 } : Room)) (fun a U => a = #[(.ref a0')] ∧ Z.Warmed39 U.vm ∧ U.heap = h0) (fun _ _ _ _ _ => True) (fun _ U o U' => ∃ v L, o = .returned v ∧ Q_rm_ali Z a0' da h0 n0 v U'.heap L ∧ FrameEnd U o U' L 0 0) := by
  refine MetFree.of_bodySF (plainFor_of_name pn_java_util_ArrayList) hisR ?_
  intro p e s m args below meth c s₁ Bd hml0 hP hK
  obtain ⟨rfl, hZ, hh⟩ := hP
  have hx := Bd.exec
  have hby := Bd.bytes
  have hlk := Bd.notSynchronized
  have hml : c.maxLocals = 1 := hml0
  have hown : s.vm.findClass "java/util/ArrayList" = some m.cls := findClass_of_methodNamed Bd.named
  have hnm := (name_of_methodNamed Bd.named Bd.method).1
  have X0 : Stand p l e ({ frames := 3, cells := 0, slots := 0, locals := 36 } : Room) s m #[(.ref a0')] below meth c s₁ [] 0 0 := Stand.of_body Bd
  have e0 : s₁.heap = h0 := by rw [← hh, Bd.state]; rfl
  have N0 := Fr.nil n0
  show OwnEnd p e below s (Q_rm_ali Z a0' da h0 n0) 0 0 (s₁.setTop (entryFrame m #[(.ref a0')] 1))
  refine go (fun t k => castTop (ef_rm_ali m a0') k) ?_
  have KK := Keep.refl h0 [a0']
  have S1 := SD.ext O.2
  show OwnEnd _ _ _ _ _ _ _ (s₁.setTop (mkF m 0 #[.val (.ref a0')] []))
  refine go (fun _ k => by refine XS.aloadN X0.here hx rfl (hb hby d_jdk_38_method_2_code_0) rfl rfl ?_; exact k) ?_
  show OwnEnd _ _ _ _ _ _ _ (s₁.setTop (mkF m 1 #[.val (.ref a0')] [(.ref a0')]))
  obtain ⟨_, T1, L1, X1, hQ1, st1⟩ := callInit X0 hx hZ hown rfl (hw _ (List.mem_of_getElem? (i := 6) rfl)) (hw _ (List.mem_of_getElem? (i := 7) rfl)) (hw _ (List.mem_of_getElem? (i := 10) rfl)) (hw _ (List.mem_of_getElem? (i := 11) rfl)) (by decide) (rm_abi l Z a0 hw [] a0' h0 n0 ga EA F_modCount F_elementData F_size) (W := 0) (by decide) (by decide) e0 (g := (mkF m 1 #[.val (.ref a0')] [(.ref a0')])) rfl (by rw [hml]; rfl) (argsL := []) (rest := []) rfl (lenOf pd___V rfl) rfl (by show 2 * 0 + _ ≤ _; exact Nat.le_of_eq rfl) (hb hby d_jdk_38_method_2_code_1) (by decide) (by decide)
  obtain ⟨rfl, Nq1, K1, EA, F_modCount, F_elementData, F_size⟩ := hQ1
  have N1 := Fr.app N0 Nq1
  have KK := Keep.trans KK K1 (allS (Or.inl (List.mem_of_getElem? (i := 0) rfl)) all0)
  have O := O.keep K1 (allS ga all0)
  have S1 := SD.ext O.2
  refine go st1 ?_
  refine go (fun _ k => by refine XS.aloadN X1.here hx rfl (hb hby d_jdk_38_method_2_code_4) rfl rfl ?_; exact k) ?_
  show OwnEnd _ _ _ _ _ _ _ (T1.setTop (mkF m 5 #[.val (.ref a0')] [(.ref a0')]))
  obtain ⟨T2, X2, e2, st2⟩ := getS2 X1 hx hZ hown (host := "") (Or.inl (hw _ (List.mem_of_getElem? (i := 23) rfl))) Via.refl rfl S1 (g := (mkF m 5 #[.val (.ref a0')] [(.ref a0')])) rfl (hb hby d_jdk_38_method_2_code_5)
  refine go st2 ?_
  show OwnEnd _ _ _ _ _ _ _ (T2.setTop (mkF m 8 #[.val (.ref a0')] [(.ref da), (.ref a0')]))
  obtain ⟨T3, h3, X3, e3, W3, st3⟩ := putF X2 hx hZ hown (host := "") (Or.inl (hw _ (List.mem_of_getElem? (i := 24) rfl))) Via.refl e2 F_elementData EA (Or.inl (hw _ (List.mem_of_getElem? (i := 25) rfl))) (hw _ (List.mem_of_getElem? (i := 1) rfl)) (ty := (.array (.object "java/lang/Object"))) (by decide) rfl rfl (g := (mkF m 8 #[.val (.ref a0')] [(.ref da), (.ref a0')])) rfl rfl (hb hby d_jdk_38_method_2_code_8)
  have N3 := Fr.snoc X3 N1 ga
  have KK := Keep.wr KK W3 (Or.inl (List.mem_of_getElem? (i := 0) rfl))
  have O := O.wr W3 ga
  have S1 := S1.wr W3
  have EA := EA.wr W3
  have F_modCount := F_modCount.other W3 (Or.inr (slot_ne (Or.inl (hw _ (List.mem_of_getElem? (i := 22) rfl))) (Or.inl (hw _ (List.mem_of_getElem? (i := 25) rfl))) (by decide) (t := .int) (t' := (.array (.object "java/lang/Object"))) (by decide) (by decide)))
  have F_size := F_size.other W3 (Or.inr (slot_ne (Or.inl (hw _ (List.mem_of_getElem? (i := 46) rfl))) (Or.inl (hw _ (List.mem_of_getElem? (i := 25) rfl))) (by decide) (t := .int) (t' := (.array (.object "java/lang/Object"))) (by decide) (by decide)))
  have F_elementData := F_elementData.same W3
  refine go st3 ?_
  show OwnEnd _ _ _ _ _ _ _ (T3.setTop (mkF m 11 #[.val (.ref a0')] []))
  refine endV X3 hx hlk Bd.returns (hb hby d_jdk_38_method_2_code_11) e3 (by decide) (by decide) ?_
  exact ⟨rfl, N3, KK, EA, F_modCount, F_elementData, F_size⟩
theorem d_jdk_38_method_6_code_0 : decode jdk_38_method_6_code 0 = .ok (.aload_n 0, 1) := by decide +kernel
theorem d_jdk_38_method_6_code_1 : decode jdk_38_method_6_code 1 = .ok (.getfield 9, 3) := by decide +kernel
theorem d_jdk_38_method_6_code_4 : decode jdk_38_method_6_code 4 = .ok (.arraylength, 1) := by decide +kernel
theorem d_jdk_38_method_6_code_5 : decode jdk_38_method_6_code 5 = .ok (.istore_n 2, 1) := by decide +kernel
theorem d_jdk_38_method_6_code_6 : decode jdk_38_method_6_code 6 = .ok (.iload_n 2, 1) := by decide +kernel
theorem d_jdk_38_method_6_code_7 : decode jdk_38_method_6_code 7 = .ok (.ifCond .gt 13, 3) := by decide +kernel
theorem d_jdk_38_method_6_code_10 : decode jdk_38_method_6_code 10 = .ok (.aload_n 0, 1) := by decide +kernel
theorem d_jdk_38_method_6_code_11 : decode jdk_38_method_6_code 11 = .ok (.getfield 9, 3) := by decide +kernel
theorem d_jdk_38_method_6_code_14 : decode jdk_38_method_6_code 14 = .ok (.getstatic 39, 3) := by decide +kernel
theorem d_jdk_38_method_6_code_17 : decode jdk_38_method_6_code 17 = .ok (.if_acmp .eq 28, 3) := by decide +kernel
theorem d_jdk_38_method_6_code_45 : decode jdk_38_method_6_code 45 = .ok (.aload_n 0, 1) := by decide +kernel
theorem d_jdk_38_method_6_code_46 : decode jdk_38_method_6_code 46 = .ok (.bipush 10, 2) := by decide +kernel
theorem d_jdk_38_method_6_code_48 : decode jdk_38_method_6_code 48 = .ok (.iload_n 1, 1) := by decide +kernel
theorem d_jdk_38_method_6_code_49 : decode jdk_38_method_6_code 49 = .ok (.invokestatic 79, 3) := by decide +kernel
theorem pd__II_I : parseMethodDescriptor "(II)I" = some ⟨[.int, .int], some .int⟩ := by decide +kernel
theorem d_jdk_38_method_6_code_52 : decode jdk_38_method_6_code 52 = .ok (.anewarray 7, 3) := by decide +kernel
theorem d_jdk_38_method_6_code_55 : decode jdk_38_method_6_code 55 = .ok (.dup_x1, 1) := by decide +kernel
theorem d_jdk_38_method_6_code_56 : decode jdk_38_method_6_code 56 = .ok (.putfield 9, 3) := by decide +kernel
theorem d_jdk_38_method_6_code_59 : decode jdk_38_method_6_code 59 = .ok (.areturn, 1) := by decide +kernel
theorem ef_rm_gr1 (m : MethodId) (y0 : Addr) : entryFrame m #[(.ref y0), (.int (1 : Int32))] 4 = mkF m 0 #[.val (.ref y0), .val (.int (1 : Int32)), .unset, .unset] [] := by first | (simp [entryFrame, mkF, argsToLocals, Value.category]; done) | rfl
def Q_rm_gr1 (Z : State) (a0' : Addr) (da : Addr) (dk : ClassId) (mc : Int32) (h0 : Heap) (n0 : Nat) (v : Option Value) (h : Heap) (L : List Loc) : Prop := ∃ gb gk, v = some (.ref gb) ∧ Fr n0 L ∧ Keep h0 h [a0'] ∧ n0 ≤ gb ∧ h0.size ≤ gb ∧ Exa Z h a0' "java/util/ArrayList" ∧ Fld Z h a0' "java/util/AbstractList" "modCount" "I" (.int mc) ∧ Fld Z h a0' "java/util/ArrayList" "elementData" "[Ljava/lang/Object;" (.ref gb) ∧ Fld Z h a0' "java/util/ArrayList" "size" "I" (.int 0) ∧ Arv Z h gb gk (.object "java/lang/Object") 10 [.null, .null, .null, .null, .null, .null, .null, .null, .null, .null] .null ∧ Ovr Z gk "java/lang/Object"
set_option maxRecDepth 65536 in
set_option maxHeartbeats 40000000 in
theorem rm_gr1 (l : Launch) (Z : State) (a0 : Array Value) (hw : ∀ d ∈ tables_1, d.before a0 Z = true) (ws : List Jvm.Cond) (a0' : Addr) (da : Addr) (dk : ClassId) (mc : Int32) (h0 : Heap) (n0 : Nat) (ga : n0 ≤ a0') (EA : Exa Z h0 a0' "java/util/ArrayList") (FM : Fld Z h0 a0' "java/util/AbstractList" "modCount" "I" (.int mc)) (FE : Fld Z h0 a0' "java/util/ArrayList" "elementData" "[Ljava/lang/Object;" (.ref da)) (FS : Fld Z h0 a0' "java/util/ArrayList" "size" "I" (.int 0)) (O : Old Z n0 h0) (SD : Sta Z Z.heap "java/util/ArrayList" "DEFAULTCAPACITY_EMPTY_ELEMENTDATA" "[Ljava/lang/Object;" (.ref da)) (VD : Arv Z Z.heap da dk (.object "java/lang/Object") 0 [] .null) :
    MetFree l (⟨"java/util/ArrayList", "grow", "(I)[Ljava/lang/Object;"⟩ : MethodName) (head1 (Jvm.Cond.code (⟨"java/util/ArrayList", "grow", "(I)[Ljava/lang/Object;"⟩ : MethodName) jdk_38_method_6_code 4 (some (.array (.object "java/lang/Object"))) :: ws) ({ frames := 1, cells := 1, slots := 10, locals := 14 } : Room)) (fun a U => a = #[(.ref a0'), (.int (1 : Int32))] ∧ Z.Warmed39 U.vm ∧ U.heap = h0) (fun _ _ _ _ _ => True) (fun _ U o U' => ∃ v L, o = .returned v ∧ Q_rm_gr1 Z a0' da dk mc h0 n0 v U'.heap L ∧ FrameEnd U o U' L 1 10) := by
  refine MetFree.of_bodySF (plainFor_of_name pn_java_util_ArrayList) hisR ?_
  intro p e s m args below meth c s₁ Bd hml0 hP hK
  obtain ⟨rfl, hZ, hh⟩ := hP
  have hx := Bd.exec
  have hby := Bd.bytes
  have hlk := Bd.notSynchronized
  have hml : c.maxLocals = 4 := hml0
  have hown : s.vm.findClass "java/util/ArrayList" = some m.cls := findClass_of_methodNamed Bd.named
  have hnm := (name_of_methodNamed Bd.named Bd.method).1
  have X0 : Stand p l e ({ frames := 1, cells := 1, slots := 10, locals := 14 } : Room) s m #[(.ref a0'), (.int (1 : Int32))] below meth c s₁ [] 0 0 := Stand.of_body Bd
  have e0 : s₁.heap = h0 := by rw [← hh, Bd.state]; rfl
  have N0 := Fr.nil n0
  show OwnEnd p e below s (Q_rm_gr1 Z a0' da dk mc h0 n0) 1 10 (s₁.setTop (entryFrame m #[(.ref a0'), (.int (1 : Int32))] 4))
  refine go (fun t k => castTop (ef_rm_gr1 m a0') k) ?_
  have KK := Keep.refl h0 [a0']
  have S1 := SD.ext O.2
  have V1 := VD.ext O.2
  have Z0 : n0 ≤ h0.size := by rw [← O.1]; exact O.2.1
  have ned : a0' ≠ da := fun q => absurd VD.lt (by rw [← q, O.1]; exact Nat.not_lt.mpr ga)
  show OwnEnd _ _ _ _ _ _ _ (s₁.setTop (mkF m 0 #[.val (.ref a0'), .val (.int (1 : Int32)), .unset, .unset] []))
  refine go (fun _ k => by refine XS.aloadN X0.here hx rfl (hb hby d_jdk_38_method_6_code_0) rfl rfl ?_; exact k) ?_
  show OwnEnd _ _ _ _ _ _ _ (s₁.setTop (mkF m 1 #[.val (.ref a0'), .val (.int (1 : Int32)), .unset, .unset] [(.ref a0')]))
  obtain ⟨T1, X1, e1, st1⟩ := getF X0 hx hZ hown (host := "") (Or.inl (hw _ (List.mem_of_getElem? (i := 24) rfl))) Via.refl e0 FE (g := (mkF m 1 #[.val (.ref a0'), .val (.int (1 : Int32)), .unset, .unset] [(.ref a0')])) rfl rfl (hb hby d_jdk_38_method_6_code_1)
  refine go st1 ?_
  show OwnEnd _ _ _ _ _ _ _ (T1.setTop (mkF m 4 #[.val (.ref a0'), .val (.int (1 : Int32)), .unset, .unset] [(.ref da)]))
  refine go (lenV X1 hx hZ e1 V1 (g := (mkF m 4 #[.val (.ref a0'), .val (.int (1 : Int32)), .unset, .unset] [(.ref da)])) rfl rfl (hb hby d_jdk_38_method_6_code_4)) ?_
  refine go (fun _ k => by refine XS.istoreN X1.here hx rfl (hb hby d_jdk_38_method_6_code_5) rfl (l' := #[.val (.ref a0'), .val (.int (1 : Int32)), .val (.int (0 : Int32)), .unset]) rfl ?_; exact k) ?_
  refine go (fun _ k => by refine XS.iloadN X1.here hx rfl (hb hby d_jdk_38_method_6_code_6) rfl ?_; exact k) ?_
  show OwnEnd _ _ _ _ _ _ _ (T1.setTop (mkF m 7 #[.val (.ref a0'), .val (.int (1 : Int32)), .val (.int (0 : Int32)), .unset] [(.int (0 : Int32))]))
  refine go (fun _ k => by refine XS.ifNo X1.here hx rfl (hb hby d_jdk_38_method_6_code_7) rfl ((if0 _ _).trans (flt (by decide)).2.2.1) ?_; exact k) ?_
  refine go (fun _ k => by refine XS.aloadN X1.here hx rfl (hb hby d_jdk_38_method_6_code_10) rfl rfl ?_; exact k) ?_
  show OwnEnd _ _ _ _ _ _ _ (T1.setTop (mkF m 11 #[.val (.ref a0'), .val (.int (1 : Int32)), .val (.int (0 : Int32)), .unset] [(.ref a0')]))
  obtain ⟨T2, X2, e2, st2⟩ := getF X1 hx hZ hown (host := "") (Or.inl (hw _ (List.mem_of_getElem? (i := 24) rfl))) Via.refl e1 FE (g := (mkF m 11 #[.val (.ref a0'), .val (.int (1 : Int32)), .val (.int (0 : Int32)), .unset] [(.ref a0')])) rfl rfl (hb hby d_jdk_38_method_6_code_11)
  refine go st2 ?_
  show OwnEnd _ _ _ _ _ _ _ (T2.setTop (mkF m 14 #[.val (.ref a0'), .val (.int (1 : Int32)), .val (.int (0 : Int32)), .unset] [(.ref da)]))
  obtain ⟨T3, X3, e3, st3⟩ := getS2 X2 hx hZ hown (host := "") (Or.inl (hw _ (List.mem_of_getElem? (i := 23) rfl))) Via.refl e2 S1 (g := (mkF m 14 #[.val (.ref a0'), .val (.int (1 : Int32)), .val (.int (0 : Int32)), .unset] [(.ref da)])) rfl (hb hby d_jdk_38_method_6_code_14)
  refine go st3 ?_
  show OwnEnd _ _ _ _ _ _ _ (T3.setTop (mkF m 17 #[.val (.ref a0'), .val (.int (1 : Int32)), .val (.int (0 : Int32)), .unset] [(.ref da), (.ref da)]))
  refine go (fun t k => Jvm.RoadKit.acmp (g := (mkF m 17 #[.val (.ref a0'), .val (.int (1 : Int32)), .val (.int (0 : Int32)), .unset] [(.ref da), (.ref da)])) X3 hx rfl rfl rfl (pc0 := 17) (pc' := 45) (same := true) rfl (hb hby d_jdk_38_method_6_code_17) rfl (decide_eq_true rfl) (by decide) (by decide) k) ?_
  refine go (fun _ k => by refine XS.aloadN X3.here hx rfl (hb hby d_jdk_38_method_6_code_45) rfl rfl ?_; exact k) ?_
  refine go (fun _ k => by refine XS.bipush X3.here hx rfl (hb hby d_jdk_38_method_6_code_46) ?_; exact k) ?_
  refine go (fun _ k => by refine XS.iloadN X3.here hx rfl (hb hby d_jdk_38_method_6_code_48) rfl ?_; exact k) ?_
  show OwnEnd _ _ _ _ _ _ _ (T3.setTop (mkF m 49 #[.val (.ref a0'), .val (.int (1 : Int32)), .val (.int (0 : Int32)), .unset] [(.int (1 : Int32)), (.int (10 : Int32)), (.ref a0')]))
  obtain ⟨_, T4, L4, X4, hQ4, st4⟩ := callStat X3 hx hZ hown (hw _ (List.mem_of_getElem? (i := 62) rfl)) (hw _ (List.mem_of_getElem? (i := 63) rfl)) (hw _ (List.mem_of_getElem? (i := 64) rfl)) (hw _ (List.mem_of_getElem? (i := 65) rfl)) (by decide) (rm_max l Z a0 hw [] (10 : Int32) (1 : Int32) h0 n0 ) (W := 1) (by decide) (by decide) e3 (g := (mkF m 49 #[.val (.ref a0'), .val (.int (1 : Int32)), .val (.int (0 : Int32)), .unset] [(.int (1 : Int32)), (.int (10 : Int32)), (.ref a0')])) rfl (by rw [hml]; rfl) (argsL := [(.int (10 : Int32)), (.int (1 : Int32))]) (rest := [(.ref a0')]) rfl (lenOf pd__II_I rfl) rfl (by show 2 * 0 + _ ≤ _; exact Nat.le_of_eq rfl) (hb hby d_jdk_38_method_6_code_49) (by decide) (by decide)
  obtain ⟨rfl, Nq4, eq4⟩ := hQ4
  have N4 := Fr.app N0 Nq4
  refine go st4 ?_
  show OwnEnd _ _ _ _ _ _ _ (T4.setTop (mkF m 52 #[.val (.ref a0'), .val (.int (1 : Int32)), .val (.int (0 : Int32)), .unset] [(.int (10 : Int32)), (.ref a0')]))
  obtain ⟨T5, h5, k5, X5, e5, E5, A5, O5, st5⟩ := newR X4 hx hZ hown (hw _ (List.mem_of_getElem? (i := 66) rfl)) (hw _ (List.mem_of_getElem? (i := 67) rfl)) eq4 (g := (mkF m 52 #[.val (.ref a0'), .val (.int (1 : Int32)), .val (.int (0 : Int32)), .unset] [(.int (10 : Int32)), (.ref a0')])) rfl (hb hby d_jdk_38_method_6_code_52) rfl (by decide) (cap := 10) (by decide) (by decide) (by decide) (by decide)
  obtain ⟨b5, g5⟩ : ∃ z, z = h0.size := ⟨_, rfl⟩
  rw [← g5] at A5 st5
  have ne_a0__b5 : a0' ≠ b5 := fun q => absurd EA.lt (by rw [q, g5]; exact Nat.lt_irrefl _)
  have ne_da_b5 : da ≠ b5 := fun q => absurd V1.lt (by rw [q, g5]; exact Nat.lt_irrefl _)
  have g_b5 : n0 ≤ b5 := Nat.le_trans Z0 (Nat.le_of_eq g5.symm)
  have sz_b5 : h0.size ≤ b5 := Nat.le_trans KK.1 (Nat.le_of_eq g5.symm)
  have EA := EA.ext E5
  have FM := FM.ext E5
  have FE := FE.ext E5
  have FS := FS.ext E5
  have O := O.ext E5
  have Z0 := Nat.le_trans Z0 E5.1
  have KK := Keep.ext KK E5
  have V1 := V1.ext E5
  have S1 := S1.ext E5
  have V_b5 : Arv Z h5 b5 k5 (.object "java/lang/Object") (10 : Int32) [.null, .null, .null, .null, .null, .null, .null, .null, .null, .null] .null := (Arv.new A5 (by decide)).pad (pad_rep [] .null 10)
  refine go st5 ?_
  show OwnEnd _ _ _ _ _ _ _ (T5.setTop (mkF m 55 #[.val (.ref a0'), .val (.int (1 : Int32)), .val (.int (0 : Int32)), .unset] [(.ref b5), (.ref a0')]))
  refine go (fun _ k => by refine XS.dupX1 X5.here hx rfl (hb hby d_jdk_38_method_6_code_55) rfl rfl rfl ?_; exact k) ?_
  show OwnEnd _ _ _ _ _ _ _ (T5.setTop (mkF m 56 #[.val (.ref a0'), .val (.int (1 : Int32)), .val (.int (0 : Int32)), .unset] [(.ref b5), (.ref a0'), (.ref b5)]))
  obtain ⟨T6, h6, X6, e6, W6, st6⟩ := putF X5 hx hZ hown (host := "") (Or.inl (hw _ (List.mem_of_getElem? (i := 24) rfl))) Via.refl e5 FE EA (Or.inl (hw _ (List.mem_of_getElem? (i := 25) rfl))) (hw _ (List.mem_of_getElem? (i := 1) rfl)) (ty := (.array (.object "java/lang/Object"))) (by decide) rfl rfl (g := (mkF m 56 #[.val (.ref a0'), .val (.int (1 : Int32)), .val (.int (0 : Int32)), .unset] [(.ref b5), (.ref a0'), (.ref b5)])) rfl rfl (hb hby d_jdk_38_method_6_code_56)
  have N6 := Fr.snoc X6 N4 ga
  have EA := EA.wr W6
  have FM := FM.other W6 (Or.inr (slot_ne (Or.inl (hw _ (List.mem_of_getElem? (i := 22) rfl))) (Or.inl (hw _ (List.mem_of_getElem? (i := 25) rfl))) (by decide) (t := .int) (t' := (.array (.object "java/lang/Object"))) (by decide) (by decide)))
  have FS := FS.other W6 (Or.inr (slot_ne (Or.inl (hw _ (List.mem_of_getElem? (i := 46) rfl))) (Or.inl (hw _ (List.mem_of_getElem? (i := 25) rfl))) (by decide) (t := .int) (t' := (.array (.object "java/lang/Object"))) (by decide) (by decide)))
  have O := O.wr W6 ga
  have Z0 := Nat.le_trans Z0 (Keep.of_wr W6).1
  have KK := Keep.wr KK W6 (Or.inl (List.mem_of_getElem? (i := 0) rfl))
  have V1 := V1.other W6 (Ne.symm ned)
  have S1 := S1.wr W6
  have V_b5 := V_b5.other W6 (Ne.symm ne_a0__b5)
  have FE := FE.same W6
  refine go st6 ?_
  show OwnEnd _ _ _ _ _ _ _ (T6.setTop (mkF m 59 #[.val (.ref a0'), .val (.int (1 : Int32)), .val (.int (0 : Int32)), .unset] [(.ref b5)]))
  refine endA X6 hx hlk Bd.returns rfl rfl (hb hby d_jdk_38_method_6_code_59) e6 (by decide) (by decide) ?_
  exact ⟨b5, k5, rfl, N6, KK, g_b5, sz_b5, EA, FM, FE, FS, V_b5, O5⟩
theorem d_jdk_38_method_7_code_0 : decode jdk_38_method_7_code 0 = .ok (.aload_n 0, 1) := by decide +kernel
theorem d_jdk_38_method_7_code_1 : decode jdk_38_method_7_code 1 = .ok (.aload_n 0, 1) := by decide +kernel
theorem d_jdk_38_method_7_code_2 : decode jdk_38_method_7_code 2 = .ok (.getfield 48, 3) := by decide +kernel
theorem d_jdk_38_method_7_code_5 : decode jdk_38_method_7_code 5 = .ok (.iconst 1, 1) := by decide +kernel
theorem d_jdk_38_method_7_code_6 : decode jdk_38_method_7_code 6 = .ok (.iadd, 1) := by decide +kernel
theorem d_jdk_38_method_7_code_7 : decode jdk_38_method_7_code 7 = .ok (.invokevirtual 69, 3) := by decide +kernel
theorem pd__I__Ljava_lang_Object_ : parseMethodDescriptor "(I)[Ljava/lang/Object;" = some ⟨[.int], some (.array (.object "java/lang/Object"))⟩ := by decide +kernel
theorem d_jdk_38_method_7_code_10 : decode jdk_38_method_7_code 10 = .ok (.areturn, 1) := by decide +kernel
theorem ef_rm_gr0 (m : MethodId) (y0 : Addr) : entryFrame m #[(.ref y0)] 1 = mkF m 0 #[.val (.ref y0)] [] := by first | (simp [entryFrame, mkF, argsToLocals, Value.category]; done) | rfl
def Q_rm_gr0 (Z : State) (a0' : Addr) (da : Addr) (dk : ClassId) (mc : Int32) (h0 : Heap) (n0 : Nat) (v : Option Value) (h : Heap) (L : List Loc) : Prop := ∃ gb gk, v = some (.ref gb) ∧ Fr n0 L ∧ Keep h0 h [a0'] ∧ n0 ≤ gb ∧ h0.size ≤ gb ∧ Exa Z h a0' "java/util/ArrayList" ∧ Fld Z h a0' "java/util/AbstractList" "modCount" "I" (.int mc) ∧ Fld Z h a0' "java/util/ArrayList" "elementData" "[Ljava/lang/Object;" (.ref gb) ∧ Fld Z h a0' "java/util/ArrayList" "size" "I" (.int 0) ∧ Arv Z h gb gk (.object "java/lang/Object") 10 [.null, .null, .null, .null, .null, .null, .null, .null, .null, .null] .null ∧ Ovr Z gk "java/lang/Object"
set_option maxRecDepth 65536 in
set_option maxHeartbeats 40000000 in
theorem rm_gr0 (l : Launch) (Z : State) (a0 : Array Value) (hw : ∀ d ∈ tables_1, d.before a0 Z = true) (ws : List Jvm.Cond) (a0' : Addr) (da : Addr) (dk : ClassId) (mc : Int32) (h0 : Heap) (n0 : Nat) (ga : n0 ≤ a0') (EA : Exa Z h0 a0' "java/util/ArrayList") (FM : Fld Z h0 a0' "java/util/AbstractList" "modCount" "I" (.int mc)) (FE : Fld Z h0 a0' "java/util/ArrayList" "elementData" "[Ljava/lang/Object;" (.ref da)) (FS : Fld Z h0 a0' "java/util/ArrayList" "size" "I" (.int 0)) (O : Old Z n0 h0) (SD : Sta Z Z.heap "java/util/ArrayList" "DEFAULTCAPACITY_EMPTY_ELEMENTDATA" "[Ljava/lang/Object;" (.ref da)) (VD : Arv Z Z.heap da dk (.object "java/lang/Object") 0 [] .null) :
    MetFree l (⟨"java/util/ArrayList", "grow", "()[Ljava/lang/Object;"⟩ : MethodName) (head1 (Jvm.Cond.code (⟨"java/util/ArrayList", "grow", "()[Ljava/lang/Object;"⟩ : MethodName) jdk_38_method_7_code 1 (some (.array (.object "java/lang/Object"))) :: ws) ({ frames := 2, cells := 1, slots := 10, locals := 29 } : Room)) (fun a U => a = #[(.ref a0')] ∧ Z.Warmed39 U.vm ∧ U.heap = h0) (fun _ _ _ _ _ => True) (fun _ U o U' => ∃ v L, o = .returned v ∧ Q_rm_gr0 Z a0' da dk mc h0 n0 v U'.heap L ∧ FrameEnd U o U' L 1 10) := by
  refine MetFree.of_bodySF (plainFor_of_name pn_java_util_ArrayList) hisR ?_
  intro p e s m args below meth c s₁ Bd hml0 hP hK
  obtain ⟨rfl, hZ, hh⟩ := hP
  have hx := Bd.exec
  have hby := Bd.bytes
  have hlk := Bd.notSynchronized
  have hml : c.maxLocals = 1 := hml0
  have hown : s.vm.findClass "java/util/ArrayList" = some m.cls := findClass_of_methodNamed Bd.named
  have hnm := (name_of_methodNamed Bd.named Bd.method).1
  have X0 : Stand p l e ({ frames := 2, cells := 1, slots := 10, locals := 29 } : Room) s m #[(.ref a0')] below meth c s₁ [] 0 0 := Stand.of_body Bd
  have e0 : s₁.heap = h0 := by rw [← hh, Bd.state]; rfl
  have N0 := Fr.nil n0
  show OwnEnd p e below s (Q_rm_gr0 Z a0' da dk mc h0 n0) 1 10 (s₁.setTop (entryFrame m #[(.ref a0')] 1))
  refine go (fun t k => castTop (ef_rm_gr0 m a0') k) ?_
  have KK := Keep.refl h0 [a0']
  have S1 := SD.ext O.2
  have V1 := VD.ext O.2
  have Z0 : n0 ≤ h0.size := by rw [← O.1]; exact O.2.1
  have ned : a0' ≠ da := fun q => absurd VD.lt (by rw [← q, O.1]; exact Nat.not_lt.mpr ga)
  show OwnEnd _ _ _ _ _ _ _ (s₁.setTop (mkF m 0 #[.val (.ref a0')] []))
  refine go (fun _ k => by refine XS.aloadN X0.here hx rfl (hb hby d_jdk_38_method_7_code_0) rfl rfl ?_; exact k) ?_
  refine go (fun _ k => by refine XS.aloadN X0.here hx rfl (hb hby d_jdk_38_method_7_code_1) rfl rfl ?_; exact k) ?_
  show OwnEnd _ _ _ _ _ _ _ (s₁.setTop (mkF m 2 #[.val (.ref a0')] [(.ref a0'), (.ref a0')]))
  obtain ⟨T1, X1, e1, st1⟩ := getF X0 hx hZ hown (host := "") (Or.inl (hw _ (List.mem_of_getElem? (i := 45) rfl))) Via.refl e0 FS (g := (mkF m 2 #[.val (.ref a0')] [(.ref a0'), (.ref a0')])) rfl rfl (hb hby d_jdk_38_method_7_code_2)
  refine go st1 ?_
  refine go (fun _ k => by refine XS.iconst X1.here hx rfl (hb hby d_jdk_38_method_7_code_5) ?_; exact k) ?_
  refine go (fun _ k => by refine XS.iadd X1.here hx rfl (hb hby d_jdk_38_method_7_code_6) rfl ?_; exact k) ?_
  show OwnEnd _ _ _ _ _ _ _ (T1.setTop (mkF m 7 #[.val (.ref a0')] [(.int ((0 : Int32) + (1 : Int32))), (.ref a0')]))
  rw [show ((0 : Int32) + (1 : Int32)) = (1 : Int32) from by decide]
  show OwnEnd _ _ _ _ _ _ _ (T1.setTop (mkF m 7 #[.val (.ref a0')] [(.int (1 : Int32)), (.ref a0')]))
  obtain ⟨_, T2, L2, X2, hQ2, st2⟩ := callPriv X1 hx hZ hown (hw _ (List.mem_of_getElem? (i := 57) rfl)) (hw _ (List.mem_of_getElem? (i := 58) rfl)) (hw _ (List.mem_of_getElem? (i := 59) rfl)) (hw _ (List.mem_of_getElem? (i := 1) rfl)) (hw _ (List.mem_of_getElem? (i := 2) rfl)) (hw _ (List.mem_of_getElem? (i := 61) rfl)) (by decide) (rm_gr1 l Z a0 hw [] a0' da dk mc h0 n0 ga EA FM FE FS O SD VD) (W := 0) (by decide) (by decide) e1 EA (g := (mkF m 7 #[.val (.ref a0')] [(.int (1 : Int32)), (.ref a0')])) rfl (by rw [hml]; rfl) (argsL := [(.int (1 : Int32))]) (rest := []) rfl (lenOf pd__I__Ljava_lang_Object_ rfl) rfl (by show 2 * 0 + _ ≤ _; exact Nat.le_of_eq rfl) (hb hby d_jdk_38_method_7_code_7) (by decide) (by decide)
  have lto2 := EA.lt
  have ltv2 := V1.lt
  obtain ⟨gb2, k2, rfl, Nq2, K2, g_gb2, sq2, EA, FM, FE, FS, V_gb2, O2⟩ := hQ2
  have sz_gb2 : h0.size ≤ gb2 := Nat.le_trans KK.1 sq2
  have N2 := Fr.app N0 Nq2
  have O := O.keep K2 (allS ga all0)
  have Z0 := Nat.le_trans Z0 K2.1
  have KK := Keep.trans KK K2 (allS (Or.inl (List.mem_of_getElem? (i := 0) rfl)) all0)
  have V1 := V1.keep K2 (ninS (Ne.symm ned) nin0)
  have S1 := SD.ext O.2
  have ne_gb2 : a0' ≠ gb2 := fun q => absurd lto2 (by rw [q]; exact Nat.not_lt.mpr sq2)
  have nd_gb2 : da ≠ gb2 := fun q => absurd ltv2 (by rw [q]; exact Nat.not_lt.mpr sq2)
  refine go st2 ?_
  show OwnEnd _ _ _ _ _ _ _ (T2.setTop (mkF m 10 #[.val (.ref a0')] [(.ref gb2)]))
  refine endA X2 hx hlk Bd.returns rfl rfl (hb hby d_jdk_38_method_7_code_10) rfl (by decide) (by decide) ?_
  exact ⟨gb2, k2, rfl, N2, KK, g_gb2, sz_gb2, EA, FM, FE, FS, V_gb2, O2⟩
theorem d_jdk_38_method_24_code_0 : decode jdk_38_method_24_code 0 = .ok (.iload_n 3, 1) := by decide +kernel
theorem d_jdk_38_method_24_code_1 : decode jdk_38_method_24_code 1 = .ok (.aload_n 2, 1) := by decide +kernel
theorem d_jdk_38_method_24_code_2 : decode jdk_38_method_24_code 2 = .ok (.arraylength, 1) := by decide +kernel
theorem d_jdk_38_method_24_code_3 : decode jdk_38_method_24_code 3 = .ok (.if_icmp .ne 8, 3) := by decide +kernel
theorem d_jdk_38_method_24_code_6 : decode jdk_38_method_24_code 6 = .ok (.aload_n 0, 1) := by decide +kernel
theorem d_jdk_38_method_24_code_7 : decode jdk_38_method_24_code 7 = .ok (.invokevirtual 129, 3) := by decide +kernel
theorem pd____Ljava_lang_Object_ : parseMethodDescriptor "()[Ljava/lang/Object;" = some ⟨[], some (.array (.object "java/lang/Object"))⟩ := by decide +kernel
theorem d_jdk_38_method_24_code_10 : decode jdk_38_method_24_code 10 = .ok (.astore_n 2, 1) := by decide +kernel
theorem d_jdk_38_method_24_code_11 : decode jdk_38_method_24_code 11 = .ok (.aload_n 2, 1) := by decide +kernel
theorem d_jdk_38_method_24_code_12 : decode jdk_38_method_24_code 12 = .ok (.iload_n 3, 1) := by decide +kernel
theorem d_jdk_38_method_24_code_13 : decode jdk_38_method_24_code 13 = .ok (.aload_n 1, 1) := by decide +kernel
theorem d_jdk_38_method_24_code_14 : decode jdk_38_method_24_code 14 = .ok (.aastore, 1) := by decide +kernel
theorem d_jdk_38_method_24_code_15 : decode jdk_38_method_24_code 15 = .ok (.aload_n 0, 1) := by decide +kernel
theorem d_jdk_38_method_24_code_16 : decode jdk_38_method_24_code 16 = .ok (.iload_n 3, 1) := by decide +kernel
theorem d_jdk_38_method_24_code_17 : decode jdk_38_method_24_code 17 = .ok (.iconst 1, 1) := by decide +kernel
theorem d_jdk_38_method_24_code_18 : decode jdk_38_method_24_code 18 = .ok (.iadd, 1) := by decide +kernel
theorem d_jdk_38_method_24_code_19 : decode jdk_38_method_24_code 19 = .ok (.putfield 48, 3) := by decide +kernel
theorem d_jdk_38_method_24_code_22 : decode jdk_38_method_24_code 22 = .ok (.return_, 1) := by decide +kernel
theorem ef_rm_ad3 (m : MethodId) (y0 : Addr) (y1 : Addr) (y2 : Addr) : entryFrame m #[(.ref y0), (.ref y1), (.ref y2), (.int (0 : Int32))] 4 = mkF m 0 #[.val (.ref y0), .val (.ref y1), .val (.ref y2), .val (.int (0 : Int32))] [] := by first | (simp [entryFrame, mkF, argsToLocals, Value.category]; done) | rfl
def Q_rm_ad3 (Z : State) (a0' : Addr) (x1 : Addr) (da : Addr) (dk : ClassId) (mc : Int32) (h0 : Heap) (n0 : Nat) (v : Option Value) (h : Heap) (L : List Loc) : Prop := v = none ∧ Fr n0 L ∧ Keep h0 h [a0'] ∧ Exa Z h a0' "java/util/ArrayList" ∧ Fld Z h a0' "java/util/ArrayList" "size" "I" (.int 1)
set_option maxRecDepth 65536 in
set_option maxHeartbeats 40000000 in
theorem rm_ad3 (l : Launch) (Z : State) (a0 : Array Value) (hw : ∀ d ∈ tables_1, d.before a0 Z = true) (ws : List Jvm.Cond) (a0' : Addr) (x1 : Addr) (da : Addr) (dk : ClassId) (mc : Int32) (h0 : Heap) (n0 : Nat) (ga : n0 ≤ a0') (EA : Exa Z h0 a0' "java/util/ArrayList") (FM : Fld Z h0 a0' "java/util/AbstractList" "modCount" "I" (.int mc)) (FE : Fld Z h0 a0' "java/util/ArrayList" "elementData" "[Ljava/lang/Object;" (.ref da)) (FS : Fld Z h0 a0' "java/util/ArrayList" "size" "I" (.int 0)) (O : Old Z n0 h0) (SD : Sta Z Z.heap "java/util/ArrayList" "DEFAULTCAPACITY_EMPTY_ELEMENTDATA" "[Ljava/lang/Object;" (.ref da)) (VD : Arv Z Z.heap da dk (.object "java/lang/Object") 0 [] .null) (EX : Exa Z h0 x1 "java/lang/Long") :
    MetFree l (⟨"java/util/ArrayList", "add", "(Ljava/lang/Object;[Ljava/lang/Object;I)V"⟩ : MethodName) (head1 (Jvm.Cond.code (⟨"java/util/ArrayList", "add", "(Ljava/lang/Object;[Ljava/lang/Object;I)V"⟩ : MethodName) jdk_38_method_24_code 4 none :: ws) ({ frames := 3, cells := 1, slots := 10, locals := 41 } : Room)) (fun a U => a = #[(.ref a0'), (.ref x1), (.ref da), (.int (0 : Int32))] ∧ Z.Warmed39 U.vm ∧ U.heap = h0) (fun _ _ _ _ _ => True) (fun _ U o U' => ∃ v L, o = .returned v ∧ Q_rm_ad3 Z a0' x1 da dk mc h0 n0 v U'.heap L ∧ FrameEnd U o U' L 1 10) := by
  refine MetFree.of_bodySF (plainFor_of_name pn_java_util_ArrayList) hisR ?_
  intro p e s m args below meth c s₁ Bd hml0 hP hK
  obtain ⟨rfl, hZ, hh⟩ := hP
  have hx := Bd.exec
  have hby := Bd.bytes
  have hlk := Bd.notSynchronized
  have hml : c.maxLocals = 4 := hml0
  have hown : s.vm.findClass "java/util/ArrayList" = some m.cls := findClass_of_methodNamed Bd.named
  have hnm := (name_of_methodNamed Bd.named Bd.method).1
  have X0 : Stand p l e ({ frames := 3, cells := 1, slots := 10, locals := 41 } : Room) s m #[(.ref a0'), (.ref x1), (.ref da), (.int (0 : Int32))] below meth c s₁ [] 0 0 := Stand.of_body Bd
  have e0 : s₁.heap = h0 := by rw [← hh, Bd.state]; rfl
  have N0 := Fr.nil n0
  show OwnEnd p e below s (Q_rm_ad3 Z a0' x1 da dk mc h0 n0) 1 10 (s₁.setTop (entryFrame m #[(.ref a0'), (.ref x1), (.ref da), (.int (0 : Int32))] 4))
  refine go (fun t k => castTop (ef_rm_ad3 m a0' x1 da) k) ?_
  have KK := Keep.refl h0 [a0']
  have S1 := SD.ext O.2
  have V1 := VD.ext O.2
  have Z0 : n0 ≤ h0.size := by rw [← O.1]; exact O.2.1
  have ned : a0' ≠ da := fun q => absurd VD.lt (by rw [← q, O.1]; exact Nat.not_lt.mpr ga)
  show OwnEnd _ _ _ _ _ _ _ (s₁.setTop (mkF m 0 #[.val (.ref a0'), .val (.ref x1), .val (.ref da), .val (.int (0 : Int32))] []))
  refine go (fun _ k => by refine XS.iloadN X0.here hx rfl (hb hby d_jdk_38_method_24_code_0) rfl ?_; exact k) ?_
  refine go (fun _ k => by refine XS.aloadN X0.here hx rfl (hb hby d_jdk_38_method_24_code_1) rfl rfl ?_; exact k) ?_
  show OwnEnd _ _ _ _ _ _ _ (s₁.setTop (mkF m 2 #[.val (.ref a0'), .val (.ref x1), .val (.ref da), .val (.int (0 : Int32))] [(.ref da), (.int (0 : Int32))]))
  refine go (lenV X0 hx hZ e0 V1 (g := (mkF m 2 #[.val (.ref a0'), .val (.ref x1), .val (.ref da), .val (.int (0 : Int32))] [(.ref da), (.int (0 : Int32))])) rfl rfl (hb hby d_jdk_38_method_24_code_2)) ?_
  show OwnEnd _ _ _ _ _ _ _ (s₁.setTop (mkF m 3 #[.val (.ref a0'), .val (.ref x1), .val (.ref da), .val (.int (0 : Int32))] [(.int (0 : Int32)), (.int (0 : Int32))]))
  refine go (fun _ k => by refine XS.icmpNo X0.here hx rfl (hb hby d_jdk_38_method_24_code_3) rfl (teq (by decide)).2 ?_; exact k) ?_
  refine go (fun _ k => by refine XS.aloadN X0.here hx rfl (hb hby d_jdk_38_method_24_code_6) rfl rfl ?_; exact k) ?_
  show OwnEnd _ _ _ _ _ _ _ (s₁.setTop (mkF m 7 #[.val (.ref a0'), .val (.ref x1), .val (.ref da), .val (.int (0 : Int32))] [(.ref a0')]))
  obtain ⟨_, T1, L1, X1, hQ1, st1⟩ := callPriv X0 hx hZ hown (hw _ (List.mem_of_getElem? (i := 52) rfl)) (hw _ (List.mem_of_getElem? (i := 53) rfl)) (hw _ (List.mem_of_getElem? (i := 54) rfl)) (hw _ (List.mem_of_getElem? (i := 1) rfl)) (hw _ (List.mem_of_getElem? (i := 2) rfl)) (hw _ (List.mem_of_getElem? (i := 56) rfl)) (by decide) (rm_gr0 l Z a0 hw [] a0' da dk mc h0 n0 ga EA FM FE FS O SD VD) (W := 0) (by decide) (by decide) e0 EA (g := (mkF m 7 #[.val (.ref a0'), .val (.ref x1), .val (.ref da), .val (.int (0 : Int32))] [(.ref a0')])) rfl (by rw [hml]; rfl) (argsL := []) (rest := []) rfl (lenOf pd____Ljava_lang_Object_ rfl) rfl (by show 2 * 0 + _ ≤ _; exact Nat.le_of_eq rfl) (hb hby d_jdk_38_method_24_code_7) (by decide) (by decide)
  have lto1 := EA.lt
  have ltv1 := V1.lt
  obtain ⟨gb1, k1, rfl, Nq1, K1, g_gb1, sq1, EA, FM, FE, FS, V_gb1, O1⟩ := hQ1
  have sz_gb1 : h0.size ≤ gb1 := Nat.le_trans KK.1 sq1
  have N1 := Fr.app N0 Nq1
  have O := O.keep K1 (allS ga all0)
  have Z0 := Nat.le_trans Z0 K1.1
  have KK := Keep.trans KK K1 (allS (Or.inl (List.mem_of_getElem? (i := 0) rfl)) all0)
  have V1 := V1.keep K1 (ninS (Ne.symm ned) nin0)
  have EX := EX.keep K1
  have S1 := SD.ext O.2
  have ne_gb1 : a0' ≠ gb1 := fun q => absurd lto1 (by rw [q]; exact Nat.not_lt.mpr sq1)
  have nd_gb1 : da ≠ gb1 := fun q => absurd ltv1 (by rw [q]; exact Nat.not_lt.mpr sq1)
  refine go st1 ?_
  refine go (fun _ k => by refine XS.astoreN X1.here hx rfl (hb hby d_jdk_38_method_24_code_10) rfl rfl (l' := #[.val (.ref a0'), .val (.ref x1), .val (.ref gb1), .val (.int (0 : Int32))]) rfl ?_; exact k) ?_
  refine go (fun _ k => by refine XS.aloadN X1.here hx rfl (hb hby d_jdk_38_method_24_code_11) rfl rfl ?_; exact k) ?_
  refine go (fun _ k => by refine XS.iloadN X1.here hx rfl (hb hby d_jdk_38_method_24_code_12) rfl ?_; exact k) ?_
  show OwnEnd _ _ _ _ _ _ _ (T1.setTop (mkF m 13 #[.val (.ref a0'), .val (.ref x1), .val (.ref gb1), .val (.int (0 : Int32))] [(.int (0 : Int32)), (.ref gb1)]))
  refine go (fun _ k => by refine XS.aloadN X1.here hx rfl (hb hby d_jdk_38_method_24_code_13) rfl rfl ?_; exact k) ?_
  show OwnEnd _ _ _ _ _ _ _ (T1.setTop (mkF m 14 #[.val (.ref a0'), .val (.ref x1), .val (.ref gb1), .val (.int (0 : Int32))] [(.ref x1), (.int (0 : Int32)), (.ref gb1)]))
  obtain ⟨T2, h2, X2, e2, W2, V_gb1', st2⟩ := stRv X1 hx hZ rfl V_gb1 O1 (Ins.of_exa EX (hw _ (List.mem_of_getElem? (i := 68) rfl))) rfl rfl (j := (0 : Int32)) (i := 0) (by decide) (by decide) (by decide) (Nat.le_of_ble_eq_true rfl) (g := (mkF m 14 #[.val (.ref a0'), .val (.ref x1), .val (.ref gb1), .val (.int (0 : Int32))] [(.ref x1), (.int (0 : Int32)), (.ref gb1)])) rfl rfl (hb hby d_jdk_38_method_24_code_14)
  have N2 := Fr.snoc X2 N1 g_gb1
  have O := O.wr W2 g_gb1
  have Z0 := Nat.le_trans Z0 (Keep.of_wr W2).1
  have KK := Keep.wr KK W2 (Or.inr sz_gb1)
  have V1 := V1.other W2 nd_gb1
  have S1 := S1.wr W2
  have EX := EX.wr W2
  have EA := EA.wr W2
  have FM := FM.other W2 (Or.inl ne_gb1)
  have FE := FE.other W2 (Or.inl ne_gb1)
  have FS := FS.other W2 (Or.inl ne_gb1)
  have V_gb1 : Arv Z h2 gb1 k1 (.object "java/lang/Object") (10 : Int32) [(.ref x1), .null, .null, .null, .null, .null, .null, .null, .null, .null] .null := V_gb1'
  refine go st2 ?_
  refine go (fun _ k => by refine XS.aloadN X2.here hx rfl (hb hby d_jdk_38_method_24_code_15) rfl rfl ?_; exact k) ?_
  refine go (fun _ k => by refine XS.iloadN X2.here hx rfl (hb hby d_jdk_38_method_24_code_16) rfl ?_; exact k) ?_
  refine go (fun _ k => by refine XS.iconst X2.here hx rfl (hb hby d_jdk_38_method_24_code_17) ?_; exact k) ?_
  show OwnEnd _ _ _ _ _ _ _ (T2.setTop (mkF m 18 #[.val (.ref a0'), .val (.ref x1), .val (.ref gb1), .val (.int (0 : Int32))] [(.int (1 : Int32)), (.int (0 : Int32)), (.ref a0')]))
  refine go (fun _ k => by refine XS.iadd X2.here hx rfl (hb hby d_jdk_38_method_24_code_18) rfl ?_; exact k) ?_
  show OwnEnd _ _ _ _ _ _ _ (T2.setTop (mkF m 19 #[.val (.ref a0'), .val (.ref x1), .val (.ref gb1), .val (.int (0 : Int32))] [(.int ((0 : Int32) + (1 : Int32))), (.ref a0')]))
  rw [show ((0 : Int32) + (1 : Int32)) = (1 : Int32) from by decide]
  show OwnEnd _ _ _ _ _ _ _ (T2.setTop (mkF m 19 #[.val (.ref a0'), .val (.ref x1), .val (.ref gb1), .val (.int (0 : Int32))] [(.int (1 : Int32)), (.ref a0')]))
  obtain ⟨T3, h3, X3, e3, W3, st3⟩ := putF X2 hx hZ hown (host := "") (Or.inl (hw _ (List.mem_of_getElem? (i := 45) rfl))) Via.refl e2 FS EA (Or.inl (hw _ (List.mem_of_getElem? (i := 46) rfl))) (hw _ (List.mem_of_getElem? (i := 1) rfl)) (ty := .int) (by decide) rfl rfl (g := (mkF m 19 #[.val (.ref a0'), .val (.ref x1), .val (.ref gb1), .val (.int (0 : Int32))] [(.int (1 : Int32)), (.ref a0')])) rfl rfl (hb hby d_jdk_38_method_24_code_19)
  have N3 := Fr.snoc X3 N2 ga
  have O := O.wr W3 ga
  have Z0 := Nat.le_trans Z0 (Keep.of_wr W3).1
  have KK := Keep.wr KK W3 (Or.inl (List.mem_of_getElem? (i := 0) rfl))
  have V1 := V1.other W3 (Ne.symm ned)
  have S1 := S1.wr W3
  have EX := EX.wr W3
  have EA := EA.wr W3
  have FM := FM.other W3 (Or.inr (slot_ne (Or.inl (hw _ (List.mem_of_getElem? (i := 22) rfl))) (Or.inl (hw _ (List.mem_of_getElem? (i := 46) rfl))) (by decide) (t := .int) (t' := .int) (by decide) (by decide)))
  have FE := FE.other W3 (Or.inr (slot_ne (Or.inl (hw _ (List.mem_of_getElem? (i := 25) rfl))) (Or.inl (hw _ (List.mem_of_getElem? (i := 46) rfl))) (by decide) (t := (.array (.object "java/lang/Object"))) (t' := .int) (by decide) (by decide)))
  have V_gb1 := V_gb1.other W3 (Ne.symm ne_gb1)
  have FS := FS.same W3
  refine go st3 ?_
  show OwnEnd _ _ _ _ _ _ _ (T3.setTop (mkF m 22 #[.val (.ref a0'), .val (.ref x1), .val (.ref gb1), .val (.int (0 : Int32))] []))
  refine endV X3 hx hlk Bd.returns (hb hby d_jdk_38_method_24_code_22) e3 (by decide) (by decide) ?_
  exact ⟨rfl, N3, KK, EA, FS⟩
theorem d_jdk_38_method_25_code_0 : decode jdk_38_method_25_code 0 = .ok (.aload_n 0, 1) := by decide +kernel
theorem d_jdk_38_method_25_code_1 : decode jdk_38_method_25_code 1 = .ok (.dup, 1) := by decide +kernel
theorem d_jdk_38_method_25_code_2 : decode jdk_38_method_25_code 2 = .ok (.getfield 63, 3) := by decide +kernel
theorem d_jdk_38_method_25_code_5 : decode jdk_38_method_25_code 5 = .ok (.iconst 1, 1) := by decide +kernel
theorem d_jdk_38_method_25_code_6 : decode jdk_38_method_25_code 6 = .ok (.iadd, 1) := by decide +kernel
theorem d_jdk_38_method_25_code_7 : decode jdk_38_method_25_code 7 = .ok (.putfield 63, 3) := by decide +kernel
theorem d_jdk_38_method_25_code_10 : decode jdk_38_method_25_code 10 = .ok (.aload_n 0, 1) := by decide +kernel
theorem d_jdk_38_method_25_code_11 : decode jdk_38_method_25_code 11 = .ok (.aload_n 1, 1) := by decide +kernel
theorem d_jdk_38_method_25_code_12 : decode jdk_38_method_25_code 12 = .ok (.aload_n 0, 1) := by decide +kernel
theorem d_jdk_38_method_25_code_13 : decode jdk_38_method_25_code 13 = .ok (.getfield 9, 3) := by decide +kernel
theorem d_jdk_38_method_25_code_16 : decode jdk_38_method_25_code 16 = .ok (.aload_n 0, 1) := by decide +kernel
theorem d_jdk_38_method_25_code_17 : decode jdk_38_method_25_code 17 = .ok (.getfield 48, 3) := by decide +kernel
theorem d_jdk_38_method_25_code_20 : decode jdk_38_method_25_code 20 = .ok (.invokevirtual 131, 3) := by decide +kernel
theorem pd__Ljava_lang_Object__Ljava_lang_Object_I_V : parseMethodDescriptor "(Ljava/lang/Object;[Ljava/lang/Object;I)V" = some ⟨[(.object "java/lang/Object"), (.array (.object "java/lang/Object")), .int], none⟩ := by decide +kernel
theorem d_jdk_38_method_25_code_23 : decode jdk_38_method_25_code 23 = .ok (.iconst 1, 1) := by decide +kernel
theorem d_jdk_38_method_25_code_24 : decode jdk_38_method_25_code 24 = .ok (.ireturn, 1) := by decide +kernel
theorem ef_rm_add (m : MethodId) (y0 : Addr) (y1 : Addr) : entryFrame m #[(.ref y0), (.ref y1)] 2 = mkF m 0 #[.val (.ref y0), .val (.ref y1)] [] := by first | (simp [entryFrame, mkF, argsToLocals, Value.category]; done) | rfl
def Q_rm_add (Z : State) (a0' : Addr) (x1 : Addr) (da : Addr) (dk : ClassId) (h0 : Heap) (n0 : Nat) (v : Option Value) (h : Heap) (L : List Loc) : Prop := v = some (.int 1) ∧ Fr n0 L ∧ Keep h0 h [a0'] ∧ Exa Z h a0' "java/util/ArrayList" ∧ Fld Z h a0' "java/util/ArrayList" "size" "I" (.int 1)
set_option maxRecDepth 65536 in
set_option maxHeartbeats 40000000 in
theorem rm_add (l : Launch) (Z : State) (a0 : Array Value) (hw : ∀ d ∈ tables_1, d.before a0 Z = true) (ws : List Jvm.Cond) (a0' : Addr) (x1 : Addr) (da : Addr) (dk : ClassId) (h0 : Heap) (n0 : Nat) (ga : n0 ≤ a0') (EA : Exa Z h0 a0' "java/util/ArrayList") (FM : Fld Z h0 a0' "java/util/AbstractList" "modCount" "I" (.int 0)) (FE : Fld Z h0 a0' "java/util/ArrayList" "elementData" "[Ljava/lang/Object;" (.ref da)) (FS : Fld Z h0 a0' "java/util/ArrayList" "size" "I" (.int 0)) (O : Old Z n0 h0) (SD : Sta Z Z.heap "java/util/ArrayList" "DEFAULTCAPACITY_EMPTY_ELEMENTDATA" "[Ljava/lang/Object;" (.ref da)) (VD : Arv Z Z.heap da dk (.object "java/lang/Object") 0 [] .null) (EX : Exa Z h0 x1 "java/lang/Long") :
    MetFree l (⟨"java/util/ArrayList", "add", "(Ljava/lang/Object;)Z"⟩ : MethodName) (head1 (Jvm.Cond.code (⟨"java/util/ArrayList", "add", "(Ljava/lang/Object;)Z"⟩ : MethodName) jdk_38_method_25_code 2 (some .boolean) :: ws) ({ frames := 4, cells := 1, slots := 10, locals := 56 } : Room)) (fun a U => a = #[(.ref a0'), (.ref x1)] ∧ Z.Warmed39 U.vm ∧ U.heap = h0) (fun _ _ _ _ _ => True) (fun _ U o U' => ∃ v L, o = .returned v ∧ Q_rm_add Z a0' x1 da dk h0 n0 v U'.heap L ∧ FrameEnd U o U' L 1 10) := by
  refine MetFree.of_bodySF (plainFor_of_name pn_java_util_ArrayList) hisR ?_
  intro p e s m args below meth c s₁ Bd hml0 hP hK
  obtain ⟨rfl, hZ, hh⟩ := hP
  have hx := Bd.exec
  have hby := Bd.bytes
  have hlk := Bd.notSynchronized
  have hml : c.maxLocals = 2 := hml0
  have hown : s.vm.findClass "java/util/ArrayList" = some m.cls := findClass_of_methodNamed Bd.named
  have hnm := (name_of_methodNamed Bd.named Bd.method).1
  have X0 : Stand p l e ({ frames := 4, cells := 1, slots := 10, locals := 56 } : Room) s m #[(.ref a0'), (.ref x1)] below meth c s₁ [] 0 0 := Stand.of_body Bd
  have e0 : s₁.heap = h0 := by rw [← hh, Bd.state]; rfl
  have N0 := Fr.nil n0
  show OwnEnd p e below s (Q_rm_add Z a0' x1 da dk h0 n0) 1 10 (s₁.setTop (entryFrame m #[(.ref a0'), (.ref x1)] 2))
  refine go (fun t k => castTop (ef_rm_add m a0' x1) k) ?_
  have KK := Keep.refl h0 [a0']
  have S1 := SD.ext O.2
  have V1 := VD.ext O.2
  have Z0 : n0 ≤ h0.size := by rw [← O.1]; exact O.2.1
  have ned : a0' ≠ da := fun q => absurd VD.lt (by rw [← q, O.1]; exact Nat.not_lt.mpr ga)
  have nex : x1 ≠ a0' := Jvm.RoadKit.ne_exa EX EA (by decide)
  show OwnEnd _ _ _ _ _ _ _ (s₁.setTop (mkF m 0 #[.val (.ref a0'), .val (.ref x1)] []))
  refine go (fun _ k => by refine XS.aloadN X0.here hx rfl (hb hby d_jdk_38_method_25_code_0) rfl rfl ?_; exact k) ?_
  refine go (fun _ k => by refine XS.dup X0.here hx rfl (hb hby d_jdk_38_method_25_code_1) rfl rfl ?_; exact k) ?_
  show OwnEnd _ _ _ _ _ _ _ (s₁.setTop (mkF m 2 #[.val (.ref a0'), .val (.ref x1)] [(.ref a0'), (.ref a0')]))
  obtain ⟨T1, X1, e1, st1⟩ := getF X0 hx hZ hown (host := "") (Or.inl (hw _ (List.mem_of_getElem? (i := 43) rfl))) (Via.of (hw _ (List.mem_of_getElem? (i := 44) rfl))) e0 FM (g := (mkF m 2 #[.val (.ref a0'), .val (.ref x1)] [(.ref a0'), (.ref a0')])) rfl rfl (hb hby d_jdk_38_method_25_code_2)
  refine go st1 ?_
  refine go (fun _ k => by refine XS.iconst X1.here hx rfl (hb hby d_jdk_38_method_25_code_5) ?_; exact k) ?_
  refine go (fun _ k => by refine XS.iadd X1.here hx rfl (hb hby d_jdk_38_method_25_code_6) rfl ?_; exact k) ?_
  show OwnEnd _ _ _ _ _ _ _ (T1.setTop (mkF m 7 #[.val (.ref a0'), .val (.ref x1)] [(.int ((0 : Int32) + (1 : Int32))), (.ref a0')]))
  rw [show ((0 : Int32) + (1 : Int32)) = (1 : Int32) from by decide]
  show OwnEnd _ _ _ _ _ _ _ (T1.setTop (mkF m 7 #[.val (.ref a0'), .val (.ref x1)] [(.int (1 : Int32)), (.ref a0')]))
  obtain ⟨T2, h2, X2, e2, W2, st2⟩ := putF X1 hx hZ hown (host := "") (Or.inl (hw _ (List.mem_of_getElem? (i := 43) rfl))) (Via.of (hw _ (List.mem_of_getElem? (i := 44) rfl))) e1 FM EA (Or.inl (hw _ (List.mem_of_getElem? (i := 22) rfl))) (hw _ (List.mem_of_getElem? (i := 1) rfl)) (ty := .int) (by decide) rfl rfl (g := (mkF m 7 #[.val (.ref a0'), .val (.ref x1)] [(.int (1 : Int32)), (.ref a0')])) rfl rfl (hb hby d_jdk_38_method_25_code_7)
  have N2 := Fr.snoc X2 N0 ga
  have EA := EA.wr W2
  have FE := FE.other W2 (Or.inr (slot_ne (Or.inl (hw _ (List.mem_of_getElem? (i := 25) rfl))) (Or.inl (hw _ (List.mem_of_getElem? (i := 22) rfl))) (by decide) (t := (.array (.object "java/lang/Object"))) (t' := .int) (by decide) (by decide)))
  have FS := FS.other W2 (Or.inr (slot_ne (Or.inl (hw _ (List.mem_of_getElem? (i := 46) rfl))) (Or.inl (hw _ (List.mem_of_getElem? (i := 22) rfl))) (by decide) (t := .int) (t' := .int) (by decide) (by decide)))
  have O := O.wr W2 ga
  have Z0 := Nat.le_trans Z0 (Keep.of_wr W2).1
  have KK := Keep.wr KK W2 (Or.inl (List.mem_of_getElem? (i := 0) rfl))
  have V1 := V1.other W2 (Ne.symm ned)
  have S1 := S1.wr W2
  have EX := EX.wr W2
  have FM := FM.same W2
  refine go st2 ?_
  refine go (fun _ k => by refine XS.aloadN X2.here hx rfl (hb hby d_jdk_38_method_25_code_10) rfl rfl ?_; exact k) ?_
  refine go (fun _ k => by refine XS.aloadN X2.here hx rfl (hb hby d_jdk_38_method_25_code_11) rfl rfl ?_; exact k) ?_
  refine go (fun _ k => by refine XS.aloadN X2.here hx rfl (hb hby d_jdk_38_method_25_code_12) rfl rfl ?_; exact k) ?_
  show OwnEnd _ _ _ _ _ _ _ (T2.setTop (mkF m 13 #[.val (.ref a0'), .val (.ref x1)] [(.ref a0'), (.ref x1), (.ref a0')]))
  obtain ⟨T3, X3, e3, st3⟩ := getF X2 hx hZ hown (host := "") (Or.inl (hw _ (List.mem_of_getElem? (i := 24) rfl))) Via.refl e2 FE (g := (mkF m 13 #[.val (.ref a0'), .val (.ref x1)] [(.ref a0'), (.ref x1), (.ref a0')])) rfl rfl (hb hby d_jdk_38_method_25_code_13)
  refine go st3 ?_
  refine go (fun _ k => by refine XS.aloadN X3.here hx rfl (hb hby d_jdk_38_method_25_code_16) rfl rfl ?_; exact k) ?_
  show OwnEnd _ _ _ _ _ _ _ (T3.setTop (mkF m 17 #[.val (.ref a0'), .val (.ref x1)] [(.ref a0'), (.ref da), (.ref x1), (.ref a0')]))
  obtain ⟨T4, X4, e4, st4⟩ := getF X3 hx hZ hown (host := "") (Or.inl (hw _ (List.mem_of_getElem? (i := 45) rfl))) Via.refl e3 FS (g := (mkF m 17 #[.val (.ref a0'), .val (.ref x1)] [(.ref a0'), (.ref da), (.ref x1), (.ref a0')])) rfl rfl (hb hby d_jdk_38_method_25_code_17)
  refine go st4 ?_
  show OwnEnd _ _ _ _ _ _ _ (T4.setTop (mkF m 20 #[.val (.ref a0'), .val (.ref x1)] [(.int (0 : Int32)), (.ref da), (.ref x1), (.ref a0')]))
  obtain ⟨_, T5, L5, X5, hQ5, st5⟩ := callPriv X4 hx hZ hown (hw _ (List.mem_of_getElem? (i := 47) rfl)) (hw _ (List.mem_of_getElem? (i := 48) rfl)) (hw _ (List.mem_of_getElem? (i := 49) rfl)) (hw _ (List.mem_of_getElem? (i := 1) rfl)) (hw _ (List.mem_of_getElem? (i := 2) rfl)) (hw _ (List.mem_of_getElem? (i := 51) rfl)) (by decide) (rm_ad3 l Z a0 hw [] a0' x1 da dk (1 : Int32) h2 n0 ga EA FM FE FS O SD VD EX) (W := 0) (by decide) (by decide) e4 EA (g := (mkF m 20 #[.val (.ref a0'), .val (.ref x1)] [(.int (0 : Int32)), (.ref da), (.ref x1), (.ref a0')])) rfl (by rw [hml]; rfl) (argsL := [(.ref x1), (.ref da), (.int (0 : Int32))]) (rest := []) rfl (lenOf pd__Ljava_lang_Object__Ljava_lang_Object_I_V rfl) rfl (by show 2 * 0 + _ ≤ _; exact Nat.le_of_eq rfl) (hb hby d_jdk_38_method_25_code_20) (by decide) (by decide)
  obtain ⟨rfl, Nq5, K5, EA, FS⟩ := hQ5
  have N5 := Fr.app N2 Nq5
  have O := O.keep K5 (allS ga all0)
  have Z0 := Nat.le_trans Z0 K5.1
  have KK := Keep.trans KK K5 (allS (Or.inl (List.mem_of_getElem? (i := 0) rfl)) all0)
  have V1 := V1.keep K5 (ninS (Ne.symm ned) nin0)
  have EX := EX.keep K5
  have S1 := SD.ext O.2
  refine go st5 ?_
  refine go (fun _ k => by refine XS.iconst X5.here hx rfl (hb hby d_jdk_38_method_25_code_23) ?_; exact k) ?_
  show OwnEnd _ _ _ _ _ _ _ (T5.setTop (mkF m 24 #[.val (.ref a0'), .val (.ref x1)] [(.int (1 : Int32))]))
  refine endN X5 hx hlk (t := .boolean) (by simp) Bd.returns (hb hby d_jdk_38_method_25_code_24) rfl (by decide) (by decide) ?_
  exact ⟨rfl, N5, KK, EA, FS⟩
theorem d_jdk_38_method_8_code_0 : decode jdk_38_method_8_code 0 = .ok (.aload_n 0, 1) := by decide +kernel
theorem d_jdk_38_method_8_code_1 : decode jdk_38_method_8_code 1 = .ok (.getfield 48, 3) := by decide +kernel
theorem d_jdk_38_method_8_code_4 : decode jdk_38_method_8_code 4 = .ok (.ireturn, 1) := by decide +kernel
theorem ef_rm_siz (m : MethodId) (y0 : Addr) : entryFrame m #[(.ref y0)] 1 = mkF m 0 #[.val (.ref y0)] [] := by first | (simp [entryFrame, mkF, argsToLocals, Value.category]; done) | rfl
def Q_rm_siz (Z : State) (a0' : Addr) (k : Int32) (h0 : Heap) (n0 : Nat) (v : Option Value) (h : Heap) (L : List Loc) : Prop := v = some (.int k) ∧ Fr n0 L ∧ h = h0
set_option maxRecDepth 65536 in
set_option maxHeartbeats 40000000 in
theorem rm_siz (l : Launch) (Z : State) (a0 : Array Value) (hw : ∀ d ∈ tables_1, d.before a0 Z = true) (ws : List Jvm.Cond) (a0' : Addr) (k : Int32) (h0 : Heap) (n0 : Nat) (FS : Fld Z h0 a0' "java/util/ArrayList" "size" "I" (.int k)) :
    MetFree l (⟨"java/util/ArrayList", "size", "()I"⟩ : MethodName) (head1 (Jvm.Cond.code (⟨"java/util/ArrayList", "size", "()I"⟩ : MethodName) jdk_38_method_8_code 1 (some .int) :: ws) ({ frames := 0, cells := 0, slots := 0, locals := 0 } : Room)) (fun a U => a = #[(.ref a0')] ∧ Z.Warmed39 U.vm ∧ U.heap = h0) (fun _ _ _ _ _ => True) (fun _ U o U' => ∃ v L, o = .returned v ∧ Q_rm_siz Z a0' k h0 n0 v U'.heap L ∧ FrameEnd U o U' L 0 0) := by
  refine MetFree.of_bodySF (plainFor_of_name pn_java_util_ArrayList) hisR ?_
  intro p e s m args below meth c s₁ Bd hml0 hP hK
  obtain ⟨rfl, hZ, hh⟩ := hP
  have hx := Bd.exec
  have hby := Bd.bytes
  have hlk := Bd.notSynchronized
  have hml : c.maxLocals = 1 := hml0
  have hown : s.vm.findClass "java/util/ArrayList" = some m.cls := findClass_of_methodNamed Bd.named
  have hnm := (name_of_methodNamed Bd.named Bd.method).1
  have X0 : Stand p l e ({ frames := 0, cells := 0, slots := 0, locals := 0 } : Room) s m #[(.ref a0')] below meth c s₁ [] 0 0 := Stand.of_body Bd
  have e0 : s₁.heap = h0 := by rw [← hh, Bd.state]; rfl
  have N0 := Fr.nil n0
  show OwnEnd p e below s (Q_rm_siz Z a0' k h0 n0) 0 0 (s₁.setTop (entryFrame m #[(.ref a0')] 1))
  refine go (fun t k => castTop (ef_rm_siz m a0') k) ?_
  show OwnEnd _ _ _ _ _ _ _ (s₁.setTop (mkF m 0 #[.val (.ref a0')] []))
  refine go (fun _ k => by refine XS.aloadN X0.here hx rfl (hb hby d_jdk_38_method_8_code_0) rfl rfl ?_; exact k) ?_
  show OwnEnd _ _ _ _ _ _ _ (s₁.setTop (mkF m 1 #[.val (.ref a0')] [(.ref a0')]))
  obtain ⟨T1, X1, e1, st1⟩ := getF X0 hx hZ hown (host := "") (Or.inl (hw _ (List.mem_of_getElem? (i := 45) rfl))) Via.refl e0 FS (g := (mkF m 1 #[.val (.ref a0')] [(.ref a0')])) rfl rfl (hb hby d_jdk_38_method_8_code_1)
  refine go st1 ?_
  show OwnEnd _ _ _ _ _ _ _ (T1.setTop (mkF m 4 #[.val (.ref a0')] [(.int k)]))
  refine endI X1 hx hlk Bd.returns (hb hby d_jdk_38_method_8_code_4) e1 (by decide) (by decide) ?_
  exact ⟨rfl, N0, rfl⟩
theorem d_jdk_18_method_1_code_0 : decode jdk_18_method_1_code 0 = .ok (.aload_n 0, 1) := by decide +kernel
theorem d_jdk_18_method_1_code_1 : decode jdk_18_method_1_code 1 = .ok (.invokespecial 1, 3) := by decide +kernel
theorem d_jdk_18_method_1_code_4 : decode jdk_18_method_1_code 4 = .ok (.return_, 1) := by decide +kernel
theorem pn_java_lang_Number : plainName "java/lang/Number" = true := by first | (simp [plainName, overriddenIn]; done) | decide +kernel
theorem ef_rm_num_J (m : MethodId) (y0 : Addr) : entryFrame m #[(.ref y0)] 1 = mkF m 0 #[.val (.ref y0)] [] := by first | (simp [entryFrame, mkF, argsToLocals, Value.category]; done) | rfl
def Q_rm_num_J (Z : State) (a0' : Addr) (h0 : Heap) (n0 : Nat) (v : Option Value) (h : Heap) (L : List Loc) : Prop := v = none ∧ Fr n0 L ∧ h = h0
set_option maxRecDepth 65536 in
set_option maxHeartbeats 40000000 in
theorem rm_num_J (l : Launch) (Z : State) (a0 : Array Value) (hw : ∀ d ∈ tables_1, d.before a0 Z = true) (ws : List Jvm.Cond) (a0' : Addr) (h0 : Heap) (n0 : Nat) :
    MetFree l (⟨"java/lang/Number", "<init>", "()V"⟩ : MethodName) (head1 (Jvm.Cond.code (⟨"java/lang/Number", "<init>", "()V"⟩ : MethodName) jdk_18_method_1_code 1 none :: ws) ({ frames := 1, cells := 0, slots := 0, locals := 12 } : Room)) (fun a U => a = #[(.ref a0')] ∧ Z.Warmed39 U.vm ∧ U.heap = h0) (fun _ _ _ _ _ => True) (fun _ U o U' => ∃ v L, o = .returned v ∧ Q_rm_num_J Z a0' h0 n0 v U'.heap L ∧ FrameEnd U o U' L 0 0) := by
  refine MetFree.of_bodySF (plainFor_of_name pn_java_lang_Number) hisR ?_
  intro p e s m args below meth c s₁ Bd hml0 hP hK
  obtain ⟨rfl, hZ, hh⟩ := hP
  have hx := Bd.exec
  have hby := Bd.bytes
  have hlk := Bd.notSynchronized
  have hml : c.maxLocals = 1 := hml0
  have hown : s.vm.findClass "java/lang/Number" = some m.cls := findClass_of_methodNamed Bd.named
  have hnm := (name_of_methodNamed Bd.named Bd.method).1
  have X0 : Stand p l e ({ frames := 1, cells := 0, slots := 0, locals := 12 } : Room) s m #[(.ref a0')] below meth c s₁ [] 0 0 := Stand.of_body Bd
  have e0 : s₁.heap = h0 := by rw [← hh, Bd.state]; rfl
  have N0 := Fr.nil n0
  show OwnEnd p e below s (Q_rm_num_J Z a0' h0 n0) 0 0 (s₁.setTop (entryFrame m #[(.ref a0')] 1))
  refine go (fun t k => castTop (ef_rm_num_J m a0') k) ?_
  show OwnEnd _ _ _ _ _ _ _ (s₁.setTop (mkF m 0 #[.val (.ref a0')] []))
  refine go (fun _ k => by refine XS.aloadN X0.here hx rfl (hb hby d_jdk_18_method_1_code_0) rfl rfl ?_; exact k) ?_
  show OwnEnd _ _ _ _ _ _ _ (s₁.setTop (mkF m 1 #[.val (.ref a0')] [(.ref a0')]))
  obtain ⟨T1, X1, e1, st1⟩ := initO X0 hx hZ hown (hw _ (List.mem_of_getElem? (i := 128) rfl)) (hw _ (List.mem_of_getElem? (i := 19) rfl)) (hw _ (List.mem_of_getElem? (i := 20) rfl)) e0 (g := (mkF m 1 #[.val (.ref a0')] [(.ref a0')])) rfl (by rw [hml]; rfl) rfl (hb hby d_jdk_18_method_1_code_1) (by decide) (W := 0) (by show 2 * 0 + _ ≤ _; exact Nat.le_of_eq rfl) (by decide)
  refine go st1 ?_
  show OwnEnd _ _ _ _ _ _ _ (T1.setTop (mkF m 4 #[.val (.ref a0')] []))
  refine endV X1 hx hlk Bd.returns (hb hby d_jdk_18_method_1_code_4) e1 (by decide) (by decide) ?_
  exact ⟨rfl, N0, rfl⟩
theorem d_jdk_35_method_26_code_0 : decode jdk_35_method_26_code 0 = .ok (.aload_n 0, 1) := by decide +kernel
theorem d_jdk_35_method_26_code_1 : decode jdk_35_method_26_code 1 = .ok (.invokespecial 270, 3) := by decide +kernel
theorem d_jdk_35_method_26_code_4 : decode jdk_35_method_26_code 4 = .ok (.aload_n 0, 1) := by decide +kernel
theorem d_jdk_35_method_26_code_5 : decode jdk_35_method_26_code 5 = .ok (.lload_n 1, 1) := by decide +kernel
theorem d_jdk_35_method_26_code_6 : decode jdk_35_method_26_code 6 = .ok (.putfield 273, 3) := by decide +kernel
theorem d_jdk_35_method_26_code_9 : decode jdk_35_method_26_code 9 = .ok (.return_, 1) := by decide +kernel
theorem pn_java_lang_Long : plainName "java/lang/Long" = true := by first | (simp [plainName, overriddenIn]; done) | decide +kernel
theorem ef_rm_box_ini (m : MethodId) (y0 : Addr) (y1 : Int64) : entryFrame m #[(.ref y0), (.long y1)] 3 = mkF m 0 #[.val (.ref y0), .val (.long y1), .second] [] := by first | (simp [entryFrame, mkF, argsToLocals, Value.category]; done) | rfl
def Q_rm_box_ini (Z : State) (a0' : Addr) (q1 : Int64) (h0 : Heap) (n0 : Nat) (v : Option Value) (h : Heap) (L : List Loc) : Prop := v = none ∧ Fr n0 L ∧ Keep h0 h [a0'] ∧ Exa Z h a0' "java/lang/Long" ∧ Fld Z h a0' "java/lang/Long" "value" "J" (.long q1)
set_option maxRecDepth 65536 in
set_option maxHeartbeats 40000000 in
theorem rm_box_ini (l : Launch) (Z : State) (a0 : Array Value) (hw : ∀ d ∈ tables_1, d.before a0 Z = true) (ws : List Jvm.Cond) (a0' : Addr) (q1 : Int64) (h0 : Heap) (n0 : Nat) (ga : n0 ≤ a0') (EA : Exa Z h0 a0' "java/lang/Long") (F_value : Fld Z h0 a0' "java/lang/Long" "value" "J" (.long (0 : Int64))) :
    MetFree l (⟨"java/lang/Long", "<init>", "(J)V"⟩ : MethodName) (head1 (Jvm.Cond.code (⟨"java/lang/Long", "<init>", "(J)V"⟩ : MethodName) jdk_35_method_26_code 3 none :: ws) ({ frames := 2, cells := 0, slots := 0, locals := 24 } : Room)) (fun a U => a = #[(.ref a0'), (.long q1)] ∧ Z.Warmed39 U.vm ∧ U.heap = h0) (fun _ _ _ _ _ => True) (fun _ U o U' => ∃ v L, o = .returned v ∧ Q_rm_box_ini Z a0' q1 h0 n0 v U'.heap L ∧ FrameEnd U o U' L 0 0) := by
  refine MetFree.of_bodySF (plainFor_of_name pn_java_lang_Long) hisR ?_
  intro p e s m args below meth c s₁ Bd hml0 hP hK
  obtain ⟨rfl, hZ, hh⟩ := hP
  have hx := Bd.exec
  have hby := Bd.bytes
  have hlk := Bd.notSynchronized
  have hml : c.maxLocals = 3 := hml0
  have hown : s.vm.findClass "java/lang/Long" = some m.cls := findClass_of_methodNamed Bd.named
  have hnm := (name_of_methodNamed Bd.named Bd.method).1
  have X0 : Stand p l e ({ frames := 2, cells := 0, slots := 0, locals := 24 } : Room) s m #[(.ref a0'), (.long q1)] below meth c s₁ [] 0 0 := Stand.of_body Bd
  have e0 : s₁.heap = h0 := by rw [← hh, Bd.state]; rfl
  have N0 := Fr.nil n0
  show OwnEnd p e below s (Q_rm_box_ini Z a0' q1 h0 n0) 0 0 (s₁.setTop (entryFrame m #[(.ref a0'), (.long q1)] 3))
  refine go (fun t k => castTop (ef_rm_box_ini m a0' q1) k) ?_
  have KK := Keep.refl h0 [a0']
  show OwnEnd _ _ _ _ _ _ _ (s₁.setTop (mkF m 0 #[.val (.ref a0'), .val (.long q1), .second] []))
  refine go (fun _ k => by refine XS.aloadN X0.here hx rfl (hb hby d_jdk_35_method_26_code_0) rfl rfl ?_; exact k) ?_
  show OwnEnd _ _ _ _ _ _ _ (s₁.setTop (mkF m 1 #[.val (.ref a0'), .val (.long q1), .second] [(.ref a0')]))
  obtain ⟨_, T1, L1, X1, hQ1, st1⟩ := callInit X0 hx hZ hown rfl (hw _ (List.mem_of_getElem? (i := 122) rfl)) (hw _ (List.mem_of_getElem? (i := 123) rfl)) (hw _ (List.mem_of_getElem? (i := 126) rfl)) (hw _ (List.mem_of_getElem? (i := 127) rfl)) (by decide) (rm_num_J l Z a0 hw [] a0' h0 n0 ) (W := 0) (by decide) (by decide) e0 (g := (mkF m 1 #[.val (.ref a0'), .val (.long q1), .second] [(.ref a0')])) rfl (by rw [hml]; rfl) (argsL := []) (rest := []) rfl (lenOf pd___V rfl) rfl (by show 2 * 0 + _ ≤ _; exact Nat.le_of_eq rfl) (hb hby d_jdk_35_method_26_code_1) (by decide) (by decide)
  obtain ⟨rfl, Nq1, eq1⟩ := hQ1
  have N1 := Fr.app N0 Nq1
  refine go st1 ?_
  refine go (fun _ k => by refine XS.aloadN X1.here hx rfl (hb hby d_jdk_35_method_26_code_4) rfl rfl ?_; exact k) ?_
  refine go (fun _ k => by refine XS.lloadN X1.here hx rfl (hb hby d_jdk_35_method_26_code_5) rfl ?_; exact k) ?_
  show OwnEnd _ _ _ _ _ _ _ (T1.setTop (mkF m 6 #[.val (.ref a0'), .val (.long q1), .second] [(.long q1), (.ref a0')]))
  obtain ⟨T2, h2, X2, e2, W2, st2⟩ := putF X1 hx hZ hown (host := "") (Or.inl (hw _ (List.mem_of_getElem? (i := 129) rfl))) Via.refl eq1 F_value EA (Or.inr ⟨(hw _ (List.mem_of_getElem? (i := 130) rfl)), rfl, hnm⟩) (hw _ (List.mem_of_getElem? (i := 117) rfl)) (ty := .long) (by decide) rfl rfl (g := (mkF m 6 #[.val (.ref a0'), .val (.long q1), .second] [(.long q1), (.ref a0')])) rfl rfl (hb hby d_jdk_35_method_26_code_6)
  have N2 := Fr.snoc X2 N1 ga
  have EA := EA.wr W2
  have KK := Keep.wr KK W2 (Or.inl (List.mem_of_getElem? (i := 0) rfl))
  have F_value := F_value.same W2
  refine go st2 ?_
  show OwnEnd _ _ _ _ _ _ _ (T2.setTop (mkF m 9 #[.val (.ref a0'), .val (.long q1), .second] []))
  refine endV X2 hx hlk Bd.returns (hb hby d_jdk_35_method_26_code_9) e2 (by decide) (by decide) ?_
  exact ⟨rfl, N2, KK, EA, F_value⟩
theorem d_jdk_35_method_24_code_0 : decode jdk_35_method_24_code 0 = .ok (.sipush 128, 3) := by decide +kernel
theorem d_jdk_35_method_24_code_3 : decode jdk_35_method_24_code 3 = .ok (.istore_n 2, 1) := by decide +kernel
theorem d_jdk_35_method_24_code_4 : decode jdk_35_method_24_code 4 = .ok (.lload_n 0, 1) := by decide +kernel
theorem d_jdk_35_method_24_code_5 : decode jdk_35_method_24_code 5 = .ok (.ldc2_w 230, 3) := by decide +kernel
theorem d_jdk_35_method_24_code_8 : decode jdk_35_method_24_code 8 = .ok (.lcmp, 1) := by decide +kernel
theorem d_jdk_35_method_24_code_9 : decode jdk_35_method_24_code 9 = .ok (.ifCond .lt 22, 3) := by decide +kernel
theorem d_jdk_35_method_24_code_31 : decode jdk_35_method_24_code 31 = .ok (.new 1, 3) := by decide +kernel
theorem d_jdk_35_method_24_code_34 : decode jdk_35_method_24_code 34 = .ok (.dup, 1) := by decide +kernel
theorem d_jdk_35_method_24_code_35 : decode jdk_35_method_24_code 35 = .ok (.lload_n 0, 1) := by decide +kernel
theorem d_jdk_35_method_24_code_36 : decode jdk_35_method_24_code 36 = .ok (.invokespecial 240, 3) := by decide +kernel
theorem pd__J_V : parseMethodDescriptor "(J)V" = some ⟨[.long], none⟩ := by decide +kernel
theorem d_jdk_35_method_24_code_39 : decode jdk_35_method_24_code 39 = .ok (.areturn, 1) := by decide +kernel
theorem d_jdk_35_method_24_code_12 : decode jdk_35_method_24_code 12 = .ok (.lload_n 0, 1) := by decide +kernel
theorem d_jdk_35_method_24_code_13 : decode jdk_35_method_24_code 13 = .ok (.ldc2_w 232, 3) := by decide +kernel
theorem d_jdk_35_method_24_code_16 : decode jdk_35_method_24_code 16 = .ok (.lcmp, 1) := by decide +kernel
theorem d_jdk_35_method_24_code_17 : decode jdk_35_method_24_code 17 = .ok (.ifCond .gt 14, 3) := by decide +kernel
theorem d_jdk_35_method_24_code_20 : decode jdk_35_method_24_code 20 = .ok (.getstatic 234, 3) := by decide +kernel
theorem d_jdk_35_method_24_code_23 : decode jdk_35_method_24_code 23 = .ok (.lload_n 0, 1) := by decide +kernel
theorem d_jdk_35_method_24_code_24 : decode jdk_35_method_24_code 24 = .ok (.l2i, 1) := by decide +kernel
theorem d_jdk_35_method_24_code_25 : decode jdk_35_method_24_code 25 = .ok (.sipush 128, 3) := by decide +kernel
theorem d_jdk_35_method_24_code_28 : decode jdk_35_method_24_code 28 = .ok (.iadd, 1) := by decide +kernel
theorem d_jdk_35_method_24_code_29 : decode jdk_35_method_24_code 29 = .ok (.aaload, 1) := by decide +kernel
theorem d_jdk_35_method_24_code_30 : decode jdk_35_method_24_code 30 = .ok (.areturn, 1) := by decide +kernel
theorem ef_rm_box (m : MethodId) (y0 : Int64) : entryFrame m #[(.long y0)] 3 = mkF m 0 #[.val (.long y0), .second, .unset] [] := by first | (simp [entryFrame, mkF, argsToLocals, Value.category]; done) | rfl
def Q_rm_box (Z : State) (q0 : Int64) (ca : Addr) (cc : Cell) (h0 : Heap) (n0 : Nat) (v : Option Value) (h : Heap) (L : List Loc) : Prop := ∃ b, v = some (.ref b) ∧ Fr n0 L ∧ Keep h0 h [] ∧ Exa Z h b "java/lang/Long"
set_option maxRecDepth 65536 in
set_option maxHeartbeats 40000000 in
theorem rm_box (l : Launch) (Z : State) (a0 : Array Value) (hw : ∀ d ∈ tables_1, d.before a0 Z = true) (ws : List Jvm.Cond) (q0 : Int64) (ca : Addr) (cc : Cell) (h0 : Heap) (n0 : Nat) (O : Old Z n0 h0) (SC : Sta Z Z.heap "java/lang/Long$LongCache" "cache" "[Ljava/lang/Long;" (.ref ca)) (AC : Arr Z Z.heap ca cc (.object "java/lang/Long")) (NC : cc.slots.size = 256) (EC : ∀ i, i < 256 → ∃ b, cc.slots[i]? = some (.ref b) ∧ Exa Z Z.heap b "java/lang/Long") :
    MetFree l (⟨"java/lang/Long", "valueOf", "(J)Ljava/lang/Long;"⟩ : MethodName) (head1 (Jvm.Cond.code (⟨"java/lang/Long", "valueOf", "(J)Ljava/lang/Long;"⟩ : MethodName) jdk_35_method_24_code 3 (some (.object "java/lang/Long")) :: ws) ({ frames := 3, cells := 1, slots := 1, locals := 39 } : Room)) (fun a U => a = #[(.long q0)] ∧ Z.Warmed39 U.vm ∧ U.heap = h0) (fun _ _ _ _ _ => True) (fun _ U o U' => ∃ v L, o = .returned v ∧ Q_rm_box Z q0 ca cc h0 n0 v U'.heap L ∧ FrameEnd U o U' L 1 1) := by
  refine MetFree.of_bodySF (plainFor_of_name pn_java_lang_Long) hisR ?_
  intro p e s m args below meth c s₁ Bd hml0 hP hK
  obtain ⟨rfl, hZ, hh⟩ := hP
  have hx := Bd.exec
  have hby := Bd.bytes
  have hlk := Bd.notSynchronized
  have hml : c.maxLocals = 3 := hml0
  have hown : s.vm.findClass "java/lang/Long" = some m.cls := findClass_of_methodNamed Bd.named
  have hnm := (name_of_methodNamed Bd.named Bd.method).1
  have X0 : Stand p l e ({ frames := 3, cells := 1, slots := 1, locals := 39 } : Room) s m #[(.long q0)] below meth c s₁ [] 0 0 := Stand.of_body Bd
  have e0 : s₁.heap = h0 := by rw [← hh, Bd.state]; rfl
  have N0 := Fr.nil n0
  show OwnEnd p e below s (Q_rm_box Z q0 ca cc h0 n0) 1 1 (s₁.setTop (entryFrame m #[(.long q0)] 3))
  refine go (fun t k => castTop (ef_rm_box m q0) k) ?_
  have S1 := SC.ext O.2
  have A1 := AC.ext O.2
  have Z0 : n0 ≤ h0.size := by rw [← O.1]; exact O.2.1
  have KK := Keep.refl h0 []
  show OwnEnd _ _ _ _ _ _ _ (s₁.setTop (mkF m 0 #[.val (.long q0), .second, .unset] []))
  refine go (fun _ k => by refine XS.sipush X0.here hx rfl (hb hby d_jdk_35_method_24_code_0) ?_; exact k) ?_
  refine go (fun _ k => by refine XS.istoreN X0.here hx rfl (hb hby d_jdk_35_method_24_code_3) rfl (l' := #[.val (.long q0), .second, .val (.int (128 : Int32))]) rfl ?_; exact k) ?_
  refine go (fun _ k => by refine XS.lloadN X0.here hx rfl (hb hby d_jdk_35_method_24_code_4) rfl ?_; exact k) ?_
  show OwnEnd _ _ _ _ _ _ _ (s₁.setTop (mkF m 5 #[.val (.long q0), .second, .val (.int (128 : Int32))] [(.long q0)]))
  refine go (X0.ldc2Long hx hown (mvT hZ (hw _ (List.mem_of_getElem? (i := 30) rfl))) (g := (mkF m 5 #[.val (.long q0), .second, .val (.int (128 : Int32))] [(.long q0)])) rfl (hb hby d_jdk_35_method_24_code_5)) ?_
  refine go (fun _ k => by refine XS.lcmp X0.here hx rfl (hb hby d_jdk_35_method_24_code_8) rfl ?_; exact k) ?_
  show OwnEnd _ _ _ _ _ _ _ (s₁.setTop (mkF m 9 #[.val (.long q0), .second, .val (.int (128 : Int32))] [(.int (lcmpW q0 (-128 : Int64)))]))
  by_cases hc9_1 : q0 < (-128 : Int64)
  · refine go (fun _ k => by refine XS.ifYes X0.here hx rfl (pc0 := 9) (pc' := 31) rfl (hb hby d_jdk_35_method_24_code_9) rfl ((if0 _ _).trans (tlt ((lw_lt _ _).mpr hc9_1)).1) (by decide) (by decide) ?_; exact k) ?_
    show OwnEnd _ _ _ _ _ _ _ (s₁.setTop (mkF m 31 #[.val (.long q0), .second, .val (.int (128 : Int32))] []))
    obtain ⟨T2, h2, X2, e2, E2, A2, D2, -, st2⟩ := newO X0 hx hZ hown (hw _ (List.mem_of_getElem? (i := 116) rfl)) (hw _ (List.mem_of_getElem? (i := 117) rfl)) (hw _ (List.mem_of_getElem? (i := 28) rfl)) e0 (g := (mkF m 31 #[.val (.long q0), .second, .val (.int (128 : Int32))] [])) rfl (hb hby d_jdk_35_method_24_code_31) (by decide) (by decide)
    obtain ⟨b2, g2⟩ : ∃ z, z = h0.size := ⟨_, rfl⟩
    rw [← g2] at A2 D2 st2
    have g_b2 : n0 ≤ b2 := Nat.le_trans Z0 (Nat.le_of_eq g2.symm)
    have sz_b2 : h0.size ≤ b2 := Nat.le_trans KK.1 (Nat.le_of_eq g2.symm)
    have S1 := S1.ext E2
    have Z0 := Nat.le_trans Z0 E2.1
    have KK := Keep.ext KK E2
    have F_value_b2 : Fld Z h2 b2 "java/lang/Long" "value" "J" (.long (0 : Int64)) := D2 (Or.inr (hw _ (List.mem_of_getElem? (i := 130) rfl))) (ty := .long) (by decide)
    have E_b2 := A2
    refine go st2 ?_
    refine go (fun _ k => by refine XS.dup X2.here hx rfl (hb hby d_jdk_35_method_24_code_34) rfl rfl ?_; exact k) ?_
    refine go (fun _ k => by refine XS.lloadN X2.here hx rfl (hb hby d_jdk_35_method_24_code_35) rfl ?_; exact k) ?_
    show OwnEnd _ _ _ _ _ _ _ (T2.setTop (mkF m 36 #[.val (.long q0), .second, .val (.int (128 : Int32))] [(.long q0), (.ref b2), (.ref b2)]))
    obtain ⟨_, T3, L3, X3, hQ3, st3⟩ := callInit X2 hx hZ hown rfl (hw _ (List.mem_of_getElem? (i := 118) rfl)) (hw _ (List.mem_of_getElem? (i := 119) rfl)) (hw _ (List.mem_of_getElem? (i := 28) rfl)) (hw _ (List.mem_of_getElem? (i := 121) rfl)) (by decide) (rm_box_ini l Z a0 hw [] b2 q0 h2 n0 g_b2 E_b2 F_value_b2) (W := 1) (by decide) (by decide) e2 (g := (mkF m 36 #[.val (.long q0), .second, .val (.int (128 : Int32))] [(.long q0), (.ref b2), (.ref b2)])) rfl (by rw [hml]; rfl) (argsL := [(.long q0)]) (rest := [(.ref b2)]) rfl (lenOf pd__J_V rfl) rfl (by show 2 * 0 + _ ≤ _; exact Nat.le_of_eq rfl) (hb hby d_jdk_35_method_24_code_36) (by decide) (by decide)
    obtain ⟨rfl, Nq3, K3, E_b2, F_value_b2⟩ := hQ3
    have N3 := Fr.app N0 Nq3
    have Z0 := Nat.le_trans Z0 K3.1
    have KK := Keep.trans KK K3 (allS (Or.inr sz_b2) all0)
    refine go st3 ?_
    show OwnEnd _ _ _ _ _ _ _ (T3.setTop (mkF m 39 #[.val (.long q0), .second, .val (.int (128 : Int32))] [(.ref b2)]))
    refine endA X3 hx hlk Bd.returns rfl rfl (hb hby d_jdk_35_method_24_code_39) rfl (by decide) (by decide) ?_
    exact ⟨b2, rfl, N3, KK, E_b2⟩
  · refine go (fun _ k => by refine XS.ifNo X0.here hx rfl (hb hby d_jdk_35_method_24_code_9) rfl ((if0 _ _).trans (flt (fun q => hc9_1 ((lw_lt _ _).mp q))).1) ?_; exact k) ?_
    show OwnEnd _ _ _ _ _ _ _ (s₁.setTop (mkF m 12 #[.val (.long q0), .second, .val (.int (128 : Int32))] []))
    refine go (fun _ k => by refine XS.lloadN X0.here hx rfl (hb hby d_jdk_35_method_24_code_12) rfl ?_; exact k) ?_
    show OwnEnd _ _ _ _ _ _ _ (s₁.setTop (mkF m 13 #[.val (.long q0), .second, .val (.int (128 : Int32))] [(.long q0)]))
    refine go (X0.ldc2Long hx hown (mvT hZ (hw _ (List.mem_of_getElem? (i := 31) rfl))) (g := (mkF m 13 #[.val (.long q0), .second, .val (.int (128 : Int32))] [(.long q0)])) rfl (hb hby d_jdk_35_method_24_code_13)) ?_
    refine go (fun _ k => by refine XS.lcmp X0.here hx rfl (hb hby d_jdk_35_method_24_code_16) rfl ?_; exact k) ?_
    show OwnEnd _ _ _ _ _ _ _ (s₁.setTop (mkF m 17 #[.val (.long q0), .second, .val (.int (128 : Int32))] [(.int (lcmpW q0 (127 : Int64)))]))
    by_cases hc17_4 : (127 : Int64) < q0
    · refine go (fun _ k => by refine XS.ifYes X0.here hx rfl (pc0 := 17) (pc' := 31) rfl (hb hby d_jdk_35_method_24_code_17) rfl ((if0 _ _).trans (tlt ((lw_gt _ _).mpr hc17_4)).2.2.1) (by decide) (by decide) ?_; exact k) ?_
      show OwnEnd _ _ _ _ _ _ _ (s₁.setTop (mkF m 31 #[.val (.long q0), .second, .val (.int (128 : Int32))] []))
      obtain ⟨T5, h5, X5, e5, E5, A5, D5, -, st5⟩ := newO X0 hx hZ hown (hw _ (List.mem_of_getElem? (i := 116) rfl)) (hw _ (List.mem_of_getElem? (i := 117) rfl)) (hw _ (List.mem_of_getElem? (i := 28) rfl)) e0 (g := (mkF m 31 #[.val (.long q0), .second, .val (.int (128 : Int32))] [])) rfl (hb hby d_jdk_35_method_24_code_31) (by decide) (by decide)
      obtain ⟨b5, g5⟩ : ∃ z, z = h0.size := ⟨_, rfl⟩
      rw [← g5] at A5 D5 st5
      have g_b5 : n0 ≤ b5 := Nat.le_trans Z0 (Nat.le_of_eq g5.symm)
      have sz_b5 : h0.size ≤ b5 := Nat.le_trans KK.1 (Nat.le_of_eq g5.symm)
      have S1 := S1.ext E5
      have Z0 := Nat.le_trans Z0 E5.1
      have KK := Keep.ext KK E5
      have F_value_b5 : Fld Z h5 b5 "java/lang/Long" "value" "J" (.long (0 : Int64)) := D5 (Or.inr (hw _ (List.mem_of_getElem? (i := 130) rfl))) (ty := .long) (by decide)
      have E_b5 := A5
      refine go st5 ?_
      refine go (fun _ k => by refine XS.dup X5.here hx rfl (hb hby d_jdk_35_method_24_code_34) rfl rfl ?_; exact k) ?_
      refine go (fun _ k => by refine XS.lloadN X5.here hx rfl (hb hby d_jdk_35_method_24_code_35) rfl ?_; exact k) ?_
      show OwnEnd _ _ _ _ _ _ _ (T5.setTop (mkF m 36 #[.val (.long q0), .second, .val (.int (128 : Int32))] [(.long q0), (.ref b5), (.ref b5)]))
      obtain ⟨_, T6, L6, X6, hQ6, st6⟩ := callInit X5 hx hZ hown rfl (hw _ (List.mem_of_getElem? (i := 118) rfl)) (hw _ (List.mem_of_getElem? (i := 119) rfl)) (hw _ (List.mem_of_getElem? (i := 28) rfl)) (hw _ (List.mem_of_getElem? (i := 121) rfl)) (by decide) (rm_box_ini l Z a0 hw [] b5 q0 h5 n0 g_b5 E_b5 F_value_b5) (W := 1) (by decide) (by decide) e5 (g := (mkF m 36 #[.val (.long q0), .second, .val (.int (128 : Int32))] [(.long q0), (.ref b5), (.ref b5)])) rfl (by rw [hml]; rfl) (argsL := [(.long q0)]) (rest := [(.ref b5)]) rfl (lenOf pd__J_V rfl) rfl (by show 2 * 0 + _ ≤ _; exact Nat.le_of_eq rfl) (hb hby d_jdk_35_method_24_code_36) (by decide) (by decide)
      obtain ⟨rfl, Nq6, K6, E_b5, F_value_b5⟩ := hQ6
      have N6 := Fr.app N0 Nq6
      have Z0 := Nat.le_trans Z0 K6.1
      have KK := Keep.trans KK K6 (allS (Or.inr sz_b5) all0)
      refine go st6 ?_
      show OwnEnd _ _ _ _ _ _ _ (T6.setTop (mkF m 39 #[.val (.long q0), .second, .val (.int (128 : Int32))] [(.ref b5)]))
      refine endA X6 hx hlk Bd.returns rfl rfl (hb hby d_jdk_35_method_24_code_39) rfl (by decide) (by decide) ?_
      exact ⟨b5, rfl, N6, KK, E_b5⟩
    · refine go (fun _ k => by refine XS.ifNo X0.here hx rfl (hb hby d_jdk_35_method_24_code_17) rfl ((if0 _ _).trans (flt (fun q => hc17_4 ((lw_gt _ _).mp q))).2.2.1) ?_; exact k) ?_
      show OwnEnd _ _ _ _ _ _ _ (s₁.setTop (mkF m 20 #[.val (.long q0), .second, .val (.int (128 : Int32))] []))
      obtain ⟨T7, X7, e7, st7⟩ := getS2 X0 hx hZ hown (host := "") (Or.inl (hw _ (List.mem_of_getElem? (i := 32) rfl))) Via.refl e0 S1 (g := (mkF m 20 #[.val (.long q0), .second, .val (.int (128 : Int32))] [])) rfl (hb hby d_jdk_35_method_24_code_20)
      refine go st7 ?_
      refine go (fun _ k => by refine XS.lloadN X7.here hx rfl (hb hby d_jdk_35_method_24_code_23) rfl ?_; exact k) ?_
      refine go (fun _ k => by refine XS.l2i X7.here hx rfl (hb hby d_jdk_35_method_24_code_24) rfl ?_; exact k) ?_
      refine go (fun _ k => by refine XS.sipush X7.here hx rfl (hb hby d_jdk_35_method_24_code_25) ?_; exact k) ?_
      show OwnEnd _ _ _ _ _ _ _ (T7.setTop (mkF m 28 #[.val (.long q0), .second, .val (.int (128 : Int32))] [(.int (128 : Int32)), (.int (q0.toInt32)), (.ref ca)]))
      refine go (fun _ k => by refine XS.iadd X7.here hx rfl (hb hby d_jdk_35_method_24_code_28) rfl ?_; exact k) ?_
      show OwnEnd _ _ _ _ _ _ _ (T7.setTop (mkF m 29 #[.val (.long q0), .second, .val (.int (128 : Int32))] [(.int ((q0.toInt32) + (128 : Int32))), (.ref ca)]))
      obtain ⟨hj1, hj2⟩ := own_bxL q0 hc9_1 hc17_4
      obtain ⟨bb, hat, EB⟩ := EC _ hj2
      refine go (X7.aaload hx (j := ((q0.toInt32) + (128 : Int32))) (v := (.ref bb)) (by rw [e7]; exact A1.1) (State.isArrayOf_alike hZ.alike A1.2.1) rfl A1.2.2 (fun z => z.elim hj1 fun z => Nat.not_le_of_lt hj2 (NC ▸ z)) hat (g := (mkF m 29 #[.val (.long q0), .second, .val (.int (128 : Int32))] [(.int ((q0.toInt32) + (128 : Int32))), (.ref ca)])) rfl rfl (hb hby d_jdk_35_method_24_code_29)) ?_
      show OwnEnd _ _ _ _ _ _ _ (T7.setTop (mkF m 30 #[.val (.long q0), .second, .val (.int (128 : Int32))] [(.ref bb)]))
      refine endA X7 hx hlk Bd.returns rfl rfl (hb hby d_jdk_35_method_24_code_30) e7 (by decide) (by decide) ?_
      exact ⟨bb, rfl, N0, KK, EB.ext O.2⟩
theorem d_method_2_code_0 : decode method_2_code 0 = .ok (.iload_n 0, 1) := by decide +kernel
theorem d_method_2_code_1 : decode method_2_code 1 = .ok (.iconst 3, 1) := by decide +kernel
theorem d_method_2_code_2 : decode method_2_code 2 = .ok (.iand, 1) := by decide +kernel
theorem d_method_2_code_3 : decode method_2_code 3 = .ok (.istore_n 1, 1) := by decide +kernel
theorem d_method_2_code_4 : decode method_2_code 4 = .ok (.iload_n 1, 1) := by decide +kernel
theorem d_method_2_code_5 : decode method_2_code 5 = .ok (.ifCond .ne 7, 3) := by decide +kernel
theorem d_method_2_code_8 : decode method_2_code 8 = .ok (.getstatic 7, 3) := by decide +kernel
theorem d_method_2_code_11 : decode method_2_code 11 = .ok (.areturn, 1) := by decide +kernel
theorem d_method_2_code_12 : decode method_2_code 12 = .ok (.iload_n 1, 1) := by decide +kernel
theorem d_method_2_code_13 : decode method_2_code 13 = .ok (.iconst 1, 1) := by decide +kernel
theorem d_method_2_code_14 : decode method_2_code 14 = .ok (.if_icmp .ne 7, 3) := by decide +kernel
theorem d_method_2_code_17 : decode method_2_code 17 = .ok (.getstatic 13, 3) := by decide +kernel
theorem d_method_2_code_20 : decode method_2_code 20 = .ok (.areturn, 1) := by decide +kernel
theorem d_method_2_code_21 : decode method_2_code 21 = .ok (.iload_n 1, 1) := by decide +kernel
theorem d_method_2_code_22 : decode method_2_code 22 = .ok (.iconst 2, 1) := by decide +kernel
theorem d_method_2_code_23 : decode method_2_code 23 = .ok (.if_icmp .ne 7, 3) := by decide +kernel
theorem d_method_2_code_26 : decode method_2_code 26 = .ok (.getstatic 16, 3) := by decide +kernel
theorem d_method_2_code_29 : decode method_2_code 29 = .ok (.areturn, 1) := by decide +kernel
theorem d_method_2_code_30 : decode method_2_code 30 = .ok (.getstatic 19, 3) := by decide +kernel
theorem d_method_2_code_33 : decode method_2_code 33 = .ok (.areturn, 1) := by decide +kernel
theorem pn_com_example_waitsfor_waitsfor_WaitEqualsPinLaw : plainName "com/example/waitsfor/waitsfor/WaitEqualsPinLaw" = true := by first | (simp [plainName, overriddenIn]; done) | decide +kernel
theorem ef_rm_mode (m : MethodId) (y0 : Int32) : entryFrame m #[(.int y0)] 2 = mkF m 0 #[.val (.int y0), .unset] [] := by first | (simp [entryFrame, mkF, argsToLocals, Value.category]; done) | rfl
def Q_rm_mode (Z : State) (p0 : Int32) (w0 : Addr) (w1 : Addr) (w2 : Addr) (w3 : Addr) (h0 : Heap) (n0 : Nat) (v : Option Value) (h : Heap) (L : List Loc) : Prop := ∃ w, v = some (.ref w) ∧ Fr n0 L ∧ h = h0
set_option maxRecDepth 65536 in
set_option maxHeartbeats 40000000 in
theorem rm_mode (l : Launch) (Z : State) (a0 : Array Value) (hw : ∀ d ∈ tables_1, d.before a0 Z = true) (ws : List Jvm.Cond) (p0 : Int32) (w0 : Addr) (w1 : Addr) (w2 : Addr) (w3 : Addr) (h0 : Heap) (n0 : Nat) (S0 : Sta Z h0 "com/example/waitsfor/waitsfor/RowLockMode" "FOR_KEY_SHARE" "Lcom/example/waitsfor/waitsfor/RowLockMode;" (.ref w0)) (S1 : Sta Z h0 "com/example/waitsfor/waitsfor/RowLockMode" "FOR_SHARE" "Lcom/example/waitsfor/waitsfor/RowLockMode;" (.ref w1)) (S2 : Sta Z h0 "com/example/waitsfor/waitsfor/RowLockMode" "FOR_NO_KEY_UPDATE" "Lcom/example/waitsfor/waitsfor/RowLockMode;" (.ref w2)) (S3 : Sta Z h0 "com/example/waitsfor/waitsfor/RowLockMode" "FOR_UPDATE" "Lcom/example/waitsfor/waitsfor/RowLockMode;" (.ref w3)) :
    MetFree l (⟨"com/example/waitsfor/waitsfor/WaitEqualsPinLaw", "mode", "(I)Lcom/example/waitsfor/waitsfor/RowLockMode;"⟩ : MethodName) (head1 (Jvm.Cond.code (⟨"com/example/waitsfor/waitsfor/WaitEqualsPinLaw", "mode", "(I)Lcom/example/waitsfor/waitsfor/RowLockMode;"⟩ : MethodName) method_2_code 2 (some (.object "com/example/waitsfor/waitsfor/RowLockMode")) :: ws) ({ frames := 0, cells := 0, slots := 0, locals := 0 } : Room)) (fun a U => a = #[(.int p0)] ∧ Z.Warmed39 U.vm ∧ U.heap = h0) (fun _ _ _ _ _ => True) (fun _ U o U' => ∃ v L, o = .returned v ∧ Q_rm_mode Z p0 w0 w1 w2 w3 h0 n0 v U'.heap L ∧ FrameEnd U o U' L 0 0) := by
  refine MetFree.of_bodySF (plainFor_of_name pn_com_example_waitsfor_waitsfor_WaitEqualsPinLaw) hisR ?_
  intro p e s m args below meth c s₁ Bd hml0 hP hK
  obtain ⟨rfl, hZ, hh⟩ := hP
  have hx := Bd.exec
  have hby := Bd.bytes
  have hlk := Bd.notSynchronized
  have hml : c.maxLocals = 2 := hml0
  have hown : s.vm.findClass "com/example/waitsfor/waitsfor/WaitEqualsPinLaw" = some m.cls := findClass_of_methodNamed Bd.named
  have hnm := (name_of_methodNamed Bd.named Bd.method).1
  have X0 : Stand p l e ({ frames := 0, cells := 0, slots := 0, locals := 0 } : Room) s m #[(.int p0)] below meth c s₁ [] 0 0 := Stand.of_body Bd
  have e0 : s₁.heap = h0 := by rw [← hh, Bd.state]; rfl
  have N0 := Fr.nil n0
  show OwnEnd p e below s (Q_rm_mode Z p0 w0 w1 w2 w3 h0 n0) 0 0 (s₁.setTop (entryFrame m #[(.int p0)] 2))
  refine go (fun t k => castTop (ef_rm_mode m p0) k) ?_
  show OwnEnd _ _ _ _ _ _ _ (s₁.setTop (mkF m 0 #[.val (.int p0), .unset] []))
  refine go (fun _ k => by refine XS.iloadN X0.here hx rfl (hb hby d_method_2_code_0) rfl ?_; exact k) ?_
  refine go (fun _ k => by refine XS.iconst X0.here hx rfl (hb hby d_method_2_code_1) ?_; exact k) ?_
  refine go (fun _ k => by refine XS.iand X0.here hx rfl (hb hby d_method_2_code_2) rfl ?_; exact k) ?_
  refine go (fun _ k => by refine XS.istoreN X0.here hx rfl (hb hby d_method_2_code_3) rfl (l' := #[.val (.int p0), .val (.int (p0 &&& (3 : Int32)))]) rfl ?_; exact k) ?_
  show OwnEnd _ _ _ _ _ _ _ (s₁.setTop (mkF m 4 #[.val (.int p0), .val (.int (p0 &&& (3 : Int32)))] []))
  generalize qx1 : (p0 &&& (3 : Int32)) = x1
  show OwnEnd _ _ _ _ _ _ _ (s₁.setTop (mkF m 4 #[.val (.int p0), .val (.int x1)] []))
  refine go (fun _ k => by refine XS.iloadN X0.here hx rfl (hb hby d_method_2_code_4) rfl ?_; exact k) ?_
  show OwnEnd _ _ _ _ _ _ _ (s₁.setTop (mkF m 5 #[.val (.int p0), .val (.int x1)] [(.int x1)]))
  by_cases hc5_2 : x1 = (0 : Int32)
  · refine go (fun _ k => by refine XS.ifNo X0.here hx rfl (hb hby d_method_2_code_5) rfl ((if0 _ _).trans (teq hc5_2).2) ?_; exact k) ?_
    show OwnEnd _ _ _ _ _ _ _ (s₁.setTop (mkF m 8 #[.val (.int p0), .val (.int x1)] []))
    obtain ⟨T3, X3, e3, st3⟩ := getS2 X0 hx hZ hown (host := "") (Or.inl (hw _ (List.mem_of_getElem? (i := 76) rfl))) Via.refl e0 S0 (g := (mkF m 8 #[.val (.int p0), .val (.int x1)] [])) rfl (hb hby d_method_2_code_8)
    refine go st3 ?_
    show OwnEnd _ _ _ _ _ _ _ (T3.setTop (mkF m 11 #[.val (.int p0), .val (.int x1)] [(.ref w0)]))
    refine endA X3 hx hlk Bd.returns rfl rfl (hb hby d_method_2_code_11) e3 (by decide) (by decide) ?_
    exact ⟨_, rfl, N0, rfl⟩
  · refine go (fun _ k => by refine XS.ifYes X0.here hx rfl (pc0 := 5) (pc' := 12) rfl (hb hby d_method_2_code_5) rfl ((if0 _ _).trans (feq hc5_2).2) (by decide) (by decide) ?_; exact k) ?_
    show OwnEnd _ _ _ _ _ _ _ (s₁.setTop (mkF m 12 #[.val (.int p0), .val (.int x1)] []))
    refine go (fun _ k => by refine XS.iloadN X0.here hx rfl (hb hby d_method_2_code_12) rfl ?_; exact k) ?_
    refine go (fun _ k => by refine XS.iconst X0.here hx rfl (hb hby d_method_2_code_13) ?_; exact k) ?_
    show OwnEnd _ _ _ _ _ _ _ (s₁.setTop (mkF m 14 #[.val (.int p0), .val (.int x1)] [(.int (1 : Int32)), (.int x1)]))
    by_cases hc14_4 : x1 = (1 : Int32)
    · refine go (fun _ k => by refine XS.icmpNo X0.here hx rfl (hb hby d_method_2_code_14) rfl (teq hc14_4).2 ?_; exact k) ?_
      show OwnEnd _ _ _ _ _ _ _ (s₁.setTop (mkF m 17 #[.val (.int p0), .val (.int x1)] []))
      obtain ⟨T5, X5, e5, st5⟩ := getS2 X0 hx hZ hown (host := "") (Or.inl (hw _ (List.mem_of_getElem? (i := 131) rfl))) Via.refl e0 S1 (g := (mkF m 17 #[.val (.int p0), .val (.int x1)] [])) rfl (hb hby d_method_2_code_17)
      refine go st5 ?_
      show OwnEnd _ _ _ _ _ _ _ (T5.setTop (mkF m 20 #[.val (.int p0), .val (.int x1)] [(.ref w1)]))
      refine endA X5 hx hlk Bd.returns rfl rfl (hb hby d_method_2_code_20) e5 (by decide) (by decide) ?_
      exact ⟨_, rfl, N0, rfl⟩
    · refine go (fun _ k => by refine XS.icmpYes X0.here hx rfl (pc0 := 14) (pc' := 21) rfl (hb hby d_method_2_code_14) rfl (feq hc14_4).2 (by decide) (by decide) ?_; exact k) ?_
      show OwnEnd _ _ _ _ _ _ _ (s₁.setTop (mkF m 21 #[.val (.int p0), .val (.int x1)] []))
      refine go (fun _ k => by refine XS.iloadN X0.here hx rfl (hb hby d_method_2_code_21) rfl ?_; exact k) ?_
      refine go (fun _ k => by refine XS.iconst X0.here hx rfl (hb hby d_method_2_code_22) ?_; exact k) ?_
      show OwnEnd _ _ _ _ _ _ _ (s₁.setTop (mkF m 23 #[.val (.int p0), .val (.int x1)] [(.int (2 : Int32)), (.int x1)]))
      by_cases hc23_6 : x1 = (2 : Int32)
      · refine go (fun _ k => by refine XS.icmpNo X0.here hx rfl (hb hby d_method_2_code_23) rfl (teq hc23_6).2 ?_; exact k) ?_
        show OwnEnd _ _ _ _ _ _ _ (s₁.setTop (mkF m 26 #[.val (.int p0), .val (.int x1)] []))
        obtain ⟨T7, X7, e7, st7⟩ := getS2 X0 hx hZ hown (host := "") (Or.inl (hw _ (List.mem_of_getElem? (i := 143) rfl))) Via.refl e0 S2 (g := (mkF m 26 #[.val (.int p0), .val (.int x1)] [])) rfl (hb hby d_method_2_code_26)
        refine go st7 ?_
        show OwnEnd _ _ _ _ _ _ _ (T7.setTop (mkF m 29 #[.val (.int p0), .val (.int x1)] [(.ref w2)]))
        refine endA X7 hx hlk Bd.returns rfl rfl (hb hby d_method_2_code_29) e7 (by decide) (by decide) ?_
        exact ⟨_, rfl, N0, rfl⟩
      · refine go (fun _ k => by refine XS.icmpYes X0.here hx rfl (pc0 := 23) (pc' := 30) rfl (hb hby d_method_2_code_23) rfl (feq hc23_6).2 (by decide) (by decide) ?_; exact k) ?_
        show OwnEnd _ _ _ _ _ _ _ (s₁.setTop (mkF m 30 #[.val (.int p0), .val (.int x1)] []))
        obtain ⟨T8, X8, e8, st8⟩ := getS2 X0 hx hZ hown (host := "") (Or.inl (hw _ (List.mem_of_getElem? (i := 133) rfl))) Via.refl e0 S3 (g := (mkF m 30 #[.val (.int p0), .val (.int x1)] [])) rfl (hb hby d_method_2_code_30)
        refine go st8 ?_
        show OwnEnd _ _ _ _ _ _ _ (T8.setTop (mkF m 33 #[.val (.int p0), .val (.int x1)] [(.ref w3)]))
        refine endA X8 hx hlk Bd.returns rfl rfl (hb hby d_method_2_code_33) e8 (by decide) (by decide) ?_
        exact ⟨_, rfl, N0, rfl⟩
theorem d_prog_94_method_3_code_0 : decode prog_94_method_3_code 0 = .ok (.aload_n 0, 1) := by decide +kernel
theorem d_prog_94_method_3_code_1 : decode prog_94_method_3_code 1 = .ok (.invokespecial 18, 3) := by decide +kernel
theorem d_prog_94_method_3_code_4 : decode prog_94_method_3_code 4 = .ok (.aload_n 0, 1) := by decide +kernel
theorem d_prog_94_method_3_code_5 : decode prog_94_method_3_code 5 = .ok (.lload_n 1, 1) := by decide +kernel
theorem d_prog_94_method_3_code_6 : decode prog_94_method_3_code 6 = .ok (.putfield 23, 3) := by decide +kernel
theorem d_prog_94_method_3_code_9 : decode prog_94_method_3_code 9 = .ok (.aload_n 0, 1) := by decide +kernel
theorem d_prog_94_method_3_code_10 : decode prog_94_method_3_code 10 = .ok (.lload_n 3, 1) := by decide +kernel
theorem d_prog_94_method_3_code_11 : decode prog_94_method_3_code 11 = .ok (.putfield 27, 3) := by decide +kernel
theorem d_prog_94_method_3_code_14 : decode prog_94_method_3_code 14 = .ok (.aload_n 0, 1) := by decide +kernel
theorem d_prog_94_method_3_code_15 : decode prog_94_method_3_code 15 = .ok (.lload 5, 2) := by decide +kernel
theorem d_prog_94_method_3_code_17 : decode prog_94_method_3_code 17 = .ok (.putfield 30, 3) := by decide +kernel
theorem d_prog_94_method_3_code_20 : decode prog_94_method_3_code 20 = .ok (.aload_n 0, 1) := by decide +kernel
theorem d_prog_94_method_3_code_21 : decode prog_94_method_3_code 21 = .ok (.iload 7, 2) := by decide +kernel
theorem d_prog_94_method_3_code_23 : decode prog_94_method_3_code 23 = .ok (.putfield 33, 3) := by decide +kernel
theorem d_prog_94_method_3_code_26 : decode prog_94_method_3_code 26 = .ok (.aload_n 0, 1) := by decide +kernel
theorem d_prog_94_method_3_code_27 : decode prog_94_method_3_code 27 = .ok (.lload 8, 2) := by decide +kernel
theorem d_prog_94_method_3_code_29 : decode prog_94_method_3_code 29 = .ok (.putfield 37, 3) := by decide +kernel
theorem d_prog_94_method_3_code_32 : decode prog_94_method_3_code 32 = .ok (.aload_n 0, 1) := by decide +kernel
theorem d_prog_94_method_3_code_33 : decode prog_94_method_3_code 33 = .ok (.aload 10, 2) := by decide +kernel
theorem d_prog_94_method_3_code_35 : decode prog_94_method_3_code 35 = .ok (.putfield 40, 3) := by decide +kernel
theorem d_prog_94_method_3_code_38 : decode prog_94_method_3_code 38 = .ok (.aload_n 0, 1) := by decide +kernel
theorem d_prog_94_method_3_code_39 : decode prog_94_method_3_code 39 = .ok (.aload 11, 2) := by decide +kernel
theorem d_prog_94_method_3_code_41 : decode prog_94_method_3_code 41 = .ok (.putfield 44, 3) := by decide +kernel
theorem d_prog_94_method_3_code_44 : decode prog_94_method_3_code 44 = .ok (.aload_n 0, 1) := by decide +kernel
theorem d_prog_94_method_3_code_45 : decode prog_94_method_3_code 45 = .ok (.aload 12, 2) := by decide +kernel
theorem d_prog_94_method_3_code_47 : decode prog_94_method_3_code 47 = .ok (.putfield 48, 3) := by decide +kernel
theorem d_prog_94_method_3_code_50 : decode prog_94_method_3_code 50 = .ok (.aload_n 0, 1) := by decide +kernel
theorem d_prog_94_method_3_code_51 : decode prog_94_method_3_code 51 = .ok (.iload 13, 2) := by decide +kernel
theorem d_prog_94_method_3_code_53 : decode prog_94_method_3_code 53 = .ok (.putfield 52, 3) := by decide +kernel
theorem d_prog_94_method_3_code_56 : decode prog_94_method_3_code 56 = .ok (.aload_n 0, 1) := by decide +kernel
theorem d_prog_94_method_3_code_57 : decode prog_94_method_3_code 57 = .ok (.aload 14, 2) := by decide +kernel
theorem d_prog_94_method_3_code_59 : decode prog_94_method_3_code 59 = .ok (.putfield 55, 3) := by decide +kernel
theorem d_prog_94_method_3_code_62 : decode prog_94_method_3_code 62 = .ok (.return_, 1) := by decide +kernel
theorem pn_com_example_waitsfor_waitsfor_Wait : plainName "com/example/waitsfor/waitsfor/Wait" = true := by first | (simp [plainName, overriddenIn]; done) | decide +kernel
theorem ef_rm_w10 (m : MethodId) (y0 : Addr) (y1 : Int64) (y2 : Int64) (y3 : Int64) (y4 : Int32) (y5 : Int64) (y7 : Addr) (y8 : Addr) (y9 : Int32) : entryFrame m #[(.ref y0), (.long y1), (.long y2), (.long y3), (.int y4), (.long y5), .null, (.ref y7), (.ref y8), (.int y9), .null] 15 = mkF m 0 #[.val (.ref y0), .val (.long y1), .second, .val (.long y2), .second, .val (.long y3), .second, .val (.int y4), .val (.long y5), .second, .val .null, .val (.ref y7), .val (.ref y8), .val (.int y9), .val .null] [] := by first | (simp [entryFrame, mkF, argsToLocals, Value.category]; done) | rfl
def Q_rm_w10 (Z : State) (a0' : Addr) (q1 : Int64) (q2 : Int64) (q3 : Int64) (p4 : Int32) (q5 : Int64) (a7 : Addr) (a8 : Addr) (p9 : Int32) (h0 : Heap) (n0 : Nat) (v : Option Value) (h : Heap) (L : List Loc) : Prop := v = none ∧ Fr n0 L ∧ Keep h0 h [a0'] ∧ Exa Z h a0' "com/example/waitsfor/waitsfor/Wait" ∧ Fld Z h a0' "com/example/waitsfor/waitsfor/Wait" "transaction" "J" (.long q1) ∧ Fld Z h a0' "com/example/waitsfor/waitsfor/Wait" "holder" "J" (.long q2) ∧ Fld Z h a0' "com/example/waitsfor/waitsfor/Wait" "kin" "J" (.long q3) ∧ Fld Z h a0' "com/example/waitsfor/waitsfor/Wait" "shard" "I" (.int p4) ∧ Fld Z h a0' "com/example/waitsfor/waitsfor/Wait" "number" "J" (.long q5) ∧ Fld Z h a0' "com/example/waitsfor/waitsfor/Wait" "target" "Lcom/example/waitsfor/waitsfor/LockTarget;" .null ∧ Fld Z h a0' "com/example/waitsfor/waitsfor/Wait" "mode" "Lcom/example/waitsfor/waitsfor/RowLockMode;" (.ref a7) ∧ Fld Z h a0' "com/example/waitsfor/waitsfor/Wait" "blockers" "Ljava/util/List;" (.ref a8) ∧ Fld Z h a0' "com/example/waitsfor/waitsfor/Wait" "holding" "I" (.int p9) ∧ Fld Z h a0' "com/example/waitsfor/waitsfor/Wait" "held" "Lcom/example/waitsfor/waitsfor/HeldLocks;" .null
set_option maxRecDepth 65536 in
set_option maxHeartbeats 40000000 in
theorem rm_w10 (l : Launch) (Z : State) (a0 : Array Value) (hw : ∀ d ∈ tables_1, d.before a0 Z = true) (ws : List Jvm.Cond) (a0' : Addr) (q1 : Int64) (q2 : Int64) (q3 : Int64) (p4 : Int32) (q5 : Int64) (a7 : Addr) (a8 : Addr) (p9 : Int32) (h0 : Heap) (n0 : Nat) (ga : n0 ≤ a0') (EA : Exa Z h0 a0' "com/example/waitsfor/waitsfor/Wait") (F_transaction : Fld Z h0 a0' "com/example/waitsfor/waitsfor/Wait" "transaction" "J" (.long (0 : Int64))) (F_holder : Fld Z h0 a0' "com/example/waitsfor/waitsfor/Wait" "holder" "J" (.long (0 : Int64))) (F_kin : Fld Z h0 a0' "com/example/waitsfor/waitsfor/Wait" "kin" "J" (.long (0 : Int64))) (F_shard : Fld Z h0 a0' "com/example/waitsfor/waitsfor/Wait" "shard" "I" (.int (0 : Int32))) (F_number : Fld Z h0 a0' "com/example/waitsfor/waitsfor/Wait" "number" "J" (.long (0 : Int64))) (F_target : Fld Z h0 a0' "com/example/waitsfor/waitsfor/Wait" "target" "Lcom/example/waitsfor/waitsfor/LockTarget;" .null) (F_mode : Fld Z h0 a0' "com/example/waitsfor/waitsfor/Wait" "mode" "Lcom/example/waitsfor/waitsfor/RowLockMode;" .null) (F_blockers : Fld Z h0 a0' "com/example/waitsfor/waitsfor/Wait" "blockers" "Ljava/util/List;" .null) (F_holding : Fld Z h0 a0' "com/example/waitsfor/waitsfor/Wait" "holding" "I" (.int (0 : Int32))) (F_held : Fld Z h0 a0' "com/example/waitsfor/waitsfor/Wait" "held" "Lcom/example/waitsfor/waitsfor/HeldLocks;" .null) :
    MetFree l (⟨"com/example/waitsfor/waitsfor/Wait", "<init>", "(JJJIJLcom/example/waitsfor/waitsfor/LockTarget;Lcom/example/waitsfor/waitsfor/RowLockMode;Ljava/util/List;ILcom/example/waitsfor/waitsfor/HeldLocks;)V"⟩ : MethodName) (head1 (Jvm.Cond.code (⟨"com/example/waitsfor/waitsfor/Wait", "<init>", "(JJJIJLcom/example/waitsfor/waitsfor/LockTarget;Lcom/example/waitsfor/waitsfor/RowLockMode;Ljava/util/List;ILcom/example/waitsfor/waitsfor/HeldLocks;)V"⟩ : MethodName) prog_94_method_3_code 15 none :: ws) ({ frames := 1, cells := 0, slots := 0, locals := 12 } : Room)) (fun a U => a = #[(.ref a0'), (.long q1), (.long q2), (.long q3), (.int p4), (.long q5), .null, (.ref a7), (.ref a8), (.int p9), .null] ∧ Z.Warmed39 U.vm ∧ U.heap = h0) (fun _ _ _ _ _ => True) (fun _ U o U' => ∃ v L, o = .returned v ∧ Q_rm_w10 Z a0' q1 q2 q3 p4 q5 a7 a8 p9 h0 n0 v U'.heap L ∧ FrameEnd U o U' L 0 0) := by
  refine MetFree.of_bodySF (plainFor_of_name pn_com_example_waitsfor_waitsfor_Wait) hisR ?_
  intro p e s m args below meth c s₁ Bd hml0 hP hK
  obtain ⟨rfl, hZ, hh⟩ := hP
  have hx := Bd.exec
  have hby := Bd.bytes
  have hlk := Bd.notSynchronized
  have hml : c.maxLocals = 15 := hml0
  have hown : s.vm.findClass "com/example/waitsfor/waitsfor/Wait" = some m.cls := findClass_of_methodNamed Bd.named
  have hnm := (name_of_methodNamed Bd.named Bd.method).1
  have X0 : Stand p l e ({ frames := 1, cells := 0, slots := 0, locals := 12 } : Room) s m #[(.ref a0'), (.long q1), (.long q2), (.long q3), (.int p4), (.long q5), .null, (.ref a7), (.ref a8), (.int p9), .null] below meth c s₁ [] 0 0 := Stand.of_body Bd
  have e0 : s₁.heap = h0 := by rw [← hh, Bd.state]; rfl
  have N0 := Fr.nil n0
  show OwnEnd p e below s (Q_rm_w10 Z a0' q1 q2 q3 p4 q5 a7 a8 p9 h0 n0) 0 0 (s₁.setTop (entryFrame m #[(.ref a0'), (.long q1), (.long q2), (.long q3), (.int p4), (.long q5), .null, (.ref a7), (.ref a8), (.int p9), .null] 15))
  refine go (fun t k => castTop (ef_rm_w10 m a0' q1 q2 q3 p4 q5 a7 a8 p9) k) ?_
  have KK := Keep.refl h0 [a0']
  show OwnEnd _ _ _ _ _ _ _ (s₁.setTop (mkF m 0 (fL0 a0' q1 q2 q3 p4 q5 a7 a8 p9) []))
  refine go (fun _ k => by refine XS.aloadN X0.here hx rfl (hb hby d_prog_94_method_3_code_0) rfl rfl ?_; exact k) ?_
  show OwnEnd _ _ _ _ _ _ _ (s₁.setTop (mkF m 1 (fL0 a0' q1 q2 q3 p4 q5 a7 a8 p9) [(.ref a0')]))
  obtain ⟨T1, X1, e1, st1⟩ := initO X0 hx hZ hown (hw _ (List.mem_of_getElem? (i := 85) rfl)) (hw _ (List.mem_of_getElem? (i := 19) rfl)) (hw _ (List.mem_of_getElem? (i := 20) rfl)) e0 (g := (mkF m 1 (fL0 a0' q1 q2 q3 p4 q5 a7 a8 p9) [(.ref a0')])) rfl (by rw [hml]; rfl) rfl (hb hby d_prog_94_method_3_code_1) (by decide) (W := 0) (by show 2 * 0 + _ ≤ _; exact Nat.le_of_eq rfl) (by decide)
  refine go st1 ?_
  refine go (fun _ k => by refine XS.aloadN X1.here hx rfl (hb hby d_prog_94_method_3_code_4) rfl rfl ?_; exact k) ?_
  refine go (fun _ k => by refine XS.lloadN X1.here hx rfl (hb hby d_prog_94_method_3_code_5) rfl ?_; exact k) ?_
  show OwnEnd _ _ _ _ _ _ _ (T1.setTop (mkF m 6 (fL0 a0' q1 q2 q3 p4 q5 a7 a8 p9) [(.long q1), (.ref a0')]))
  obtain ⟨T2, h2, X2, e2, W2, st2⟩ := putF X1 hx hZ hown (host := "") (Or.inl (hw _ (List.mem_of_getElem? (i := 86) rfl))) Via.refl e1 F_transaction EA (Or.inr ⟨(hw _ (List.mem_of_getElem? (i := 87) rfl)), rfl, hnm⟩) (hw _ (List.mem_of_getElem? (i := 70) rfl)) (ty := .long) (by decide) rfl rfl (g := (mkF m 6 (fL0 a0' q1 q2 q3 p4 q5 a7 a8 p9) [(.long q1), (.ref a0')])) rfl rfl (hb hby d_prog_94_method_3_code_6)
  have N2 := Fr.snoc X2 N0 ga
  have EA := EA.wr W2
  have KK := Keep.wr KK W2 (Or.inl (List.mem_of_getElem? (i := 0) rfl))
  have F_holder := F_holder.other W2 (Or.inr (slot_ne (Or.inr (hw _ (List.mem_of_getElem? (i := 89) rfl))) (Or.inr (hw _ (List.mem_of_getElem? (i := 87) rfl))) (by decide) (t := .long) (t' := .long) (by decide) (by decide)))
  have F_kin := F_kin.other W2 (Or.inr (slot_ne (Or.inr (hw _ (List.mem_of_getElem? (i := 91) rfl))) (Or.inr (hw _ (List.mem_of_getElem? (i := 87) rfl))) (by decide) (t := .long) (t' := .long) (by decide) (by decide)))
  have F_shard := F_shard.other W2 (Or.inr (slot_ne (Or.inr (hw _ (List.mem_of_getElem? (i := 93) rfl))) (Or.inr (hw _ (List.mem_of_getElem? (i := 87) rfl))) (by decide) (t := .int) (t' := .long) (by decide) (by decide)))
  have F_number := F_number.other W2 (Or.inr (slot_ne (Or.inr (hw _ (List.mem_of_getElem? (i := 95) rfl))) (Or.inr (hw _ (List.mem_of_getElem? (i := 87) rfl))) (by decide) (t := .long) (t' := .long) (by decide) (by decide)))
  have F_target := F_target.other W2 (Or.inr (slot_ne (Or.inr (hw _ (List.mem_of_getElem? (i := 97) rfl))) (Or.inr (hw _ (List.mem_of_getElem? (i := 87) rfl))) (by decide) (t := (.object "com/example/waitsfor/waitsfor/LockTarget")) (t' := .long) (by decide) (by decide)))
  have F_mode := F_mode.other W2 (Or.inr (slot_ne (Or.inr (hw _ (List.mem_of_getElem? (i := 99) rfl))) (Or.inr (hw _ (List.mem_of_getElem? (i := 87) rfl))) (by decide) (t := (.object "com/example/waitsfor/waitsfor/RowLockMode")) (t' := .long) (by decide) (by decide)))
  have F_blockers := F_blockers.other W2 (Or.inr (slot_ne (Or.inr (hw _ (List.mem_of_getElem? (i := 101) rfl))) (Or.inr (hw _ (List.mem_of_getElem? (i := 87) rfl))) (by decide) (t := (.object "java/util/List")) (t' := .long) (by decide) (by decide)))
  have F_holding := F_holding.other W2 (Or.inr (slot_ne (Or.inr (hw _ (List.mem_of_getElem? (i := 103) rfl))) (Or.inr (hw _ (List.mem_of_getElem? (i := 87) rfl))) (by decide) (t := .int) (t' := .long) (by decide) (by decide)))
  have F_held := F_held.other W2 (Or.inr (slot_ne (Or.inr (hw _ (List.mem_of_getElem? (i := 105) rfl))) (Or.inr (hw _ (List.mem_of_getElem? (i := 87) rfl))) (by decide) (t := (.object "com/example/waitsfor/waitsfor/HeldLocks")) (t' := .long) (by decide) (by decide)))
  have F_transaction := F_transaction.same W2
  refine go st2 ?_
  refine go (fun _ k => by refine XS.aloadN X2.here hx rfl (hb hby d_prog_94_method_3_code_9) rfl rfl ?_; exact k) ?_
  refine go (fun _ k => by refine XS.lloadN X2.here hx rfl (hb hby d_prog_94_method_3_code_10) rfl ?_; exact k) ?_
  show OwnEnd _ _ _ _ _ _ _ (T2.setTop (mkF m 11 (fL0 a0' q1 q2 q3 p4 q5 a7 a8 p9) [(.long q2), (.ref a0')]))
  obtain ⟨T3, h3, X3, e3, W3, st3⟩ := putF X2 hx hZ hown (host := "") (Or.inl (hw _ (List.mem_of_getElem? (i := 88) rfl))) Via.refl e2 F_holder EA (Or.inr ⟨(hw _ (List.mem_of_getElem? (i := 89) rfl)), rfl, hnm⟩) (hw _ (List.mem_of_getElem? (i := 70) rfl)) (ty := .long) (by decide) rfl rfl (g := (mkF m 11 (fL0 a0' q1 q2 q3 p4 q5 a7 a8 p9) [(.long q2), (.ref a0')])) rfl rfl (hb hby d_prog_94_method_3_code_11)
  have N3 := Fr.snoc X3 N2 ga
  have EA := EA.wr W3
  have KK := Keep.wr KK W3 (Or.inl (List.mem_of_getElem? (i := 0) rfl))
  have F_transaction := F_transaction.other W3 (Or.inr (slot_ne (Or.inr (hw _ (List.mem_of_getElem? (i := 87) rfl))) (Or.inr (hw _ (List.mem_of_getElem? (i := 89) rfl))) (by decide) (t := .long) (t' := .long) (by decide) (by decide)))
  have F_kin := F_kin.other W3 (Or.inr (slot_ne (Or.inr (hw _ (List.mem_of_getElem? (i := 91) rfl))) (Or.inr (hw _ (List.mem_of_getElem? (i := 89) rfl))) (by decide) (t := .long) (t' := .long) (by decide) (by decide)))
  have F_shard := F_shard.other W3 (Or.inr (slot_ne (Or.inr (hw _ (List.mem_of_getElem? (i := 93) rfl))) (Or.inr (hw _ (List.mem_of_getElem? (i := 89) rfl))) (by decide) (t := .int) (t' := .long) (by decide) (by decide)))
  have F_number := F_number.other W3 (Or.inr (slot_ne (Or.inr (hw _ (List.mem_of_getElem? (i := 95) rfl))) (Or.inr (hw _ (List.mem_of_getElem? (i := 89) rfl))) (by decide) (t := .long) (t' := .long) (by decide) (by decide)))
  have F_target := F_target.other W3 (Or.inr (slot_ne (Or.inr (hw _ (List.mem_of_getElem? (i := 97) rfl))) (Or.inr (hw _ (List.mem_of_getElem? (i := 89) rfl))) (by decide) (t := (.object "com/example/waitsfor/waitsfor/LockTarget")) (t' := .long) (by decide) (by decide)))
  have F_mode := F_mode.other W3 (Or.inr (slot_ne (Or.inr (hw _ (List.mem_of_getElem? (i := 99) rfl))) (Or.inr (hw _ (List.mem_of_getElem? (i := 89) rfl))) (by decide) (t := (.object "com/example/waitsfor/waitsfor/RowLockMode")) (t' := .long) (by decide) (by decide)))
  have F_blockers := F_blockers.other W3 (Or.inr (slot_ne (Or.inr (hw _ (List.mem_of_getElem? (i := 101) rfl))) (Or.inr (hw _ (List.mem_of_getElem? (i := 89) rfl))) (by decide) (t := (.object "java/util/List")) (t' := .long) (by decide) (by decide)))
  have F_holding := F_holding.other W3 (Or.inr (slot_ne (Or.inr (hw _ (List.mem_of_getElem? (i := 103) rfl))) (Or.inr (hw _ (List.mem_of_getElem? (i := 89) rfl))) (by decide) (t := .int) (t' := .long) (by decide) (by decide)))
  have F_held := F_held.other W3 (Or.inr (slot_ne (Or.inr (hw _ (List.mem_of_getElem? (i := 105) rfl))) (Or.inr (hw _ (List.mem_of_getElem? (i := 89) rfl))) (by decide) (t := (.object "com/example/waitsfor/waitsfor/HeldLocks")) (t' := .long) (by decide) (by decide)))
  have F_holder := F_holder.same W3
  refine go st3 ?_
  refine go (fun _ k => by refine XS.aloadN X3.here hx rfl (hb hby d_prog_94_method_3_code_14) rfl rfl ?_; exact k) ?_
  refine go (fun _ k => by refine XS.lload X3.here hx rfl (hb hby d_prog_94_method_3_code_15) rfl ?_; exact k) ?_
  show OwnEnd _ _ _ _ _ _ _ (T3.setTop (mkF m 17 (fL0 a0' q1 q2 q3 p4 q5 a7 a8 p9) [(.long q3), (.ref a0')]))
  obtain ⟨T4, h4, X4, e4, W4, st4⟩ := putF X3 hx hZ hown (host := "") (Or.inl (hw _ (List.mem_of_getElem? (i := 90) rfl))) Via.refl e3 F_kin EA (Or.inr ⟨(hw _ (List.mem_of_getElem? (i := 91) rfl)), rfl, hnm⟩) (hw _ (List.mem_of_getElem? (i := 70) rfl)) (ty := .long) (by decide) rfl rfl (g := (mkF m 17 (fL0 a0' q1 q2 q3 p4 q5 a7 a8 p9) [(.long q3), (.ref a0')])) rfl rfl (hb hby d_prog_94_method_3_code_17)
  have N4 := Fr.snoc X4 N3 ga
  have EA := EA.wr W4
  have KK := Keep.wr KK W4 (Or.inl (List.mem_of_getElem? (i := 0) rfl))
  have F_transaction := F_transaction.other W4 (Or.inr (slot_ne (Or.inr (hw _ (List.mem_of_getElem? (i := 87) rfl))) (Or.inr (hw _ (List.mem_of_getElem? (i := 91) rfl))) (by decide) (t := .long) (t' := .long) (by decide) (by decide)))
  have F_holder := F_holder.other W4 (Or.inr (slot_ne (Or.inr (hw _ (List.mem_of_getElem? (i := 89) rfl))) (Or.inr (hw _ (List.mem_of_getElem? (i := 91) rfl))) (by decide) (t := .long) (t' := .long) (by decide) (by decide)))
  have F_shard := F_shard.other W4 (Or.inr (slot_ne (Or.inr (hw _ (List.mem_of_getElem? (i := 93) rfl))) (Or.inr (hw _ (List.mem_of_getElem? (i := 91) rfl))) (by decide) (t := .int) (t' := .long) (by decide) (by decide)))
  have F_number := F_number.other W4 (Or.inr (slot_ne (Or.inr (hw _ (List.mem_of_getElem? (i := 95) rfl))) (Or.inr (hw _ (List.mem_of_getElem? (i := 91) rfl))) (by decide) (t := .long) (t' := .long) (by decide) (by decide)))
  have F_target := F_target.other W4 (Or.inr (slot_ne (Or.inr (hw _ (List.mem_of_getElem? (i := 97) rfl))) (Or.inr (hw _ (List.mem_of_getElem? (i := 91) rfl))) (by decide) (t := (.object "com/example/waitsfor/waitsfor/LockTarget")) (t' := .long) (by decide) (by decide)))
  have F_mode := F_mode.other W4 (Or.inr (slot_ne (Or.inr (hw _ (List.mem_of_getElem? (i := 99) rfl))) (Or.inr (hw _ (List.mem_of_getElem? (i := 91) rfl))) (by decide) (t := (.object "com/example/waitsfor/waitsfor/RowLockMode")) (t' := .long) (by decide) (by decide)))
  have F_blockers := F_blockers.other W4 (Or.inr (slot_ne (Or.inr (hw _ (List.mem_of_getElem? (i := 101) rfl))) (Or.inr (hw _ (List.mem_of_getElem? (i := 91) rfl))) (by decide) (t := (.object "java/util/List")) (t' := .long) (by decide) (by decide)))
  have F_holding := F_holding.other W4 (Or.inr (slot_ne (Or.inr (hw _ (List.mem_of_getElem? (i := 103) rfl))) (Or.inr (hw _ (List.mem_of_getElem? (i := 91) rfl))) (by decide) (t := .int) (t' := .long) (by decide) (by decide)))
  have F_held := F_held.other W4 (Or.inr (slot_ne (Or.inr (hw _ (List.mem_of_getElem? (i := 105) rfl))) (Or.inr (hw _ (List.mem_of_getElem? (i := 91) rfl))) (by decide) (t := (.object "com/example/waitsfor/waitsfor/HeldLocks")) (t' := .long) (by decide) (by decide)))
  have F_kin := F_kin.same W4
  refine go st4 ?_
  refine go (fun _ k => by refine XS.aloadN X4.here hx rfl (hb hby d_prog_94_method_3_code_20) rfl rfl ?_; exact k) ?_
  refine go (fun _ k => by refine XS.iload X4.here hx rfl (hb hby d_prog_94_method_3_code_21) rfl ?_; exact k) ?_
  show OwnEnd _ _ _ _ _ _ _ (T4.setTop (mkF m 23 (fL0 a0' q1 q2 q3 p4 q5 a7 a8 p9) [(.int p4), (.ref a0')]))
  obtain ⟨T5, h5, X5, e5, W5, st5⟩ := putF X4 hx hZ hown (host := "") (Or.inl (hw _ (List.mem_of_getElem? (i := 92) rfl))) Via.refl e4 F_shard EA (Or.inr ⟨(hw _ (List.mem_of_getElem? (i := 93) rfl)), rfl, hnm⟩) (hw _ (List.mem_of_getElem? (i := 70) rfl)) (ty := .int) (by decide) rfl rfl (g := (mkF m 23 (fL0 a0' q1 q2 q3 p4 q5 a7 a8 p9) [(.int p4), (.ref a0')])) rfl rfl (hb hby d_prog_94_method_3_code_23)
  have N5 := Fr.snoc X5 N4 ga
  have EA := EA.wr W5
  have KK := Keep.wr KK W5 (Or.inl (List.mem_of_getElem? (i := 0) rfl))
  have F_transaction := F_transaction.other W5 (Or.inr (slot_ne (Or.inr (hw _ (List.mem_of_getElem? (i := 87) rfl))) (Or.inr (hw _ (List.mem_of_getElem? (i := 93) rfl))) (by decide) (t := .long) (t' := .int) (by decide) (by decide)))
  have F_holder := F_holder.other W5 (Or.inr (slot_ne (Or.inr (hw _ (List.mem_of_getElem? (i := 89) rfl))) (Or.inr (hw _ (List.mem_of_getElem? (i := 93) rfl))) (by decide) (t := .long) (t' := .int) (by decide) (by decide)))
  have F_kin := F_kin.other W5 (Or.inr (slot_ne (Or.inr (hw _ (List.mem_of_getElem? (i := 91) rfl))) (Or.inr (hw _ (List.mem_of_getElem? (i := 93) rfl))) (by decide) (t := .long) (t' := .int) (by decide) (by decide)))
  have F_number := F_number.other W5 (Or.inr (slot_ne (Or.inr (hw _ (List.mem_of_getElem? (i := 95) rfl))) (Or.inr (hw _ (List.mem_of_getElem? (i := 93) rfl))) (by decide) (t := .long) (t' := .int) (by decide) (by decide)))
  have F_target := F_target.other W5 (Or.inr (slot_ne (Or.inr (hw _ (List.mem_of_getElem? (i := 97) rfl))) (Or.inr (hw _ (List.mem_of_getElem? (i := 93) rfl))) (by decide) (t := (.object "com/example/waitsfor/waitsfor/LockTarget")) (t' := .int) (by decide) (by decide)))
  have F_mode := F_mode.other W5 (Or.inr (slot_ne (Or.inr (hw _ (List.mem_of_getElem? (i := 99) rfl))) (Or.inr (hw _ (List.mem_of_getElem? (i := 93) rfl))) (by decide) (t := (.object "com/example/waitsfor/waitsfor/RowLockMode")) (t' := .int) (by decide) (by decide)))
  have F_blockers := F_blockers.other W5 (Or.inr (slot_ne (Or.inr (hw _ (List.mem_of_getElem? (i := 101) rfl))) (Or.inr (hw _ (List.mem_of_getElem? (i := 93) rfl))) (by decide) (t := (.object "java/util/List")) (t' := .int) (by decide) (by decide)))
  have F_holding := F_holding.other W5 (Or.inr (slot_ne (Or.inr (hw _ (List.mem_of_getElem? (i := 103) rfl))) (Or.inr (hw _ (List.mem_of_getElem? (i := 93) rfl))) (by decide) (t := .int) (t' := .int) (by decide) (by decide)))
  have F_held := F_held.other W5 (Or.inr (slot_ne (Or.inr (hw _ (List.mem_of_getElem? (i := 105) rfl))) (Or.inr (hw _ (List.mem_of_getElem? (i := 93) rfl))) (by decide) (t := (.object "com/example/waitsfor/waitsfor/HeldLocks")) (t' := .int) (by decide) (by decide)))
  have F_shard := F_shard.same W5
  refine go st5 ?_
  refine go (fun _ k => by refine XS.aloadN X5.here hx rfl (hb hby d_prog_94_method_3_code_26) rfl rfl ?_; exact k) ?_
  refine go (fun _ k => by refine XS.lload X5.here hx rfl (hb hby d_prog_94_method_3_code_27) rfl ?_; exact k) ?_
  show OwnEnd _ _ _ _ _ _ _ (T5.setTop (mkF m 29 (fL0 a0' q1 q2 q3 p4 q5 a7 a8 p9) [(.long q5), (.ref a0')]))
  obtain ⟨T6, h6, X6, e6, W6, st6⟩ := putF X5 hx hZ hown (host := "") (Or.inl (hw _ (List.mem_of_getElem? (i := 94) rfl))) Via.refl e5 F_number EA (Or.inr ⟨(hw _ (List.mem_of_getElem? (i := 95) rfl)), rfl, hnm⟩) (hw _ (List.mem_of_getElem? (i := 70) rfl)) (ty := .long) (by decide) rfl rfl (g := (mkF m 29 (fL0 a0' q1 q2 q3 p4 q5 a7 a8 p9) [(.long q5), (.ref a0')])) rfl rfl (hb hby d_prog_94_method_3_code_29)
  have N6 := Fr.snoc X6 N5 ga
  have EA := EA.wr W6
  have KK := Keep.wr KK W6 (Or.inl (List.mem_of_getElem? (i := 0) rfl))
  have F_transaction := F_transaction.other W6 (Or.inr (slot_ne (Or.inr (hw _ (List.mem_of_getElem? (i := 87) rfl))) (Or.inr (hw _ (List.mem_of_getElem? (i := 95) rfl))) (by decide) (t := .long) (t' := .long) (by decide) (by decide)))
  have F_holder := F_holder.other W6 (Or.inr (slot_ne (Or.inr (hw _ (List.mem_of_getElem? (i := 89) rfl))) (Or.inr (hw _ (List.mem_of_getElem? (i := 95) rfl))) (by decide) (t := .long) (t' := .long) (by decide) (by decide)))
  have F_kin := F_kin.other W6 (Or.inr (slot_ne (Or.inr (hw _ (List.mem_of_getElem? (i := 91) rfl))) (Or.inr (hw _ (List.mem_of_getElem? (i := 95) rfl))) (by decide) (t := .long) (t' := .long) (by decide) (by decide)))
  have F_shard := F_shard.other W6 (Or.inr (slot_ne (Or.inr (hw _ (List.mem_of_getElem? (i := 93) rfl))) (Or.inr (hw _ (List.mem_of_getElem? (i := 95) rfl))) (by decide) (t := .int) (t' := .long) (by decide) (by decide)))
  have F_target := F_target.other W6 (Or.inr (slot_ne (Or.inr (hw _ (List.mem_of_getElem? (i := 97) rfl))) (Or.inr (hw _ (List.mem_of_getElem? (i := 95) rfl))) (by decide) (t := (.object "com/example/waitsfor/waitsfor/LockTarget")) (t' := .long) (by decide) (by decide)))
  have F_mode := F_mode.other W6 (Or.inr (slot_ne (Or.inr (hw _ (List.mem_of_getElem? (i := 99) rfl))) (Or.inr (hw _ (List.mem_of_getElem? (i := 95) rfl))) (by decide) (t := (.object "com/example/waitsfor/waitsfor/RowLockMode")) (t' := .long) (by decide) (by decide)))
  have F_blockers := F_blockers.other W6 (Or.inr (slot_ne (Or.inr (hw _ (List.mem_of_getElem? (i := 101) rfl))) (Or.inr (hw _ (List.mem_of_getElem? (i := 95) rfl))) (by decide) (t := (.object "java/util/List")) (t' := .long) (by decide) (by decide)))
  have F_holding := F_holding.other W6 (Or.inr (slot_ne (Or.inr (hw _ (List.mem_of_getElem? (i := 103) rfl))) (Or.inr (hw _ (List.mem_of_getElem? (i := 95) rfl))) (by decide) (t := .int) (t' := .long) (by decide) (by decide)))
  have F_held := F_held.other W6 (Or.inr (slot_ne (Or.inr (hw _ (List.mem_of_getElem? (i := 105) rfl))) (Or.inr (hw _ (List.mem_of_getElem? (i := 95) rfl))) (by decide) (t := (.object "com/example/waitsfor/waitsfor/HeldLocks")) (t' := .long) (by decide) (by decide)))
  have F_number := F_number.same W6
  refine go st6 ?_
  refine go (fun _ k => by refine XS.aloadN X6.here hx rfl (hb hby d_prog_94_method_3_code_32) rfl rfl ?_; exact k) ?_
  refine go (fun _ k => by refine XS.aload X6.here hx rfl (hb hby d_prog_94_method_3_code_33) rfl rfl ?_; exact k) ?_
  show OwnEnd _ _ _ _ _ _ _ (T6.setTop (mkF m 35 (fL0 a0' q1 q2 q3 p4 q5 a7 a8 p9) [.null, (.ref a0')]))
  obtain ⟨T7, h7, X7, e7, W7, st7⟩ := putF X6 hx hZ hown (host := "") (Or.inl (hw _ (List.mem_of_getElem? (i := 96) rfl))) Via.refl e6 F_target EA (Or.inr ⟨(hw _ (List.mem_of_getElem? (i := 97) rfl)), rfl, hnm⟩) (hw _ (List.mem_of_getElem? (i := 70) rfl)) (ty := (.object "com/example/waitsfor/waitsfor/LockTarget")) (by decide) rfl rfl (g := (mkF m 35 (fL0 a0' q1 q2 q3 p4 q5 a7 a8 p9) [.null, (.ref a0')])) rfl rfl (hb hby d_prog_94_method_3_code_35)
  have N7 := Fr.snoc X7 N6 ga
  have EA := EA.wr W7
  have KK := Keep.wr KK W7 (Or.inl (List.mem_of_getElem? (i := 0) rfl))
  have F_transaction := F_transaction.other W7 (Or.inr (slot_ne (Or.inr (hw _ (List.mem_of_getElem? (i := 87) rfl))) (Or.inr (hw _ (List.mem_of_getElem? (i := 97) rfl))) (by decide) (t := .long) (t' := (.object "com/example/waitsfor/waitsfor/LockTarget")) (by decide) (by decide)))
  have F_holder := F_holder.other W7 (Or.inr (slot_ne (Or.inr (hw _ (List.mem_of_getElem? (i := 89) rfl))) (Or.inr (hw _ (List.mem_of_getElem? (i := 97) rfl))) (by decide) (t := .long) (t' := (.object "com/example/waitsfor/waitsfor/LockTarget")) (by decide) (by decide)))
  have F_kin := F_kin.other W7 (Or.inr (slot_ne (Or.inr (hw _ (List.mem_of_getElem? (i := 91) rfl))) (Or.inr (hw _ (List.mem_of_getElem? (i := 97) rfl))) (by decide) (t := .long) (t' := (.object "com/example/waitsfor/waitsfor/LockTarget")) (by decide) (by decide)))
  have F_shard := F_shard.other W7 (Or.inr (slot_ne (Or.inr (hw _ (List.mem_of_getElem? (i := 93) rfl))) (Or.inr (hw _ (List.mem_of_getElem? (i := 97) rfl))) (by decide) (t := .int) (t' := (.object "com/example/waitsfor/waitsfor/LockTarget")) (by decide) (by decide)))
  have F_number := F_number.other W7 (Or.inr (slot_ne (Or.inr (hw _ (List.mem_of_getElem? (i := 95) rfl))) (Or.inr (hw _ (List.mem_of_getElem? (i := 97) rfl))) (by decide) (t := .long) (t' := (.object "com/example/waitsfor/waitsfor/LockTarget")) (by decide) (by decide)))
  have F_mode := F_mode.other W7 (Or.inr (slot_ne (Or.inr (hw _ (List.mem_of_getElem? (i := 99) rfl))) (Or.inr (hw _ (List.mem_of_getElem? (i := 97) rfl))) (by decide) (t := (.object "com/example/waitsfor/waitsfor/RowLockMode")) (t' := (.object "com/example/waitsfor/waitsfor/LockTarget")) (by decide) (by decide)))
  have F_blockers := F_blockers.other W7 (Or.inr (slot_ne (Or.inr (hw _ (List.mem_of_getElem? (i := 101) rfl))) (Or.inr (hw _ (List.mem_of_getElem? (i := 97) rfl))) (by decide) (t := (.object "java/util/List")) (t' := (.object "com/example/waitsfor/waitsfor/LockTarget")) (by decide) (by decide)))
  have F_holding := F_holding.other W7 (Or.inr (slot_ne (Or.inr (hw _ (List.mem_of_getElem? (i := 103) rfl))) (Or.inr (hw _ (List.mem_of_getElem? (i := 97) rfl))) (by decide) (t := .int) (t' := (.object "com/example/waitsfor/waitsfor/LockTarget")) (by decide) (by decide)))
  have F_held := F_held.other W7 (Or.inr (slot_ne (Or.inr (hw _ (List.mem_of_getElem? (i := 105) rfl))) (Or.inr (hw _ (List.mem_of_getElem? (i := 97) rfl))) (by decide) (t := (.object "com/example/waitsfor/waitsfor/HeldLocks")) (t' := (.object "com/example/waitsfor/waitsfor/LockTarget")) (by decide) (by decide)))
  have F_target := F_target.same W7
  refine go st7 ?_
  refine go (fun _ k => by refine XS.aloadN X7.here hx rfl (hb hby d_prog_94_method_3_code_38) rfl rfl ?_; exact k) ?_
  refine go (fun _ k => by refine XS.aload X7.here hx rfl (hb hby d_prog_94_method_3_code_39) rfl rfl ?_; exact k) ?_
  show OwnEnd _ _ _ _ _ _ _ (T7.setTop (mkF m 41 (fL0 a0' q1 q2 q3 p4 q5 a7 a8 p9) [(.ref a7), (.ref a0')]))
  obtain ⟨T8, h8, X8, e8, W8, st8⟩ := putF X7 hx hZ hown (host := "") (Or.inl (hw _ (List.mem_of_getElem? (i := 98) rfl))) Via.refl e7 F_mode EA (Or.inr ⟨(hw _ (List.mem_of_getElem? (i := 99) rfl)), rfl, hnm⟩) (hw _ (List.mem_of_getElem? (i := 70) rfl)) (ty := (.object "com/example/waitsfor/waitsfor/RowLockMode")) (by decide) rfl rfl (g := (mkF m 41 (fL0 a0' q1 q2 q3 p4 q5 a7 a8 p9) [(.ref a7), (.ref a0')])) rfl rfl (hb hby d_prog_94_method_3_code_41)
  have N8 := Fr.snoc X8 N7 ga
  have EA := EA.wr W8
  have KK := Keep.wr KK W8 (Or.inl (List.mem_of_getElem? (i := 0) rfl))
  have F_transaction := F_transaction.other W8 (Or.inr (slot_ne (Or.inr (hw _ (List.mem_of_getElem? (i := 87) rfl))) (Or.inr (hw _ (List.mem_of_getElem? (i := 99) rfl))) (by decide) (t := .long) (t' := (.object "com/example/waitsfor/waitsfor/RowLockMode")) (by decide) (by decide)))
  have F_holder := F_holder.other W8 (Or.inr (slot_ne (Or.inr (hw _ (List.mem_of_getElem? (i := 89) rfl))) (Or.inr (hw _ (List.mem_of_getElem? (i := 99) rfl))) (by decide) (t := .long) (t' := (.object "com/example/waitsfor/waitsfor/RowLockMode")) (by decide) (by decide)))
  have F_kin := F_kin.other W8 (Or.inr (slot_ne (Or.inr (hw _ (List.mem_of_getElem? (i := 91) rfl))) (Or.inr (hw _ (List.mem_of_getElem? (i := 99) rfl))) (by decide) (t := .long) (t' := (.object "com/example/waitsfor/waitsfor/RowLockMode")) (by decide) (by decide)))
  have F_shard := F_shard.other W8 (Or.inr (slot_ne (Or.inr (hw _ (List.mem_of_getElem? (i := 93) rfl))) (Or.inr (hw _ (List.mem_of_getElem? (i := 99) rfl))) (by decide) (t := .int) (t' := (.object "com/example/waitsfor/waitsfor/RowLockMode")) (by decide) (by decide)))
  have F_number := F_number.other W8 (Or.inr (slot_ne (Or.inr (hw _ (List.mem_of_getElem? (i := 95) rfl))) (Or.inr (hw _ (List.mem_of_getElem? (i := 99) rfl))) (by decide) (t := .long) (t' := (.object "com/example/waitsfor/waitsfor/RowLockMode")) (by decide) (by decide)))
  have F_target := F_target.other W8 (Or.inr (slot_ne (Or.inr (hw _ (List.mem_of_getElem? (i := 97) rfl))) (Or.inr (hw _ (List.mem_of_getElem? (i := 99) rfl))) (by decide) (t := (.object "com/example/waitsfor/waitsfor/LockTarget")) (t' := (.object "com/example/waitsfor/waitsfor/RowLockMode")) (by decide) (by decide)))
  have F_blockers := F_blockers.other W8 (Or.inr (slot_ne (Or.inr (hw _ (List.mem_of_getElem? (i := 101) rfl))) (Or.inr (hw _ (List.mem_of_getElem? (i := 99) rfl))) (by decide) (t := (.object "java/util/List")) (t' := (.object "com/example/waitsfor/waitsfor/RowLockMode")) (by decide) (by decide)))
  have F_holding := F_holding.other W8 (Or.inr (slot_ne (Or.inr (hw _ (List.mem_of_getElem? (i := 103) rfl))) (Or.inr (hw _ (List.mem_of_getElem? (i := 99) rfl))) (by decide) (t := .int) (t' := (.object "com/example/waitsfor/waitsfor/RowLockMode")) (by decide) (by decide)))
  have F_held := F_held.other W8 (Or.inr (slot_ne (Or.inr (hw _ (List.mem_of_getElem? (i := 105) rfl))) (Or.inr (hw _ (List.mem_of_getElem? (i := 99) rfl))) (by decide) (t := (.object "com/example/waitsfor/waitsfor/HeldLocks")) (t' := (.object "com/example/waitsfor/waitsfor/RowLockMode")) (by decide) (by decide)))
  have F_mode := F_mode.same W8
  refine go st8 ?_
  refine go (fun _ k => by refine XS.aloadN X8.here hx rfl (hb hby d_prog_94_method_3_code_44) rfl rfl ?_; exact k) ?_
  refine go (fun _ k => by refine XS.aload X8.here hx rfl (hb hby d_prog_94_method_3_code_45) rfl rfl ?_; exact k) ?_
  show OwnEnd _ _ _ _ _ _ _ (T8.setTop (mkF m 47 (fL0 a0' q1 q2 q3 p4 q5 a7 a8 p9) [(.ref a8), (.ref a0')]))
  obtain ⟨T9, h9, X9, e9, W9, st9⟩ := putF X8 hx hZ hown (host := "") (Or.inl (hw _ (List.mem_of_getElem? (i := 100) rfl))) Via.refl e8 F_blockers EA (Or.inr ⟨(hw _ (List.mem_of_getElem? (i := 101) rfl)), rfl, hnm⟩) (hw _ (List.mem_of_getElem? (i := 70) rfl)) (ty := (.object "java/util/List")) (by decide) rfl rfl (g := (mkF m 47 (fL0 a0' q1 q2 q3 p4 q5 a7 a8 p9) [(.ref a8), (.ref a0')])) rfl rfl (hb hby d_prog_94_method_3_code_47)
  have N9 := Fr.snoc X9 N8 ga
  have EA := EA.wr W9
  have KK := Keep.wr KK W9 (Or.inl (List.mem_of_getElem? (i := 0) rfl))
  have F_transaction := F_transaction.other W9 (Or.inr (slot_ne (Or.inr (hw _ (List.mem_of_getElem? (i := 87) rfl))) (Or.inr (hw _ (List.mem_of_getElem? (i := 101) rfl))) (by decide) (t := .long) (t' := (.object "java/util/List")) (by decide) (by decide)))
  have F_holder := F_holder.other W9 (Or.inr (slot_ne (Or.inr (hw _ (List.mem_of_getElem? (i := 89) rfl))) (Or.inr (hw _ (List.mem_of_getElem? (i := 101) rfl))) (by decide) (t := .long) (t' := (.object "java/util/List")) (by decide) (by decide)))
  have F_kin := F_kin.other W9 (Or.inr (slot_ne (Or.inr (hw _ (List.mem_of_getElem? (i := 91) rfl))) (Or.inr (hw _ (List.mem_of_getElem? (i := 101) rfl))) (by decide) (t := .long) (t' := (.object "java/util/List")) (by decide) (by decide)))
  have F_shard := F_shard.other W9 (Or.inr (slot_ne (Or.inr (hw _ (List.mem_of_getElem? (i := 93) rfl))) (Or.inr (hw _ (List.mem_of_getElem? (i := 101) rfl))) (by decide) (t := .int) (t' := (.object "java/util/List")) (by decide) (by decide)))
  have F_number := F_number.other W9 (Or.inr (slot_ne (Or.inr (hw _ (List.mem_of_getElem? (i := 95) rfl))) (Or.inr (hw _ (List.mem_of_getElem? (i := 101) rfl))) (by decide) (t := .long) (t' := (.object "java/util/List")) (by decide) (by decide)))
  have F_target := F_target.other W9 (Or.inr (slot_ne (Or.inr (hw _ (List.mem_of_getElem? (i := 97) rfl))) (Or.inr (hw _ (List.mem_of_getElem? (i := 101) rfl))) (by decide) (t := (.object "com/example/waitsfor/waitsfor/LockTarget")) (t' := (.object "java/util/List")) (by decide) (by decide)))
  have F_mode := F_mode.other W9 (Or.inr (slot_ne (Or.inr (hw _ (List.mem_of_getElem? (i := 99) rfl))) (Or.inr (hw _ (List.mem_of_getElem? (i := 101) rfl))) (by decide) (t := (.object "com/example/waitsfor/waitsfor/RowLockMode")) (t' := (.object "java/util/List")) (by decide) (by decide)))
  have F_holding := F_holding.other W9 (Or.inr (slot_ne (Or.inr (hw _ (List.mem_of_getElem? (i := 103) rfl))) (Or.inr (hw _ (List.mem_of_getElem? (i := 101) rfl))) (by decide) (t := .int) (t' := (.object "java/util/List")) (by decide) (by decide)))
  have F_held := F_held.other W9 (Or.inr (slot_ne (Or.inr (hw _ (List.mem_of_getElem? (i := 105) rfl))) (Or.inr (hw _ (List.mem_of_getElem? (i := 101) rfl))) (by decide) (t := (.object "com/example/waitsfor/waitsfor/HeldLocks")) (t' := (.object "java/util/List")) (by decide) (by decide)))
  have F_blockers := F_blockers.same W9
  refine go st9 ?_
  refine go (fun _ k => by refine XS.aloadN X9.here hx rfl (hb hby d_prog_94_method_3_code_50) rfl rfl ?_; exact k) ?_
  refine go (fun _ k => by refine XS.iload X9.here hx rfl (hb hby d_prog_94_method_3_code_51) rfl ?_; exact k) ?_
  show OwnEnd _ _ _ _ _ _ _ (T9.setTop (mkF m 53 (fL0 a0' q1 q2 q3 p4 q5 a7 a8 p9) [(.int p9), (.ref a0')]))
  obtain ⟨T10, h10, X10, e10, W10, st10⟩ := putF X9 hx hZ hown (host := "") (Or.inl (hw _ (List.mem_of_getElem? (i := 102) rfl))) Via.refl e9 F_holding EA (Or.inr ⟨(hw _ (List.mem_of_getElem? (i := 103) rfl)), rfl, hnm⟩) (hw _ (List.mem_of_getElem? (i := 70) rfl)) (ty := .int) (by decide) rfl rfl (g := (mkF m 53 (fL0 a0' q1 q2 q3 p4 q5 a7 a8 p9) [(.int p9), (.ref a0')])) rfl rfl (hb hby d_prog_94_method_3_code_53)
  have N10 := Fr.snoc X10 N9 ga
  have EA := EA.wr W10
  have KK := Keep.wr KK W10 (Or.inl (List.mem_of_getElem? (i := 0) rfl))
  have F_transaction := F_transaction.other W10 (Or.inr (slot_ne (Or.inr (hw _ (List.mem_of_getElem? (i := 87) rfl))) (Or.inr (hw _ (List.mem_of_getElem? (i := 103) rfl))) (by decide) (t := .long) (t' := .int) (by decide) (by decide)))
  have F_holder := F_holder.other W10 (Or.inr (slot_ne (Or.inr (hw _ (List.mem_of_getElem? (i := 89) rfl))) (Or.inr (hw _ (List.mem_of_getElem? (i := 103) rfl))) (by decide) (t := .long) (t' := .int) (by decide) (by decide)))
  have F_kin := F_kin.other W10 (Or.inr (slot_ne (Or.inr (hw _ (List.mem_of_getElem? (i := 91) rfl))) (Or.inr (hw _ (List.mem_of_getElem? (i := 103) rfl))) (by decide) (t := .long) (t' := .int) (by decide) (by decide)))
  have F_shard := F_shard.other W10 (Or.inr (slot_ne (Or.inr (hw _ (List.mem_of_getElem? (i := 93) rfl))) (Or.inr (hw _ (List.mem_of_getElem? (i := 103) rfl))) (by decide) (t := .int) (t' := .int) (by decide) (by decide)))
  have F_number := F_number.other W10 (Or.inr (slot_ne (Or.inr (hw _ (List.mem_of_getElem? (i := 95) rfl))) (Or.inr (hw _ (List.mem_of_getElem? (i := 103) rfl))) (by decide) (t := .long) (t' := .int) (by decide) (by decide)))
  have F_target := F_target.other W10 (Or.inr (slot_ne (Or.inr (hw _ (List.mem_of_getElem? (i := 97) rfl))) (Or.inr (hw _ (List.mem_of_getElem? (i := 103) rfl))) (by decide) (t := (.object "com/example/waitsfor/waitsfor/LockTarget")) (t' := .int) (by decide) (by decide)))
  have F_mode := F_mode.other W10 (Or.inr (slot_ne (Or.inr (hw _ (List.mem_of_getElem? (i := 99) rfl))) (Or.inr (hw _ (List.mem_of_getElem? (i := 103) rfl))) (by decide) (t := (.object "com/example/waitsfor/waitsfor/RowLockMode")) (t' := .int) (by decide) (by decide)))
  have F_blockers := F_blockers.other W10 (Or.inr (slot_ne (Or.inr (hw _ (List.mem_of_getElem? (i := 101) rfl))) (Or.inr (hw _ (List.mem_of_getElem? (i := 103) rfl))) (by decide) (t := (.object "java/util/List")) (t' := .int) (by decide) (by decide)))
  have F_held := F_held.other W10 (Or.inr (slot_ne (Or.inr (hw _ (List.mem_of_getElem? (i := 105) rfl))) (Or.inr (hw _ (List.mem_of_getElem? (i := 103) rfl))) (by decide) (t := (.object "com/example/waitsfor/waitsfor/HeldLocks")) (t' := .int) (by decide) (by decide)))
  have F_holding := F_holding.same W10
  refine go st10 ?_
  refine go (fun _ k => by refine XS.aloadN X10.here hx rfl (hb hby d_prog_94_method_3_code_56) rfl rfl ?_; exact k) ?_
  refine go (fun _ k => by refine XS.aload X10.here hx rfl (hb hby d_prog_94_method_3_code_57) rfl rfl ?_; exact k) ?_
  show OwnEnd _ _ _ _ _ _ _ (T10.setTop (mkF m 59 (fL0 a0' q1 q2 q3 p4 q5 a7 a8 p9) [.null, (.ref a0')]))
  obtain ⟨T11, h11, X11, e11, W11, st11⟩ := putF X10 hx hZ hown (host := "") (Or.inl (hw _ (List.mem_of_getElem? (i := 104) rfl))) Via.refl e10 F_held EA (Or.inr ⟨(hw _ (List.mem_of_getElem? (i := 105) rfl)), rfl, hnm⟩) (hw _ (List.mem_of_getElem? (i := 70) rfl)) (ty := (.object "com/example/waitsfor/waitsfor/HeldLocks")) (by decide) rfl rfl (g := (mkF m 59 (fL0 a0' q1 q2 q3 p4 q5 a7 a8 p9) [.null, (.ref a0')])) rfl rfl (hb hby d_prog_94_method_3_code_59)
  have N11 := Fr.snoc X11 N10 ga
  have EA := EA.wr W11
  have KK := Keep.wr KK W11 (Or.inl (List.mem_of_getElem? (i := 0) rfl))
  have F_transaction := F_transaction.other W11 (Or.inr (slot_ne (Or.inr (hw _ (List.mem_of_getElem? (i := 87) rfl))) (Or.inr (hw _ (List.mem_of_getElem? (i := 105) rfl))) (by decide) (t := .long) (t' := (.object "com/example/waitsfor/waitsfor/HeldLocks")) (by decide) (by decide)))
  have F_holder := F_holder.other W11 (Or.inr (slot_ne (Or.inr (hw _ (List.mem_of_getElem? (i := 89) rfl))) (Or.inr (hw _ (List.mem_of_getElem? (i := 105) rfl))) (by decide) (t := .long) (t' := (.object "com/example/waitsfor/waitsfor/HeldLocks")) (by decide) (by decide)))
  have F_kin := F_kin.other W11 (Or.inr (slot_ne (Or.inr (hw _ (List.mem_of_getElem? (i := 91) rfl))) (Or.inr (hw _ (List.mem_of_getElem? (i := 105) rfl))) (by decide) (t := .long) (t' := (.object "com/example/waitsfor/waitsfor/HeldLocks")) (by decide) (by decide)))
  have F_shard := F_shard.other W11 (Or.inr (slot_ne (Or.inr (hw _ (List.mem_of_getElem? (i := 93) rfl))) (Or.inr (hw _ (List.mem_of_getElem? (i := 105) rfl))) (by decide) (t := .int) (t' := (.object "com/example/waitsfor/waitsfor/HeldLocks")) (by decide) (by decide)))
  have F_number := F_number.other W11 (Or.inr (slot_ne (Or.inr (hw _ (List.mem_of_getElem? (i := 95) rfl))) (Or.inr (hw _ (List.mem_of_getElem? (i := 105) rfl))) (by decide) (t := .long) (t' := (.object "com/example/waitsfor/waitsfor/HeldLocks")) (by decide) (by decide)))
  have F_target := F_target.other W11 (Or.inr (slot_ne (Or.inr (hw _ (List.mem_of_getElem? (i := 97) rfl))) (Or.inr (hw _ (List.mem_of_getElem? (i := 105) rfl))) (by decide) (t := (.object "com/example/waitsfor/waitsfor/LockTarget")) (t' := (.object "com/example/waitsfor/waitsfor/HeldLocks")) (by decide) (by decide)))
  have F_mode := F_mode.other W11 (Or.inr (slot_ne (Or.inr (hw _ (List.mem_of_getElem? (i := 99) rfl))) (Or.inr (hw _ (List.mem_of_getElem? (i := 105) rfl))) (by decide) (t := (.object "com/example/waitsfor/waitsfor/RowLockMode")) (t' := (.object "com/example/waitsfor/waitsfor/HeldLocks")) (by decide) (by decide)))
  have F_blockers := F_blockers.other W11 (Or.inr (slot_ne (Or.inr (hw _ (List.mem_of_getElem? (i := 101) rfl))) (Or.inr (hw _ (List.mem_of_getElem? (i := 105) rfl))) (by decide) (t := (.object "java/util/List")) (t' := (.object "com/example/waitsfor/waitsfor/HeldLocks")) (by decide) (by decide)))
  have F_holding := F_holding.other W11 (Or.inr (slot_ne (Or.inr (hw _ (List.mem_of_getElem? (i := 103) rfl))) (Or.inr (hw _ (List.mem_of_getElem? (i := 105) rfl))) (by decide) (t := .int) (t' := (.object "com/example/waitsfor/waitsfor/HeldLocks")) (by decide) (by decide)))
  have F_held := F_held.same W11
  refine go st11 ?_
  show OwnEnd _ _ _ _ _ _ _ (T11.setTop (mkF m 62 (fL0 a0' q1 q2 q3 p4 q5 a7 a8 p9) []))
  refine endV X11 hx hlk Bd.returns (hb hby d_prog_94_method_3_code_62) e11 (by decide) (by decide) ?_
  exact ⟨rfl, N11, KK, EA, F_transaction, F_holder, F_kin, F_shard, F_number, F_target, F_mode, F_blockers, F_holding, F_held⟩
theorem d_prog_94_method_2_code_0 : decode prog_94_method_2_code 0 = .ok (.aload_n 0, 1) := by decide +kernel
theorem d_prog_94_method_2_code_1 : decode prog_94_method_2_code 1 = .ok (.lload_n 1, 1) := by decide +kernel
theorem d_prog_94_method_2_code_2 : decode prog_94_method_2_code 2 = .ok (.lload_n 3, 1) := by decide +kernel
theorem d_prog_94_method_2_code_3 : decode prog_94_method_2_code 3 = .ok (.lconst 0, 1) := by decide +kernel
theorem d_prog_94_method_2_code_4 : decode prog_94_method_2_code 4 = .ok (.iload 5, 2) := by decide +kernel
theorem d_prog_94_method_2_code_6 : decode prog_94_method_2_code 6 = .ok (.lload 6, 2) := by decide +kernel
theorem d_prog_94_method_2_code_8 : decode prog_94_method_2_code 8 = .ok (.aload 8, 2) := by decide +kernel
theorem d_prog_94_method_2_code_10 : decode prog_94_method_2_code 10 = .ok (.aload 9, 2) := by decide +kernel
theorem d_prog_94_method_2_code_12 : decode prog_94_method_2_code 12 = .ok (.aload 10, 2) := by decide +kernel
theorem d_prog_94_method_2_code_14 : decode prog_94_method_2_code 14 = .ok (.iload 11, 2) := by decide +kernel
theorem d_prog_94_method_2_code_16 : decode prog_94_method_2_code 16 = .ok (.aconst_null, 1) := by decide +kernel
theorem d_prog_94_method_2_code_17 : decode prog_94_method_2_code 17 = .ok (.invokespecial 15, 3) := by decide +kernel
theorem pd__JJJIJLcom_example_waitsfor_waitsfor_LockTarget_Lcom_example_waitsfor_waitsfor_RowLockMode_Ljava_util_List_ILcom_example_waitsfor_waitsfor_HeldLocks__V : parseMethodDescriptor "(JJJIJLcom/example/waitsfor/waitsfor/LockTarget;Lcom/example/waitsfor/waitsfor/RowLockMode;Ljava/util/List;ILcom/example/waitsfor/waitsfor/HeldLocks;)V" = some ⟨[.long, .long, .long, .int, .long, (.object "com/example/waitsfor/waitsfor/LockTarget"), (.object "com/example/waitsfor/waitsfor/RowLockMode"), (.object "java/util/List"), .int, (.object "com/example/waitsfor/waitsfor/HeldLocks")], none⟩ := by decide +kernel
theorem d_prog_94_method_2_code_20 : decode prog_94_method_2_code 20 = .ok (.return_, 1) := by decide +kernel
theorem ef_rm_w8 (m : MethodId) (y0 : Addr) (y1 : Int64) (y2 : Int64) (y3 : Int32) (y4 : Int64) (y6 : Addr) (y7 : Addr) (y8 : Int32) : entryFrame m #[(.ref y0), (.long y1), (.long y2), (.int y3), (.long y4), .null, (.ref y6), (.ref y7), (.int y8)] 12 = mkF m 0 #[.val (.ref y0), .val (.long y1), .second, .val (.long y2), .second, .val (.int y3), .val (.long y4), .second, .val .null, .val (.ref y6), .val (.ref y7), .val (.int y8)] [] := by first | (simp [entryFrame, mkF, argsToLocals, Value.category]; done) | rfl
def Q_rm_w8 (Z : State) (a0' : Addr) (q1 : Int64) (q2 : Int64) (p3 : Int32) (q4 : Int64) (a6 : Addr) (a7 : Addr) (p8 : Int32) (h0 : Heap) (n0 : Nat) (v : Option Value) (h : Heap) (L : List Loc) : Prop := v = none ∧ Fr n0 L ∧ Keep h0 h [a0'] ∧ Exa Z h a0' "com/example/waitsfor/waitsfor/Wait" ∧ Fld Z h a0' "com/example/waitsfor/waitsfor/Wait" "transaction" "J" (.long q1) ∧ Fld Z h a0' "com/example/waitsfor/waitsfor/Wait" "holder" "J" (.long q2) ∧ Fld Z h a0' "com/example/waitsfor/waitsfor/Wait" "kin" "J" (.long (0 : Int64)) ∧ Fld Z h a0' "com/example/waitsfor/waitsfor/Wait" "shard" "I" (.int p3) ∧ Fld Z h a0' "com/example/waitsfor/waitsfor/Wait" "number" "J" (.long q4) ∧ Fld Z h a0' "com/example/waitsfor/waitsfor/Wait" "target" "Lcom/example/waitsfor/waitsfor/LockTarget;" .null ∧ Fld Z h a0' "com/example/waitsfor/waitsfor/Wait" "mode" "Lcom/example/waitsfor/waitsfor/RowLockMode;" (.ref a6) ∧ Fld Z h a0' "com/example/waitsfor/waitsfor/Wait" "blockers" "Ljava/util/List;" (.ref a7) ∧ Fld Z h a0' "com/example/waitsfor/waitsfor/Wait" "holding" "I" (.int p8) ∧ Fld Z h a0' "com/example/waitsfor/waitsfor/Wait" "held" "Lcom/example/waitsfor/waitsfor/HeldLocks;" .null
set_option maxRecDepth 65536 in
set_option maxHeartbeats 40000000 in
theorem rm_w8 (l : Launch) (Z : State) (a0 : Array Value) (hw : ∀ d ∈ tables_1, d.before a0 Z = true) (ws : List Jvm.Cond) (a0' : Addr) (q1 : Int64) (q2 : Int64) (p3 : Int32) (q4 : Int64) (a6 : Addr) (a7 : Addr) (p8 : Int32) (h0 : Heap) (n0 : Nat) (ga : n0 ≤ a0') (EA : Exa Z h0 a0' "com/example/waitsfor/waitsfor/Wait") (F_transaction : Fld Z h0 a0' "com/example/waitsfor/waitsfor/Wait" "transaction" "J" (.long (0 : Int64))) (F_holder : Fld Z h0 a0' "com/example/waitsfor/waitsfor/Wait" "holder" "J" (.long (0 : Int64))) (F_kin : Fld Z h0 a0' "com/example/waitsfor/waitsfor/Wait" "kin" "J" (.long (0 : Int64))) (F_shard : Fld Z h0 a0' "com/example/waitsfor/waitsfor/Wait" "shard" "I" (.int (0 : Int32))) (F_number : Fld Z h0 a0' "com/example/waitsfor/waitsfor/Wait" "number" "J" (.long (0 : Int64))) (F_target : Fld Z h0 a0' "com/example/waitsfor/waitsfor/Wait" "target" "Lcom/example/waitsfor/waitsfor/LockTarget;" .null) (F_mode : Fld Z h0 a0' "com/example/waitsfor/waitsfor/Wait" "mode" "Lcom/example/waitsfor/waitsfor/RowLockMode;" .null) (F_blockers : Fld Z h0 a0' "com/example/waitsfor/waitsfor/Wait" "blockers" "Ljava/util/List;" .null) (F_holding : Fld Z h0 a0' "com/example/waitsfor/waitsfor/Wait" "holding" "I" (.int (0 : Int32))) (F_held : Fld Z h0 a0' "com/example/waitsfor/waitsfor/Wait" "held" "Lcom/example/waitsfor/waitsfor/HeldLocks;" .null) :
    MetFree l (⟨"com/example/waitsfor/waitsfor/Wait", "<init>", "(JJIJLcom/example/waitsfor/waitsfor/LockTarget;Lcom/example/waitsfor/waitsfor/RowLockMode;Ljava/util/List;I)V"⟩ : MethodName) (head1 (Jvm.Cond.code (⟨"com/example/waitsfor/waitsfor/Wait", "<init>", "(JJIJLcom/example/waitsfor/waitsfor/LockTarget;Lcom/example/waitsfor/waitsfor/RowLockMode;Ljava/util/List;I)V"⟩ : MethodName) prog_94_method_2_code 12 none :: ws) ({ frames := 2, cells := 0, slots := 0, locals := 38 } : Room)) (fun a U => a = #[(.ref a0'), (.long q1), (.long q2), (.int p3), (.long q4), .null, (.ref a6), (.ref a7), (.int p8)] ∧ Z.Warmed39 U.vm ∧ U.heap = h0) (fun _ _ _ _ _ => True) (fun _ U o U' => ∃ v L, o = .returned v ∧ Q_rm_w8 Z a0' q1 q2 p3 q4 a6 a7 p8 h0 n0 v U'.heap L ∧ FrameEnd U o U' L 0 0) := by
  refine MetFree.of_bodySF (plainFor_of_name pn_com_example_waitsfor_waitsfor_Wait) hisR ?_
  intro p e s m args below meth c s₁ Bd hml0 hP hK
  obtain ⟨rfl, hZ, hh⟩ := hP
  have hx := Bd.exec
  have hby := Bd.bytes
  have hlk := Bd.notSynchronized
  have hml : c.maxLocals = 12 := hml0
  have hown : s.vm.findClass "com/example/waitsfor/waitsfor/Wait" = some m.cls := findClass_of_methodNamed Bd.named
  have hnm := (name_of_methodNamed Bd.named Bd.method).1
  have X0 : Stand p l e ({ frames := 2, cells := 0, slots := 0, locals := 38 } : Room) s m #[(.ref a0'), (.long q1), (.long q2), (.int p3), (.long q4), .null, (.ref a6), (.ref a7), (.int p8)] below meth c s₁ [] 0 0 := Stand.of_body Bd
  have e0 : s₁.heap = h0 := by rw [← hh, Bd.state]; rfl
  have N0 := Fr.nil n0
  show OwnEnd p e below s (Q_rm_w8 Z a0' q1 q2 p3 q4 a6 a7 p8 h0 n0) 0 0 (s₁.setTop (entryFrame m #[(.ref a0'), (.long q1), (.long q2), (.int p3), (.long q4), .null, (.ref a6), (.ref a7), (.int p8)] 12))
  refine go (fun t k => castTop (ef_rm_w8 m a0' q1 q2 p3 q4 a6 a7 p8) k) ?_
  have KK := Keep.refl h0 [a0']
  show OwnEnd _ _ _ _ _ _ _ (s₁.setTop (mkF m 0 (fL1 a0' q1 q2 p3 q4 a6 a7 p8) []))
  refine go (fun _ k => by refine XS.aloadN X0.here hx rfl (hb hby d_prog_94_method_2_code_0) rfl rfl ?_; exact k) ?_
  refine go (fun _ k => by refine XS.lloadN X0.here hx rfl (hb hby d_prog_94_method_2_code_1) rfl ?_; exact k) ?_
  refine go (fun _ k => by refine XS.lloadN X0.here hx rfl (hb hby d_prog_94_method_2_code_2) rfl ?_; exact k) ?_
  refine go (fun _ k => by refine XS.lconst X0.here hx rfl (hb hby d_prog_94_method_2_code_3) ?_; exact k) ?_
  show OwnEnd _ _ _ _ _ _ _ (s₁.setTop (mkF m 4 (fL1 a0' q1 q2 p3 q4 a6 a7 p8) [(.long (0 : Int64)), (.long q2), (.long q1), (.ref a0')]))
  refine go (fun _ k => by refine XS.iload X0.here hx rfl (hb hby d_prog_94_method_2_code_4) rfl ?_; exact k) ?_
  refine go (fun _ k => by refine XS.lload X0.here hx rfl (hb hby d_prog_94_method_2_code_6) rfl ?_; exact k) ?_
  refine go (fun _ k => by refine XS.aload X0.here hx rfl (hb hby d_prog_94_method_2_code_8) rfl rfl ?_; exact k) ?_
  refine go (fun _ k => by refine XS.aload X0.here hx rfl (hb hby d_prog_94_method_2_code_10) rfl rfl ?_; exact k) ?_
  show OwnEnd _ _ _ _ _ _ _ (s₁.setTop (mkF m 12 (fL1 a0' q1 q2 p3 q4 a6 a7 p8) [(.ref a6), .null, (.long q4), (.int p3), (.long (0 : Int64)), (.long q2), (.long q1), (.ref a0')]))
  refine go (fun _ k => by refine XS.aload X0.here hx rfl (hb hby d_prog_94_method_2_code_12) rfl rfl ?_; exact k) ?_
  refine go (fun _ k => by refine XS.iload X0.here hx rfl (hb hby d_prog_94_method_2_code_14) rfl ?_; exact k) ?_
  refine go (fun _ k => by refine XS.aconstNull X0.here hx rfl (hb hby d_prog_94_method_2_code_16) ?_; exact k) ?_
  show OwnEnd _ _ _ _ _ _ _ (s₁.setTop (mkF m 17 (fL1 a0' q1 q2 p3 q4 a6 a7 p8) [.null, (.int p8), (.ref a7), (.ref a6), .null, (.long q4), (.int p3), (.long (0 : Int64)), (.long q2), (.long q1), (.ref a0')]))
  obtain ⟨_, T1, L1, X1, hQ1, st1⟩ := callInit X0 hx hZ hown rfl (hw _ (List.mem_of_getElem? (i := 82) rfl)) (hw _ (List.mem_of_getElem? (i := 83) rfl)) (hw _ (List.mem_of_getElem? (i := 71) rfl)) (hw _ (List.mem_of_getElem? (i := 84) rfl)) (by decide) (rm_w10 l Z a0 hw [] a0' q1 q2 (0 : Int64) p3 q4 a6 a7 p8 h0 n0 ga EA F_transaction F_holder F_kin F_shard F_number F_target F_mode F_blockers F_holding F_held) (W := 0) (by decide) (by decide) e0 (g := (mkF m 17 (fL1 a0' q1 q2 p3 q4 a6 a7 p8) [.null, (.int p8), (.ref a7), (.ref a6), .null, (.long q4), (.int p3), (.long (0 : Int64)), (.long q2), (.long q1), (.ref a0')])) rfl (by rw [hml]; rfl) (argsL := [(.long q1), (.long q2), (.long (0 : Int64)), (.int p3), (.long q4), .null, (.ref a6), (.ref a7), (.int p8), .null]) (rest := []) rfl (lenOf pd__JJJIJLcom_example_waitsfor_waitsfor_LockTarget_Lcom_example_waitsfor_waitsfor_RowLockMode_Ljava_util_List_ILcom_example_waitsfor_waitsfor_HeldLocks__V rfl) rfl (by show 2 * 0 + _ ≤ _; exact Nat.le_of_eq rfl) (hb hby d_prog_94_method_2_code_17) (by decide) (by decide)
  obtain ⟨rfl, Nq1, K1, EA, F_transaction, F_holder, F_kin, F_shard, F_number, F_target, F_mode, F_blockers, F_holding, F_held⟩ := hQ1
  have N1 := Fr.app N0 Nq1
  have KK := Keep.trans KK K1 (allS (Or.inl (List.mem_of_getElem? (i := 0) rfl)) all0)
  refine go st1 ?_
  show OwnEnd _ _ _ _ _ _ _ (T1.setTop (mkF m 20 (fL1 a0' q1 q2 p3 q4 a6 a7 p8) []))
  refine endV X1 hx hlk Bd.returns (hb hby d_prog_94_method_2_code_20) rfl (by decide) (by decide) ?_
  exact ⟨rfl, N1, KK, EA, F_transaction, F_holder, F_kin, F_shard, F_number, F_target, F_mode, F_blockers, F_holding, F_held⟩
theorem d_prog_94_method_21_code_0 : decode prog_94_method_21_code 0 = .ok (.aload_n 1, 1) := by decide +kernel
theorem d_prog_94_method_21_code_1 : decode prog_94_method_21_code 1 = .ok (.instanceof 8, 3) := by decide +kernel
theorem d_prog_94_method_21_code_4 : decode prog_94_method_21_code 4 = .ok (.ifCond .eq 35, 3) := by decide +kernel
theorem d_prog_94_method_21_code_7 : decode prog_94_method_21_code 7 = .ok (.aload_n 1, 1) := by decide +kernel
theorem d_prog_94_method_21_code_8 : decode prog_94_method_21_code 8 = .ok (.checkcast 8, 3) := by decide +kernel
theorem d_prog_94_method_21_code_11 : decode prog_94_method_21_code 11 = .ok (.astore_n 2, 1) := by decide +kernel
theorem d_prog_94_method_21_code_12 : decode prog_94_method_21_code 12 = .ok (.aload_n 0, 1) := by decide +kernel
theorem d_prog_94_method_21_code_13 : decode prog_94_method_21_code 13 = .ok (.getfield 33, 3) := by decide +kernel
theorem d_prog_94_method_21_code_16 : decode prog_94_method_21_code 16 = .ok (.aload_n 2, 1) := by decide +kernel
theorem d_prog_94_method_21_code_17 : decode prog_94_method_21_code 17 = .ok (.getfield 33, 3) := by decide +kernel
theorem d_prog_94_method_21_code_20 : decode prog_94_method_21_code 20 = .ok (.if_icmp .ne 19, 3) := by decide +kernel
theorem d_prog_94_method_21_code_23 : decode prog_94_method_21_code 23 = .ok (.aload_n 0, 1) := by decide +kernel
theorem d_prog_94_method_21_code_24 : decode prog_94_method_21_code 24 = .ok (.getfield 37, 3) := by decide +kernel
theorem d_prog_94_method_21_code_27 : decode prog_94_method_21_code 27 = .ok (.aload_n 2, 1) := by decide +kernel
theorem d_prog_94_method_21_code_28 : decode prog_94_method_21_code 28 = .ok (.getfield 37, 3) := by decide +kernel
theorem d_prog_94_method_21_code_31 : decode prog_94_method_21_code 31 = .ok (.lcmp, 1) := by decide +kernel
theorem d_prog_94_method_21_code_32 : decode prog_94_method_21_code 32 = .ok (.ifCond .ne 7, 3) := by decide +kernel
theorem d_prog_94_method_21_code_35 : decode prog_94_method_21_code 35 = .ok (.iconst 1, 1) := by decide +kernel
theorem d_prog_94_method_21_code_36 : decode prog_94_method_21_code 36 = .ok (.goto 4, 3) := by decide +kernel
theorem d_prog_94_method_21_code_40 : decode prog_94_method_21_code 40 = .ok (.ireturn, 1) := by decide +kernel
theorem d_prog_94_method_21_code_39 : decode prog_94_method_21_code 39 = .ok (.iconst 0, 1) := by decide +kernel
theorem ef_rm_eqv (m : MethodId) (y0 : Addr) (y1 : Addr) : entryFrame m #[(.ref y0), (.ref y1)] 3 = mkF m 0 #[.val (.ref y0), .val (.ref y1), .unset] [] := by first | (simp [entryFrame, mkF, argsToLocals, Value.category]; done) | rfl
def Q_rm_eqv (Z : State) (a0' : Addr) (a1' : Addr) (sh1 : Int32) (nu1 : Int64) (sh2 : Int32) (nu2 : Int64) (h0 : Heap) (n0 : Nat) (v : Option Value) (h : Heap) (L : List Loc) : Prop := v = some (.int (if own_eq sh1 nu1 sh2 nu2 then (1 : Int32) else 0)) ∧ Fr n0 L ∧ h = h0
set_option maxRecDepth 65536 in
set_option maxHeartbeats 40000000 in
theorem rm_eqv (l : Launch) (Z : State) (a0 : Array Value) (hw : ∀ d ∈ tables_1, d.before a0 Z = true) (ws : List Jvm.Cond) (a0' : Addr) (a1' : Addr) (sh1 : Int32) (nu1 : Int64) (sh2 : Int32) (nu2 : Int64) (h0 : Heap) (n0 : Nat) (G0 : Fld Z h0 a0' "com/example/waitsfor/waitsfor/Wait" "shard" "I" (.int sh1)) (G1 : Fld Z h0 a0' "com/example/waitsfor/waitsfor/Wait" "number" "J" (.long nu1)) (G2 : Fld Z h0 a1' "com/example/waitsfor/waitsfor/Wait" "shard" "I" (.int sh2)) (G3 : Fld Z h0 a1' "com/example/waitsfor/waitsfor/Wait" "number" "J" (.long nu2)) (EB : Exa Z h0 a1' "com/example/waitsfor/waitsfor/Wait") :
    MetFree l (⟨"com/example/waitsfor/waitsfor/Wait", "equals", "(Ljava/lang/Object;)Z"⟩ : MethodName) (head1 (Jvm.Cond.code (⟨"com/example/waitsfor/waitsfor/Wait", "equals", "(Ljava/lang/Object;)Z"⟩ : MethodName) prog_94_method_21_code 3 (some .boolean) :: ws) ({ frames := 0, cells := 0, slots := 0, locals := 0 } : Room)) (fun a U => a = #[(.ref a0'), (.ref a1')] ∧ Z.Warmed39 U.vm ∧ U.heap = h0) (fun _ _ _ _ _ => True) (fun _ U o U' => ∃ v L, o = .returned v ∧ Q_rm_eqv Z a0' a1' sh1 nu1 sh2 nu2 h0 n0 v U'.heap L ∧ FrameEnd U o U' L 0 0) := by
  refine MetFree.of_bodySF (plainFor_of_name pn_com_example_waitsfor_waitsfor_Wait) hisR ?_
  intro p e s m args below meth c s₁ Bd hml0 hP hK
  obtain ⟨rfl, hZ, hh⟩ := hP
  have hx := Bd.exec
  have hby := Bd.bytes
  have hlk := Bd.notSynchronized
  have hml : c.maxLocals = 3 := hml0
  have hown : s.vm.findClass "com/example/waitsfor/waitsfor/Wait" = some m.cls := findClass_of_methodNamed Bd.named
  have hnm := (name_of_methodNamed Bd.named Bd.method).1
  have X0 : Stand p l e ({ frames := 0, cells := 0, slots := 0, locals := 0 } : Room) s m #[(.ref a0'), (.ref a1')] below meth c s₁ [] 0 0 := Stand.of_body Bd
  have e0 : s₁.heap = h0 := by rw [← hh, Bd.state]; rfl
  have N0 := Fr.nil n0
  show OwnEnd p e below s (Q_rm_eqv Z a0' a1' sh1 nu1 sh2 nu2 h0 n0) 0 0 (s₁.setTop (entryFrame m #[(.ref a0'), (.ref a1')] 3))
  refine go (fun t k => castTop (ef_rm_eqv m a0' a1') k) ?_
  show OwnEnd _ _ _ _ _ _ _ (s₁.setTop (mkF m 0 #[.val (.ref a0'), .val (.ref a1'), .unset] []))
  refine go (fun _ k => by refine XS.aloadN X0.here hx rfl (hb hby d_prog_94_method_21_code_0) rfl rfl ?_; exact k) ?_
  show OwnEnd _ _ _ _ _ _ _ (s₁.setTop (mkF m 1 #[.val (.ref a0'), .val (.ref a1'), .unset] [(.ref a1')]))
  obtain ⟨T1, X1, e1, st1⟩ := instY X0 hx hZ hown (hw _ (List.mem_of_getElem? (i := 111) rfl)) e0 (Ins.self EB) (g := (mkF m 1 #[.val (.ref a0'), .val (.ref a1'), .unset] [(.ref a1')])) rfl rfl (hb hby d_prog_94_method_21_code_1)
  refine go st1 ?_
  show OwnEnd _ _ _ _ _ _ _ (T1.setTop (mkF m 4 #[.val (.ref a0'), .val (.ref a1'), .unset] [(.int (1 : Int32))]))
  refine go (fun _ k => by refine XS.ifNo X1.here hx rfl (hb hby d_prog_94_method_21_code_4) rfl ((if0 _ _).trans (feq (by decide)).1) ?_; exact k) ?_
  refine go (fun _ k => by refine XS.aloadN X1.here hx rfl (hb hby d_prog_94_method_21_code_7) rfl rfl ?_; exact k) ?_
  show OwnEnd _ _ _ _ _ _ _ (T1.setTop (mkF m 8 #[.val (.ref a0'), .val (.ref a1'), .unset] [(.ref a1')]))
  obtain ⟨T2, X2, e2, st2⟩ := castY X1 hx hZ hown (hw _ (List.mem_of_getElem? (i := 111) rfl)) e1 (Ins.self EB) (g := (mkF m 8 #[.val (.ref a0'), .val (.ref a1'), .unset] [(.ref a1')])) rfl rfl (hb hby d_prog_94_method_21_code_8)
  refine go st2 ?_
  refine go (fun _ k => by refine XS.astoreN X2.here hx rfl (hb hby d_prog_94_method_21_code_11) rfl rfl (l' := #[.val (.ref a0'), .val (.ref a1'), .val (.ref a1')]) rfl ?_; exact k) ?_
  refine go (fun _ k => by refine XS.aloadN X2.here hx rfl (hb hby d_prog_94_method_21_code_12) rfl rfl ?_; exact k) ?_
  show OwnEnd _ _ _ _ _ _ _ (T2.setTop (mkF m 13 #[.val (.ref a0'), .val (.ref a1'), .val (.ref a1')] [(.ref a0')]))
  obtain ⟨T3, X3, e3, st3⟩ := getF X2 hx hZ hown (host := "") (Or.inl (hw _ (List.mem_of_getElem? (i := 92) rfl))) Via.refl e2 G0 (g := (mkF m 13 #[.val (.ref a0'), .val (.ref a1'), .val (.ref a1')] [(.ref a0')])) rfl rfl (hb hby d_prog_94_method_21_code_13)
  refine go st3 ?_
  refine go (fun _ k => by refine XS.aloadN X3.here hx rfl (hb hby d_prog_94_method_21_code_16) rfl rfl ?_; exact k) ?_
  show OwnEnd _ _ _ _ _ _ _ (T3.setTop (mkF m 17 #[.val (.ref a0'), .val (.ref a1'), .val (.ref a1')] [(.ref a1'), (.int sh1)]))
  obtain ⟨T4, X4, e4, st4⟩ := getF X3 hx hZ hown (host := "") (Or.inl (hw _ (List.mem_of_getElem? (i := 92) rfl))) Via.refl e3 G2 (g := (mkF m 17 #[.val (.ref a0'), .val (.ref a1'), .val (.ref a1')] [(.ref a1'), (.int sh1)])) rfl rfl (hb hby d_prog_94_method_21_code_17)
  refine go st4 ?_
  show OwnEnd _ _ _ _ _ _ _ (T4.setTop (mkF m 20 #[.val (.ref a0'), .val (.ref a1'), .val (.ref a1')] [(.int sh2), (.int sh1)]))
  by_cases hc20_5 : sh1 = sh2
  · refine go (fun _ k => by refine XS.icmpNo X4.here hx rfl (hb hby d_prog_94_method_21_code_20) rfl (teq hc20_5).2 ?_; exact k) ?_
    show OwnEnd _ _ _ _ _ _ _ (T4.setTop (mkF m 23 #[.val (.ref a0'), .val (.ref a1'), .val (.ref a1')] []))
    refine go (fun _ k => by refine XS.aloadN X4.here hx rfl (hb hby d_prog_94_method_21_code_23) rfl rfl ?_; exact k) ?_
    show OwnEnd _ _ _ _ _ _ _ (T4.setTop (mkF m 24 #[.val (.ref a0'), .val (.ref a1'), .val (.ref a1')] [(.ref a0')]))
    obtain ⟨T6, X6, e6, st6⟩ := getF X4 hx hZ hown (host := "") (Or.inl (hw _ (List.mem_of_getElem? (i := 94) rfl))) Via.refl e4 G1 (g := (mkF m 24 #[.val (.ref a0'), .val (.ref a1'), .val (.ref a1')] [(.ref a0')])) rfl rfl (hb hby d_prog_94_method_21_code_24)
    refine go st6 ?_
    refine go (fun _ k => by refine XS.aloadN X6.here hx rfl (hb hby d_prog_94_method_21_code_27) rfl rfl ?_; exact k) ?_
    show OwnEnd _ _ _ _ _ _ _ (T6.setTop (mkF m 28 #[.val (.ref a0'), .val (.ref a1'), .val (.ref a1')] [(.ref a1'), (.long nu1)]))
    obtain ⟨T7, X7, e7, st7⟩ := getF X6 hx hZ hown (host := "") (Or.inl (hw _ (List.mem_of_getElem? (i := 94) rfl))) Via.refl e6 G3 (g := (mkF m 28 #[.val (.ref a0'), .val (.ref a1'), .val (.ref a1')] [(.ref a1'), (.long nu1)])) rfl rfl (hb hby d_prog_94_method_21_code_28)
    refine go st7 ?_
    refine go (fun _ k => by refine XS.lcmp X7.here hx rfl (hb hby d_prog_94_method_21_code_31) rfl ?_; exact k) ?_
    show OwnEnd _ _ _ _ _ _ _ (T7.setTop (mkF m 32 #[.val (.ref a0'), .val (.ref a1'), .val (.ref a1')] [(.int (lcmpW nu1 nu2))]))
    by_cases hc32_8 : nu1 = nu2
    · refine go (fun _ k => by refine XS.ifNo X7.here hx rfl (hb hby d_prog_94_method_21_code_32) rfl ((if0 _ _).trans (teq ((lw_eq _ _).mpr hc32_8)).2) ?_; exact k) ?_
      show OwnEnd _ _ _ _ _ _ _ (T7.setTop (mkF m 35 #[.val (.ref a0'), .val (.ref a1'), .val (.ref a1')] []))
      refine go (fun _ k => by refine XS.iconst X7.here hx rfl (hb hby d_prog_94_method_21_code_35) ?_; exact k) ?_
      refine go (fun _ k => by refine XS.goto X7.here hx rfl (pc0 := 36) (pc' := 40) rfl (hb hby d_prog_94_method_21_code_36) (by decide) (by decide) ?_; exact k) ?_
      show OwnEnd _ _ _ _ _ _ _ (T7.setTop (mkF m 40 #[.val (.ref a0'), .val (.ref a1'), .val (.ref a1')] [(.int (1 : Int32))]))
      refine endN X7 hx hlk (t := .boolean) (by simp) Bd.returns (hb hby d_prog_94_method_21_code_40) e7 (by decide) (by decide) ?_
      exact ⟨by rw [if_pos (by simp_all [own_eq])]; rfl, N0, rfl⟩
    · refine go (fun _ k => by refine XS.ifYes X7.here hx rfl (pc0 := 32) (pc' := 39) rfl (hb hby d_prog_94_method_21_code_32) rfl ((if0 _ _).trans (feq (fun q => hc32_8 ((lw_eq _ _).mp q))).2) (by decide) (by decide) ?_; exact k) ?_
      show OwnEnd _ _ _ _ _ _ _ (T7.setTop (mkF m 39 #[.val (.ref a0'), .val (.ref a1'), .val (.ref a1')] []))
      refine go (fun _ k => by refine XS.iconst X7.here hx rfl (hb hby d_prog_94_method_21_code_39) ?_; exact k) ?_
      show OwnEnd _ _ _ _ _ _ _ (T7.setTop (mkF m 40 #[.val (.ref a0'), .val (.ref a1'), .val (.ref a1')] [(.int (0 : Int32))]))
      refine endN X7 hx hlk (t := .boolean) (by simp) Bd.returns (hb hby d_prog_94_method_21_code_40) e7 (by decide) (by decide) ?_
      exact ⟨by rw [if_neg (by simp_all [own_eq])]; rfl, N0, rfl⟩
  · refine go (fun _ k => by refine XS.icmpYes X4.here hx rfl (pc0 := 20) (pc' := 39) rfl (hb hby d_prog_94_method_21_code_20) rfl (feq hc20_5).2 (by decide) (by decide) ?_; exact k) ?_
    show OwnEnd _ _ _ _ _ _ _ (T4.setTop (mkF m 39 #[.val (.ref a0'), .val (.ref a1'), .val (.ref a1')] []))
    refine go (fun _ k => by refine XS.iconst X4.here hx rfl (hb hby d_prog_94_method_21_code_39) ?_; exact k) ?_
    show OwnEnd _ _ _ _ _ _ _ (T4.setTop (mkF m 40 #[.val (.ref a0'), .val (.ref a1'), .val (.ref a1')] [(.int (0 : Int32))]))
    refine endN X4 hx hlk (t := .boolean) (by simp) Bd.returns (hb hby d_prog_94_method_21_code_40) e4 (by decide) (by decide) ?_
    exact ⟨by rw [if_neg (by simp_all [own_eq])]; rfl, N0, rfl⟩
theorem ef_rm_eqn (m : MethodId) (y0 : Addr) : entryFrame m #[(.ref y0), .null] 3 = mkF m 0 #[.val (.ref y0), .val .null, .unset] [] := by first | (simp [entryFrame, mkF, argsToLocals, Value.category]; done) | rfl
def Q_rm_eqn (Z : State) (a0' : Addr) (h0 : Heap) (n0 : Nat) (v : Option Value) (h : Heap) (L : List Loc) : Prop := v = some (.int 0) ∧ Fr n0 L ∧ h = h0
set_option maxRecDepth 65536 in
set_option maxHeartbeats 40000000 in
theorem rm_eqn (l : Launch) (Z : State) (a0 : Array Value) (hw : ∀ d ∈ tables_1, d.before a0 Z = true) (ws : List Jvm.Cond) (a0' : Addr) (h0 : Heap) (n0 : Nat) :
    MetFree l (⟨"com/example/waitsfor/waitsfor/Wait", "equals", "(Ljava/lang/Object;)Z"⟩ : MethodName) (head1 (Jvm.Cond.code (⟨"com/example/waitsfor/waitsfor/Wait", "equals", "(Ljava/lang/Object;)Z"⟩ : MethodName) prog_94_method_21_code 3 (some .boolean) :: ws) ({ frames := 0, cells := 0, slots := 0, locals := 0 } : Room)) (fun a U => a = #[(.ref a0'), .null] ∧ Z.Warmed39 U.vm ∧ U.heap = h0) (fun _ _ _ _ _ => True) (fun _ U o U' => ∃ v L, o = .returned v ∧ Q_rm_eqn Z a0' h0 n0 v U'.heap L ∧ FrameEnd U o U' L 0 0) := by
  refine MetFree.of_bodySF (plainFor_of_name pn_com_example_waitsfor_waitsfor_Wait) hisR ?_
  intro p e s m args below meth c s₁ Bd hml0 hP hK
  obtain ⟨rfl, hZ, hh⟩ := hP
  have hx := Bd.exec
  have hby := Bd.bytes
  have hlk := Bd.notSynchronized
  have hml : c.maxLocals = 3 := hml0
  have hown : s.vm.findClass "com/example/waitsfor/waitsfor/Wait" = some m.cls := findClass_of_methodNamed Bd.named
  have hnm := (name_of_methodNamed Bd.named Bd.method).1
  have X0 : Stand p l e ({ frames := 0, cells := 0, slots := 0, locals := 0 } : Room) s m #[(.ref a0'), .null] below meth c s₁ [] 0 0 := Stand.of_body Bd
  have e0 : s₁.heap = h0 := by rw [← hh, Bd.state]; rfl
  have N0 := Fr.nil n0
  show OwnEnd p e below s (Q_rm_eqn Z a0' h0 n0) 0 0 (s₁.setTop (entryFrame m #[(.ref a0'), .null] 3))
  refine go (fun t k => castTop (ef_rm_eqn m a0') k) ?_
  show OwnEnd _ _ _ _ _ _ _ (s₁.setTop (mkF m 0 #[.val (.ref a0'), .val .null, .unset] []))
  refine go (fun _ k => by refine XS.aloadN X0.here hx rfl (hb hby d_prog_94_method_21_code_0) rfl rfl ?_; exact k) ?_
  show OwnEnd _ _ _ _ _ _ _ (s₁.setTop (mkF m 1 #[.val (.ref a0'), .val .null, .unset] [.null]))
  refine go (X0.instanceofNull hx (g := (mkF m 1 #[.val (.ref a0'), .val .null, .unset] [.null])) rfl rfl (hb hby d_prog_94_method_21_code_1)) ?_
  show OwnEnd _ _ _ _ _ _ _ (s₁.setTop (mkF m 4 #[.val (.ref a0'), .val .null, .unset] [(.int (0 : Int32))]))
  refine go (fun _ k => by refine XS.ifYes X0.here hx rfl (pc0 := 4) (pc' := 39) rfl (hb hby d_prog_94_method_21_code_4) rfl ((if0 _ _).trans (teq (by decide)).1) (by decide) (by decide) ?_; exact k) ?_
  refine go (fun _ k => by refine XS.iconst X0.here hx rfl (hb hby d_prog_94_method_21_code_39) ?_; exact k) ?_
  show OwnEnd _ _ _ _ _ _ _ (s₁.setTop (mkF m 40 #[.val (.ref a0'), .val .null, .unset] [(.int (0 : Int32))]))
  refine endN X0 hx hlk (t := .boolean) (by simp) Bd.returns (hb hby d_prog_94_method_21_code_40) e0 (by decide) (by decide) ?_
  exact ⟨rfl, N0, rfl⟩
theorem ef_rm_eqb (m : MethodId) (y0 : Addr) (y1 : Addr) : entryFrame m #[(.ref y0), (.ref y1)] 3 = mkF m 0 #[.val (.ref y0), .val (.ref y1), .unset] [] := by first | (simp [entryFrame, mkF, argsToLocals, Value.category]; done) | rfl
def Q_rm_eqb (Z : State) (a0' : Addr) (a1' : Addr) (h0 : Heap) (n0 : Nat) (v : Option Value) (h : Heap) (L : List Loc) : Prop := v = some (.int 0) ∧ Fr n0 L ∧ h = h0
set_option maxRecDepth 65536 in
set_option maxHeartbeats 40000000 in
theorem rm_eqb (l : Launch) (Z : State) (a0 : Array Value) (hw : ∀ d ∈ tables_1, d.before a0 Z = true) (ws : List Jvm.Cond) (a0' : Addr) (a1' : Addr) (h0 : Heap) (n0 : Nat) (EB : Exa Z h0 a1' "java/lang/Long") :
    MetFree l (⟨"com/example/waitsfor/waitsfor/Wait", "equals", "(Ljava/lang/Object;)Z"⟩ : MethodName) (head1 (Jvm.Cond.code (⟨"com/example/waitsfor/waitsfor/Wait", "equals", "(Ljava/lang/Object;)Z"⟩ : MethodName) prog_94_method_21_code 3 (some .boolean) :: ws) ({ frames := 0, cells := 0, slots := 0, locals := 0 } : Room)) (fun a U => a = #[(.ref a0'), (.ref a1')] ∧ Z.Warmed39 U.vm ∧ U.heap = h0) (fun _ _ _ _ _ => True) (fun _ U o U' => ∃ v L, o = .returned v ∧ Q_rm_eqb Z a0' a1' h0 n0 v U'.heap L ∧ FrameEnd U o U' L 0 0) := by
  refine MetFree.of_bodySF (plainFor_of_name pn_com_example_waitsfor_waitsfor_Wait) hisR ?_
  intro p e s m args below meth c s₁ Bd hml0 hP hK
  obtain ⟨rfl, hZ, hh⟩ := hP
  have hx := Bd.exec
  have hby := Bd.bytes
  have hlk := Bd.notSynchronized
  have hml : c.maxLocals = 3 := hml0
  have hown : s.vm.findClass "com/example/waitsfor/waitsfor/Wait" = some m.cls := findClass_of_methodNamed Bd.named
  have hnm := (name_of_methodNamed Bd.named Bd.method).1
  have X0 : Stand p l e ({ frames := 0, cells := 0, slots := 0, locals := 0 } : Room) s m #[(.ref a0'), (.ref a1')] below meth c s₁ [] 0 0 := Stand.of_body Bd
  have e0 : s₁.heap = h0 := by rw [← hh, Bd.state]; rfl
  have N0 := Fr.nil n0
  show OwnEnd p e below s (Q_rm_eqb Z a0' a1' h0 n0) 0 0 (s₁.setTop (entryFrame m #[(.ref a0'), (.ref a1')] 3))
  refine go (fun t k => castTop (ef_rm_eqb m a0' a1') k) ?_
  show OwnEnd _ _ _ _ _ _ _ (s₁.setTop (mkF m 0 #[.val (.ref a0'), .val (.ref a1'), .unset] []))
  refine go (fun _ k => by refine XS.aloadN X0.here hx rfl (hb hby d_prog_94_method_21_code_0) rfl rfl ?_; exact k) ?_
  show OwnEnd _ _ _ _ _ _ _ (s₁.setTop (mkF m 1 #[.val (.ref a0'), .val (.ref a1'), .unset] [(.ref a1')]))
  obtain ⟨T1, X1, e1, st1⟩ := instNo X0 hx hZ hown (hw _ (List.mem_of_getElem? (i := 111) rfl)) e0 EB (NSno (hw _ (List.mem_of_getElem? (i := 113) rfl)) (hw _ (List.mem_of_getElem? (i := 70) rfl)) (NS.step (hw _ (List.mem_of_getElem? (i := 113) rfl)) (NS.step (hw _ (List.mem_of_getElem? (i := 114) rfl)) (NSroot (hw _ (List.mem_of_getElem? (i := 115) rfl)) (hw _ (List.mem_of_getElem? (i := 70) rfl)) (by decide)) (by decide)) (by decide)) (by decide)) (g := (mkF m 1 #[.val (.ref a0'), .val (.ref a1'), .unset] [(.ref a1')])) rfl rfl (hb hby d_prog_94_method_21_code_1)
  refine go st1 ?_
  show OwnEnd _ _ _ _ _ _ _ (T1.setTop (mkF m 4 #[.val (.ref a0'), .val (.ref a1'), .unset] [(.int (0 : Int32))]))
  refine go (fun _ k => by refine XS.ifYes X1.here hx rfl (pc0 := 4) (pc' := 39) rfl (hb hby d_prog_94_method_21_code_4) rfl ((if0 _ _).trans (teq (by decide)).1) (by decide) (by decide) ?_; exact k) ?_
  refine go (fun _ k => by refine XS.iconst X1.here hx rfl (hb hby d_prog_94_method_21_code_39) ?_; exact k) ?_
  show OwnEnd _ _ _ _ _ _ _ (T1.setTop (mkF m 40 #[.val (.ref a0'), .val (.ref a1'), .unset] [(.int (0 : Int32))]))
  refine endN X1 hx hlk (t := .boolean) (by simp) Bd.returns (hb hby d_prog_94_method_21_code_40) e1 (by decide) (by decide) ?_
  exact ⟨rfl, N0, rfl⟩
theorem pd__J_Ljava_lang_Long_ : parseMethodDescriptor "(J)Ljava/lang/Long;" = some ⟨[.long], some (.object "java/lang/Long")⟩ := by decide +kernel
theorem pd__Ljava_lang_Object__Z : parseMethodDescriptor "(Ljava/lang/Object;)Z" = some ⟨[(.object "java/lang/Object")], some .boolean⟩ := by decide +kernel
theorem pd___I : parseMethodDescriptor "()I" = some ⟨[], some .int⟩ := by decide +kernel
theorem pd__I_Lcom_example_waitsfor_waitsfor_RowLockMode_ : parseMethodDescriptor "(I)Lcom/example/waitsfor/waitsfor/RowLockMode;" = some ⟨[.int], some (.object "com/example/waitsfor/waitsfor/RowLockMode")⟩ := by decide +kernel
theorem pd__JJIJLcom_example_waitsfor_waitsfor_LockTarget_Lcom_example_waitsfor_waitsfor_RowLockMode_Ljava_util_List_I_V : parseMethodDescriptor "(JJIJLcom/example/waitsfor/waitsfor/LockTarget;Lcom/example/waitsfor/waitsfor/RowLockMode;Ljava/util/List;I)V" = some ⟨[.long, .long, .int, .long, (.object "com/example/waitsfor/waitsfor/LockTarget"), (.object "com/example/waitsfor/waitsfor/RowLockMode"), (.object "java/util/List"), .int], none⟩ := by decide +kernel
theorem ef_rm_law (m : MethodId) (y0 : Int32) (y1 : Int64) (y2 : Int32) (y3 : Int64) (y4 : Int64) (y5 : Int32) : entryFrame m #[(.int y0), (.long y1), (.int y2), (.long y3), (.long y4), (.int y5)] maxLocals = mkF m 0 #[.val (.int y0), .val (.long y1), .second, .val (.int y2), .val (.long y3), .second, .val (.long y4), .second, .val (.int y5), .unset, .unset, .unset, .unset, .unset, .unset, .unset, .unset, .unset, .unset, .unset, .unset, .unset, .unset] [] := by first | (simp [entryFrame, mkF, argsToLocals, Value.category, maxLocals]; done) | rfl
def Q_rm_law (Z : State) (p0 : Int32) (q1 : Int64) (p2 : Int32) (q3 : Int64) (q4 : Int64) (p5 : Int32) (da : Addr) (dk : ClassId) (w0 : Addr) (w1 : Addr) (w2 : Addr) (w3 : Addr) (caJ : Addr) (ccJ : Cell) (h0 : Heap) (n0 : Nat) (v : Option Value) (h : Heap) (L : List Loc) : Prop := v = some (.int 1) ∧ Fr n0 L
set_option maxRecDepth 65536 in
set_option maxHeartbeats 40000000 in
theorem rm_law (l : Launch) (Z : State) (a0 : Array Value) (hw : ∀ d ∈ tables_1, d.before a0 Z = true) (ws : List Jvm.Cond) (p0 : Int32) (q1 : Int64) (p2 : Int32) (q3 : Int64) (q4 : Int64) (p5 : Int32) (da : Addr) (dk : ClassId) (w0 : Addr) (w1 : Addr) (w2 : Addr) (w3 : Addr) (caJ : Addr) (ccJ : Cell) (h0 : Heap) (n0 : Nat) (Z0 : n0 ≤ h0.size) (O : Old Z n0 h0) (SD : Sta Z Z.heap "java/util/ArrayList" "DEFAULTCAPACITY_EMPTY_ELEMENTDATA" "[Ljava/lang/Object;" (.ref da)) (VD : Arv Z Z.heap da dk (.object "java/lang/Object") 0 [] .null) (M0 : Sta Z Z.heap "com/example/waitsfor/waitsfor/RowLockMode" "FOR_KEY_SHARE" "Lcom/example/waitsfor/waitsfor/RowLockMode;" (.ref w0)) (M1 : Sta Z Z.heap "com/example/waitsfor/waitsfor/RowLockMode" "FOR_SHARE" "Lcom/example/waitsfor/waitsfor/RowLockMode;" (.ref w1)) (M2 : Sta Z Z.heap "com/example/waitsfor/waitsfor/RowLockMode" "FOR_NO_KEY_UPDATE" "Lcom/example/waitsfor/waitsfor/RowLockMode;" (.ref w2)) (M3 : Sta Z Z.heap "com/example/waitsfor/waitsfor/RowLockMode" "FOR_UPDATE" "Lcom/example/waitsfor/waitsfor/RowLockMode;" (.ref w3)) (SCJ : Sta Z Z.heap "java/lang/Long$LongCache" "cache" "[Ljava/lang/Long;" (.ref caJ)) (ACJ : Arr Z Z.heap caJ ccJ (.object "java/lang/Long")) (NCJ : ccJ.slots.size = 256) (ECJ : ∀ i, i < 256 → ∃ b, ccJ.slots[i]? = some (.ref b) ∧ Exa Z Z.heap b "java/lang/Long") :
    MetFree l x (head1 (Jvm.Cond.code x code maxLocals ret :: ws) room_1) (fun a U => a = #[(.int p0), (.long q1), (.int p2), (.long q3), (.long q4), (.int p5)] ∧ Z.Warmed39 U.vm ∧ U.heap = h0) (fun _ _ _ _ _ => True) (fun _ U o U' => ∃ v L, o = .returned v ∧ Q_rm_law Z p0 q1 p2 q3 q4 p5 da dk w0 w1 w2 w3 caJ ccJ h0 n0 v U'.heap L ∧ FrameEnd U o U' L 32 192) := by
  refine MetFree.of_bodySF (plainFor_of_name pn_com_example_waitsfor_waitsfor_WaitEqualsPinLaw) hisR ?_
  intro p e s m args below meth c s₁ Bd hml0 hP hK
  obtain ⟨rfl, hZ, hh⟩ := hP
  have hx := Bd.exec
  have hby := Bd.bytes
  have hlk := Bd.notSynchronized
  have hml : c.maxLocals = 23 := hml0
  have hown : s.vm.findClass "com/example/waitsfor/waitsfor/WaitEqualsPinLaw" = some m.cls := findClass_of_methodNamed Bd.named
  have hnm := (name_of_methodNamed Bd.named Bd.method).1
  have X0 : Stand p l e room_1 s m #[(.int p0), (.long q1), (.int p2), (.long q3), (.long q4), (.int p5)] below meth c s₁ [] 0 0 := Stand.of_body Bd
  have e0 : s₁.heap = h0 := by rw [← hh, Bd.state]; rfl
  have N0 := Fr.nil n0
  show OwnEnd p e below s (Q_rm_law Z p0 q1 p2 q3 q4 p5 da dk w0 w1 w2 w3 caJ ccJ h0 n0) 32 192 (s₁.setTop (entryFrame m #[(.int p0), (.long q1), (.int p2), (.long q3), (.long q4), (.int p5)] maxLocals))
  refine go (fun t k => castTop (ef_rm_law m p0 q1 p2 q3 q4 p5) k) ?_
  show OwnEnd _ _ _ _ _ _ _ (s₁.setTop (mkF m 0 (fL2 p0 q1 p2 q3 q4 p5) []))
  refine go (fun _ k => by refine XS.iload X0.here hx rfl (hb hby at_0) rfl ?_; exact k) ?_
  refine go (fun _ k => by refine XS.iconst X0.here hx rfl (hb hby at_2) ?_; exact k) ?_
  refine go (fun _ k => by refine XS.iand X0.here hx rfl (hb hby at_3) rfl ?_; exact k) ?_
  show OwnEnd _ _ _ _ _ _ _ (s₁.setTop (mkF m 4 (fL2 p0 q1 p2 q3 q4 p5) [(.int (p5 &&& (1 : Int32)))]))
  have J2 : ∀ (x2_s0 : Int32) (qx2_s0 : x2_s0 = (if (p5 &&& (1 : Int32)) = (0 : Int32) then p2 else p0)), OwnEnd p e below s (Q_rm_law Z p0 q1 p2 q3 q4 p5 da dk w0 w1 w2 w3 caJ ccJ h0 n0) 32 192 (s₁.setTop (mkF m 12 (fL2 p0 q1 p2 q3 q4 p5) [(.int x2_s0)])) := by
    intro x2_s0 qx2_s0
    show OwnEnd _ _ _ _ _ _ _ (s₁.setTop (mkF m 12 (fL2 p0 q1 p2 q3 q4 p5) [(.int x2_s0)]))
    refine go (fun _ k => by refine XS.istore X0.here hx rfl (hb hby at_12) rfl (l' := (fL3 p0 q1 p2 q3 q4 p5 x2_s0)) rfl ?_; exact k) ?_
    refine go (fun _ k => by refine XS.iload X0.here hx rfl (hb hby at_14) rfl ?_; exact k) ?_
    refine go (fun _ k => by refine XS.iconst X0.here hx rfl (hb hby at_16) ?_; exact k) ?_
    refine go (fun _ k => by refine XS.iand X0.here hx rfl (hb hby at_17) rfl ?_; exact k) ?_
    show OwnEnd _ _ _ _ _ _ _ (s₁.setTop (mkF m 18 (fL3 p0 q1 p2 q3 q4 p5 x2_s0) [(.int (p5 &&& (2 : Int32)))]))
    have J4 : ∀ (x4_s0 : Int64) (qx4_s0 : x4_s0 = (if (p5 &&& (2 : Int32)) = (0 : Int32) then q3 else q1)), OwnEnd p e below s (Q_rm_law Z p0 q1 p2 q3 q4 p5 da dk w0 w1 w2 w3 caJ ccJ h0 n0) 32 192 (s₁.setTop (mkF m 27 (fL3 p0 q1 p2 q3 q4 p5 x2_s0) [(.long x4_s0)])) := by
      intro x4_s0 qx4_s0
      show OwnEnd _ _ _ _ _ _ _ (s₁.setTop (mkF m 27 (fL3 p0 q1 p2 q3 q4 p5 x2_s0) [(.long x4_s0)]))
      refine go (fun _ k => by refine XS.lstore X0.here hx rfl (hb hby at_27) rfl (l' := (fL4 p0 q1 p2 q3 q4 p5 x2_s0 x4_s0)) rfl ?_; exact k) ?_
      show OwnEnd _ _ _ _ _ _ _ (s₁.setTop (mkF m 29 (fL4 p0 q1 p2 q3 q4 p5 x2_s0 x4_s0) []))
      obtain ⟨T5, h5, X5, e5, E5, A5, D5, -, st5⟩ := newO X0 hx hZ hown (hw _ (List.mem_of_getElem? (i := 0) rfl)) (hw _ (List.mem_of_getElem? (i := 1) rfl)) (hw _ (List.mem_of_getElem? (i := 2) rfl)) e0 (g := (mkF m 29 (fL4 p0 q1 p2 q3 q4 p5 x2_s0 x4_s0) [])) rfl (hb hby at_29) (by decide) (by decide)
      obtain ⟨b5, g5⟩ : ∃ z, z = h0.size := ⟨_, rfl⟩
      rw [← g5] at A5 D5 st5
      have g_b5 : n0 ≤ b5 := Nat.le_trans Z0 (Nat.le_of_eq g5.symm)
      have Z0 := Nat.le_trans Z0 E5.1
      have O := O.ext E5
      have F_modCount_b5 : Fld Z h5 b5 "java/util/AbstractList" "modCount" "I" (.int (0 : Int32)) := D5 (Or.inl (hw _ (List.mem_of_getElem? (i := 22) rfl))) (ty := .int) (by decide)
      have F_elementData_b5 : Fld Z h5 b5 "java/util/ArrayList" "elementData" "[Ljava/lang/Object;" .null := D5 (Or.inl (hw _ (List.mem_of_getElem? (i := 25) rfl))) (ty := (.array (.object "java/lang/Object"))) (by decide)
      have F_size_b5 : Fld Z h5 b5 "java/util/ArrayList" "size" "I" (.int (0 : Int32)) := D5 (Or.inl (hw _ (List.mem_of_getElem? (i := 46) rfl))) (ty := .int) (by decide)
      have E_b5 := A5
      refine go st5 ?_
      refine go (fun _ k => by refine XS.dup X5.here hx rfl (hb hby at_32) rfl rfl ?_; exact k) ?_
      show OwnEnd _ _ _ _ _ _ _ (T5.setTop (mkF m 33 (fL4 p0 q1 p2 q3 q4 p5 x2_s0 x4_s0) [(.ref b5), (.ref b5)]))
      obtain ⟨_, T6, L6, X6, hQ6, st6⟩ := callInit X5 hx hZ hown rfl (hw _ (List.mem_of_getElem? (i := 3) rfl)) (hw _ (List.mem_of_getElem? (i := 4) rfl)) (hw _ (List.mem_of_getElem? (i := 2) rfl)) (hw _ (List.mem_of_getElem? (i := 5) rfl)) (by decide) (rm_ali l Z a0 hw [] b5 da h5 n0 g_b5 E_b5 F_modCount_b5 F_elementData_b5 F_size_b5 O SD) (W := 1) (by decide) (by decide) e5 (g := (mkF m 33 (fL4 p0 q1 p2 q3 q4 p5 x2_s0 x4_s0) [(.ref b5), (.ref b5)])) rfl (by rw [hml]; rfl) (argsL := []) (rest := [(.ref b5)]) rfl (lenOf pd___V rfl) rfl (by show 2 * 0 + _ ≤ _; exact Nat.le_of_eq rfl) (hb hby at_33) (by decide) (by decide)
      obtain ⟨rfl, Nq6, K6, E_b5, F_modCount_b5, F_elementData_b5, F_size_b5⟩ := hQ6
      have N6 := Fr.app N0 Nq6
      have Z0 := Nat.le_trans Z0 K6.1
      have O := O.keep K6 (allS g_b5 all0)
      refine go st6 ?_
      refine go (fun _ k => by refine XS.astore X6.here hx rfl (hb hby at_36) rfl rfl (l' := (fL5 p0 q1 p2 q3 q4 p5 x2_s0 x4_s0 b5)) rfl ?_; exact k) ?_
      refine go (fun _ k => by refine XS.aload X6.here hx rfl (hb hby at_38) rfl rfl ?_; exact k) ?_
      refine go (fun _ k => by refine XS.lload X6.here hx rfl (hb hby at_40) rfl ?_; exact k) ?_
      show OwnEnd _ _ _ _ _ _ _ (T6.setTop (mkF m 42 (fL5 p0 q1 p2 q3 q4 p5 x2_s0 x4_s0 b5) [(.long q4), (.ref b5)]))
      obtain ⟨_, T7, L7, X7, hQ7, st7⟩ := callStat X6 hx hZ hown (hw _ (List.mem_of_getElem? (i := 26) rfl)) (hw _ (List.mem_of_getElem? (i := 27) rfl)) (hw _ (List.mem_of_getElem? (i := 28) rfl)) (hw _ (List.mem_of_getElem? (i := 29) rfl)) (by decide) (rm_box l Z a0 hw [] q4 caJ ccJ T6.heap n0 O SCJ ACJ NCJ ECJ) (W := 1) (by decide) (by decide) rfl (g := (mkF m 42 (fL5 p0 q1 p2 q3 q4 p5 x2_s0 x4_s0 b5) [(.long q4), (.ref b5)])) rfl (by rw [hml]; rfl) (argsL := [(.long q4)]) (rest := [(.ref b5)]) rfl (lenOf pd__J_Ljava_lang_Long_ rfl) rfl (by show 2 * 0 + _ ≤ _; exact Nat.le_of_eq rfl) (hb hby at_42) (by decide) (by decide)
      obtain ⟨bx7, rfl, Nq7, K7, E_bx7⟩ := hQ7
      have N7 := Fr.app N6 Nq7
      have Z0 := Nat.le_trans Z0 K7.1
      have O := O.keep K7 all0
      have E_b5 := E_b5.keep K7
      have F_modCount_b5 := F_modCount_b5.keep K7 nin0
      have F_elementData_b5 := F_elementData_b5.keep K7 nin0
      have F_size_b5 := F_size_b5.keep K7 nin0
      refine go st7 ?_
      show OwnEnd _ _ _ _ _ _ _ (T7.setTop (mkF m 45 (fL5 p0 q1 p2 q3 q4 p5 x2_s0 x4_s0 b5) [(.ref bx7), (.ref b5)]))
      obtain ⟨_, T8, L8, X8, hQ8, st8⟩ := callFace X7 hx hZ hown (hw _ (List.mem_of_getElem? (i := 34) rfl)) (hw _ (List.mem_of_getElem? (i := 35) rfl)) (mvT hZ (hw _ (List.mem_of_getElem? (i := 36) rfl))) (hw _ (List.mem_of_getElem? (i := 37) rfl)) (hw _ (List.mem_of_getElem? (i := 38) rfl)) (hw _ (List.mem_of_getElem? (i := 39) rfl)) (hw _ (List.mem_of_getElem? (i := 40) rfl)) (hw _ (List.mem_of_getElem? (i := 41) rfl)) (hw _ (List.mem_of_getElem? (i := 2) rfl)) (hw _ (List.mem_of_getElem? (i := 42) rfl)) (by decide) (rm_add l Z a0 hw [] b5 bx7 da dk T7.heap n0 g_b5 E_b5 F_modCount_b5 F_elementData_b5 F_size_b5 O SD VD E_bx7) (W := 0) (by decide) (by decide) rfl E_b5 (g := (mkF m 45 (fL5 p0 q1 p2 q3 q4 p5 x2_s0 x4_s0 b5) [(.ref bx7), (.ref b5)])) rfl (by rw [hml]; rfl) (argsL := [(.ref bx7)]) (rest := []) rfl (lenOf pd__Ljava_lang_Object__Z rfl) rfl (by show 2 * 0 + _ ≤ _; exact Nat.le_of_eq rfl) (hb hby at_45) (by decide) (by decide)
      obtain ⟨rfl, Nq8, K8, E_b5, F_size_b5⟩ := hQ8
      have N8 := Fr.app N7 Nq8
      have Z0 := Nat.le_trans Z0 K8.1
      have O := O.keep K8 (allS g_b5 all0)
      have E_bx7 := E_bx7.keep K8
      refine go st8 ?_
      refine go (fun _ k => by refine XS.pop X8.here hx rfl (hb hby at_50) rfl rfl ?_; exact k) ?_
      show OwnEnd _ _ _ _ _ _ _ (T8.setTop (mkF m 51 (fL5 p0 q1 p2 q3 q4 p5 x2_s0 x4_s0 b5) []))
      obtain ⟨T9, h9, X9, e9, E9, A9, D9, -, st9⟩ := newO X8 hx hZ hown (hw _ (List.mem_of_getElem? (i := 0) rfl)) (hw _ (List.mem_of_getElem? (i := 1) rfl)) (hw _ (List.mem_of_getElem? (i := 2) rfl)) rfl (g := (mkF m 51 (fL5 p0 q1 p2 q3 q4 p5 x2_s0 x4_s0 b5) [])) rfl (hb hby at_51) (by decide) (by decide)
      obtain ⟨b9, g9⟩ : ∃ z, z = T8.heap.size := ⟨_, rfl⟩
      rw [← g9] at A9 D9 st9
      have ne_bx7_b9 : bx7 ≠ b9 := fun q => absurd E_bx7.lt (by rw [q, g9]; exact Nat.lt_irrefl _)
      have ne_b5_b9 : b5 ≠ b9 := fun q => absurd E_b5.lt (by rw [q, g9]; exact Nat.lt_irrefl _)
      have g_b9 : n0 ≤ b9 := Nat.le_trans Z0 (Nat.le_of_eq g9.symm)
      have Z0 := Nat.le_trans Z0 E9.1
      have O := O.ext E9
      have E_bx7 := E_bx7.ext E9
      have E_b5 := E_b5.ext E9
      have F_size_b5 := F_size_b5.ext E9
      have F_modCount_b9 : Fld Z h9 b9 "java/util/AbstractList" "modCount" "I" (.int (0 : Int32)) := D9 (Or.inl (hw _ (List.mem_of_getElem? (i := 22) rfl))) (ty := .int) (by decide)
      have F_elementData_b9 : Fld Z h9 b9 "java/util/ArrayList" "elementData" "[Ljava/lang/Object;" .null := D9 (Or.inl (hw _ (List.mem_of_getElem? (i := 25) rfl))) (ty := (.array (.object "java/lang/Object"))) (by decide)
      have F_size_b9 : Fld Z h9 b9 "java/util/ArrayList" "size" "I" (.int (0 : Int32)) := D9 (Or.inl (hw _ (List.mem_of_getElem? (i := 46) rfl))) (ty := .int) (by decide)
      have E_b9 := A9
      refine go st9 ?_
      refine go (fun _ k => by refine XS.dup X9.here hx rfl (hb hby at_54) rfl rfl ?_; exact k) ?_
      show OwnEnd _ _ _ _ _ _ _ (T9.setTop (mkF m 55 (fL5 p0 q1 p2 q3 q4 p5 x2_s0 x4_s0 b5) [(.ref b9), (.ref b9)]))
      obtain ⟨_, T10, L10, X10, hQ10, st10⟩ := callInit X9 hx hZ hown rfl (hw _ (List.mem_of_getElem? (i := 3) rfl)) (hw _ (List.mem_of_getElem? (i := 4) rfl)) (hw _ (List.mem_of_getElem? (i := 2) rfl)) (hw _ (List.mem_of_getElem? (i := 5) rfl)) (by decide) (rm_ali l Z a0 hw [] b9 da h9 n0 g_b9 E_b9 F_modCount_b9 F_elementData_b9 F_size_b9 O SD) (W := 1) (by decide) (by decide) e9 (g := (mkF m 55 (fL5 p0 q1 p2 q3 q4 p5 x2_s0 x4_s0 b5) [(.ref b9), (.ref b9)])) rfl (by rw [hml]; rfl) (argsL := []) (rest := [(.ref b9)]) rfl (lenOf pd___V rfl) rfl (by show 2 * 0 + _ ≤ _; exact Nat.le_of_eq rfl) (hb hby at_55) (by decide) (by decide)
      obtain ⟨rfl, Nq10, K10, E_b9, F_modCount_b9, F_elementData_b9, F_size_b9⟩ := hQ10
      have N10 := Fr.app N8 Nq10
      have Z0 := Nat.le_trans Z0 K10.1
      have O := O.keep K10 (allS g_b9 all0)
      have E_bx7 := E_bx7.keep K10
      have E_b5 := E_b5.keep K10
      have F_size_b5 := F_size_b5.keep K10 (ninS ne_b5_b9 nin0)
      refine go st10 ?_
      refine go (fun _ k => by refine XS.astore X10.here hx rfl (hb hby at_58) rfl rfl (l' := (fL6 p0 q1 p2 q3 q4 p5 x2_s0 x4_s0 b5 b9)) rfl ?_; exact k) ?_
      refine go (fun _ k => by refine XS.iload X10.here hx rfl (hb hby at_60) rfl ?_; exact k) ?_
      refine go (fun _ k => by refine XS.iconst X10.here hx rfl (hb hby at_62) ?_; exact k) ?_
      show OwnEnd _ _ _ _ _ _ _ (T10.setTop (mkF m 63 (fL6 p0 q1 p2 q3 q4 p5 x2_s0 x4_s0 b5 b9) [(.int (4 : Int32)), (.int p5)]))
      refine go (fun _ k => by refine XS.iand X10.here hx rfl (hb hby at_63) rfl ?_; exact k) ?_
      show OwnEnd _ _ _ _ _ _ _ (T10.setTop (mkF m 64 (fL6 p0 q1 p2 q3 q4 p5 x2_s0 x4_s0 b5 b9) [(.int (p5 &&& (4 : Int32)))]))
      by_cases hc64_11 : (p5 &&& (4 : Int32)) = (0 : Int32)
      · refine go (fun _ k => by refine XS.ifYes X10.here hx rfl (pc0 := 64) (pc' := 79) rfl (hb hby at_64) rfl ((if0 _ _).trans (teq hc64_11).1) (by decide) (by decide) ?_; exact k) ?_
        show OwnEnd _ _ _ _ _ _ _ (T10.setTop (mkF m 79 (fL6 p0 q1 p2 q3 q4 p5 x2_s0 x4_s0 b5 b9) []))
        refine go (fun _ k => by refine XS.iload X10.here hx rfl (hb hby at_79) rfl ?_; exact k) ?_
        refine go (fun _ k => by refine XS.sipush X10.here hx rfl (hb hby at_81) ?_; exact k) ?_
        refine go (fun _ k => by refine XS.iand X10.here hx rfl (hb hby at_84) rfl ?_; exact k) ?_
        show OwnEnd _ _ _ _ _ _ _ (T10.setTop (mkF m 85 (fL6 p0 q1 p2 q3 q4 p5 x2_s0 x4_s0 b5 b9) [(.int (p5 &&& (128 : Int32)))]))
        have J14 : ∀ (T14 : State) (L14 : List Loc) (X14 : Stand p l e room_1 s m #[(.int p0), (.long q1), (.int p2), (.long q3), (.long q4), (.int p5)] below meth c T14 L14 4 17) (N14 : Fr n0 L14) (e14 : T14.heap = T10.heap), OwnEnd p e below s (Q_rm_law Z p0 q1 p2 q3 q4 p5 da dk w0 w1 w2 w3 caJ ccJ h0 n0) 32 192 (T14.setTop (mkF m 99 (fL6 p0 q1 p2 q3 q4 p5 x2_s0 x4_s0 b5 b9) [(.int (0 : Int32))])) := by
          intro T14 L14 X14 N14 e14
          show OwnEnd _ _ _ _ _ _ _ (T14.setTop (mkF m 99 (fL6 p0 q1 p2 q3 q4 p5 x2_s0 x4_s0 b5 b9) [(.int (0 : Int32))]))
          refine go (fun _ k => by refine XS.istore X14.here hx rfl (hb hby at_99) rfl (l' := (fL7 p0 q1 p2 q3 q4 p5 x2_s0 x4_s0 b5 b9 (0 : Int32))) rfl ?_; exact k) ?_
          show OwnEnd _ _ _ _ _ _ _ (T14.setTop (mkF m 101 (fL7 p0 q1 p2 q3 q4 p5 x2_s0 x4_s0 b5 b9 (0 : Int32)) []))
          obtain ⟨T15, h15, X15, e15, E15, A15, D15, -, st15⟩ := newO X14 hx hZ hown (hw _ (List.mem_of_getElem? (i := 69) rfl)) (hw _ (List.mem_of_getElem? (i := 70) rfl)) (hw _ (List.mem_of_getElem? (i := 71) rfl)) e14 (g := (mkF m 101 (fL7 p0 q1 p2 q3 q4 p5 x2_s0 x4_s0 b5 b9 (0 : Int32)) [])) rfl (hb hby at_101) (by decide) (by decide)
          obtain ⟨b15, g15⟩ : ∃ z, z = T10.heap.size := ⟨_, rfl⟩
          rw [← g15] at A15 D15 st15
          have ne_bx7_b15 : bx7 ≠ b15 := fun q => absurd E_bx7.lt (by rw [q, g15]; exact Nat.lt_irrefl _)
          have ne_b5_b15 : b5 ≠ b15 := fun q => absurd E_b5.lt (by rw [q, g15]; exact Nat.lt_irrefl _)
          have ne_b9_b15 : b9 ≠ b15 := fun q => absurd E_b9.lt (by rw [q, g15]; exact Nat.lt_irrefl _)
          have g_b15 : n0 ≤ b15 := Nat.le_trans Z0 (Nat.le_of_eq g15.symm)
          have Z0 := Nat.le_trans Z0 E15.1
          have O := O.ext E15
          have E_bx7 := E_bx7.ext E15
          have E_b5 := E_b5.ext E15
          have F_size_b5 := F_size_b5.ext E15
          have E_b9 := E_b9.ext E15
          have F_modCount_b9 := F_modCount_b9.ext E15
          have F_elementData_b9 := F_elementData_b9.ext E15
          have F_size_b9 := F_size_b9.ext E15
          have F_transaction_b15 : Fld Z h15 b15 "com/example/waitsfor/waitsfor/Wait" "transaction" "J" (.long (0 : Int64)) := D15 (Or.inr (hw _ (List.mem_of_getElem? (i := 87) rfl))) (ty := .long) (by decide)
          have F_holder_b15 : Fld Z h15 b15 "com/example/waitsfor/waitsfor/Wait" "holder" "J" (.long (0 : Int64)) := D15 (Or.inr (hw _ (List.mem_of_getElem? (i := 89) rfl))) (ty := .long) (by decide)
          have F_kin_b15 : Fld Z h15 b15 "com/example/waitsfor/waitsfor/Wait" "kin" "J" (.long (0 : Int64)) := D15 (Or.inr (hw _ (List.mem_of_getElem? (i := 91) rfl))) (ty := .long) (by decide)
          have F_shard_b15 : Fld Z h15 b15 "com/example/waitsfor/waitsfor/Wait" "shard" "I" (.int (0 : Int32)) := D15 (Or.inr (hw _ (List.mem_of_getElem? (i := 93) rfl))) (ty := .int) (by decide)
          have F_number_b15 : Fld Z h15 b15 "com/example/waitsfor/waitsfor/Wait" "number" "J" (.long (0 : Int64)) := D15 (Or.inr (hw _ (List.mem_of_getElem? (i := 95) rfl))) (ty := .long) (by decide)
          have F_target_b15 : Fld Z h15 b15 "com/example/waitsfor/waitsfor/Wait" "target" "Lcom/example/waitsfor/waitsfor/LockTarget;" .null := D15 (Or.inr (hw _ (List.mem_of_getElem? (i := 97) rfl))) (ty := (.object "com/example/waitsfor/waitsfor/LockTarget")) (by decide)
          have F_mode_b15 : Fld Z h15 b15 "com/example/waitsfor/waitsfor/Wait" "mode" "Lcom/example/waitsfor/waitsfor/RowLockMode;" .null := D15 (Or.inr (hw _ (List.mem_of_getElem? (i := 99) rfl))) (ty := (.object "com/example/waitsfor/waitsfor/RowLockMode")) (by decide)
          have F_blockers_b15 : Fld Z h15 b15 "com/example/waitsfor/waitsfor/Wait" "blockers" "Ljava/util/List;" .null := D15 (Or.inr (hw _ (List.mem_of_getElem? (i := 101) rfl))) (ty := (.object "java/util/List")) (by decide)
          have F_holding_b15 : Fld Z h15 b15 "com/example/waitsfor/waitsfor/Wait" "holding" "I" (.int (0 : Int32)) := D15 (Or.inr (hw _ (List.mem_of_getElem? (i := 103) rfl))) (ty := .int) (by decide)
          have F_held_b15 : Fld Z h15 b15 "com/example/waitsfor/waitsfor/Wait" "held" "Lcom/example/waitsfor/waitsfor/HeldLocks;" .null := D15 (Or.inr (hw _ (List.mem_of_getElem? (i := 105) rfl))) (ty := (.object "com/example/waitsfor/waitsfor/HeldLocks")) (by decide)
          have E_b15 := A15
          refine go st15 ?_
          refine go (fun _ k => by refine XS.dup X15.here hx rfl (hb hby at_104) rfl rfl ?_; exact k) ?_
          refine go (fun _ k => by refine XS.lload X15.here hx rfl (hb hby at_105) rfl ?_; exact k) ?_
          refine go (fun _ k => by refine XS.lload X15.here hx rfl (hb hby at_107) rfl ?_; exact k) ?_
          show OwnEnd _ _ _ _ _ _ _ (T15.setTop (mkF m 109 (fL7 p0 q1 p2 q3 q4 p5 x2_s0 x4_s0 b5 b9 (0 : Int32)) [(.long q4), (.long q4), (.ref b15), (.ref b15)]))
          refine go (fun _ k => by refine XS.iloadN X15.here hx rfl (hb hby at_109) rfl ?_; exact k) ?_
          refine go (fun _ k => by refine XS.lloadN X15.here hx rfl (hb hby at_110) rfl ?_; exact k) ?_
          refine go (fun _ k => by refine XS.aconstNull X15.here hx rfl (hb hby at_111) ?_; exact k) ?_
          refine go (fun _ k => by refine XS.iload X15.here hx rfl (hb hby at_112) rfl ?_; exact k) ?_
          show OwnEnd _ _ _ _ _ _ _ (T15.setTop (mkF m 114 (fL7 p0 q1 p2 q3 q4 p5 x2_s0 x4_s0 b5 b9 (0 : Int32)) [(.int p5), .null, (.long q1), (.int p0), (.long q4), (.long q4), (.ref b15), (.ref b15)]))
          refine go (fun _ k => by refine XS.iconst X15.here hx rfl (hb hby at_114) ?_; exact k) ?_
          refine go (fun _ k => by refine XS.iushr X15.here hx rfl (hb hby at_115) rfl ?_; exact k) ?_
          show OwnEnd _ _ _ _ _ _ _ (T15.setTop (mkF m 116 (fL7 p0 q1 p2 q3 q4 p5 x2_s0 x4_s0 b5 b9 (0 : Int32)) [(.int ((p5.toUInt32 >>> ((3 : Int32) &&& 31).toUInt32).toInt32)), .null, (.long q1), (.int p0), (.long q4), (.long q4), (.ref b15), (.ref b15)]))
          obtain ⟨_, T16, L16, X16, hQ16, st16⟩ := callStat X15 hx hZ hown (hw _ (List.mem_of_getElem? (i := 72) rfl)) (hw _ (List.mem_of_getElem? (i := 73) rfl)) (hw _ (List.mem_of_getElem? (i := 74) rfl)) (hw _ (List.mem_of_getElem? (i := 75) rfl)) (by decide) (rm_mode l Z a0 hw [] ((p5.toUInt32 >>> ((3 : Int32) &&& 31).toUInt32).toInt32) w0 w1 w2 w3 h15 n0 (M0.ext O.2) (M1.ext O.2) (M2.ext O.2) (M3.ext O.2)) (W := 10) (by decide) (by decide) e15 (g := (mkF m 116 (fL7 p0 q1 p2 q3 q4 p5 x2_s0 x4_s0 b5 b9 (0 : Int32)) [(.int ((p5.toUInt32 >>> ((3 : Int32) &&& 31).toUInt32).toInt32)), .null, (.long q1), (.int p0), (.long q4), (.long q4), (.ref b15), (.ref b15)])) rfl (by rw [hml]; rfl) (argsL := [(.int ((p5.toUInt32 >>> ((3 : Int32) &&& 31).toUInt32).toInt32))]) (rest := [.null, (.long q1), (.int p0), (.long q4), (.long q4), (.ref b15), (.ref b15)]) rfl (lenOf pd__I_Lcom_example_waitsfor_waitsfor_RowLockMode_ rfl) rfl (by show 2 * 0 + _ ≤ _; exact Nat.le_of_eq rfl) (hb hby at_116) (by decide) (by decide)
          obtain ⟨md16, rfl, Nq16, eq16⟩ := hQ16
          have N16 := Fr.app N14 Nq16
          refine go st16 ?_
          refine go (fun _ k => by refine XS.aload X16.here hx rfl (hb hby at_119) rfl rfl ?_; exact k) ?_
          refine go (fun _ k => by refine XS.iconst X16.here hx rfl (hb hby at_121) ?_; exact k) ?_
          show OwnEnd _ _ _ _ _ _ _ (T16.setTop (mkF m 122 (fL7 p0 q1 p2 q3 q4 p5 x2_s0 x4_s0 b5 b9 (0 : Int32)) [(.int (1 : Int32)), (.ref b5), (.ref md16), .null, (.long q1), (.int p0), (.long q4), (.long q4), (.ref b15), (.ref b15)]))
          obtain ⟨_, T17, L17, X17, hQ17, st17⟩ := callInit X16 hx hZ hown rfl (hw _ (List.mem_of_getElem? (i := 79) rfl)) (hw _ (List.mem_of_getElem? (i := 80) rfl)) (hw _ (List.mem_of_getElem? (i := 71) rfl)) (hw _ (List.mem_of_getElem? (i := 81) rfl)) (by decide) (rm_w8 l Z a0 hw [] b15 q4 q4 p0 q1 md16 b5 (1 : Int32) h15 n0 g_b15 E_b15 F_transaction_b15 F_holder_b15 F_kin_b15 F_shard_b15 F_number_b15 F_target_b15 F_mode_b15 F_blockers_b15 F_holding_b15 F_held_b15) (W := 1) (by decide) (by decide) eq16 (g := (mkF m 122 (fL7 p0 q1 p2 q3 q4 p5 x2_s0 x4_s0 b5 b9 (0 : Int32)) [(.int (1 : Int32)), (.ref b5), (.ref md16), .null, (.long q1), (.int p0), (.long q4), (.long q4), (.ref b15), (.ref b15)])) rfl (by rw [hml]; rfl) (argsL := [(.long q4), (.long q4), (.int p0), (.long q1), .null, (.ref md16), (.ref b5), (.int (1 : Int32))]) (rest := [(.ref b15)]) rfl (lenOf pd__JJIJLcom_example_waitsfor_waitsfor_LockTarget_Lcom_example_waitsfor_waitsfor_RowLockMode_Ljava_util_List_I_V rfl) rfl (by show 2 * 0 + _ ≤ _; exact Nat.le_of_eq rfl) (hb hby at_122) (by decide) (by decide)
          obtain ⟨rfl, Nq17, K17, E_b15, F_transaction_b15, F_holder_b15, F_kin_b15, F_shard_b15, F_number_b15, F_target_b15, F_mode_b15, F_blockers_b15, F_holding_b15, F_held_b15⟩ := hQ17
          have N17 := Fr.app N16 Nq17
          have Z0 := Nat.le_trans Z0 K17.1
          have O := O.keep K17 (allS g_b15 all0)
          have E_bx7 := E_bx7.keep K17
          have E_b5 := E_b5.keep K17
          have F_size_b5 := F_size_b5.keep K17 (ninS ne_b5_b15 nin0)
          have E_b9 := E_b9.keep K17
          have F_modCount_b9 := F_modCount_b9.keep K17 (ninS ne_b9_b15 nin0)
          have F_elementData_b9 := F_elementData_b9.keep K17 (ninS ne_b9_b15 nin0)
          have F_size_b9 := F_size_b9.keep K17 (ninS ne_b9_b15 nin0)
          refine go st17 ?_
          refine go (fun _ k => by refine XS.astore X17.here hx rfl (hb hby at_125) rfl rfl (l' := (fL8 p0 q1 p2 q3 q4 p5 x2_s0 x4_s0 b5 b9 (0 : Int32) b15)) rfl ?_; exact k) ?_
          show OwnEnd _ _ _ _ _ _ _ (T17.setTop (mkF m 127 (fL8 p0 q1 p2 q3 q4 p5 x2_s0 x4_s0 b5 b9 (0 : Int32) b15) []))
          obtain ⟨T18, h18, X18, e18, E18, A18, D18, -, st18⟩ := newO X17 hx hZ hown (hw _ (List.mem_of_getElem? (i := 69) rfl)) (hw _ (List.mem_of_getElem? (i := 70) rfl)) (hw _ (List.mem_of_getElem? (i := 71) rfl)) rfl (g := (mkF m 127 (fL8 p0 q1 p2 q3 q4 p5 x2_s0 x4_s0 b5 b9 (0 : Int32) b15) [])) rfl (hb hby at_127) (by decide) (by decide)
          obtain ⟨b18, g18⟩ : ∃ z, z = T17.heap.size := ⟨_, rfl⟩
          rw [← g18] at A18 D18 st18
          have ne_bx7_b18 : bx7 ≠ b18 := fun q => absurd E_bx7.lt (by rw [q, g18]; exact Nat.lt_irrefl _)
          have ne_b5_b18 : b5 ≠ b18 := fun q => absurd E_b5.lt (by rw [q, g18]; exact Nat.lt_irrefl _)
          have ne_b9_b18 : b9 ≠ b18 := fun q => absurd E_b9.lt (by rw [q, g18]; exact Nat.lt_irrefl _)
          have ne_b15_b18 : b15 ≠ b18 := fun q => absurd E_b15.lt (by rw [q, g18]; exact Nat.lt_irrefl _)
          have g_b18 : n0 ≤ b18 := Nat.le_trans Z0 (Nat.le_of_eq g18.symm)
          have Z0 := Nat.le_trans Z0 E18.1
          have O := O.ext E18
          have E_bx7 := E_bx7.ext E18
          have E_b5 := E_b5.ext E18
          have F_size_b5 := F_size_b5.ext E18
          have E_b9 := E_b9.ext E18
          have F_modCount_b9 := F_modCount_b9.ext E18
          have F_elementData_b9 := F_elementData_b9.ext E18
          have F_size_b9 := F_size_b9.ext E18
          have E_b15 := E_b15.ext E18
          have F_transaction_b15 := F_transaction_b15.ext E18
          have F_holder_b15 := F_holder_b15.ext E18
          have F_kin_b15 := F_kin_b15.ext E18
          have F_shard_b15 := F_shard_b15.ext E18
          have F_number_b15 := F_number_b15.ext E18
          have F_target_b15 := F_target_b15.ext E18
          have F_mode_b15 := F_mode_b15.ext E18
          have F_blockers_b15 := F_blockers_b15.ext E18
          have F_holding_b15 := F_holding_b15.ext E18
          have F_held_b15 := F_held_b15.ext E18
          have F_transaction_b18 : Fld Z h18 b18 "com/example/waitsfor/waitsfor/Wait" "transaction" "J" (.long (0 : Int64)) := D18 (Or.inr (hw _ (List.mem_of_getElem? (i := 87) rfl))) (ty := .long) (by decide)
          have F_holder_b18 : Fld Z h18 b18 "com/example/waitsfor/waitsfor/Wait" "holder" "J" (.long (0 : Int64)) := D18 (Or.inr (hw _ (List.mem_of_getElem? (i := 89) rfl))) (ty := .long) (by decide)
          have F_kin_b18 : Fld Z h18 b18 "com/example/waitsfor/waitsfor/Wait" "kin" "J" (.long (0 : Int64)) := D18 (Or.inr (hw _ (List.mem_of_getElem? (i := 91) rfl))) (ty := .long) (by decide)
          have F_shard_b18 : Fld Z h18 b18 "com/example/waitsfor/waitsfor/Wait" "shard" "I" (.int (0 : Int32)) := D18 (Or.inr (hw _ (List.mem_of_getElem? (i := 93) rfl))) (ty := .int) (by decide)
          have F_number_b18 : Fld Z h18 b18 "com/example/waitsfor/waitsfor/Wait" "number" "J" (.long (0 : Int64)) := D18 (Or.inr (hw _ (List.mem_of_getElem? (i := 95) rfl))) (ty := .long) (by decide)
          have F_target_b18 : Fld Z h18 b18 "com/example/waitsfor/waitsfor/Wait" "target" "Lcom/example/waitsfor/waitsfor/LockTarget;" .null := D18 (Or.inr (hw _ (List.mem_of_getElem? (i := 97) rfl))) (ty := (.object "com/example/waitsfor/waitsfor/LockTarget")) (by decide)
          have F_mode_b18 : Fld Z h18 b18 "com/example/waitsfor/waitsfor/Wait" "mode" "Lcom/example/waitsfor/waitsfor/RowLockMode;" .null := D18 (Or.inr (hw _ (List.mem_of_getElem? (i := 99) rfl))) (ty := (.object "com/example/waitsfor/waitsfor/RowLockMode")) (by decide)
          have F_blockers_b18 : Fld Z h18 b18 "com/example/waitsfor/waitsfor/Wait" "blockers" "Ljava/util/List;" .null := D18 (Or.inr (hw _ (List.mem_of_getElem? (i := 101) rfl))) (ty := (.object "java/util/List")) (by decide)
          have F_holding_b18 : Fld Z h18 b18 "com/example/waitsfor/waitsfor/Wait" "holding" "I" (.int (0 : Int32)) := D18 (Or.inr (hw _ (List.mem_of_getElem? (i := 103) rfl))) (ty := .int) (by decide)
          have F_held_b18 : Fld Z h18 b18 "com/example/waitsfor/waitsfor/Wait" "held" "Lcom/example/waitsfor/waitsfor/HeldLocks;" .null := D18 (Or.inr (hw _ (List.mem_of_getElem? (i := 105) rfl))) (ty := (.object "com/example/waitsfor/waitsfor/HeldLocks")) (by decide)
          have E_b18 := A18
          refine go st18 ?_
          refine go (fun _ k => by refine XS.dup X18.here hx rfl (hb hby at_130) rfl rfl ?_; exact k) ?_
          refine go (fun _ k => by refine XS.lload X18.here hx rfl (hb hby at_131) rfl ?_; exact k) ?_
          refine go (fun _ k => by refine XS.lload X18.here hx rfl (hb hby at_133) rfl ?_; exact k) ?_
          show OwnEnd _ _ _ _ _ _ _ (T18.setTop (mkF m 135 (fL8 p0 q1 p2 q3 q4 p5 x2_s0 x4_s0 b5 b9 (0 : Int32) b15) [(.long q4), (.long x4_s0), (.ref b18), (.ref b18)]))
          refine go (fun _ k => by refine XS.lneg X18.here hx rfl (hb hby at_135) rfl ?_; exact k) ?_
          refine go (fun _ k => by refine XS.iload X18.here hx rfl (hb hby at_136) rfl ?_; exact k) ?_
          refine go (fun _ k => by refine XS.lload X18.here hx rfl (hb hby at_138) rfl ?_; exact k) ?_
          refine go (fun _ k => by refine XS.aconstNull X18.here hx rfl (hb hby at_140) ?_; exact k) ?_
          show OwnEnd _ _ _ _ _ _ _ (T18.setTop (mkF m 141 (fL8 p0 q1 p2 q3 q4 p5 x2_s0 x4_s0 b5 b9 (0 : Int32) b15) [.null, (.long x4_s0), (.int x2_s0), (.long (-q4)), (.long x4_s0), (.ref b18), (.ref b18)]))
          refine go (fun _ k => by refine XS.iload X18.here hx rfl (hb hby at_141) rfl ?_; exact k) ?_
          refine go (fun _ k => by refine XS.iconst X18.here hx rfl (hb hby at_143) ?_; exact k) ?_
          refine go (fun _ k => by refine XS.iushr X18.here hx rfl (hb hby at_144) rfl ?_; exact k) ?_
          show OwnEnd _ _ _ _ _ _ _ (T18.setTop (mkF m 145 (fL8 p0 q1 p2 q3 q4 p5 x2_s0 x4_s0 b5 b9 (0 : Int32) b15) [(.int ((p5.toUInt32 >>> ((5 : Int32) &&& 31).toUInt32).toInt32)), .null, (.long x4_s0), (.int x2_s0), (.long (-q4)), (.long x4_s0), (.ref b18), (.ref b18)]))
          obtain ⟨_, T19, L19, X19, hQ19, st19⟩ := callStat X18 hx hZ hown (hw _ (List.mem_of_getElem? (i := 72) rfl)) (hw _ (List.mem_of_getElem? (i := 73) rfl)) (hw _ (List.mem_of_getElem? (i := 74) rfl)) (hw _ (List.mem_of_getElem? (i := 75) rfl)) (by decide) (rm_mode l Z a0 hw [] ((p5.toUInt32 >>> ((5 : Int32) &&& 31).toUInt32).toInt32) w0 w1 w2 w3 h18 n0 (M0.ext O.2) (M1.ext O.2) (M2.ext O.2) (M3.ext O.2)) (W := 10) (by decide) (by decide) e18 (g := (mkF m 145 (fL8 p0 q1 p2 q3 q4 p5 x2_s0 x4_s0 b5 b9 (0 : Int32) b15) [(.int ((p5.toUInt32 >>> ((5 : Int32) &&& 31).toUInt32).toInt32)), .null, (.long x4_s0), (.int x2_s0), (.long (-q4)), (.long x4_s0), (.ref b18), (.ref b18)])) rfl (by rw [hml]; rfl) (argsL := [(.int ((p5.toUInt32 >>> ((5 : Int32) &&& 31).toUInt32).toInt32))]) (rest := [.null, (.long x4_s0), (.int x2_s0), (.long (-q4)), (.long x4_s0), (.ref b18), (.ref b18)]) rfl (lenOf pd__I_Lcom_example_waitsfor_waitsfor_RowLockMode_ rfl) rfl (by show 2 * 0 + _ ≤ _; exact Nat.le_of_eq rfl) (hb hby at_145) (by decide) (by decide)
          obtain ⟨md19, rfl, Nq19, eq19⟩ := hQ19
          have N19 := Fr.app N17 Nq19
          refine go st19 ?_
          refine go (fun _ k => by refine XS.aload X19.here hx rfl (hb hby at_148) rfl rfl ?_; exact k) ?_
          refine go (fun _ k => by refine XS.iload X19.here hx rfl (hb hby at_150) rfl ?_; exact k) ?_
          show OwnEnd _ _ _ _ _ _ _ (T19.setTop (mkF m 152 (fL8 p0 q1 p2 q3 q4 p5 x2_s0 x4_s0 b5 b9 (0 : Int32) b15) [(.int (0 : Int32)), (.ref b9), (.ref md19), .null, (.long x4_s0), (.int x2_s0), (.long (-q4)), (.long x4_s0), (.ref b18), (.ref b18)]))
          obtain ⟨_, T20, L20, X20, hQ20, st20⟩ := callInit X19 hx hZ hown rfl (hw _ (List.mem_of_getElem? (i := 79) rfl)) (hw _ (List.mem_of_getElem? (i := 80) rfl)) (hw _ (List.mem_of_getElem? (i := 71) rfl)) (hw _ (List.mem_of_getElem? (i := 81) rfl)) (by decide) (rm_w8 l Z a0 hw [] b18 x4_s0 (-q4) x2_s0 x4_s0 md19 b9 (0 : Int32) h18 n0 g_b18 E_b18 F_transaction_b18 F_holder_b18 F_kin_b18 F_shard_b18 F_number_b18 F_target_b18 F_mode_b18 F_blockers_b18 F_holding_b18 F_held_b18) (W := 1) (by decide) (by decide) eq19 (g := (mkF m 152 (fL8 p0 q1 p2 q3 q4 p5 x2_s0 x4_s0 b5 b9 (0 : Int32) b15) [(.int (0 : Int32)), (.ref b9), (.ref md19), .null, (.long x4_s0), (.int x2_s0), (.long (-q4)), (.long x4_s0), (.ref b18), (.ref b18)])) rfl (by rw [hml]; rfl) (argsL := [(.long x4_s0), (.long (-q4)), (.int x2_s0), (.long x4_s0), .null, (.ref md19), (.ref b9), (.int (0 : Int32))]) (rest := [(.ref b18)]) rfl (lenOf pd__JJIJLcom_example_waitsfor_waitsfor_LockTarget_Lcom_example_waitsfor_waitsfor_RowLockMode_Ljava_util_List_I_V rfl) rfl (by show 2 * 0 + _ ≤ _; exact Nat.le_of_eq rfl) (hb hby at_152) (by decide) (by decide)
          obtain ⟨rfl, Nq20, K20, E_b18, F_transaction_b18, F_holder_b18, F_kin_b18, F_shard_b18, F_number_b18, F_target_b18, F_mode_b18, F_blockers_b18, F_holding_b18, F_held_b18⟩ := hQ20
          have N20 := Fr.app N19 Nq20
          have Z0 := Nat.le_trans Z0 K20.1
          have O := O.keep K20 (allS g_b18 all0)
          have E_bx7 := E_bx7.keep K20
          have E_b5 := E_b5.keep K20
          have F_size_b5 := F_size_b5.keep K20 (ninS ne_b5_b18 nin0)
          have E_b9 := E_b9.keep K20
          have F_modCount_b9 := F_modCount_b9.keep K20 (ninS ne_b9_b18 nin0)
          have F_elementData_b9 := F_elementData_b9.keep K20 (ninS ne_b9_b18 nin0)
          have F_size_b9 := F_size_b9.keep K20 (ninS ne_b9_b18 nin0)
          have E_b15 := E_b15.keep K20
          have F_transaction_b15 := F_transaction_b15.keep K20 (ninS ne_b15_b18 nin0)
          have F_holder_b15 := F_holder_b15.keep K20 (ninS ne_b15_b18 nin0)
          have F_kin_b15 := F_kin_b15.keep K20 (ninS ne_b15_b18 nin0)
          have F_shard_b15 := F_shard_b15.keep K20 (ninS ne_b15_b18 nin0)
          have F_number_b15 := F_number_b15.keep K20 (ninS ne_b15_b18 nin0)
          have F_target_b15 := F_target_b15.keep K20 (ninS ne_b15_b18 nin0)
          have F_mode_b15 := F_mode_b15.keep K20 (ninS ne_b15_b18 nin0)
          have F_blockers_b15 := F_blockers_b15.keep K20 (ninS ne_b15_b18 nin0)
          have F_holding_b15 := F_holding_b15.keep K20 (ninS ne_b15_b18 nin0)
          have F_held_b15 := F_held_b15.keep K20 (ninS ne_b15_b18 nin0)
          refine go st20 ?_
          refine go (fun _ k => by refine XS.astore X20.here hx rfl (hb hby at_155) rfl rfl (l' := (fL9 p0 q1 p2 q3 q4 p5 x2_s0 x4_s0 b5 b9 (0 : Int32) b15 b18)) rfl ?_; exact k) ?_
          refine go (fun _ k => by refine XS.iloadN X20.here hx rfl (hb hby at_157) rfl ?_; exact k) ?_
          refine go (fun _ k => by refine XS.iload X20.here hx rfl (hb hby at_158) rfl ?_; exact k) ?_
          show OwnEnd _ _ _ _ _ _ _ (T20.setTop (mkF m 160 (fL9 p0 q1 p2 q3 q4 p5 x2_s0 x4_s0 b5 b9 (0 : Int32) b15 b18) [(.int x2_s0), (.int p0)]))
          have J23 : ∀ (x23_s0 : Int32) (qx23_s0 : x23_s0 = (if p0 = x2_s0 then (if q1 = x4_s0 then (1 : Int32) else (0 : Int32)) else (0 : Int32))), OwnEnd p e below s (Q_rm_law Z p0 q1 p2 q3 q4 p5 da dk w0 w1 w2 w3 caJ ccJ h0 n0) 32 192 (T20.setTop (mkF m 175 (fL9 p0 q1 p2 q3 q4 p5 x2_s0 x4_s0 b5 b9 (0 : Int32) b15 b18) [(.int x23_s0)])) := by
            intro x23_s0 qx23_s0
            show OwnEnd _ _ _ _ _ _ _ (T20.setTop (mkF m 175 (fL9 p0 q1 p2 q3 q4 p5 x2_s0 x4_s0 b5 b9 (0 : Int32) b15 b18) [(.int x23_s0)]))
            refine go (fun _ k => by refine XS.istore X20.here hx rfl (hb hby at_175) rfl (l' := (fL10 p0 q1 p2 q3 q4 p5 x2_s0 x4_s0 b5 b9 (0 : Int32) b15 b18 x23_s0)) rfl ?_; exact k) ?_
            refine go (fun _ k => by refine XS.aload X20.here hx rfl (hb hby at_177) rfl rfl ?_; exact k) ?_
            refine go (fun _ k => by refine XS.aload X20.here hx rfl (hb hby at_179) rfl rfl ?_; exact k) ?_
            show OwnEnd _ _ _ _ _ _ _ (T20.setTop (mkF m 181 (fL10 p0 q1 p2 q3 q4 p5 x2_s0 x4_s0 b5 b9 (0 : Int32) b15 b18 x23_s0) [(.ref b18), (.ref b15)]))
            obtain ⟨_, T24, L24, X24, hQ24, st24⟩ := callVirt X20 hx hZ hown (hw _ (List.mem_of_getElem? (i := 106) rfl)) (hw _ (List.mem_of_getElem? (i := 107) rfl)) (notFace_of_selects (args := #[]) (mvT hZ (hw _ (List.mem_of_getElem? (i := 109) rfl)))) (hw _ (List.mem_of_getElem? (i := 109) rfl)) (hw _ (List.mem_of_getElem? (i := 108) rfl)) (hw _ (List.mem_of_getElem? (i := 71) rfl)) (hw _ (List.mem_of_getElem? (i := 110) rfl)) (by decide) (rm_eqv l Z a0 hw [] b15 b18 p0 q1 x2_s0 x4_s0 T20.heap n0 F_shard_b15 F_number_b15 F_shard_b18 F_number_b18 E_b18) (W := 0) (by decide) (by decide) rfl E_b15 (g := (mkF m 181 (fL10 p0 q1 p2 q3 q4 p5 x2_s0 x4_s0 b5 b9 (0 : Int32) b15 b18 x23_s0) [(.ref b18), (.ref b15)])) rfl (by rw [hml]; rfl) (argsL := [(.ref b18)]) (rest := []) rfl (lenOf pd__Ljava_lang_Object__Z rfl) rfl (by show 2 * 0 + _ ≤ _; exact Nat.le_of_eq rfl) (hb hby at_181) (by decide) (by decide)
            obtain ⟨rfl, Nq24, eq24⟩ := hQ24
            have N24 := Fr.app N20 Nq24
            refine go st24 ?_
            refine go (fun _ k => by refine XS.istore X24.here hx rfl (hb hby at_184) rfl (l' := (fL11 p0 q1 p2 q3 q4 p5 x2_s0 x4_s0 b5 b9 (0 : Int32) b15 b18 x23_s0 (if own_eq p0 q1 x2_s0 x4_s0 then (1 : Int32) else 0))) rfl ?_; exact k) ?_
            show OwnEnd _ _ _ _ _ _ _ (T24.setTop (mkF m 186 (fL11 p0 q1 p2 q3 q4 p5 x2_s0 x4_s0 b5 b9 (0 : Int32) b15 b18 x23_s0 (if own_eq p0 q1 x2_s0 x4_s0 then (1 : Int32) else 0)) []))
            generalize qx25 : (if own_eq p0 q1 x2_s0 x4_s0 then (1 : Int32) else 0) = x25
            refine go (fun _ k => by refine XS.aload X24.here hx rfl (hb hby at_186) rfl rfl ?_; exact k) ?_
            refine go (fun _ k => by refine XS.aload X24.here hx rfl (hb hby at_188) rfl rfl ?_; exact k) ?_
            show OwnEnd _ _ _ _ _ _ _ (T24.setTop (mkF m 190 (fL11 p0 q1 p2 q3 q4 p5 x2_s0 x4_s0 b5 b9 (0 : Int32) b15 b18 x23_s0 x25) [(.ref b15), (.ref b18)]))
            obtain ⟨_, T26, L26, X26, hQ26, st26⟩ := callVirt X24 hx hZ hown (hw _ (List.mem_of_getElem? (i := 106) rfl)) (hw _ (List.mem_of_getElem? (i := 107) rfl)) (notFace_of_selects (args := #[]) (mvT hZ (hw _ (List.mem_of_getElem? (i := 109) rfl)))) (hw _ (List.mem_of_getElem? (i := 109) rfl)) (hw _ (List.mem_of_getElem? (i := 108) rfl)) (hw _ (List.mem_of_getElem? (i := 71) rfl)) (hw _ (List.mem_of_getElem? (i := 110) rfl)) (by decide) (rm_eqv l Z a0 hw [] b18 b15 x2_s0 x4_s0 p0 q1 T20.heap n0 F_shard_b18 F_number_b18 F_shard_b15 F_number_b15 E_b15) (W := 0) (by decide) (by decide) eq24 E_b18 (g := (mkF m 190 (fL11 p0 q1 p2 q3 q4 p5 x2_s0 x4_s0 b5 b9 (0 : Int32) b15 b18 x23_s0 x25) [(.ref b15), (.ref b18)])) rfl (by rw [hml]; rfl) (argsL := [(.ref b15)]) (rest := []) rfl (lenOf pd__Ljava_lang_Object__Z rfl) rfl (by show 2 * 0 + _ ≤ _; exact Nat.le_of_eq rfl) (hb hby at_190) (by decide) (by decide)
            obtain ⟨rfl, Nq26, eq26⟩ := hQ26
            have N26 := Fr.app N24 Nq26
            refine go st26 ?_
            refine go (fun _ k => by refine XS.istore X26.here hx rfl (hb hby at_193) rfl (l' := (fL12 p0 q1 p2 q3 q4 p5 x2_s0 x4_s0 b5 b9 (0 : Int32) b15 b18 x23_s0 x25 (if own_eq x2_s0 x4_s0 p0 q1 then (1 : Int32) else 0))) rfl ?_; exact k) ?_
            show OwnEnd _ _ _ _ _ _ _ (T26.setTop (mkF m 195 (fL12 p0 q1 p2 q3 q4 p5 x2_s0 x4_s0 b5 b9 (0 : Int32) b15 b18 x23_s0 x25 (if own_eq x2_s0 x4_s0 p0 q1 then (1 : Int32) else 0)) []))
            generalize qx27 : (if own_eq x2_s0 x4_s0 p0 q1 then (1 : Int32) else 0) = x27
            refine go (fun _ k => by refine XS.aload X26.here hx rfl (hb hby at_195) rfl rfl ?_; exact k) ?_
            refine go (fun _ k => by refine XS.aload X26.here hx rfl (hb hby at_197) rfl rfl ?_; exact k) ?_
            show OwnEnd _ _ _ _ _ _ _ (T26.setTop (mkF m 199 (fL12 p0 q1 p2 q3 q4 p5 x2_s0 x4_s0 b5 b9 (0 : Int32) b15 b18 x23_s0 x25 x27) [(.ref b15), (.ref b15)]))
            obtain ⟨_, T28, L28, X28, hQ28, st28⟩ := callVirt X26 hx hZ hown (hw _ (List.mem_of_getElem? (i := 106) rfl)) (hw _ (List.mem_of_getElem? (i := 107) rfl)) (notFace_of_selects (args := #[]) (mvT hZ (hw _ (List.mem_of_getElem? (i := 109) rfl)))) (hw _ (List.mem_of_getElem? (i := 109) rfl)) (hw _ (List.mem_of_getElem? (i := 108) rfl)) (hw _ (List.mem_of_getElem? (i := 71) rfl)) (hw _ (List.mem_of_getElem? (i := 110) rfl)) (by decide) (rm_eqv l Z a0 hw [] b15 b15 p0 q1 p0 q1 T20.heap n0 F_shard_b15 F_number_b15 F_shard_b15 F_number_b15 E_b15) (W := 0) (by decide) (by decide) eq26 E_b15 (g := (mkF m 199 (fL12 p0 q1 p2 q3 q4 p5 x2_s0 x4_s0 b5 b9 (0 : Int32) b15 b18 x23_s0 x25 x27) [(.ref b15), (.ref b15)])) rfl (by rw [hml]; rfl) (argsL := [(.ref b15)]) (rest := []) rfl (lenOf pd__Ljava_lang_Object__Z rfl) rfl (by show 2 * 0 + _ ≤ _; exact Nat.le_of_eq rfl) (hb hby at_199) (by decide) (by decide)
            obtain ⟨rfl, Nq28, eq28⟩ := hQ28
            have N28 := Fr.app N26 Nq28
            refine go st28 ?_
            refine go (fun _ k => by refine XS.istore X28.here hx rfl (hb hby at_202) rfl (l' := (fL13 p0 q1 p2 q3 q4 p5 x2_s0 x4_s0 b5 b9 (0 : Int32) b15 b18 x23_s0 x25 x27 (if own_eq p0 q1 p0 q1 then (1 : Int32) else 0))) rfl ?_; exact k) ?_
            show OwnEnd _ _ _ _ _ _ _ (T28.setTop (mkF m 204 (fL13 p0 q1 p2 q3 q4 p5 x2_s0 x4_s0 b5 b9 (0 : Int32) b15 b18 x23_s0 x25 x27 (if own_eq p0 q1 p0 q1 then (1 : Int32) else 0)) []))
            generalize qx29 : (if own_eq p0 q1 p0 q1 then (1 : Int32) else 0) = x29
            refine go (fun _ k => by refine XS.aload X28.here hx rfl (hb hby at_204) rfl rfl ?_; exact k) ?_
            refine go (fun _ k => by refine XS.aconstNull X28.here hx rfl (hb hby at_206) ?_; exact k) ?_
            show OwnEnd _ _ _ _ _ _ _ (T28.setTop (mkF m 207 (fL13 p0 q1 p2 q3 q4 p5 x2_s0 x4_s0 b5 b9 (0 : Int32) b15 b18 x23_s0 x25 x27 x29) [.null, (.ref b15)]))
            obtain ⟨_, T30, L30, X30, hQ30, st30⟩ := callVirt X28 hx hZ hown (hw _ (List.mem_of_getElem? (i := 106) rfl)) (hw _ (List.mem_of_getElem? (i := 107) rfl)) (notFace_of_selects (args := #[]) (mvT hZ (hw _ (List.mem_of_getElem? (i := 109) rfl)))) (hw _ (List.mem_of_getElem? (i := 109) rfl)) (hw _ (List.mem_of_getElem? (i := 108) rfl)) (hw _ (List.mem_of_getElem? (i := 71) rfl)) (hw _ (List.mem_of_getElem? (i := 110) rfl)) (by decide) (rm_eqn l Z a0 hw [] b15 T20.heap n0) (W := 0) (by decide) (by decide) eq28 E_b15 (g := (mkF m 207 (fL13 p0 q1 p2 q3 q4 p5 x2_s0 x4_s0 b5 b9 (0 : Int32) b15 b18 x23_s0 x25 x27 x29) [.null, (.ref b15)])) rfl (by rw [hml]; rfl) (argsL := [.null]) (rest := []) rfl (lenOf pd__Ljava_lang_Object__Z rfl) rfl (by show 2 * 0 + _ ≤ _; exact Nat.le_of_eq rfl) (hb hby at_207) (by decide) (by decide)
            obtain ⟨rfl, Nq30, eq30⟩ := hQ30
            have N30 := Fr.app N28 Nq30
            refine go st30 ?_
            refine go (fun _ k => by refine XS.istore X30.here hx rfl (hb hby at_210) rfl (l' := (fL14 p0 q1 p2 q3 q4 p5 x2_s0 x4_s0 b5 b9 (0 : Int32) b15 b18 x23_s0 x25 x27 x29 (0 : Int32))) rfl ?_; exact k) ?_
            refine go (fun _ k => by refine XS.aload X30.here hx rfl (hb hby at_212) rfl rfl ?_; exact k) ?_
            refine go (fun _ k => by refine XS.lloadN X30.here hx rfl (hb hby at_214) rfl ?_; exact k) ?_
            show OwnEnd _ _ _ _ _ _ _ (T30.setTop (mkF m 215 (fL14 p0 q1 p2 q3 q4 p5 x2_s0 x4_s0 b5 b9 (0 : Int32) b15 b18 x23_s0 x25 x27 x29 (0 : Int32)) [(.long q1), (.ref b15)]))
            obtain ⟨_, T31, L31, X31, hQ31, st31⟩ := callStat X30 hx hZ hown (hw _ (List.mem_of_getElem? (i := 26) rfl)) (hw _ (List.mem_of_getElem? (i := 27) rfl)) (hw _ (List.mem_of_getElem? (i := 28) rfl)) (hw _ (List.mem_of_getElem? (i := 29) rfl)) (by decide) (rm_box l Z a0 hw [] q1 caJ ccJ T20.heap n0 O SCJ ACJ NCJ ECJ) (W := 1) (by decide) (by decide) eq30 (g := (mkF m 215 (fL14 p0 q1 p2 q3 q4 p5 x2_s0 x4_s0 b5 b9 (0 : Int32) b15 b18 x23_s0 x25 x27 x29 (0 : Int32)) [(.long q1), (.ref b15)])) rfl (by rw [hml]; rfl) (argsL := [(.long q1)]) (rest := [(.ref b15)]) rfl (lenOf pd__J_Ljava_lang_Long_ rfl) rfl (by show 2 * 0 + _ ≤ _; exact Nat.le_of_eq rfl) (hb hby at_215) (by decide) (by decide)
            obtain ⟨bx31, rfl, Nq31, K31, E_bx31⟩ := hQ31
            have N31 := Fr.app N30 Nq31
            have Z0 := Nat.le_trans Z0 K31.1
            have O := O.keep K31 all0
            have E_bx7 := E_bx7.keep K31
            have E_b5 := E_b5.keep K31
            have F_size_b5 := F_size_b5.keep K31 nin0
            have E_b9 := E_b9.keep K31
            have F_modCount_b9 := F_modCount_b9.keep K31 nin0
            have F_elementData_b9 := F_elementData_b9.keep K31 nin0
            have F_size_b9 := F_size_b9.keep K31 nin0
            have E_b15 := E_b15.keep K31
            have F_transaction_b15 := F_transaction_b15.keep K31 nin0
            have F_holder_b15 := F_holder_b15.keep K31 nin0
            have F_kin_b15 := F_kin_b15.keep K31 nin0
            have F_shard_b15 := F_shard_b15.keep K31 nin0
            have F_number_b15 := F_number_b15.keep K31 nin0
            have F_target_b15 := F_target_b15.keep K31 nin0
            have F_mode_b15 := F_mode_b15.keep K31 nin0
            have F_blockers_b15 := F_blockers_b15.keep K31 nin0
            have F_holding_b15 := F_holding_b15.keep K31 nin0
            have F_held_b15 := F_held_b15.keep K31 nin0
            have E_b18 := E_b18.keep K31
            have F_transaction_b18 := F_transaction_b18.keep K31 nin0
            have F_holder_b18 := F_holder_b18.keep K31 nin0
            have F_kin_b18 := F_kin_b18.keep K31 nin0
            have F_shard_b18 := F_shard_b18.keep K31 nin0
            have F_number_b18 := F_number_b18.keep K31 nin0
            have F_target_b18 := F_target_b18.keep K31 nin0
            have F_mode_b18 := F_mode_b18.keep K31 nin0
            have F_blockers_b18 := F_blockers_b18.keep K31 nin0
            have F_holding_b18 := F_holding_b18.keep K31 nin0
            have F_held_b18 := F_held_b18.keep K31 nin0
            refine go st31 ?_
            show OwnEnd _ _ _ _ _ _ _ (T31.setTop (mkF m 218 (fL14 p0 q1 p2 q3 q4 p5 x2_s0 x4_s0 b5 b9 (0 : Int32) b15 b18 x23_s0 x25 x27 x29 (0 : Int32)) [(.ref bx31), (.ref b15)]))
            obtain ⟨_, T32, L32, X32, hQ32, st32⟩ := callVirt X31 hx hZ hown (hw _ (List.mem_of_getElem? (i := 106) rfl)) (hw _ (List.mem_of_getElem? (i := 107) rfl)) (notFace_of_selects (args := #[]) (mvT hZ (hw _ (List.mem_of_getElem? (i := 109) rfl)))) (hw _ (List.mem_of_getElem? (i := 109) rfl)) (hw _ (List.mem_of_getElem? (i := 108) rfl)) (hw _ (List.mem_of_getElem? (i := 71) rfl)) (hw _ (List.mem_of_getElem? (i := 110) rfl)) (by decide) (rm_eqb l Z a0 hw [] b15 bx31 T31.heap n0 E_bx31) (W := 0) (by decide) (by decide) rfl E_b15 (g := (mkF m 218 (fL14 p0 q1 p2 q3 q4 p5 x2_s0 x4_s0 b5 b9 (0 : Int32) b15 b18 x23_s0 x25 x27 x29 (0 : Int32)) [(.ref bx31), (.ref b15)])) rfl (by rw [hml]; rfl) (argsL := [(.ref bx31)]) (rest := []) rfl (lenOf pd__Ljava_lang_Object__Z rfl) rfl (by show 2 * 0 + _ ≤ _; exact Nat.le_of_eq rfl) (hb hby at_218) (by decide) (by decide)
            obtain ⟨rfl, Nq32, eq32⟩ := hQ32
            have N32 := Fr.app N31 Nq32
            refine go st32 ?_
            refine go (fun _ k => by refine XS.istore X32.here hx rfl (hb hby at_221) rfl (l' := (fL15 p0 q1 p2 q3 q4 p5 x2_s0 x4_s0 b5 b9 (0 : Int32) b15 b18 x23_s0 x25 x27 x29 (0 : Int32) (0 : Int32))) rfl ?_; exact k) ?_
            refine go (fun _ k => by refine XS.iload X32.here hx rfl (hb hby at_223) rfl ?_; exact k) ?_
            refine go (fun _ k => by refine XS.iload X32.here hx rfl (hb hby at_225) rfl ?_; exact k) ?_
            show OwnEnd _ _ _ _ _ _ _ (T32.setTop (mkF m 227 (fL15 p0 q1 p2 q3 q4 p5 x2_s0 x4_s0 b5 b9 (0 : Int32) b15 b18 x23_s0 x25 x27 x29 (0 : Int32) (0 : Int32)) [(.int x23_s0), (.int x25)]))
            by_cases hc227_33 : x25 = x23_s0
            · refine go (fun _ k => by refine XS.icmpNo X32.here hx rfl (hb hby at_227) rfl (teq hc227_33).2 ?_; exact k) ?_
              show OwnEnd _ _ _ _ _ _ _ (T32.setTop (mkF m 230 (fL15 p0 q1 p2 q3 q4 p5 x2_s0 x4_s0 b5 b9 (0 : Int32) b15 b18 x23_s0 x25 x27 x29 (0 : Int32) (0 : Int32)) []))
              refine go (fun _ k => by refine XS.iload X32.here hx rfl (hb hby at_230) rfl ?_; exact k) ?_
              refine go (fun _ k => by refine XS.iload X32.here hx rfl (hb hby at_232) rfl ?_; exact k) ?_
              show OwnEnd _ _ _ _ _ _ _ (T32.setTop (mkF m 234 (fL15 p0 q1 p2 q3 q4 p5 x2_s0 x4_s0 b5 b9 (0 : Int32) b15 b18 x23_s0 x25 x27 x29 (0 : Int32) (0 : Int32)) [(.int x23_s0), (.int x27)]))
              by_cases hc234_34 : x27 = x23_s0
              · refine go (fun _ k => by refine XS.icmpNo X32.here hx rfl (hb hby at_234) rfl (teq hc234_34).2 ?_; exact k) ?_
                show OwnEnd _ _ _ _ _ _ _ (T32.setTop (mkF m 237 (fL15 p0 q1 p2 q3 q4 p5 x2_s0 x4_s0 b5 b9 (0 : Int32) b15 b18 x23_s0 x25 x27 x29 (0 : Int32) (0 : Int32)) []))
                refine go (fun _ k => by refine XS.iload X32.here hx rfl (hb hby at_237) rfl ?_; exact k) ?_
                show OwnEnd _ _ _ _ _ _ _ (T32.setTop (mkF m 239 (fL15 p0 q1 p2 q3 q4 p5 x2_s0 x4_s0 b5 b9 (0 : Int32) b15 b18 x23_s0 x25 x27 x29 (0 : Int32) (0 : Int32)) [(.int x29)]))
                by_cases hc239_35 : x29 = (0 : Int32)
                · refine go (fun _ k => by refine XS.ifYes X32.here hx rfl (pc0 := 239) (pc' := 256) rfl (hb hby at_239) rfl ((if0 _ _).trans (teq hc239_35).1) (by decide) (by decide) ?_; exact k) ?_
                  show OwnEnd _ _ _ _ _ _ _ (T32.setTop (mkF m 256 (fL15 p0 q1 p2 q3 q4 p5 x2_s0 x4_s0 b5 b9 (0 : Int32) b15 b18 x23_s0 x25 x27 x29 (0 : Int32) (0 : Int32)) []))
                  refine go (fun _ k => by refine XS.iconst X32.here hx rfl (hb hby at_256) ?_; exact k) ?_
                  show OwnEnd _ _ _ _ _ _ _ (T32.setTop (mkF m 257 (fL15 p0 q1 p2 q3 q4 p5 x2_s0 x4_s0 b5 b9 (0 : Int32) b15 b18 x23_s0 x25 x27 x29 (0 : Int32) (0 : Int32)) [(.int (0 : Int32))]))
                  refine endN X32 hx hlk (t := .boolean) (by simp) Bd.returns (hb hby at_257) eq32 (by decide) (by decide) ?_
                  exact absurd ((hc239_35.symm.trans qx29.symm).trans (if_pos ⟨rfl, rfl⟩)) (by decide)
                · refine go (fun _ k => by refine XS.ifNo X32.here hx rfl (hb hby at_239) rfl ((if0 _ _).trans (feq hc239_35).1) ?_; exact k) ?_
                  show OwnEnd _ _ _ _ _ _ _ (T32.setTop (mkF m 242 (fL15 p0 q1 p2 q3 q4 p5 x2_s0 x4_s0 b5 b9 (0 : Int32) b15 b18 x23_s0 x25 x27 x29 (0 : Int32) (0 : Int32)) []))
                  refine go (fun _ k => by refine XS.iload X32.here hx rfl (hb hby at_242) rfl ?_; exact k) ?_
                  show OwnEnd _ _ _ _ _ _ _ (T32.setTop (mkF m 244 (fL15 p0 q1 p2 q3 q4 p5 x2_s0 x4_s0 b5 b9 (0 : Int32) b15 b18 x23_s0 x25 x27 x29 (0 : Int32) (0 : Int32)) [(.int (0 : Int32))]))
                  refine go (fun _ k => by refine XS.ifNo X32.here hx rfl (hb hby at_244) rfl ((if0 _ _).trans (teq (by decide)).2) ?_; exact k) ?_
                  refine go (fun _ k => by refine XS.iload X32.here hx rfl (hb hby at_247) rfl ?_; exact k) ?_
                  show OwnEnd _ _ _ _ _ _ _ (T32.setTop (mkF m 249 (fL15 p0 q1 p2 q3 q4 p5 x2_s0 x4_s0 b5 b9 (0 : Int32) b15 b18 x23_s0 x25 x27 x29 (0 : Int32) (0 : Int32)) [(.int (0 : Int32))]))
                  refine go (fun _ k => by refine XS.ifNo X32.here hx rfl (hb hby at_249) rfl ((if0 _ _).trans (teq (by decide)).2) ?_; exact k) ?_
                  refine go (fun _ k => by refine XS.iconst X32.here hx rfl (hb hby at_252) ?_; exact k) ?_
                  refine go (fun _ k => by refine XS.goto X32.here hx rfl (pc0 := 253) (pc' := 257) rfl (hb hby at_253) (by decide) (by decide) ?_; exact k) ?_
                  show OwnEnd _ _ _ _ _ _ _ (T32.setTop (mkF m 257 (fL15 p0 q1 p2 q3 q4 p5 x2_s0 x4_s0 b5 b9 (0 : Int32) b15 b18 x23_s0 x25 x27 x29 (0 : Int32) (0 : Int32)) [(.int (1 : Int32))]))
                  refine endN X32 hx hlk (t := .boolean) (by simp) Bd.returns (hb hby at_257) eq32 (by decide) (by decide) ?_
                  exact ⟨rfl, N32⟩
              · refine go (fun _ k => by refine XS.icmpYes X32.here hx rfl (pc0 := 234) (pc' := 256) rfl (hb hby at_234) rfl (feq hc234_34).2 (by decide) (by decide) ?_; exact k) ?_
                show OwnEnd _ _ _ _ _ _ _ (T32.setTop (mkF m 256 (fL15 p0 q1 p2 q3 q4 p5 x2_s0 x4_s0 b5 b9 (0 : Int32) b15 b18 x23_s0 x25 x27 x29 (0 : Int32) (0 : Int32)) []))
                refine go (fun _ k => by refine XS.iconst X32.here hx rfl (hb hby at_256) ?_; exact k) ?_
                show OwnEnd _ _ _ _ _ _ _ (T32.setTop (mkF m 257 (fL15 p0 q1 p2 q3 q4 p5 x2_s0 x4_s0 b5 b9 (0 : Int32) b15 b18 x23_s0 x25 x27 x29 (0 : Int32) (0 : Int32)) [(.int (0 : Int32))]))
                refine endN X32 hx hlk (t := .boolean) (by simp) Bd.returns (hb hby at_257) eq32 (by decide) (by decide) ?_
                exact absurd (qx27.symm.trans (own_fin _ _ _ _ _ qx23_s0).2) hc234_34
            · refine go (fun _ k => by refine XS.icmpYes X32.here hx rfl (pc0 := 227) (pc' := 256) rfl (hb hby at_227) rfl (feq hc227_33).2 (by decide) (by decide) ?_; exact k) ?_
              show OwnEnd _ _ _ _ _ _ _ (T32.setTop (mkF m 256 (fL15 p0 q1 p2 q3 q4 p5 x2_s0 x4_s0 b5 b9 (0 : Int32) b15 b18 x23_s0 x25 x27 x29 (0 : Int32) (0 : Int32)) []))
              refine go (fun _ k => by refine XS.iconst X32.here hx rfl (hb hby at_256) ?_; exact k) ?_
              show OwnEnd _ _ _ _ _ _ _ (T32.setTop (mkF m 257 (fL15 p0 q1 p2 q3 q4 p5 x2_s0 x4_s0 b5 b9 (0 : Int32) b15 b18 x23_s0 x25 x27 x29 (0 : Int32) (0 : Int32)) [(.int (0 : Int32))]))
              refine endN X32 hx hlk (t := .boolean) (by simp) Bd.returns (hb hby at_257) eq32 (by decide) (by decide) ?_
              exact absurd (qx25.symm.trans (own_fin _ _ _ _ _ qx23_s0).1) hc227_33
          by_cases hc160_21 : p0 = x2_s0
          · refine go (fun _ k => by refine XS.icmpNo X20.here hx rfl (hb hby at_160) rfl (teq hc160_21).2 ?_; exact k) ?_
            show OwnEnd _ _ _ _ _ _ _ (T20.setTop (mkF m 163 (fL9 p0 q1 p2 q3 q4 p5 x2_s0 x4_s0 b5 b9 (0 : Int32) b15 b18) []))
            refine go (fun _ k => by refine XS.lloadN X20.here hx rfl (hb hby at_163) rfl ?_; exact k) ?_
            refine go (fun _ k => by refine XS.lload X20.here hx rfl (hb hby at_164) rfl ?_; exact k) ?_
            refine go (fun _ k => by refine XS.lcmp X20.here hx rfl (hb hby at_166) rfl ?_; exact k) ?_
            show OwnEnd _ _ _ _ _ _ _ (T20.setTop (mkF m 167 (fL9 p0 q1 p2 q3 q4 p5 x2_s0 x4_s0 b5 b9 (0 : Int32) b15 b18) [(.int (lcmpW q1 x4_s0))]))
            by_cases hc167_22 : q1 = x4_s0
            · refine go (fun _ k => by refine XS.ifNo X20.here hx rfl (hb hby at_167) rfl ((if0 _ _).trans (teq ((lw_eq _ _).mpr hc167_22)).2) ?_; exact k) ?_
              show OwnEnd _ _ _ _ _ _ _ (T20.setTop (mkF m 170 (fL9 p0 q1 p2 q3 q4 p5 x2_s0 x4_s0 b5 b9 (0 : Int32) b15 b18) []))
              refine go (fun _ k => by refine XS.iconst X20.here hx rfl (hb hby at_170) ?_; exact k) ?_
              refine go (fun _ k => by refine XS.goto X20.here hx rfl (pc0 := 171) (pc' := 175) rfl (hb hby at_171) (by decide) (by decide) ?_; exact k) ?_
              exact J23 (1 : Int32) (by rw [if_pos hc160_21, if_pos hc167_22])
            · refine go (fun _ k => by refine XS.ifYes X20.here hx rfl (pc0 := 167) (pc' := 174) rfl (hb hby at_167) rfl ((if0 _ _).trans (feq (fun q => hc167_22 ((lw_eq _ _).mp q))).2) (by decide) (by decide) ?_; exact k) ?_
              show OwnEnd _ _ _ _ _ _ _ (T20.setTop (mkF m 174 (fL9 p0 q1 p2 q3 q4 p5 x2_s0 x4_s0 b5 b9 (0 : Int32) b15 b18) []))
              refine go (fun _ k => by refine XS.iconst X20.here hx rfl (hb hby at_174) ?_; exact k) ?_
              exact J23 (0 : Int32) (by rw [if_pos hc160_21, if_neg hc167_22])
          · refine go (fun _ k => by refine XS.icmpYes X20.here hx rfl (pc0 := 160) (pc' := 174) rfl (hb hby at_160) rfl (feq hc160_21).2 (by decide) (by decide) ?_; exact k) ?_
            show OwnEnd _ _ _ _ _ _ _ (T20.setTop (mkF m 174 (fL9 p0 q1 p2 q3 q4 p5 x2_s0 x4_s0 b5 b9 (0 : Int32) b15 b18) []))
            refine go (fun _ k => by refine XS.iconst X20.here hx rfl (hb hby at_174) ?_; exact k) ?_
            exact J23 (0 : Int32) (by rw [if_neg hc160_21])
        by_cases hc85_12 : (p5 &&& (128 : Int32)) = (0 : Int32)
        · refine go (fun _ k => by refine XS.ifYes X10.here hx rfl (pc0 := 85) (pc' := 98) rfl (hb hby at_85) rfl ((if0 _ _).trans (teq hc85_12).1) (by decide) (by decide) ?_; exact k) ?_
          show OwnEnd _ _ _ _ _ _ _ (T10.setTop (mkF m 98 (fL6 p0 q1 p2 q3 q4 p5 x2_s0 x4_s0 b5 b9) []))
          refine go (fun _ k => by refine XS.iconst X10.here hx rfl (hb hby at_98) ?_; exact k) ?_
          exact J14 _ _ X10 N10 rfl
        · refine go (fun _ k => by refine XS.ifNo X10.here hx rfl (hb hby at_85) rfl ((if0 _ _).trans (feq hc85_12).1) ?_; exact k) ?_
          show OwnEnd _ _ _ _ _ _ _ (T10.setTop (mkF m 88 (fL6 p0 q1 p2 q3 q4 p5 x2_s0 x4_s0 b5 b9) []))
          refine go (fun _ k => by refine XS.aload X10.here hx rfl (hb hby at_88) rfl rfl ?_; exact k) ?_
          show OwnEnd _ _ _ _ _ _ _ (T10.setTop (mkF m 90 (fL6 p0 q1 p2 q3 q4 p5 x2_s0 x4_s0 b5 b9) [(.ref b9)]))
          obtain ⟨_, T13, L13, X13, hQ13, st13⟩ := callFace X10 hx hZ hown (hw _ (List.mem_of_getElem? (i := 135) rfl)) (hw _ (List.mem_of_getElem? (i := 136) rfl)) (mvT hZ (hw _ (List.mem_of_getElem? (i := 137) rfl))) (hw _ (List.mem_of_getElem? (i := 138) rfl)) (hw _ (List.mem_of_getElem? (i := 139) rfl)) (hw _ (List.mem_of_getElem? (i := 140) rfl)) (hw _ (List.mem_of_getElem? (i := 141) rfl)) (hw _ (List.mem_of_getElem? (i := 41) rfl)) (hw _ (List.mem_of_getElem? (i := 2) rfl)) (hw _ (List.mem_of_getElem? (i := 142) rfl)) (by decide) (rm_siz l Z a0 hw [] b9 (0 : Int32) T10.heap n0 F_size_b9) (W := 0) (by decide) (by decide) rfl E_b9 (g := (mkF m 90 (fL6 p0 q1 p2 q3 q4 p5 x2_s0 x4_s0 b5 b9) [(.ref b9)])) rfl (by rw [hml]; rfl) (argsL := []) (rest := []) rfl (lenOf pd___I rfl) rfl (by show 2 * 0 + _ ≤ _; exact Nat.le_of_eq rfl) (hb hby at_90) (by decide) (by decide)
          obtain ⟨rfl, Nq13, eq13⟩ := hQ13
          have N13 := Fr.app N10 Nq13
          refine go st13 ?_
          refine go (fun _ k => by refine XS.goto X13.here hx rfl (pc0 := 95) (pc' := 99) rfl (hb hby at_95) (by decide) (by decide) ?_; exact k) ?_
          exact J14 _ _ X13 N13 eq13
      · refine go (fun _ k => by refine XS.ifNo X10.here hx rfl (hb hby at_64) rfl ((if0 _ _).trans (feq hc64_11).1) ?_; exact k) ?_
        show OwnEnd _ _ _ _ _ _ _ (T10.setTop (mkF m 67 (fL6 p0 q1 p2 q3 q4 p5 x2_s0 x4_s0 b5 b9) []))
        refine go (fun _ k => by refine XS.aload X10.here hx rfl (hb hby at_67) rfl rfl ?_; exact k) ?_
        refine go (fun _ k => by refine XS.lloadN X10.here hx rfl (hb hby at_69) rfl ?_; exact k) ?_
        show OwnEnd _ _ _ _ _ _ _ (T10.setTop (mkF m 70 (fL6 p0 q1 p2 q3 q4 p5 x2_s0 x4_s0 b5 b9) [(.long q1), (.ref b9)]))
        obtain ⟨_, T36, L36, X36, hQ36, st36⟩ := callStat X10 hx hZ hown (hw _ (List.mem_of_getElem? (i := 26) rfl)) (hw _ (List.mem_of_getElem? (i := 27) rfl)) (hw _ (List.mem_of_getElem? (i := 28) rfl)) (hw _ (List.mem_of_getElem? (i := 29) rfl)) (by decide) (rm_box l Z a0 hw [] q1 caJ ccJ T10.heap n0 O SCJ ACJ NCJ ECJ) (W := 1) (by decide) (by decide) rfl (g := (mkF m 70 (fL6 p0 q1 p2 q3 q4 p5 x2_s0 x4_s0 b5 b9) [(.long q1), (.ref b9)])) rfl (by rw [hml]; rfl) (argsL := [(.long q1)]) (rest := [(.ref b9)]) rfl (lenOf pd__J_Ljava_lang_Long_ rfl) rfl (by show 2 * 0 + _ ≤ _; exact Nat.le_of_eq rfl) (hb hby at_70) (by decide) (by decide)
        obtain ⟨bx36, rfl, Nq36, K36, E_bx36⟩ := hQ36
        have N36 := Fr.app N10 Nq36
        have Z0 := Nat.le_trans Z0 K36.1
        have O := O.keep K36 all0
        have E_bx7 := E_bx7.keep K36
        have E_b5 := E_b5.keep K36
        have F_size_b5 := F_size_b5.keep K36 nin0
        have E_b9 := E_b9.keep K36
        have F_modCount_b9 := F_modCount_b9.keep K36 nin0
        have F_elementData_b9 := F_elementData_b9.keep K36 nin0
        have F_size_b9 := F_size_b9.keep K36 nin0
        refine go st36 ?_
        show OwnEnd _ _ _ _ _ _ _ (T36.setTop (mkF m 73 (fL6 p0 q1 p2 q3 q4 p5 x2_s0 x4_s0 b5 b9) [(.ref bx36), (.ref b9)]))
        obtain ⟨_, T37, L37, X37, hQ37, st37⟩ := callFace X36 hx hZ hown (hw _ (List.mem_of_getElem? (i := 34) rfl)) (hw _ (List.mem_of_getElem? (i := 35) rfl)) (mvT hZ (hw _ (List.mem_of_getElem? (i := 36) rfl))) (hw _ (List.mem_of_getElem? (i := 37) rfl)) (hw _ (List.mem_of_getElem? (i := 38) rfl)) (hw _ (List.mem_of_getElem? (i := 39) rfl)) (hw _ (List.mem_of_getElem? (i := 40) rfl)) (hw _ (List.mem_of_getElem? (i := 41) rfl)) (hw _ (List.mem_of_getElem? (i := 2) rfl)) (hw _ (List.mem_of_getElem? (i := 42) rfl)) (by decide) (rm_add l Z a0 hw [] b9 bx36 da dk T36.heap n0 g_b9 E_b9 F_modCount_b9 F_elementData_b9 F_size_b9 O SD VD E_bx36) (W := 0) (by decide) (by decide) rfl E_b9 (g := (mkF m 73 (fL6 p0 q1 p2 q3 q4 p5 x2_s0 x4_s0 b5 b9) [(.ref bx36), (.ref b9)])) rfl (by rw [hml]; rfl) (argsL := [(.ref bx36)]) (rest := []) rfl (lenOf pd__Ljava_lang_Object__Z rfl) rfl (by show 2 * 0 + _ ≤ _; exact Nat.le_of_eq rfl) (hb hby at_73) (by decide) (by decide)
        obtain ⟨rfl, Nq37, K37, E_b9, F_size_b9⟩ := hQ37
        have N37 := Fr.app N36 Nq37
        have Z0 := Nat.le_trans Z0 K37.1
        have O := O.keep K37 (allS g_b9 all0)
        have E_bx7 := E_bx7.keep K37
        have E_b5 := E_b5.keep K37
        have F_size_b5 := F_size_b5.keep K37 (ninS ne_b5_b9 nin0)
        have E_bx36 := E_bx36.keep K37
        refine go st37 ?_
        refine go (fun _ k => by refine XS.pop X37.here hx rfl (hb hby at_78) rfl rfl ?_; exact k) ?_
        refine go (fun _ k => by refine XS.iload X37.here hx rfl (hb hby at_79) rfl ?_; exact k) ?_
        refine go (fun _ k => by refine XS.sipush X37.here hx rfl (hb hby at_81) ?_; exact k) ?_
        show OwnEnd _ _ _ _ _ _ _ (T37.setTop (mkF m 84 (fL6 p0 q1 p2 q3 q4 p5 x2_s0 x4_s0 b5 b9) [(.int (128 : Int32)), (.int p5)]))
        refine go (fun _ k => by refine XS.iand X37.here hx rfl (hb hby at_84) rfl ?_; exact k) ?_
        show OwnEnd _ _ _ _ _ _ _ (T37.setTop (mkF m 85 (fL6 p0 q1 p2 q3 q4 p5 x2_s0 x4_s0 b5 b9) [(.int (p5 &&& (128 : Int32)))]))
        have J40 : ∀ (x40_s0 : Int32) (qx40_s0 : x40_s0 = (if (p5 &&& (128 : Int32)) = (0 : Int32) then (0 : Int32) else (1 : Int32))) (T40 : State) (L40 : List Loc) (X40 : Stand p l e room_1 s m #[(.int p0), (.long q1), (.int p2), (.long q3), (.long q4), (.int p5)] below meth c T40 L40 6 28) (N40 : Fr n0 L40) (e40 : T40.heap = T37.heap), OwnEnd p e below s (Q_rm_law Z p0 q1 p2 q3 q4 p5 da dk w0 w1 w2 w3 caJ ccJ h0 n0) 32 192 (T40.setTop (mkF m 99 (fL6 p0 q1 p2 q3 q4 p5 x2_s0 x4_s0 b5 b9) [(.int x40_s0)])) := by
          intro x40_s0 qx40_s0 T40 L40 X40 N40 e40
          show OwnEnd _ _ _ _ _ _ _ (T40.setTop (mkF m 99 (fL6 p0 q1 p2 q3 q4 p5 x2_s0 x4_s0 b5 b9) [(.int x40_s0)]))
          refine go (fun _ k => by refine XS.istore X40.here hx rfl (hb hby at_99) rfl (l' := (fL7 p0 q1 p2 q3 q4 p5 x2_s0 x4_s0 b5 b9 x40_s0)) rfl ?_; exact k) ?_
          show OwnEnd _ _ _ _ _ _ _ (T40.setTop (mkF m 101 (fL7 p0 q1 p2 q3 q4 p5 x2_s0 x4_s0 b5 b9 x40_s0) []))
          obtain ⟨T41, h41, X41, e41, E41, A41, D41, -, st41⟩ := newO X40 hx hZ hown (hw _ (List.mem_of_getElem? (i := 69) rfl)) (hw _ (List.mem_of_getElem? (i := 70) rfl)) (hw _ (List.mem_of_getElem? (i := 71) rfl)) e40 (g := (mkF m 101 (fL7 p0 q1 p2 q3 q4 p5 x2_s0 x4_s0 b5 b9 x40_s0) [])) rfl (hb hby at_101) (by decide) (by decide)
          obtain ⟨b41, g41⟩ : ∃ z, z = T37.heap.size := ⟨_, rfl⟩
          rw [← g41] at A41 D41 st41
          have ne_bx7_b41 : bx7 ≠ b41 := fun q => absurd E_bx7.lt (by rw [q, g41]; exact Nat.lt_irrefl _)
          have ne_b5_b41 : b5 ≠ b41 := fun q => absurd E_b5.lt (by rw [q, g41]; exact Nat.lt_irrefl _)
          have ne_bx36_b41 : bx36 ≠ b41 := fun q => absurd E_bx36.lt (by rw [q, g41]; exact Nat.lt_irrefl _)
          have ne_b9_b41 : b9 ≠ b41 := fun q => absurd E_b9.lt (by rw [q, g41]; exact Nat.lt_irrefl _)
          have g_b41 : n0 ≤ b41 := Nat.le_trans Z0 (Nat.le_of_eq g41.symm)
          have Z0 := Nat.le_trans Z0 E41.1
          have O := O.ext E41
          have E_bx7 := E_bx7.ext E41
          have E_b5 := E_b5.ext E41
          have F_size_b5 := F_size_b5.ext E41
          have E_bx36 := E_bx36.ext E41
          have E_b9 := E_b9.ext E41
          have F_size_b9 := F_size_b9.ext E41
          have F_transaction_b41 : Fld Z h41 b41 "com/example/waitsfor/waitsfor/Wait" "transaction" "J" (.long (0 : Int64)) := D41 (Or.inr (hw _ (List.mem_of_getElem? (i := 87) rfl))) (ty := .long) (by decide)
          have F_holder_b41 : Fld Z h41 b41 "com/example/waitsfor/waitsfor/Wait" "holder" "J" (.long (0 : Int64)) := D41 (Or.inr (hw _ (List.mem_of_getElem? (i := 89) rfl))) (ty := .long) (by decide)
          have F_kin_b41 : Fld Z h41 b41 "com/example/waitsfor/waitsfor/Wait" "kin" "J" (.long (0 : Int64)) := D41 (Or.inr (hw _ (List.mem_of_getElem? (i := 91) rfl))) (ty := .long) (by decide)
          have F_shard_b41 : Fld Z h41 b41 "com/example/waitsfor/waitsfor/Wait" "shard" "I" (.int (0 : Int32)) := D41 (Or.inr (hw _ (List.mem_of_getElem? (i := 93) rfl))) (ty := .int) (by decide)
          have F_number_b41 : Fld Z h41 b41 "com/example/waitsfor/waitsfor/Wait" "number" "J" (.long (0 : Int64)) := D41 (Or.inr (hw _ (List.mem_of_getElem? (i := 95) rfl))) (ty := .long) (by decide)
          have F_target_b41 : Fld Z h41 b41 "com/example/waitsfor/waitsfor/Wait" "target" "Lcom/example/waitsfor/waitsfor/LockTarget;" .null := D41 (Or.inr (hw _ (List.mem_of_getElem? (i := 97) rfl))) (ty := (.object "com/example/waitsfor/waitsfor/LockTarget")) (by decide)
          have F_mode_b41 : Fld Z h41 b41 "com/example/waitsfor/waitsfor/Wait" "mode" "Lcom/example/waitsfor/waitsfor/RowLockMode;" .null := D41 (Or.inr (hw _ (List.mem_of_getElem? (i := 99) rfl))) (ty := (.object "com/example/waitsfor/waitsfor/RowLockMode")) (by decide)
          have F_blockers_b41 : Fld Z h41 b41 "com/example/waitsfor/waitsfor/Wait" "blockers" "Ljava/util/List;" .null := D41 (Or.inr (hw _ (List.mem_of_getElem? (i := 101) rfl))) (ty := (.object "java/util/List")) (by decide)
          have F_holding_b41 : Fld Z h41 b41 "com/example/waitsfor/waitsfor/Wait" "holding" "I" (.int (0 : Int32)) := D41 (Or.inr (hw _ (List.mem_of_getElem? (i := 103) rfl))) (ty := .int) (by decide)
          have F_held_b41 : Fld Z h41 b41 "com/example/waitsfor/waitsfor/Wait" "held" "Lcom/example/waitsfor/waitsfor/HeldLocks;" .null := D41 (Or.inr (hw _ (List.mem_of_getElem? (i := 105) rfl))) (ty := (.object "com/example/waitsfor/waitsfor/HeldLocks")) (by decide)
          have E_b41 := A41
          refine go st41 ?_
          refine go (fun _ k => by refine XS.dup X41.here hx rfl (hb hby at_104) rfl rfl ?_; exact k) ?_
          refine go (fun _ k => by refine XS.lload X41.here hx rfl (hb hby at_105) rfl ?_; exact k) ?_
          refine go (fun _ k => by refine XS.lload X41.here hx rfl (hb hby at_107) rfl ?_; exact k) ?_
          show OwnEnd _ _ _ _ _ _ _ (T41.setTop (mkF m 109 (fL7 p0 q1 p2 q3 q4 p5 x2_s0 x4_s0 b5 b9 x40_s0) [(.long q4), (.long q4), (.ref b41), (.ref b41)]))
          refine go (fun _ k => by refine XS.iloadN X41.here hx rfl (hb hby at_109) rfl ?_; exact k) ?_
          refine go (fun _ k => by refine XS.lloadN X41.here hx rfl (hb hby at_110) rfl ?_; exact k) ?_
          refine go (fun _ k => by refine XS.aconstNull X41.here hx rfl (hb hby at_111) ?_; exact k) ?_
          refine go (fun _ k => by refine XS.iload X41.here hx rfl (hb hby at_112) rfl ?_; exact k) ?_
          show OwnEnd _ _ _ _ _ _ _ (T41.setTop (mkF m 114 (fL7 p0 q1 p2 q3 q4 p5 x2_s0 x4_s0 b5 b9 x40_s0) [(.int p5), .null, (.long q1), (.int p0), (.long q4), (.long q4), (.ref b41), (.ref b41)]))
          refine go (fun _ k => by refine XS.iconst X41.here hx rfl (hb hby at_114) ?_; exact k) ?_
          refine go (fun _ k => by refine XS.iushr X41.here hx rfl (hb hby at_115) rfl ?_; exact k) ?_
          show OwnEnd _ _ _ _ _ _ _ (T41.setTop (mkF m 116 (fL7 p0 q1 p2 q3 q4 p5 x2_s0 x4_s0 b5 b9 x40_s0) [(.int ((p5.toUInt32 >>> ((3 : Int32) &&& 31).toUInt32).toInt32)), .null, (.long q1), (.int p0), (.long q4), (.long q4), (.ref b41), (.ref b41)]))
          obtain ⟨_, T42, L42, X42, hQ42, st42⟩ := callStat X41 hx hZ hown (hw _ (List.mem_of_getElem? (i := 72) rfl)) (hw _ (List.mem_of_getElem? (i := 73) rfl)) (hw _ (List.mem_of_getElem? (i := 74) rfl)) (hw _ (List.mem_of_getElem? (i := 75) rfl)) (by decide) (rm_mode l Z a0 hw [] ((p5.toUInt32 >>> ((3 : Int32) &&& 31).toUInt32).toInt32) w0 w1 w2 w3 h41 n0 (M0.ext O.2) (M1.ext O.2) (M2.ext O.2) (M3.ext O.2)) (W := 10) (by decide) (by decide) e41 (g := (mkF m 116 (fL7 p0 q1 p2 q3 q4 p5 x2_s0 x4_s0 b5 b9 x40_s0) [(.int ((p5.toUInt32 >>> ((3 : Int32) &&& 31).toUInt32).toInt32)), .null, (.long q1), (.int p0), (.long q4), (.long q4), (.ref b41), (.ref b41)])) rfl (by rw [hml]; rfl) (argsL := [(.int ((p5.toUInt32 >>> ((3 : Int32) &&& 31).toUInt32).toInt32))]) (rest := [.null, (.long q1), (.int p0), (.long q4), (.long q4), (.ref b41), (.ref b41)]) rfl (lenOf pd__I_Lcom_example_waitsfor_waitsfor_RowLockMode_ rfl) rfl (by show 2 * 0 + _ ≤ _; exact Nat.le_of_eq rfl) (hb hby at_116) (by decide) (by decide)
          obtain ⟨md42, rfl, Nq42, eq42⟩ := hQ42
          have N42 := Fr.app N40 Nq42
          refine go st42 ?_
          refine go (fun _ k => by refine XS.aload X42.here hx rfl (hb hby at_119) rfl rfl ?_; exact k) ?_
          refine go (fun _ k => by refine XS.iconst X42.here hx rfl (hb hby at_121) ?_; exact k) ?_
          show OwnEnd _ _ _ _ _ _ _ (T42.setTop (mkF m 122 (fL7 p0 q1 p2 q3 q4 p5 x2_s0 x4_s0 b5 b9 x40_s0) [(.int (1 : Int32)), (.ref b5), (.ref md42), .null, (.long q1), (.int p0), (.long q4), (.long q4), (.ref b41), (.ref b41)]))
          obtain ⟨_, T43, L43, X43, hQ43, st43⟩ := callInit X42 hx hZ hown rfl (hw _ (List.mem_of_getElem? (i := 79) rfl)) (hw _ (List.mem_of_getElem? (i := 80) rfl)) (hw _ (List.mem_of_getElem? (i := 71) rfl)) (hw _ (List.mem_of_getElem? (i := 81) rfl)) (by decide) (rm_w8 l Z a0 hw [] b41 q4 q4 p0 q1 md42 b5 (1 : Int32) h41 n0 g_b41 E_b41 F_transaction_b41 F_holder_b41 F_kin_b41 F_shard_b41 F_number_b41 F_target_b41 F_mode_b41 F_blockers_b41 F_holding_b41 F_held_b41) (W := 1) (by decide) (by decide) eq42 (g := (mkF m 122 (fL7 p0 q1 p2 q3 q4 p5 x2_s0 x4_s0 b5 b9 x40_s0) [(.int (1 : Int32)), (.ref b5), (.ref md42), .null, (.long q1), (.int p0), (.long q4), (.long q4), (.ref b41), (.ref b41)])) rfl (by rw [hml]; rfl) (argsL := [(.long q4), (.long q4), (.int p0), (.long q1), .null, (.ref md42), (.ref b5), (.int (1 : Int32))]) (rest := [(.ref b41)]) rfl (lenOf pd__JJIJLcom_example_waitsfor_waitsfor_LockTarget_Lcom_example_waitsfor_waitsfor_RowLockMode_Ljava_util_List_I_V rfl) rfl (by show 2 * 0 + _ ≤ _; exact Nat.le_of_eq rfl) (hb hby at_122) (by decide) (by decide)
          obtain ⟨rfl, Nq43, K43, E_b41, F_transaction_b41, F_holder_b41, F_kin_b41, F_shard_b41, F_number_b41, F_target_b41, F_mode_b41, F_blockers_b41, F_holding_b41, F_held_b41⟩ := hQ43
          have N43 := Fr.app N42 Nq43
          have Z0 := Nat.le_trans Z0 K43.1
          have O := O.keep K43 (allS g_b41 all0)
          have E_bx7 := E_bx7.keep K43
          have E_b5 := E_b5.keep K43
          have F_size_b5 := F_size_b5.keep K43 (ninS ne_b5_b41 nin0)
          have E_bx36 := E_bx36.keep K43
          have E_b9 := E_b9.keep K43
          have F_size_b9 := F_size_b9.keep K43 (ninS ne_b9_b41 nin0)
          refine go st43 ?_
          refine go (fun _ k => by refine XS.astore X43.here hx rfl (hb hby at_125) rfl rfl (l' := (fL8 p0 q1 p2 q3 q4 p5 x2_s0 x4_s0 b5 b9 x40_s0 b41)) rfl ?_; exact k) ?_
          show OwnEnd _ _ _ _ _ _ _ (T43.setTop (mkF m 127 (fL8 p0 q1 p2 q3 q4 p5 x2_s0 x4_s0 b5 b9 x40_s0 b41) []))
          obtain ⟨T44, h44, X44, e44, E44, A44, D44, -, st44⟩ := newO X43 hx hZ hown (hw _ (List.mem_of_getElem? (i := 69) rfl)) (hw _ (List.mem_of_getElem? (i := 70) rfl)) (hw _ (List.mem_of_getElem? (i := 71) rfl)) rfl (g := (mkF m 127 (fL8 p0 q1 p2 q3 q4 p5 x2_s0 x4_s0 b5 b9 x40_s0 b41) [])) rfl (hb hby at_127) (by decide) (by decide)
          obtain ⟨b44, g44⟩ : ∃ z, z = T43.heap.size := ⟨_, rfl⟩
          rw [← g44] at A44 D44 st44
          have ne_bx7_b44 : bx7 ≠ b44 := fun q => absurd E_bx7.lt (by rw [q, g44]; exact Nat.lt_irrefl _)
          have ne_b5_b44 : b5 ≠ b44 := fun q => absurd E_b5.lt (by rw [q, g44]; exact Nat.lt_irrefl _)
          have ne_bx36_b44 : bx36 ≠ b44 := fun q => absurd E_bx36.lt (by rw [q, g44]; exact Nat.lt_irrefl _)
          have ne_b9_b44 : b9 ≠ b44 := fun q => absurd E_b9.lt (by rw [q, g44]; exact Nat.lt_irrefl _)
          have ne_b41_b44 : b41 ≠ b44 := fun q => absurd E_b41.lt (by rw [q, g44]; exact Nat.lt_irrefl _)
          have g_b44 : n0 ≤ b44 := Nat.le_trans Z0 (Nat.le_of_eq g44.symm)
          have Z0 := Nat.le_trans Z0 E44.1
          have O := O.ext E44
          have E_bx7 := E_bx7.ext E44
          have E_b5 := E_b5.ext E44
          have F_size_b5 := F_size_b5.ext E44
          have E_bx36 := E_bx36.ext E44
          have E_b9 := E_b9.ext E44
          have F_size_b9 := F_size_b9.ext E44
          have E_b41 := E_b41.ext E44
          have F_transaction_b41 := F_transaction_b41.ext E44
          have F_holder_b41 := F_holder_b41.ext E44
          have F_kin_b41 := F_kin_b41.ext E44
          have F_shard_b41 := F_shard_b41.ext E44
          have F_number_b41 := F_number_b41.ext E44
          have F_target_b41 := F_target_b41.ext E44
          have F_mode_b41 := F_mode_b41.ext E44
          have F_blockers_b41 := F_blockers_b41.ext E44
          have F_holding_b41 := F_holding_b41.ext E44
          have F_held_b41 := F_held_b41.ext E44
          have F_transaction_b44 : Fld Z h44 b44 "com/example/waitsfor/waitsfor/Wait" "transaction" "J" (.long (0 : Int64)) := D44 (Or.inr (hw _ (List.mem_of_getElem? (i := 87) rfl))) (ty := .long) (by decide)
          have F_holder_b44 : Fld Z h44 b44 "com/example/waitsfor/waitsfor/Wait" "holder" "J" (.long (0 : Int64)) := D44 (Or.inr (hw _ (List.mem_of_getElem? (i := 89) rfl))) (ty := .long) (by decide)
          have F_kin_b44 : Fld Z h44 b44 "com/example/waitsfor/waitsfor/Wait" "kin" "J" (.long (0 : Int64)) := D44 (Or.inr (hw _ (List.mem_of_getElem? (i := 91) rfl))) (ty := .long) (by decide)
          have F_shard_b44 : Fld Z h44 b44 "com/example/waitsfor/waitsfor/Wait" "shard" "I" (.int (0 : Int32)) := D44 (Or.inr (hw _ (List.mem_of_getElem? (i := 93) rfl))) (ty := .int) (by decide)
          have F_number_b44 : Fld Z h44 b44 "com/example/waitsfor/waitsfor/Wait" "number" "J" (.long (0 : Int64)) := D44 (Or.inr (hw _ (List.mem_of_getElem? (i := 95) rfl))) (ty := .long) (by decide)
          have F_target_b44 : Fld Z h44 b44 "com/example/waitsfor/waitsfor/Wait" "target" "Lcom/example/waitsfor/waitsfor/LockTarget;" .null := D44 (Or.inr (hw _ (List.mem_of_getElem? (i := 97) rfl))) (ty := (.object "com/example/waitsfor/waitsfor/LockTarget")) (by decide)
          have F_mode_b44 : Fld Z h44 b44 "com/example/waitsfor/waitsfor/Wait" "mode" "Lcom/example/waitsfor/waitsfor/RowLockMode;" .null := D44 (Or.inr (hw _ (List.mem_of_getElem? (i := 99) rfl))) (ty := (.object "com/example/waitsfor/waitsfor/RowLockMode")) (by decide)
          have F_blockers_b44 : Fld Z h44 b44 "com/example/waitsfor/waitsfor/Wait" "blockers" "Ljava/util/List;" .null := D44 (Or.inr (hw _ (List.mem_of_getElem? (i := 101) rfl))) (ty := (.object "java/util/List")) (by decide)
          have F_holding_b44 : Fld Z h44 b44 "com/example/waitsfor/waitsfor/Wait" "holding" "I" (.int (0 : Int32)) := D44 (Or.inr (hw _ (List.mem_of_getElem? (i := 103) rfl))) (ty := .int) (by decide)
          have F_held_b44 : Fld Z h44 b44 "com/example/waitsfor/waitsfor/Wait" "held" "Lcom/example/waitsfor/waitsfor/HeldLocks;" .null := D44 (Or.inr (hw _ (List.mem_of_getElem? (i := 105) rfl))) (ty := (.object "com/example/waitsfor/waitsfor/HeldLocks")) (by decide)
          have E_b44 := A44
          refine go st44 ?_
          refine go (fun _ k => by refine XS.dup X44.here hx rfl (hb hby at_130) rfl rfl ?_; exact k) ?_
          refine go (fun _ k => by refine XS.lload X44.here hx rfl (hb hby at_131) rfl ?_; exact k) ?_
          refine go (fun _ k => by refine XS.lload X44.here hx rfl (hb hby at_133) rfl ?_; exact k) ?_
          show OwnEnd _ _ _ _ _ _ _ (T44.setTop (mkF m 135 (fL8 p0 q1 p2 q3 q4 p5 x2_s0 x4_s0 b5 b9 x40_s0 b41) [(.long q4), (.long x4_s0), (.ref b44), (.ref b44)]))
          refine go (fun _ k => by refine XS.lneg X44.here hx rfl (hb hby at_135) rfl ?_; exact k) ?_
          refine go (fun _ k => by refine XS.iload X44.here hx rfl (hb hby at_136) rfl ?_; exact k) ?_
          refine go (fun _ k => by refine XS.lload X44.here hx rfl (hb hby at_138) rfl ?_; exact k) ?_
          refine go (fun _ k => by refine XS.aconstNull X44.here hx rfl (hb hby at_140) ?_; exact k) ?_
          show OwnEnd _ _ _ _ _ _ _ (T44.setTop (mkF m 141 (fL8 p0 q1 p2 q3 q4 p5 x2_s0 x4_s0 b5 b9 x40_s0 b41) [.null, (.long x4_s0), (.int x2_s0), (.long (-q4)), (.long x4_s0), (.ref b44), (.ref b44)]))
          refine go (fun _ k => by refine XS.iload X44.here hx rfl (hb hby at_141) rfl ?_; exact k) ?_
          refine go (fun _ k => by refine XS.iconst X44.here hx rfl (hb hby at_143) ?_; exact k) ?_
          refine go (fun _ k => by refine XS.iushr X44.here hx rfl (hb hby at_144) rfl ?_; exact k) ?_
          show OwnEnd _ _ _ _ _ _ _ (T44.setTop (mkF m 145 (fL8 p0 q1 p2 q3 q4 p5 x2_s0 x4_s0 b5 b9 x40_s0 b41) [(.int ((p5.toUInt32 >>> ((5 : Int32) &&& 31).toUInt32).toInt32)), .null, (.long x4_s0), (.int x2_s0), (.long (-q4)), (.long x4_s0), (.ref b44), (.ref b44)]))
          obtain ⟨_, T45, L45, X45, hQ45, st45⟩ := callStat X44 hx hZ hown (hw _ (List.mem_of_getElem? (i := 72) rfl)) (hw _ (List.mem_of_getElem? (i := 73) rfl)) (hw _ (List.mem_of_getElem? (i := 74) rfl)) (hw _ (List.mem_of_getElem? (i := 75) rfl)) (by decide) (rm_mode l Z a0 hw [] ((p5.toUInt32 >>> ((5 : Int32) &&& 31).toUInt32).toInt32) w0 w1 w2 w3 h44 n0 (M0.ext O.2) (M1.ext O.2) (M2.ext O.2) (M3.ext O.2)) (W := 10) (by decide) (by decide) e44 (g := (mkF m 145 (fL8 p0 q1 p2 q3 q4 p5 x2_s0 x4_s0 b5 b9 x40_s0 b41) [(.int ((p5.toUInt32 >>> ((5 : Int32) &&& 31).toUInt32).toInt32)), .null, (.long x4_s0), (.int x2_s0), (.long (-q4)), (.long x4_s0), (.ref b44), (.ref b44)])) rfl (by rw [hml]; rfl) (argsL := [(.int ((p5.toUInt32 >>> ((5 : Int32) &&& 31).toUInt32).toInt32))]) (rest := [.null, (.long x4_s0), (.int x2_s0), (.long (-q4)), (.long x4_s0), (.ref b44), (.ref b44)]) rfl (lenOf pd__I_Lcom_example_waitsfor_waitsfor_RowLockMode_ rfl) rfl (by show 2 * 0 + _ ≤ _; exact Nat.le_of_eq rfl) (hb hby at_145) (by decide) (by decide)
          obtain ⟨md45, rfl, Nq45, eq45⟩ := hQ45
          have N45 := Fr.app N43 Nq45
          refine go st45 ?_
          refine go (fun _ k => by refine XS.aload X45.here hx rfl (hb hby at_148) rfl rfl ?_; exact k) ?_
          refine go (fun _ k => by refine XS.iload X45.here hx rfl (hb hby at_150) rfl ?_; exact k) ?_
          show OwnEnd _ _ _ _ _ _ _ (T45.setTop (mkF m 152 (fL8 p0 q1 p2 q3 q4 p5 x2_s0 x4_s0 b5 b9 x40_s0 b41) [(.int x40_s0), (.ref b9), (.ref md45), .null, (.long x4_s0), (.int x2_s0), (.long (-q4)), (.long x4_s0), (.ref b44), (.ref b44)]))
          obtain ⟨_, T46, L46, X46, hQ46, st46⟩ := callInit X45 hx hZ hown rfl (hw _ (List.mem_of_getElem? (i := 79) rfl)) (hw _ (List.mem_of_getElem? (i := 80) rfl)) (hw _ (List.mem_of_getElem? (i := 71) rfl)) (hw _ (List.mem_of_getElem? (i := 81) rfl)) (by decide) (rm_w8 l Z a0 hw [] b44 x4_s0 (-q4) x2_s0 x4_s0 md45 b9 x40_s0 h44 n0 g_b44 E_b44 F_transaction_b44 F_holder_b44 F_kin_b44 F_shard_b44 F_number_b44 F_target_b44 F_mode_b44 F_blockers_b44 F_holding_b44 F_held_b44) (W := 1) (by decide) (by decide) eq45 (g := (mkF m 152 (fL8 p0 q1 p2 q3 q4 p5 x2_s0 x4_s0 b5 b9 x40_s0 b41) [(.int x40_s0), (.ref b9), (.ref md45), .null, (.long x4_s0), (.int x2_s0), (.long (-q4)), (.long x4_s0), (.ref b44), (.ref b44)])) rfl (by rw [hml]; rfl) (argsL := [(.long x4_s0), (.long (-q4)), (.int x2_s0), (.long x4_s0), .null, (.ref md45), (.ref b9), (.int x40_s0)]) (rest := [(.ref b44)]) rfl (lenOf pd__JJIJLcom_example_waitsfor_waitsfor_LockTarget_Lcom_example_waitsfor_waitsfor_RowLockMode_Ljava_util_List_I_V rfl) rfl (by show 2 * 0 + _ ≤ _; exact Nat.le_of_eq rfl) (hb hby at_152) (by decide) (by decide)
          obtain ⟨rfl, Nq46, K46, E_b44, F_transaction_b44, F_holder_b44, F_kin_b44, F_shard_b44, F_number_b44, F_target_b44, F_mode_b44, F_blockers_b44, F_holding_b44, F_held_b44⟩ := hQ46
          have N46 := Fr.app N45 Nq46
          have Z0 := Nat.le_trans Z0 K46.1
          have O := O.keep K46 (allS g_b44 all0)
          have E_bx7 := E_bx7.keep K46
          have E_b5 := E_b5.keep K46
          have F_size_b5 := F_size_b5.keep K46 (ninS ne_b5_b44 nin0)
          have E_bx36 := E_bx36.keep K46
          have E_b9 := E_b9.keep K46
          have F_size_b9 := F_size_b9.keep K46 (ninS ne_b9_b44 nin0)
          have E_b41 := E_b41.keep K46
          have F_transaction_b41 := F_transaction_b41.keep K46 (ninS ne_b41_b44 nin0)
          have F_holder_b41 := F_holder_b41.keep K46 (ninS ne_b41_b44 nin0)
          have F_kin_b41 := F_kin_b41.keep K46 (ninS ne_b41_b44 nin0)
          have F_shard_b41 := F_shard_b41.keep K46 (ninS ne_b41_b44 nin0)
          have F_number_b41 := F_number_b41.keep K46 (ninS ne_b41_b44 nin0)
          have F_target_b41 := F_target_b41.keep K46 (ninS ne_b41_b44 nin0)
          have F_mode_b41 := F_mode_b41.keep K46 (ninS ne_b41_b44 nin0)
          have F_blockers_b41 := F_blockers_b41.keep K46 (ninS ne_b41_b44 nin0)
          have F_holding_b41 := F_holding_b41.keep K46 (ninS ne_b41_b44 nin0)
          have F_held_b41 := F_held_b41.keep K46 (ninS ne_b41_b44 nin0)
          refine go st46 ?_
          refine go (fun _ k => by refine XS.astore X46.here hx rfl (hb hby at_155) rfl rfl (l' := (fL9 p0 q1 p2 q3 q4 p5 x2_s0 x4_s0 b5 b9 x40_s0 b41 b44)) rfl ?_; exact k) ?_
          refine go (fun _ k => by refine XS.iloadN X46.here hx rfl (hb hby at_157) rfl ?_; exact k) ?_
          refine go (fun _ k => by refine XS.iload X46.here hx rfl (hb hby at_158) rfl ?_; exact k) ?_
          show OwnEnd _ _ _ _ _ _ _ (T46.setTop (mkF m 160 (fL9 p0 q1 p2 q3 q4 p5 x2_s0 x4_s0 b5 b9 x40_s0 b41 b44) [(.int x2_s0), (.int p0)]))
          have J49 : ∀ (x49_s0 : Int32) (qx49_s0 : x49_s0 = (if p0 = x2_s0 then (if q1 = x4_s0 then (1 : Int32) else (0 : Int32)) else (0 : Int32))), OwnEnd p e below s (Q_rm_law Z p0 q1 p2 q3 q4 p5 da dk w0 w1 w2 w3 caJ ccJ h0 n0) 32 192 (T46.setTop (mkF m 175 (fL9 p0 q1 p2 q3 q4 p5 x2_s0 x4_s0 b5 b9 x40_s0 b41 b44) [(.int x49_s0)])) := by
            intro x49_s0 qx49_s0
            show OwnEnd _ _ _ _ _ _ _ (T46.setTop (mkF m 175 (fL9 p0 q1 p2 q3 q4 p5 x2_s0 x4_s0 b5 b9 x40_s0 b41 b44) [(.int x49_s0)]))
            refine go (fun _ k => by refine XS.istore X46.here hx rfl (hb hby at_175) rfl (l' := (fL10 p0 q1 p2 q3 q4 p5 x2_s0 x4_s0 b5 b9 x40_s0 b41 b44 x49_s0)) rfl ?_; exact k) ?_
            refine go (fun _ k => by refine XS.aload X46.here hx rfl (hb hby at_177) rfl rfl ?_; exact k) ?_
            refine go (fun _ k => by refine XS.aload X46.here hx rfl (hb hby at_179) rfl rfl ?_; exact k) ?_
            show OwnEnd _ _ _ _ _ _ _ (T46.setTop (mkF m 181 (fL10 p0 q1 p2 q3 q4 p5 x2_s0 x4_s0 b5 b9 x40_s0 b41 b44 x49_s0) [(.ref b44), (.ref b41)]))
            obtain ⟨_, T50, L50, X50, hQ50, st50⟩ := callVirt X46 hx hZ hown (hw _ (List.mem_of_getElem? (i := 106) rfl)) (hw _ (List.mem_of_getElem? (i := 107) rfl)) (notFace_of_selects (args := #[]) (mvT hZ (hw _ (List.mem_of_getElem? (i := 109) rfl)))) (hw _ (List.mem_of_getElem? (i := 109) rfl)) (hw _ (List.mem_of_getElem? (i := 108) rfl)) (hw _ (List.mem_of_getElem? (i := 71) rfl)) (hw _ (List.mem_of_getElem? (i := 110) rfl)) (by decide) (rm_eqv l Z a0 hw [] b41 b44 p0 q1 x2_s0 x4_s0 T46.heap n0 F_shard_b41 F_number_b41 F_shard_b44 F_number_b44 E_b44) (W := 0) (by decide) (by decide) rfl E_b41 (g := (mkF m 181 (fL10 p0 q1 p2 q3 q4 p5 x2_s0 x4_s0 b5 b9 x40_s0 b41 b44 x49_s0) [(.ref b44), (.ref b41)])) rfl (by rw [hml]; rfl) (argsL := [(.ref b44)]) (rest := []) rfl (lenOf pd__Ljava_lang_Object__Z rfl) rfl (by show 2 * 0 + _ ≤ _; exact Nat.le_of_eq rfl) (hb hby at_181) (by decide) (by decide)
            obtain ⟨rfl, Nq50, eq50⟩ := hQ50
            have N50 := Fr.app N46 Nq50
            refine go st50 ?_
            refine go (fun _ k => by refine XS.istore X50.here hx rfl (hb hby at_184) rfl (l' := (fL11 p0 q1 p2 q3 q4 p5 x2_s0 x4_s0 b5 b9 x40_s0 b41 b44 x49_s0 (if own_eq p0 q1 x2_s0 x4_s0 then (1 : Int32) else 0))) rfl ?_; exact k) ?_
            show OwnEnd _ _ _ _ _ _ _ (T50.setTop (mkF m 186 (fL11 p0 q1 p2 q3 q4 p5 x2_s0 x4_s0 b5 b9 x40_s0 b41 b44 x49_s0 (if own_eq p0 q1 x2_s0 x4_s0 then (1 : Int32) else 0)) []))
            generalize qx51 : (if own_eq p0 q1 x2_s0 x4_s0 then (1 : Int32) else 0) = x51
            refine go (fun _ k => by refine XS.aload X50.here hx rfl (hb hby at_186) rfl rfl ?_; exact k) ?_
            refine go (fun _ k => by refine XS.aload X50.here hx rfl (hb hby at_188) rfl rfl ?_; exact k) ?_
            show OwnEnd _ _ _ _ _ _ _ (T50.setTop (mkF m 190 (fL11 p0 q1 p2 q3 q4 p5 x2_s0 x4_s0 b5 b9 x40_s0 b41 b44 x49_s0 x51) [(.ref b41), (.ref b44)]))
            obtain ⟨_, T52, L52, X52, hQ52, st52⟩ := callVirt X50 hx hZ hown (hw _ (List.mem_of_getElem? (i := 106) rfl)) (hw _ (List.mem_of_getElem? (i := 107) rfl)) (notFace_of_selects (args := #[]) (mvT hZ (hw _ (List.mem_of_getElem? (i := 109) rfl)))) (hw _ (List.mem_of_getElem? (i := 109) rfl)) (hw _ (List.mem_of_getElem? (i := 108) rfl)) (hw _ (List.mem_of_getElem? (i := 71) rfl)) (hw _ (List.mem_of_getElem? (i := 110) rfl)) (by decide) (rm_eqv l Z a0 hw [] b44 b41 x2_s0 x4_s0 p0 q1 T46.heap n0 F_shard_b44 F_number_b44 F_shard_b41 F_number_b41 E_b41) (W := 0) (by decide) (by decide) eq50 E_b44 (g := (mkF m 190 (fL11 p0 q1 p2 q3 q4 p5 x2_s0 x4_s0 b5 b9 x40_s0 b41 b44 x49_s0 x51) [(.ref b41), (.ref b44)])) rfl (by rw [hml]; rfl) (argsL := [(.ref b41)]) (rest := []) rfl (lenOf pd__Ljava_lang_Object__Z rfl) rfl (by show 2 * 0 + _ ≤ _; exact Nat.le_of_eq rfl) (hb hby at_190) (by decide) (by decide)
            obtain ⟨rfl, Nq52, eq52⟩ := hQ52
            have N52 := Fr.app N50 Nq52
            refine go st52 ?_
            refine go (fun _ k => by refine XS.istore X52.here hx rfl (hb hby at_193) rfl (l' := (fL12 p0 q1 p2 q3 q4 p5 x2_s0 x4_s0 b5 b9 x40_s0 b41 b44 x49_s0 x51 (if own_eq x2_s0 x4_s0 p0 q1 then (1 : Int32) else 0))) rfl ?_; exact k) ?_
            show OwnEnd _ _ _ _ _ _ _ (T52.setTop (mkF m 195 (fL12 p0 q1 p2 q3 q4 p5 x2_s0 x4_s0 b5 b9 x40_s0 b41 b44 x49_s0 x51 (if own_eq x2_s0 x4_s0 p0 q1 then (1 : Int32) else 0)) []))
            generalize qx53 : (if own_eq x2_s0 x4_s0 p0 q1 then (1 : Int32) else 0) = x53
            refine go (fun _ k => by refine XS.aload X52.here hx rfl (hb hby at_195) rfl rfl ?_; exact k) ?_
            refine go (fun _ k => by refine XS.aload X52.here hx rfl (hb hby at_197) rfl rfl ?_; exact k) ?_
            show OwnEnd _ _ _ _ _ _ _ (T52.setTop (mkF m 199 (fL12 p0 q1 p2 q3 q4 p5 x2_s0 x4_s0 b5 b9 x40_s0 b41 b44 x49_s0 x51 x53) [(.ref b41), (.ref b41)]))
            obtain ⟨_, T54, L54, X54, hQ54, st54⟩ := callVirt X52 hx hZ hown (hw _ (List.mem_of_getElem? (i := 106) rfl)) (hw _ (List.mem_of_getElem? (i := 107) rfl)) (notFace_of_selects (args := #[]) (mvT hZ (hw _ (List.mem_of_getElem? (i := 109) rfl)))) (hw _ (List.mem_of_getElem? (i := 109) rfl)) (hw _ (List.mem_of_getElem? (i := 108) rfl)) (hw _ (List.mem_of_getElem? (i := 71) rfl)) (hw _ (List.mem_of_getElem? (i := 110) rfl)) (by decide) (rm_eqv l Z a0 hw [] b41 b41 p0 q1 p0 q1 T46.heap n0 F_shard_b41 F_number_b41 F_shard_b41 F_number_b41 E_b41) (W := 0) (by decide) (by decide) eq52 E_b41 (g := (mkF m 199 (fL12 p0 q1 p2 q3 q4 p5 x2_s0 x4_s0 b5 b9 x40_s0 b41 b44 x49_s0 x51 x53) [(.ref b41), (.ref b41)])) rfl (by rw [hml]; rfl) (argsL := [(.ref b41)]) (rest := []) rfl (lenOf pd__Ljava_lang_Object__Z rfl) rfl (by show 2 * 0 + _ ≤ _; exact Nat.le_of_eq rfl) (hb hby at_199) (by decide) (by decide)
            obtain ⟨rfl, Nq54, eq54⟩ := hQ54
            have N54 := Fr.app N52 Nq54
            refine go st54 ?_
            refine go (fun _ k => by refine XS.istore X54.here hx rfl (hb hby at_202) rfl (l' := (fL13 p0 q1 p2 q3 q4 p5 x2_s0 x4_s0 b5 b9 x40_s0 b41 b44 x49_s0 x51 x53 (if own_eq p0 q1 p0 q1 then (1 : Int32) else 0))) rfl ?_; exact k) ?_
            show OwnEnd _ _ _ _ _ _ _ (T54.setTop (mkF m 204 (fL13 p0 q1 p2 q3 q4 p5 x2_s0 x4_s0 b5 b9 x40_s0 b41 b44 x49_s0 x51 x53 (if own_eq p0 q1 p0 q1 then (1 : Int32) else 0)) []))
            generalize qx55 : (if own_eq p0 q1 p0 q1 then (1 : Int32) else 0) = x55
            refine go (fun _ k => by refine XS.aload X54.here hx rfl (hb hby at_204) rfl rfl ?_; exact k) ?_
            refine go (fun _ k => by refine XS.aconstNull X54.here hx rfl (hb hby at_206) ?_; exact k) ?_
            show OwnEnd _ _ _ _ _ _ _ (T54.setTop (mkF m 207 (fL13 p0 q1 p2 q3 q4 p5 x2_s0 x4_s0 b5 b9 x40_s0 b41 b44 x49_s0 x51 x53 x55) [.null, (.ref b41)]))
            obtain ⟨_, T56, L56, X56, hQ56, st56⟩ := callVirt X54 hx hZ hown (hw _ (List.mem_of_getElem? (i := 106) rfl)) (hw _ (List.mem_of_getElem? (i := 107) rfl)) (notFace_of_selects (args := #[]) (mvT hZ (hw _ (List.mem_of_getElem? (i := 109) rfl)))) (hw _ (List.mem_of_getElem? (i := 109) rfl)) (hw _ (List.mem_of_getElem? (i := 108) rfl)) (hw _ (List.mem_of_getElem? (i := 71) rfl)) (hw _ (List.mem_of_getElem? (i := 110) rfl)) (by decide) (rm_eqn l Z a0 hw [] b41 T46.heap n0) (W := 0) (by decide) (by decide) eq54 E_b41 (g := (mkF m 207 (fL13 p0 q1 p2 q3 q4 p5 x2_s0 x4_s0 b5 b9 x40_s0 b41 b44 x49_s0 x51 x53 x55) [.null, (.ref b41)])) rfl (by rw [hml]; rfl) (argsL := [.null]) (rest := []) rfl (lenOf pd__Ljava_lang_Object__Z rfl) rfl (by show 2 * 0 + _ ≤ _; exact Nat.le_of_eq rfl) (hb hby at_207) (by decide) (by decide)
            obtain ⟨rfl, Nq56, eq56⟩ := hQ56
            have N56 := Fr.app N54 Nq56
            refine go st56 ?_
            refine go (fun _ k => by refine XS.istore X56.here hx rfl (hb hby at_210) rfl (l' := (fL14 p0 q1 p2 q3 q4 p5 x2_s0 x4_s0 b5 b9 x40_s0 b41 b44 x49_s0 x51 x53 x55 (0 : Int32))) rfl ?_; exact k) ?_
            refine go (fun _ k => by refine XS.aload X56.here hx rfl (hb hby at_212) rfl rfl ?_; exact k) ?_
            refine go (fun _ k => by refine XS.lloadN X56.here hx rfl (hb hby at_214) rfl ?_; exact k) ?_
            show OwnEnd _ _ _ _ _ _ _ (T56.setTop (mkF m 215 (fL14 p0 q1 p2 q3 q4 p5 x2_s0 x4_s0 b5 b9 x40_s0 b41 b44 x49_s0 x51 x53 x55 (0 : Int32)) [(.long q1), (.ref b41)]))
            obtain ⟨_, T57, L57, X57, hQ57, st57⟩ := callStat X56 hx hZ hown (hw _ (List.mem_of_getElem? (i := 26) rfl)) (hw _ (List.mem_of_getElem? (i := 27) rfl)) (hw _ (List.mem_of_getElem? (i := 28) rfl)) (hw _ (List.mem_of_getElem? (i := 29) rfl)) (by decide) (rm_box l Z a0 hw [] q1 caJ ccJ T46.heap n0 O SCJ ACJ NCJ ECJ) (W := 1) (by decide) (by decide) eq56 (g := (mkF m 215 (fL14 p0 q1 p2 q3 q4 p5 x2_s0 x4_s0 b5 b9 x40_s0 b41 b44 x49_s0 x51 x53 x55 (0 : Int32)) [(.long q1), (.ref b41)])) rfl (by rw [hml]; rfl) (argsL := [(.long q1)]) (rest := [(.ref b41)]) rfl (lenOf pd__J_Ljava_lang_Long_ rfl) rfl (by show 2 * 0 + _ ≤ _; exact Nat.le_of_eq rfl) (hb hby at_215) (by decide) (by decide)
            obtain ⟨bx57, rfl, Nq57, K57, E_bx57⟩ := hQ57
            have N57 := Fr.app N56 Nq57
            have Z0 := Nat.le_trans Z0 K57.1
            have O := O.keep K57 all0
            have E_bx7 := E_bx7.keep K57
            have E_b5 := E_b5.keep K57
            have F_size_b5 := F_size_b5.keep K57 nin0
            have E_bx36 := E_bx36.keep K57
            have E_b9 := E_b9.keep K57
            have F_size_b9 := F_size_b9.keep K57 nin0
            have E_b41 := E_b41.keep K57
            have F_transaction_b41 := F_transaction_b41.keep K57 nin0
            have F_holder_b41 := F_holder_b41.keep K57 nin0
            have F_kin_b41 := F_kin_b41.keep K57 nin0
            have F_shard_b41 := F_shard_b41.keep K57 nin0
            have F_number_b41 := F_number_b41.keep K57 nin0
            have F_target_b41 := F_target_b41.keep K57 nin0
            have F_mode_b41 := F_mode_b41.keep K57 nin0
            have F_blockers_b41 := F_blockers_b41.keep K57 nin0
            have F_holding_b41 := F_holding_b41.keep K57 nin0
            have F_held_b41 := F_held_b41.keep K57 nin0
            have E_b44 := E_b44.keep K57
            have F_transaction_b44 := F_transaction_b44.keep K57 nin0
            have F_holder_b44 := F_holder_b44.keep K57 nin0
            have F_kin_b44 := F_kin_b44.keep K57 nin0
            have F_shard_b44 := F_shard_b44.keep K57 nin0
            have F_number_b44 := F_number_b44.keep K57 nin0
            have F_target_b44 := F_target_b44.keep K57 nin0
            have F_mode_b44 := F_mode_b44.keep K57 nin0
            have F_blockers_b44 := F_blockers_b44.keep K57 nin0
            have F_holding_b44 := F_holding_b44.keep K57 nin0
            have F_held_b44 := F_held_b44.keep K57 nin0
            refine go st57 ?_
            show OwnEnd _ _ _ _ _ _ _ (T57.setTop (mkF m 218 (fL14 p0 q1 p2 q3 q4 p5 x2_s0 x4_s0 b5 b9 x40_s0 b41 b44 x49_s0 x51 x53 x55 (0 : Int32)) [(.ref bx57), (.ref b41)]))
            obtain ⟨_, T58, L58, X58, hQ58, st58⟩ := callVirt X57 hx hZ hown (hw _ (List.mem_of_getElem? (i := 106) rfl)) (hw _ (List.mem_of_getElem? (i := 107) rfl)) (notFace_of_selects (args := #[]) (mvT hZ (hw _ (List.mem_of_getElem? (i := 109) rfl)))) (hw _ (List.mem_of_getElem? (i := 109) rfl)) (hw _ (List.mem_of_getElem? (i := 108) rfl)) (hw _ (List.mem_of_getElem? (i := 71) rfl)) (hw _ (List.mem_of_getElem? (i := 110) rfl)) (by decide) (rm_eqb l Z a0 hw [] b41 bx57 T57.heap n0 E_bx57) (W := 0) (by decide) (by decide) rfl E_b41 (g := (mkF m 218 (fL14 p0 q1 p2 q3 q4 p5 x2_s0 x4_s0 b5 b9 x40_s0 b41 b44 x49_s0 x51 x53 x55 (0 : Int32)) [(.ref bx57), (.ref b41)])) rfl (by rw [hml]; rfl) (argsL := [(.ref bx57)]) (rest := []) rfl (lenOf pd__Ljava_lang_Object__Z rfl) rfl (by show 2 * 0 + _ ≤ _; exact Nat.le_of_eq rfl) (hb hby at_218) (by decide) (by decide)
            obtain ⟨rfl, Nq58, eq58⟩ := hQ58
            have N58 := Fr.app N57 Nq58
            refine go st58 ?_
            refine go (fun _ k => by refine XS.istore X58.here hx rfl (hb hby at_221) rfl (l' := (fL15 p0 q1 p2 q3 q4 p5 x2_s0 x4_s0 b5 b9 x40_s0 b41 b44 x49_s0 x51 x53 x55 (0 : Int32) (0 : Int32))) rfl ?_; exact k) ?_
            refine go (fun _ k => by refine XS.iload X58.here hx rfl (hb hby at_223) rfl ?_; exact k) ?_
            refine go (fun _ k => by refine XS.iload X58.here hx rfl (hb hby at_225) rfl ?_; exact k) ?_
            show OwnEnd _ _ _ _ _ _ _ (T58.setTop (mkF m 227 (fL15 p0 q1 p2 q3 q4 p5 x2_s0 x4_s0 b5 b9 x40_s0 b41 b44 x49_s0 x51 x53 x55 (0 : Int32) (0 : Int32)) [(.int x49_s0), (.int x51)]))
            by_cases hc227_59 : x51 = x49_s0
            · refine go (fun _ k => by refine XS.icmpNo X58.here hx rfl (hb hby at_227) rfl (teq hc227_59).2 ?_; exact k) ?_
              show OwnEnd _ _ _ _ _ _ _ (T58.setTop (mkF m 230 (fL15 p0 q1 p2 q3 q4 p5 x2_s0 x4_s0 b5 b9 x40_s0 b41 b44 x49_s0 x51 x53 x55 (0 : Int32) (0 : Int32)) []))
              refine go (fun _ k => by refine XS.iload X58.here hx rfl (hb hby at_230) rfl ?_; exact k) ?_
              refine go (fun _ k => by refine XS.iload X58.here hx rfl (hb hby at_232) rfl ?_; exact k) ?_
              show OwnEnd _ _ _ _ _ _ _ (T58.setTop (mkF m 234 (fL15 p0 q1 p2 q3 q4 p5 x2_s0 x4_s0 b5 b9 x40_s0 b41 b44 x49_s0 x51 x53 x55 (0 : Int32) (0 : Int32)) [(.int x49_s0), (.int x53)]))
              by_cases hc234_60 : x53 = x49_s0
              · refine go (fun _ k => by refine XS.icmpNo X58.here hx rfl (hb hby at_234) rfl (teq hc234_60).2 ?_; exact k) ?_
                show OwnEnd _ _ _ _ _ _ _ (T58.setTop (mkF m 237 (fL15 p0 q1 p2 q3 q4 p5 x2_s0 x4_s0 b5 b9 x40_s0 b41 b44 x49_s0 x51 x53 x55 (0 : Int32) (0 : Int32)) []))
                refine go (fun _ k => by refine XS.iload X58.here hx rfl (hb hby at_237) rfl ?_; exact k) ?_
                show OwnEnd _ _ _ _ _ _ _ (T58.setTop (mkF m 239 (fL15 p0 q1 p2 q3 q4 p5 x2_s0 x4_s0 b5 b9 x40_s0 b41 b44 x49_s0 x51 x53 x55 (0 : Int32) (0 : Int32)) [(.int x55)]))
                by_cases hc239_61 : x55 = (0 : Int32)
                · refine go (fun _ k => by refine XS.ifYes X58.here hx rfl (pc0 := 239) (pc' := 256) rfl (hb hby at_239) rfl ((if0 _ _).trans (teq hc239_61).1) (by decide) (by decide) ?_; exact k) ?_
                  show OwnEnd _ _ _ _ _ _ _ (T58.setTop (mkF m 256 (fL15 p0 q1 p2 q3 q4 p5 x2_s0 x4_s0 b5 b9 x40_s0 b41 b44 x49_s0 x51 x53 x55 (0 : Int32) (0 : Int32)) []))
                  refine go (fun _ k => by refine XS.iconst X58.here hx rfl (hb hby at_256) ?_; exact k) ?_
                  show OwnEnd _ _ _ _ _ _ _ (T58.setTop (mkF m 257 (fL15 p0 q1 p2 q3 q4 p5 x2_s0 x4_s0 b5 b9 x40_s0 b41 b44 x49_s0 x51 x53 x55 (0 : Int32) (0 : Int32)) [(.int (0 : Int32))]))
                  refine endN X58 hx hlk (t := .boolean) (by simp) Bd.returns (hb hby at_257) eq58 (by decide) (by decide) ?_
                  exact absurd ((hc239_61.symm.trans qx55.symm).trans (if_pos ⟨rfl, rfl⟩)) (by decide)
                · refine go (fun _ k => by refine XS.ifNo X58.here hx rfl (hb hby at_239) rfl ((if0 _ _).trans (feq hc239_61).1) ?_; exact k) ?_
                  show OwnEnd _ _ _ _ _ _ _ (T58.setTop (mkF m 242 (fL15 p0 q1 p2 q3 q4 p5 x2_s0 x4_s0 b5 b9 x40_s0 b41 b44 x49_s0 x51 x53 x55 (0 : Int32) (0 : Int32)) []))
                  refine go (fun _ k => by refine XS.iload X58.here hx rfl (hb hby at_242) rfl ?_; exact k) ?_
                  show OwnEnd _ _ _ _ _ _ _ (T58.setTop (mkF m 244 (fL15 p0 q1 p2 q3 q4 p5 x2_s0 x4_s0 b5 b9 x40_s0 b41 b44 x49_s0 x51 x53 x55 (0 : Int32) (0 : Int32)) [(.int (0 : Int32))]))
                  refine go (fun _ k => by refine XS.ifNo X58.here hx rfl (hb hby at_244) rfl ((if0 _ _).trans (teq (by decide)).2) ?_; exact k) ?_
                  refine go (fun _ k => by refine XS.iload X58.here hx rfl (hb hby at_247) rfl ?_; exact k) ?_
                  show OwnEnd _ _ _ _ _ _ _ (T58.setTop (mkF m 249 (fL15 p0 q1 p2 q3 q4 p5 x2_s0 x4_s0 b5 b9 x40_s0 b41 b44 x49_s0 x51 x53 x55 (0 : Int32) (0 : Int32)) [(.int (0 : Int32))]))
                  refine go (fun _ k => by refine XS.ifNo X58.here hx rfl (hb hby at_249) rfl ((if0 _ _).trans (teq (by decide)).2) ?_; exact k) ?_
                  refine go (fun _ k => by refine XS.iconst X58.here hx rfl (hb hby at_252) ?_; exact k) ?_
                  refine go (fun _ k => by refine XS.goto X58.here hx rfl (pc0 := 253) (pc' := 257) rfl (hb hby at_253) (by decide) (by decide) ?_; exact k) ?_
                  show OwnEnd _ _ _ _ _ _ _ (T58.setTop (mkF m 257 (fL15 p0 q1 p2 q3 q4 p5 x2_s0 x4_s0 b5 b9 x40_s0 b41 b44 x49_s0 x51 x53 x55 (0 : Int32) (0 : Int32)) [(.int (1 : Int32))]))
                  refine endN X58 hx hlk (t := .boolean) (by simp) Bd.returns (hb hby at_257) eq58 (by decide) (by decide) ?_
                  exact ⟨rfl, N58⟩
              · refine go (fun _ k => by refine XS.icmpYes X58.here hx rfl (pc0 := 234) (pc' := 256) rfl (hb hby at_234) rfl (feq hc234_60).2 (by decide) (by decide) ?_; exact k) ?_
                show OwnEnd _ _ _ _ _ _ _ (T58.setTop (mkF m 256 (fL15 p0 q1 p2 q3 q4 p5 x2_s0 x4_s0 b5 b9 x40_s0 b41 b44 x49_s0 x51 x53 x55 (0 : Int32) (0 : Int32)) []))
                refine go (fun _ k => by refine XS.iconst X58.here hx rfl (hb hby at_256) ?_; exact k) ?_
                show OwnEnd _ _ _ _ _ _ _ (T58.setTop (mkF m 257 (fL15 p0 q1 p2 q3 q4 p5 x2_s0 x4_s0 b5 b9 x40_s0 b41 b44 x49_s0 x51 x53 x55 (0 : Int32) (0 : Int32)) [(.int (0 : Int32))]))
                refine endN X58 hx hlk (t := .boolean) (by simp) Bd.returns (hb hby at_257) eq58 (by decide) (by decide) ?_
                exact absurd (qx53.symm.trans (own_fin _ _ _ _ _ qx49_s0).2) hc234_60
            · refine go (fun _ k => by refine XS.icmpYes X58.here hx rfl (pc0 := 227) (pc' := 256) rfl (hb hby at_227) rfl (feq hc227_59).2 (by decide) (by decide) ?_; exact k) ?_
              show OwnEnd _ _ _ _ _ _ _ (T58.setTop (mkF m 256 (fL15 p0 q1 p2 q3 q4 p5 x2_s0 x4_s0 b5 b9 x40_s0 b41 b44 x49_s0 x51 x53 x55 (0 : Int32) (0 : Int32)) []))
              refine go (fun _ k => by refine XS.iconst X58.here hx rfl (hb hby at_256) ?_; exact k) ?_
              show OwnEnd _ _ _ _ _ _ _ (T58.setTop (mkF m 257 (fL15 p0 q1 p2 q3 q4 p5 x2_s0 x4_s0 b5 b9 x40_s0 b41 b44 x49_s0 x51 x53 x55 (0 : Int32) (0 : Int32)) [(.int (0 : Int32))]))
              refine endN X58 hx hlk (t := .boolean) (by simp) Bd.returns (hb hby at_257) eq58 (by decide) (by decide) ?_
              exact absurd (qx51.symm.trans (own_fin _ _ _ _ _ qx49_s0).1) hc227_59
          by_cases hc160_47 : p0 = x2_s0
          · refine go (fun _ k => by refine XS.icmpNo X46.here hx rfl (hb hby at_160) rfl (teq hc160_47).2 ?_; exact k) ?_
            show OwnEnd _ _ _ _ _ _ _ (T46.setTop (mkF m 163 (fL9 p0 q1 p2 q3 q4 p5 x2_s0 x4_s0 b5 b9 x40_s0 b41 b44) []))
            refine go (fun _ k => by refine XS.lloadN X46.here hx rfl (hb hby at_163) rfl ?_; exact k) ?_
            refine go (fun _ k => by refine XS.lload X46.here hx rfl (hb hby at_164) rfl ?_; exact k) ?_
            refine go (fun _ k => by refine XS.lcmp X46.here hx rfl (hb hby at_166) rfl ?_; exact k) ?_
            show OwnEnd _ _ _ _ _ _ _ (T46.setTop (mkF m 167 (fL9 p0 q1 p2 q3 q4 p5 x2_s0 x4_s0 b5 b9 x40_s0 b41 b44) [(.int (lcmpW q1 x4_s0))]))
            by_cases hc167_48 : q1 = x4_s0
            · refine go (fun _ k => by refine XS.ifNo X46.here hx rfl (hb hby at_167) rfl ((if0 _ _).trans (teq ((lw_eq _ _).mpr hc167_48)).2) ?_; exact k) ?_
              show OwnEnd _ _ _ _ _ _ _ (T46.setTop (mkF m 170 (fL9 p0 q1 p2 q3 q4 p5 x2_s0 x4_s0 b5 b9 x40_s0 b41 b44) []))
              refine go (fun _ k => by refine XS.iconst X46.here hx rfl (hb hby at_170) ?_; exact k) ?_
              refine go (fun _ k => by refine XS.goto X46.here hx rfl (pc0 := 171) (pc' := 175) rfl (hb hby at_171) (by decide) (by decide) ?_; exact k) ?_
              exact J49 (1 : Int32) (by rw [if_pos hc160_47, if_pos hc167_48])
            · refine go (fun _ k => by refine XS.ifYes X46.here hx rfl (pc0 := 167) (pc' := 174) rfl (hb hby at_167) rfl ((if0 _ _).trans (feq (fun q => hc167_48 ((lw_eq _ _).mp q))).2) (by decide) (by decide) ?_; exact k) ?_
              show OwnEnd _ _ _ _ _ _ _ (T46.setTop (mkF m 174 (fL9 p0 q1 p2 q3 q4 p5 x2_s0 x4_s0 b5 b9 x40_s0 b41 b44) []))
              refine go (fun _ k => by refine XS.iconst X46.here hx rfl (hb hby at_174) ?_; exact k) ?_
              exact J49 (0 : Int32) (by rw [if_pos hc160_47, if_neg hc167_48])
          · refine go (fun _ k => by refine XS.icmpYes X46.here hx rfl (pc0 := 160) (pc' := 174) rfl (hb hby at_160) rfl (feq hc160_47).2 (by decide) (by decide) ?_; exact k) ?_
            show OwnEnd _ _ _ _ _ _ _ (T46.setTop (mkF m 174 (fL9 p0 q1 p2 q3 q4 p5 x2_s0 x4_s0 b5 b9 x40_s0 b41 b44) []))
            refine go (fun _ k => by refine XS.iconst X46.here hx rfl (hb hby at_174) ?_; exact k) ?_
            exact J49 (0 : Int32) (by rw [if_neg hc160_47])
        by_cases hc85_38 : (p5 &&& (128 : Int32)) = (0 : Int32)
        · refine go (fun _ k => by refine XS.ifYes X37.here hx rfl (pc0 := 85) (pc' := 98) rfl (hb hby at_85) rfl ((if0 _ _).trans (teq hc85_38).1) (by decide) (by decide) ?_; exact k) ?_
          show OwnEnd _ _ _ _ _ _ _ (T37.setTop (mkF m 98 (fL6 p0 q1 p2 q3 q4 p5 x2_s0 x4_s0 b5 b9) []))
          refine go (fun _ k => by refine XS.iconst X37.here hx rfl (hb hby at_98) ?_; exact k) ?_
          exact J40 (0 : Int32) (by rw [if_pos hc85_38]) _ _ X37 N37 rfl
        · refine go (fun _ k => by refine XS.ifNo X37.here hx rfl (hb hby at_85) rfl ((if0 _ _).trans (feq hc85_38).1) ?_; exact k) ?_
          show OwnEnd _ _ _ _ _ _ _ (T37.setTop (mkF m 88 (fL6 p0 q1 p2 q3 q4 p5 x2_s0 x4_s0 b5 b9) []))
          refine go (fun _ k => by refine XS.aload X37.here hx rfl (hb hby at_88) rfl rfl ?_; exact k) ?_
          show OwnEnd _ _ _ _ _ _ _ (T37.setTop (mkF m 90 (fL6 p0 q1 p2 q3 q4 p5 x2_s0 x4_s0 b5 b9) [(.ref b9)]))
          obtain ⟨_, T39, L39, X39, hQ39, st39⟩ := callFace X37 hx hZ hown (hw _ (List.mem_of_getElem? (i := 135) rfl)) (hw _ (List.mem_of_getElem? (i := 136) rfl)) (mvT hZ (hw _ (List.mem_of_getElem? (i := 137) rfl))) (hw _ (List.mem_of_getElem? (i := 138) rfl)) (hw _ (List.mem_of_getElem? (i := 139) rfl)) (hw _ (List.mem_of_getElem? (i := 140) rfl)) (hw _ (List.mem_of_getElem? (i := 141) rfl)) (hw _ (List.mem_of_getElem? (i := 41) rfl)) (hw _ (List.mem_of_getElem? (i := 2) rfl)) (hw _ (List.mem_of_getElem? (i := 142) rfl)) (by decide) (rm_siz l Z a0 hw [] b9 (1 : Int32) T37.heap n0 F_size_b9) (W := 0) (by decide) (by decide) rfl E_b9 (g := (mkF m 90 (fL6 p0 q1 p2 q3 q4 p5 x2_s0 x4_s0 b5 b9) [(.ref b9)])) rfl (by rw [hml]; rfl) (argsL := []) (rest := []) rfl (lenOf pd___I rfl) rfl (by show 2 * 0 + _ ≤ _; exact Nat.le_of_eq rfl) (hb hby at_90) (by decide) (by decide)
          obtain ⟨rfl, Nq39, eq39⟩ := hQ39
          have N39 := Fr.app N37 Nq39
          refine go st39 ?_
          refine go (fun _ k => by refine XS.goto X39.here hx rfl (pc0 := 95) (pc' := 99) rfl (hb hby at_95) (by decide) (by decide) ?_; exact k) ?_
          exact J40 (1 : Int32) (by rw [if_neg hc85_38]) _ _ X39 N39 eq39
    by_cases hc18_3 : (p5 &&& (2 : Int32)) = (0 : Int32)
    · refine go (fun _ k => by refine XS.ifYes X0.here hx rfl (pc0 := 18) (pc' := 25) rfl (hb hby at_18) rfl ((if0 _ _).trans (teq hc18_3).1) (by decide) (by decide) ?_; exact k) ?_
      show OwnEnd _ _ _ _ _ _ _ (s₁.setTop (mkF m 25 (fL3 p0 q1 p2 q3 q4 p5 x2_s0) []))
      refine go (fun _ k => by refine XS.lload X0.here hx rfl (hb hby at_25) rfl ?_; exact k) ?_
      exact J4 q3 (by rw [if_pos hc18_3])
    · refine go (fun _ k => by refine XS.ifNo X0.here hx rfl (hb hby at_18) rfl ((if0 _ _).trans (feq hc18_3).1) ?_; exact k) ?_
      show OwnEnd _ _ _ _ _ _ _ (s₁.setTop (mkF m 21 (fL3 p0 q1 p2 q3 q4 p5 x2_s0) []))
      refine go (fun _ k => by refine XS.lloadN X0.here hx rfl (hb hby at_21) rfl ?_; exact k) ?_
      refine go (fun _ k => by refine XS.goto X0.here hx rfl (pc0 := 22) (pc' := 27) rfl (hb hby at_22) (by decide) (by decide) ?_; exact k) ?_
      exact J4 q1 (by rw [if_neg hc18_3])
  by_cases hc4_1 : (p5 &&& (1 : Int32)) = (0 : Int32)
  · refine go (fun _ k => by refine XS.ifYes X0.here hx rfl (pc0 := 4) (pc' := 11) rfl (hb hby at_4) rfl ((if0 _ _).trans (teq hc4_1).1) (by decide) (by decide) ?_; exact k) ?_
    show OwnEnd _ _ _ _ _ _ _ (s₁.setTop (mkF m 11 (fL2 p0 q1 p2 q3 q4 p5) []))
    refine go (fun _ k => by refine XS.iloadN X0.here hx rfl (hb hby at_11) rfl ?_; exact k) ?_
    exact J2 p2 (by rw [if_pos hc4_1])
  · refine go (fun _ k => by refine XS.ifNo X0.here hx rfl (hb hby at_4) rfl ((if0 _ _).trans (feq hc4_1).1) ?_; exact k) ?_
    show OwnEnd _ _ _ _ _ _ _ (s₁.setTop (mkF m 7 (fL2 p0 q1 p2 q3 q4 p5) []))
    refine go (fun _ k => by refine XS.iloadN X0.here hx rfl (hb hby at_7) rfl ?_; exact k) ?_
    refine go (fun _ k => by refine XS.goto X0.here hx rfl (pc0 := 8) (pc' := 12) rfl (hb hby at_8) (by decide) (by decide) ?_; exact k) ?_
    exact J2 p0 (by rw [if_neg hc4_1])
set_option maxRecDepth 65536 in
set_option maxHeartbeats 40000000 in
theorem comes_1 {Post : Tables → Env → Array Value → State → Outcome → State → Prop} (hpost : ∀ tb e args s v u, (limb_1_1.after args s (.returned v) u = true ∧ limb_1_2.after args s (.returned v) u = true ∧ True) → FrameEnd s (.returned v) u (Jvm.fieldLocs frame_1_writes args s ++ Jvm.arrayLocs frame_1_arrays args s ++ Jvm.staticLocs frame_1_statics s) 32 192 → Post tb e args s (.returned v) u) :
    ArmFor flags0 classFile x code maxLocals ret World_1 tables_1 room_1 Calls_1 rest_1 Pre_1 Post := by
  intro l hfl _ _ p e ha hc hk s m args below hf hA hF happ hP
  obtain ⟨hcalls, hrest, hpre⟩ := hP
  obtain ⟨-, -, -, hnamed, -, -, -, hat⟩ := (Spec.applies_iff hf).mp happ
  obtain ⟨hg, hn⟩ := and_e (Cond.before_iff.mp (show (Jvm.Cond.and given_1 narrow_1).before args s = true from hpre))
  obtain ⟨gv1, gv2⟩ := and_e hg
  obtain ⟨gv3, gv4⟩ := and_e gv2
  obtain ⟨gv5, gv6⟩ := and_e gv4
  obtain ⟨gv7, gv8⟩ := and_e gv6
  obtain ⟨gv9, gv10⟩ := and_e gv8
  obtain ⟨gv11, gv12⟩ := and_e gv10
  obtain ⟨w0, w1, w2, w3, w4, w5, rfl⟩ : ∃ w0 w1 w2 w3 w4 w5 : Value, args = #[w0, w1, w2, w3, w4, w5] := by
    have hs : args.size = 6 := by simpa [Cond.value, given_1] using gv1
    obtain ⟨L⟩ := args
    match L, hs with
    | [w0, w1, w2, w3, w4, w5], _ => exact ⟨w0, w1, w2, w3, w4, w5, rfl⟩
  have hw := fun d (hd : d ∈ tables_1) => atoms_spec (ws := Jvm.Cond.code x code maxLocals ret :: tables_1) hat d (List.mem_cons_of_mem _ hd)
  have hfit : Fit s := fun {y c} hc i hi => by
    obtain ⟨ha, rfl⟩ := Array.getElem?_eq_some_iff.mp hc
    have q := List.all_eq_true.mp ((Array.all_eq_true_iff_forall_mem.mp hF) _ (Array.getElem_mem ha)) i (List.mem_range.mpr hi)
    simpa [Array.getElem?_eq_getElem hi] using q
  obtain ⟨hsets, hown0⟩ := atoms_of _ (rest_1_c_eq ▸ (show rest_1_c.before _ s = true from hrest))
  have hr0 := Cond.before_iff.mp hown0
  obtain ⟨i0, ei0⟩ := is_v gv3
  obtain rfl : w0 = (.int i0) := Option.some.inj ei0
  obtain ⟨i1, ei1⟩ := isL_v gv5
  obtain rfl : w1 = (.long i1) := Option.some.inj ei1
  obtain ⟨i2, ei2⟩ := is_v gv7
  obtain rfl : w2 = (.int i2) := Option.some.inj ei2
  obtain ⟨i3, ei3⟩ := isL_v gv9
  obtain rfl : w3 = (.long i3) := Option.some.inj ei3
  obtain ⟨i4, ei4⟩ := isL_v gv11
  obtain rfl : w4 = (.long i4) := Option.some.inj ei4
  obtain ⟨i5, ei5⟩ := is_v gv12
  obtain rfl : w5 = (.int i5) := Option.some.inj ei5
  obtain ⟨caJ, tcJ⟩ := arr_v (Cond.before_iff.mp (hsets _ (List.mem_of_getElem? (i := 11) rfl)))
  obtain ⟨ccJ, ACJ⟩ := Arr.start tcJ (Cond.before_iff.mp (hsets _ (List.mem_of_getElem? (i := 11) rfl)))
  have SCJ := Sta.start tcJ (Or.inl (hsets _ (List.mem_of_getElem? (i := 10) rfl)))
  obtain ⟨lnJ, lmJ⟩ := own_len tcJ ACJ (Cond.before_iff.mp (hsets _ (List.mem_of_getElem? (i := 13) rfl)))
  have NCJ : ccJ.slots.size = 256 := by have q := congrArg Int32.toInt lnJ; rw [len_toInt lmJ] at q; exact Int.ofNat.inj q
  have ECJ := own_all tcJ ACJ (Cond.before_iff.mp (hsets _ (List.mem_of_getElem? (i := 14) rfl))) lmJ (fun _ => tcJ)
  rw [NCJ] at ECJ
  obtain ⟨da, tda⟩ := arr_v (Cond.before_iff.mp (hsets _ (List.mem_of_getElem? (i := 6) rfl)))
  obtain ⟨dc, AD⟩ := Arr.start tda (Cond.before_iff.mp (hsets _ (List.mem_of_getElem? (i := 6) rfl)))
  have SD := Sta.start tda (Or.inr ⟨hw _ (List.mem_of_getElem? (i := 2) rfl), hsets _ (List.mem_of_getElem? (i := 2) rfl)⟩)
  obtain ⟨lnd, lmd⟩ := own_len tda AD (Cond.before_iff.mp (hsets _ (List.mem_of_getElem? (i := 8) rfl)))
  have VD := Arv.start (z := 0) (vs := []) (dv := .null) hfit AD lmd lnd (by decide) rfl trivial
  obtain ⟨nx0, hm0⟩ := and_e hn
  obtain ⟨w0, tw0⟩ : ∃ w, (Jvm.Term.static "com/example/waitsfor/waitsfor/RowLockMode" "FOR_KEY_SHARE" "Lcom/example/waitsfor/waitsfor/RowLockMode;").eval _ s none [] s = some (.ref w) := exa_v nx0
  have M0 := Sta.start tw0 (Or.inr ⟨hw _ (List.mem_of_getElem? (i := 77) rfl), hw _ (List.mem_of_getElem? (i := 78) rfl)⟩)
  obtain ⟨nx1, hm1⟩ := and_e hm0
  obtain ⟨w1, tw1⟩ : ∃ w, (Jvm.Term.static "com/example/waitsfor/waitsfor/RowLockMode" "FOR_SHARE" "Lcom/example/waitsfor/waitsfor/RowLockMode;").eval _ s none [] s = some (.ref w) := exa_v nx1
  have M1 := Sta.start tw1 (Or.inr ⟨hw _ (List.mem_of_getElem? (i := 77) rfl), hw _ (List.mem_of_getElem? (i := 132) rfl)⟩)
  obtain ⟨nx3, hm3⟩ := and_e hm1
  obtain ⟨w3, tw3⟩ : ∃ w, (Jvm.Term.static "com/example/waitsfor/waitsfor/RowLockMode" "FOR_UPDATE" "Lcom/example/waitsfor/waitsfor/RowLockMode;").eval _ s none [] s = some (.ref w) := exa_v nx3
  have M3 := Sta.start tw3 (Or.inr ⟨hw _ (List.mem_of_getElem? (i := 77) rfl), hw _ (List.mem_of_getElem? (i := 134) rfl)⟩)
  obtain ⟨w2, tw2⟩ : ∃ w, (Jvm.Term.static "com/example/waitsfor/waitsfor/RowLockMode" "FOR_NO_KEY_UPDATE" "Lcom/example/waitsfor/waitsfor/RowLockMode;").eval _ s none [] s = some (.ref w) := exa_v hm3
  have M2 := Sta.start tw2 (Or.inr ⟨hw _ (List.mem_of_getElem? (i := 77) rfl), hw _ (List.mem_of_getElem? (i := 144) rfl)⟩)
  obtain ⟨n, o, h1, h2, h3, _, L, rfl, ⟨rfl, N⟩, hq⟩ := rm_law l s _ hw tables_1 i0 i1 i2 i3 i4 i5 da dc.cls w0 w1 w2 w3 caJ ccJ s.heap s.heap.size (Nat.le_refl _) (Old.start s) SD VD M0 M1 M2 M3 SCJ ACJ NCJ ECJ p e ha hc hk s m _ below hf ((Spec.applies_iff_loose hf).mp happ).1 ⟨rfl, State.Warmed39.refl s, rfl⟩ trivial
  refine ⟨n, _, h1, h2, h3, hpost _ _ _ _ _ _ ⟨Cond.after_iff.mpr rfl, Cond.after_iff.mpr (eq_i res_at (Term.int_eval (1)) rfl), trivial⟩ ⟨hq.1, hq.2.1, (hq.2.2.sift fun y hy => Or.inr (N y hy)).mono (by decide) (by decide)⟩⟩
theorem main_1_1 : Claimed_1_1 := comes_1 fun _ _ _ _ _ _ h hF => ⟨h.1, hF⟩
theorem main_1_2 : Claimed_1_2 := comes_1 fun _ _ _ _ _ _ h hF => ⟨h.2.1, hF⟩
end Jvm.Pilot.@@N@@
namespace Jvm.Pilot.@@N@@
open Jvm Jvm.ClassFile Sem Op Lib Jvm.Free Jvm.Stand Jvm.Pilot.@@N@@.Jvm.D
/-! MADE BY PROGRAM (witnessworld.py) out of the Statement's table words and the real class files: 28 classes; the members and pool entries that the words name. The judged class is class 1, her method 2. -/
namespace start1
open Jvm.ClassFile
def u (s : String) : CpInfo := .utf8 (stringToUtf16 s)
/-- a pool by its gaps: so many unusable entries, then the entry; so many at the end -/
def gap : Nat → List CpInfo → List CpInfo
  | 0, r => r
  | n + 1, r => .unusable :: gap n r
def poolList (es : List (Nat × CpInfo)) (last : Nat) : List CpInfo := es.foldr (fun e r => gap e.1 (e.2 :: r)) (gap last [])
def pool (es : List (Nat × CpInfo)) (last : Nat) : Array CpInfo := ⟨poolList es last⟩
def fileOf (pool : Array CpInfo) (this : Nat) (attrs : Array Attribute := #[]) (ms : Array MethodInfo := #[]) (fl : Nat := 33) (sup : Nat := 0) (ifs : Array Nat := #[]) (fds : Array FieldInfo := #[]) : ClassFile where
  minorVersion := 0
  majorVersion := 65
  constantPool := pool
  accessFlags := fl
  thisClass := this
  superClass := sup
  interfaces := ifs
  fields := fds
  methods := ms
  attributes := attrs
def plain (name : String) (sup : Option ClassId) : Class where
  name := name
  kind := .ordinary
  loader := none
  accessFlags := 33
  super := sup
  interfaces := #[]
  cf := none
  fields := #[]
  methods := #[]
  instanceTypes := #[]
  staticTypes := #[]
  resolved := #[]
  callSites := []
  init := .initialized
  statics := none
  mirror := none

def pool0 : Array CpInfo := pool [(5, u "<init>"), (0, u "()V"), (1, .class_ 10), (1, u "java/lang/Object")] 113

def k0c0 : Code := { maxStack := 0, maxLocals := 1, code := object_method_1_code, exceptionTable := #[], attributes := #[] }
def k0m0 : Method := { name := "<init>", desc := "()V", sig := { parameters := [], returnType := none }, accessFlags := 1, code := some k0c0 }
/-- java/lang/Object -/
def k0 : Class := { plain "java/lang/Object" none with
  accessFlags := 33
  interfaces := #[]
  cf := some (fileOf pool0 8 #[] #[{ accessFlags := 1, nameIndex := 5, descriptorIndex := 6, attributes := #[] }] 33 0 #[] #[])
  fields := #[]
  methods := #[k0m0]
  instanceTypes := #[]
  staticTypes := #[]
  resolved := Array.replicate 124 none
  statics := none }

def pool1 : Array CpInfo := pool [(2, .class_ 4), (0, .nameAndType 5 6), (0, u "java/lang/Object"), (0, u "<init>"), (0, u "()V"), (0, .fieldref 8 9), (0, .class_ 10), (0, .nameAndType 11 12), (0, u "com/example/waitsfor/waitsfor/RowLockMode"), (0, u "FOR_KEY_SHARE"), (0, u "Lcom/example/waitsfor/waitsfor/RowLockMode;"), (0, .fieldref 8 14), (0, .nameAndType 15 12), (0, u "FOR_SHARE"), (0, .fieldref 8 17), (0, .nameAndType 18 12), (0, u "FOR_NO_KEY_UPDATE"), (0, .fieldref 8 20), (0, .nameAndType 21 12), (0, u "FOR_UPDATE"), (0, .class_ 23), (0, u "java/util/ArrayList"), (0, .methodref 22 3), (0, .methodref 26 27), (0, .class_ 28), (0, .nameAndType 29 30), (0, u "java/lang/Long"), (0, u "valueOf"), (0, u "(J)Ljava/lang/Long;"), (0, .interfaceMethodref 32 33), (0, .class_ 34), (0, .nameAndType 35 36), (0, u "java/util/List"), (0, u "add"), (0, u "(Ljava/lang/Object;)Z"), (0, .interfaceMethodref 32 38), (0, .nameAndType 39 40), (0, u "size"), (0, u "()I"), (0, .class_ 42), (0, u "com/example/waitsfor/waitsfor/Wait"), (0, .methodref 44 45), (0, .class_ 46), (0, .nameAndType 47 48), (0, u "com/example/waitsfor/waitsfor/WaitEqualsPinLaw"), (0, u "mode"), (0, u "(I)Lcom/example/waitsfor/waitsfor/RowLockMode;"), (0, .methodref 41 50), (0, .nameAndType 5 51), (0, u "(JJIJLcom/example/waitsfor/waitsfor/LockTarget;Lcom/example/waitsfor/waitsfor/RowLockMode;Ljava/util/List;I)V"), (0, .methodref 41 53), (0, .nameAndType 54 36), (0, u "equals"), (3, u "law"), (0, u "(IJIJJI)Z")] 2

def k1m0 : Method := { name := "<init>", desc := "()V", sig := { parameters := [], returnType := none }, accessFlags := 2, code := none }
def k1c1 : Code := { maxStack := 2, maxLocals := 2, code := method_2_code, exceptionTable := #[], attributes := #[] }
def k1m1 : Method := { name := "mode", desc := "(I)Lcom/example/waitsfor/waitsfor/RowLockMode;", sig := { parameters := [.int], returnType := some (.object "com/example/waitsfor/waitsfor/RowLockMode") }, accessFlags := 10, code := some k1c1 }
def k1c2 : Code := { maxStack := 13, maxLocals := 23, code := code, exceptionTable := #[], attributes := #[] }
def k1m2 : Method := { name := "law", desc := "(IJIJJI)Z", sig := { parameters := [.int, .long, .int, .long, .long, .int], returnType := some .boolean }, accessFlags := 9, code := some k1c2 }
/-- com/example/waitsfor/waitsfor/WaitEqualsPinLaw -/
def k1 : Class := { plain "com/example/waitsfor/waitsfor/WaitEqualsPinLaw" (some 0) with
  accessFlags := 49
  interfaces := #[]
  cf := some (fileOf pool1 44 #[] #[{ accessFlags := 2, nameIndex := 5, descriptorIndex := 6, attributes := #[] }, { accessFlags := 10, nameIndex := 47, descriptorIndex := 48, attributes := #[] }, { accessFlags := 9, nameIndex := 58, descriptorIndex := 59, attributes := #[] }] 49 2 #[] #[])
  fields := #[]
  methods := #[k1m0, k1m1, k1m2]
  instanceTypes := #[]
  staticTypes := #[]
  resolved := Array.replicate 62 none
  statics := none }

def pool2 : Array CpInfo := pool [(8, .class_ 10), (1, u "java/lang/Iterable"), (24, .class_ 36), (0, u "java/lang/Object")] 25

/-- java/lang/Iterable -/
def k2 : Class := { plain "java/lang/Iterable" (some 0) with
  accessFlags := 1537
  interfaces := #[]
  cf := some (fileOf pool2 8 #[] #[] 1537 35 #[] #[])
  fields := #[]
  methods := #[]
  instanceTypes := #[]
  staticTypes := #[]
  resolved := Array.replicate 62 none
  statics := none }

def pool3 : Array CpInfo := pool [(10, .class_ 12), (1, u "java/util/Collection"), (47, .class_ 61), (0, u "java/lang/Object"), (0, .class_ 63), (0, u "java/lang/Iterable")] 51

/-- java/util/Collection -/
def k3 : Class := { plain "java/util/Collection" (some 0) with
  accessFlags := 1537
  interfaces := #[2]
  cf := some (fileOf pool3 10 #[] #[] 1537 60 #[62] #[])
  fields := #[]
  methods := #[]
  instanceTypes := #[]
  staticTypes := #[]
  resolved := Array.replicate 115 none
  statics := none }

def pool4 : Array CpInfo := pool [(1, .methodref 2 3), (0, .class_ 4), (0, .nameAndType 5 6), (0, u "java/lang/Object"), (0, u "<init>"), (0, u "()V"), (1, .class_ 10), (1, u "java/util/AbstractCollection"), (66, .class_ 78), (0, u "java/util/Collection")] 81

def k4c0 : Code := { maxStack := 1, maxLocals := 1, code := jdk_22_method_1_code, exceptionTable := #[], attributes := #[] }
def k4m0 : Method := { name := "<init>", desc := "()V", sig := { parameters := [], returnType := none }, accessFlags := 4, code := some k4c0 }
/-- java/util/AbstractCollection -/
def k4 : Class := { plain "java/util/AbstractCollection" (some 0) with
  accessFlags := 1057
  interfaces := #[3]
  cf := some (fileOf pool4 8 #[] #[{ accessFlags := 4, nameIndex := 5, descriptorIndex := 6, attributes := #[] }] 1057 2 #[77] #[])
  fields := #[]
  methods := #[k4m0]
  instanceTypes := #[]
  staticTypes := #[]
  resolved := Array.replicate 160 none
  statics := none }

def pool5 : Array CpInfo := pool [(8, .class_ 10), (1, u "java/util/SequencedCollection"), (15, .class_ 27), (0, u "java/lang/Object"), (0, .class_ 29), (0, u "java/util/Collection")] 27

/-- java/util/SequencedCollection -/
def k5 : Class := { plain "java/util/SequencedCollection" (some 0) with
  accessFlags := 1537
  interfaces := #[3]
  cf := some (fileOf pool5 8 #[] #[] 1537 26 #[28] #[])
  fields := #[]
  methods := #[]
  instanceTypes := #[]
  staticTypes := #[]
  resolved := Array.replicate 57 none
  statics := none }

def pool6 : Array CpInfo := pool [(8, .class_ 10), (1, u "java/util/List"), (49, u "add"), (3, u "(Ljava/lang/Object;)Z"), (14, u "size"), (0, u "()I"), (22, .class_ 104), (0, u "java/lang/Object"), (15, .class_ 121), (0, u "java/util/SequencedCollection")] 129

def k6m0 : Method := { name := "size", desc := "()I", sig := { parameters := [], returnType := some .int }, accessFlags := 1025, code := none }
def k6m1 : Method := { name := "add", desc := "(Ljava/lang/Object;)Z", sig := { parameters := [(.object "java/lang/Object")], returnType := some .boolean }, accessFlags := 1025, code := none }
/-- java/util/List -/
def k6 : Class := { plain "java/util/List" (some 0) with
  accessFlags := 1537
  interfaces := #[5]
  cf := some (fileOf pool6 8 #[] #[{ accessFlags := 1025, nameIndex := 79, descriptorIndex := 80, attributes := #[] }, { accessFlags := 1025, nameIndex := 60, descriptorIndex := 64, attributes := #[] }] 1537 103 #[120] #[])
  fields := #[]
  methods := #[k6m0, k6m1]
  instanceTypes := #[]
  staticTypes := #[]
  resolved := Array.replicate 251 none
  statics := none }

def pool7 : Array CpInfo := pool [(1, .methodref 2 3), (0, .class_ 4), (0, .nameAndType 5 6), (0, u "java/util/AbstractCollection"), (0, u "<init>"), (0, u "()V"), (0, .fieldref 8 9), (0, .class_ 10), (0, .nameAndType 11 12), (0, u "java/util/AbstractList"), (0, u "modCount"), (0, u "I"), (64, .class_ 78), (0, u "java/util/AbstractList$Itr"), (3, .class_ 83), (0, u "java/util/AbstractList$ListItr"), (9, .class_ 94), (0, u "java/util/AbstractList$RandomAccessSubList"), (3, .class_ 99), (0, u "java/util/AbstractList$SubList"), (33, .class_ 134), (0, u "java/util/List"), (73, .class_ 209), (0, u "java/util/AbstractList$SubList$1"), (0, .class_ 211), (0, u "java/util/AbstractList$RandomAccessSpliterator")] 6

def k7c0 : Code := { maxStack := 2, maxLocals := 1, code := jdk_39_method_1_code, exceptionTable := #[], attributes := #[] }
def k7m0 : Method := { name := "<init>", desc := "()V", sig := { parameters := [], returnType := none }, accessFlags := 4, code := some k7c0 }
/-- java/util/AbstractList -/
def k7 : Class := { plain "java/util/AbstractList" (some 4) with
  accessFlags := 1057
  interfaces := #[6]
  cf := some (fileOf pool7 8 #[.nestMembers #[93, 98, 208, 210, 82, 77]] #[{ accessFlags := 4, nameIndex := 5, descriptorIndex := 6, attributes := #[] }] 1057 2 #[133] #[{ accessFlags := 132, nameIndex := 11, descriptorIndex := 12, attributes := #[] }])
  fields := #[{ name := "modCount", type := .int, accessFlags := 132, slot := 0, constantValue := 0 }]
  methods := #[k7m0]
  instanceTypes := #[.int]
  staticTypes := #[]
  resolved := Array.replicate 218 none
  statics := none }

def pool8 : Array CpInfo := pool [(1, .class_ 2), (0, u "java/util/RandomAccess"), (0, .class_ 4), (0, u "java/lang/Object")] 2

/-- java/util/RandomAccess -/
def k8 : Class := { plain "java/util/RandomAccess" (some 0) with
  accessFlags := 1537
  interfaces := #[]
  cf := some (fileOf pool8 1 #[] #[] 1537 3 #[] #[])
  fields := #[]
  methods := #[]
  instanceTypes := #[]
  staticTypes := #[]
  resolved := Array.replicate 7 none
  statics := none }

def pool9 : Array CpInfo := pool [(1, .class_ 2), (0, u "java/lang/Cloneable"), (0, .class_ 4), (0, u "java/lang/Object")] 2

/-- java/lang/Cloneable -/
def k9 : Class := { plain "java/lang/Cloneable" (some 0) with
  accessFlags := 1537
  interfaces := #[]
  cf := some (fileOf pool9 1 #[] #[] 1537 3 #[] #[])
  fields := #[]
  methods := #[]
  instanceTypes := #[]
  staticTypes := #[]
  resolved := Array.replicate 7 none
  statics := none }

def pool10 : Array CpInfo := pool [(1, .class_ 2), (0, u "java/io/Serializable"), (0, .class_ 4), (0, u "java/lang/Object")] 2

/-- java/io/Serializable -/
def k10 : Class := { plain "java/io/Serializable" (some 0) with
  accessFlags := 1537
  interfaces := #[]
  cf := some (fileOf pool10 1 #[] #[] 1537 3 #[] #[])
  fields := #[]
  methods := #[]
  instanceTypes := #[]
  staticTypes := #[]
  resolved := Array.replicate 7 none
  statics := none }

def pool11 : Array CpInfo := pool [(1, .methodref 2 3), (0, .class_ 4), (0, .nameAndType 5 6), (0, u "java/util/AbstractList"), (0, u "<init>"), (0, u "()V"), (0, .class_ 8), (0, u "java/lang/Object"), (0, .fieldref 10 11), (0, .class_ 12), (0, .nameAndType 13 14), (0, u "java/util/ArrayList"), (0, u "elementData"), (0, u "[Ljava/lang/Object;"), (2, u "EMPTY_ELEMENTDATA"), (21, .fieldref 10 40), (0, .nameAndType 41 14), (0, u "DEFAULTCAPACITY_EMPTY_ELEMENTDATA"), (5, u "()[Ljava/lang/Object;"), (0, .fieldref 10 49), (0, .nameAndType 50 51), (0, u "size"), (0, u "I"), (11, .fieldref 10 64), (0, .nameAndType 65 51), (0, u "modCount"), (3, .methodref 10 70), (0, .nameAndType 71 72), (0, u "grow"), (0, u "(I)[Ljava/lang/Object;"), (6, .methodref 80 81), (0, .class_ 82), (0, .nameAndType 83 84), (0, u "java/lang/Math"), (0, u "max"), (0, u "(II)I"), (11, u "(Ljava/lang/Object;)Z"), (32, .methodref 10 130), (0, .nameAndType 71 47), (0, .methodref 10 132), (0, .nameAndType 133 134), (0, u "add"), (0, u "(Ljava/lang/Object;[Ljava/lang/Object;I)V"), (13, .class_ 149), (0, u "java/util/List"), (36, u "()I"), (75, .class_ 263), (0, u "java/util/ArrayList$ListItr"), (3, .class_ 268), (0, u "java/util/ArrayList$Itr"), (7, .class_ 277), (0, u "java/util/ArrayList$SubList"), (12, .class_ 291), (0, u "java/util/ArrayList$ArrayListSpliterator"), (37, .class_ 330), (0, u "java/util/RandomAccess"), (0, .class_ 332), (0, u "java/lang/Cloneable"), (0, .class_ 334), (0, u "java/io/Serializable"), (0, u "serialVersionUID"), (0, u "J"), (3, u "DEFAULT_CAPACITY"), (159, .class_ 501), (0, u "java/util/ArrayList$SubList$2"), (0, .class_ 503), (0, u "java/util/ArrayList$SubList$1")] 5

def k11c0 : Code := { maxStack := 2, maxLocals := 1, code := jdk_38_method_2_code, exceptionTable := #[], attributes := #[] }
def k11m0 : Method := { name := "<init>", desc := "()V", sig := { parameters := [], returnType := none }, accessFlags := 1, code := some k11c0 }
def k11c1 : Code := { maxStack := 4, maxLocals := 4, code := jdk_38_method_6_code, exceptionTable := #[], attributes := #[] }
def k11m1 : Method := { name := "grow", desc := "(I)[Ljava/lang/Object;", sig := { parameters := [.int], returnType := some (.array (.object "java/lang/Object")) }, accessFlags := 2, code := some k11c1 }
def k11c2 : Code := { maxStack := 3, maxLocals := 1, code := jdk_38_method_7_code, exceptionTable := #[], attributes := #[] }
def k11m2 : Method := { name := "grow", desc := "()[Ljava/lang/Object;", sig := { parameters := [], returnType := some (.array (.object "java/lang/Object")) }, accessFlags := 2, code := some k11c2 }
def k11c3 : Code := { maxStack := 1, maxLocals := 1, code := jdk_38_method_8_code, exceptionTable := #[], attributes := #[] }
def k11m3 : Method := { name := "size", desc := "()I", sig := { parameters := [], returnType := some .int }, accessFlags := 1, code := some k11c3 }
def k11c4 : Code := { maxStack := 3, maxLocals := 4, code := jdk_38_method_24_code, exceptionTable := #[], attributes := #[] }
def k11m4 : Method := { name := "add", desc := "(Ljava/lang/Object;[Ljava/lang/Object;I)V", sig := { parameters := [(.object "java/lang/Object"), (.array (.object "java/lang/Object")), .int], returnType := none }, accessFlags := 2, code := some k11c4 }
def k11c5 : Code := { maxStack := 4, maxLocals := 2, code := jdk_38_method_25_code, exceptionTable := #[], attributes := #[] }
def k11m5 : Method := { name := "add", desc := "(Ljava/lang/Object;)Z", sig := { parameters := [(.object "java/lang/Object")], returnType := some .boolean }, accessFlags := 1, code := some k11c5 }
/-- java/util/ArrayList -/
def k11 : Class := { plain "java/util/ArrayList" (some 7) with
  accessFlags := 33
  interfaces := #[6, 8, 9, 10]
  cf := some (fileOf pool11 10 #[.nestMembers #[290, 276, 500, 502, 262, 267]] #[{ accessFlags := 1, nameIndex := 5, descriptorIndex := 6, attributes := #[] }, { accessFlags := 2, nameIndex := 71, descriptorIndex := 72, attributes := #[] }, { accessFlags := 2, nameIndex := 71, descriptorIndex := 47, attributes := #[] }, { accessFlags := 1, nameIndex := 50, descriptorIndex := 186, attributes := #[] }, { accessFlags := 2, nameIndex := 133, descriptorIndex := 134, attributes := #[] }, { accessFlags := 1, nameIndex := 133, descriptorIndex := 96, attributes := #[] }] 33 2 #[148, 329, 331, 333] #[{ accessFlags := 26, nameIndex := 335, descriptorIndex := 336, attributes := #[] }, { accessFlags := 26, nameIndex := 340, descriptorIndex := 51, attributes := #[] }, { accessFlags := 26, nameIndex := 17, descriptorIndex := 14, attributes := #[] }, { accessFlags := 26, nameIndex := 41, descriptorIndex := 14, attributes := #[] }, { accessFlags := 128, nameIndex := 13, descriptorIndex := 14, attributes := #[] }, { accessFlags := 2, nameIndex := 50, descriptorIndex := 51, attributes := #[] }])
  fields := #[{ name := "serialVersionUID", type := .long, accessFlags := 26, slot := 0, constantValue := 0 }, { name := "DEFAULT_CAPACITY", type := .int, accessFlags := 26, slot := 1, constantValue := 0 }, { name := "EMPTY_ELEMENTDATA", type := (.array (.object "java/lang/Object")), accessFlags := 26, slot := 2, constantValue := 0 }, { name := "DEFAULTCAPACITY_EMPTY_ELEMENTDATA", type := (.array (.object "java/lang/Object")), accessFlags := 26, slot := 3, constantValue := 0 }, { name := "elementData", type := (.array (.object "java/lang/Object")), accessFlags := 128, slot := 1, constantValue := 0 }, { name := "size", type := .int, accessFlags := 2, slot := 2, constantValue := 0 }]
  methods := #[k11m0, k11m1, k11m2, k11m3, k11m4, k11m5]
  instanceTypes := #[.int, (.array (.object "java/lang/Object")), .int]
  staticTypes := #[.long, .int, (.array (.object "java/lang/Object")), (.array (.object "java/lang/Object"))]
  resolved := Array.replicate 509 none
  statics := some 0 }

def pool12 : Array CpInfo := pool [(1, .methodref 2 3), (0, .class_ 4), (0, .nameAndType 5 6), (0, u "java/lang/Object"), (0, u "<init>"), (0, u "()V"), (1, .class_ 10), (1, u "java/lang/Number"), (2, .class_ 14), (0, u "java/io/Serializable"), (0, u "serialVersionUID"), (0, u "J")] 20

def k12c0 : Code := { maxStack := 1, maxLocals := 1, code := jdk_18_method_1_code, exceptionTable := #[], attributes := #[] }
def k12m0 : Method := { name := "<init>", desc := "()V", sig := { parameters := [], returnType := none }, accessFlags := 1, code := some k12c0 }
/-- java/lang/Number -/
def k12 : Class := { plain "java/lang/Number" (some 0) with
  accessFlags := 1057
  interfaces := #[10]
  cf := some (fileOf pool12 8 #[] #[{ accessFlags := 1, nameIndex := 5, descriptorIndex := 6, attributes := #[] }] 1057 2 #[13] #[{ accessFlags := 26, nameIndex := 15, descriptorIndex := 16, attributes := #[] }])
  fields := #[{ name := "serialVersionUID", type := .long, accessFlags := 26, slot := 0, constantValue := 0 }]
  methods := #[k12m0]
  instanceTypes := #[]
  staticTypes := #[.long]
  resolved := Array.replicate 37 none
  statics := none }

def pool13 : Array CpInfo := pool [(1, .class_ 2), (0, u "java/lang/Comparable"), (0, .class_ 4), (0, u "java/lang/Object")] 7

/-- java/lang/Comparable -/
def k13 : Class := { plain "java/lang/Comparable" (some 0) with
  accessFlags := 1537
  interfaces := #[]
  cf := some (fileOf pool13 1 #[] #[] 1537 3 #[] #[])
  fields := #[]
  methods := #[]
  instanceTypes := #[]
  staticTypes := #[]
  resolved := Array.replicate 12 none
  statics := none }

def pool14 : Array CpInfo := pool [(1, .class_ 2), (0, u "java/lang/constant/Constable"), (0, .class_ 4), (0, u "java/lang/Object")] 6

/-- java/lang/constant/Constable -/
def k14 : Class := { plain "java/lang/constant/Constable" (some 0) with
  accessFlags := 1537
  interfaces := #[]
  cf := some (fileOf pool14 1 #[] #[] 1537 3 #[] #[])
  fields := #[]
  methods := #[]
  instanceTypes := #[]
  staticTypes := #[]
  resolved := Array.replicate 11 none
  statics := none }

def pool15 : Array CpInfo := pool [(1, .class_ 2), (0, u "java/lang/constant/ConstantDesc"), (0, .class_ 4), (0, u "java/lang/Object")] 32

/-- java/lang/constant/ConstantDesc -/
def k15 : Class := { plain "java/lang/constant/ConstantDesc" (some 0) with
  accessFlags := 1537
  interfaces := #[]
  cf := some (fileOf pool15 1 #[] #[] 1537 3 #[] #[])
  fields := #[]
  methods := #[]
  instanceTypes := #[]
  staticTypes := #[]
  resolved := Array.replicate 37 none
  statics := none }

def pool16 : Array CpInfo := pool [(1, .class_ 2), (0, u "java/lang/Long"), (55, .nameAndType 59 60), (0, u "<init>"), (0, u "()V"), (24, u "valueOf"), (143, u "(J)Ljava/lang/Long;"), (0, .long 18446744073709551488), (1, .long 127), (1, .fieldref 235 236), (0, .class_ 237), (0, .nameAndType 238 239), (0, u "java/lang/Long$LongCache"), (0, u "cache"), (0, u "[Ljava/lang/Long;"), (0, .methodref 1 241), (0, .nameAndType 59 242), (0, u "(J)V"), (27, .methodref 271 58), (0, .class_ 272), (0, u "java/lang/Number"), (0, .fieldref 1 274), (0, .nameAndType 275 276), (0, u "value"), (0, u "J"), (84, u "TYPE"), (0, u "Ljava/lang/Class;"), (0, .class_ 364), (0, u "java/lang/Comparable"), (0, .class_ 366), (0, u "java/lang/constant/Constable"), (0, .class_ 368), (0, u "java/lang/constant/ConstantDesc"), (0, u "MIN_VALUE"), (1, u "MAX_VALUE"), (4, u "SIZE"), (0, u "I"), (1, u "BYTES"), (1, u "serialVersionUID")] 142

def k16c0 : Code := { maxStack := 4, maxLocals := 3, code := jdk_35_method_24_code, exceptionTable := #[], attributes := #[] }
def k16m0 : Method := { name := "valueOf", desc := "(J)Ljava/lang/Long;", sig := { parameters := [.long], returnType := some (.object "java/lang/Long") }, accessFlags := 9, code := some k16c0 }
def k16c1 : Code := { maxStack := 3, maxLocals := 3, code := jdk_35_method_26_code, exceptionTable := #[], attributes := #[] }
def k16m1 : Method := { name := "<init>", desc := "(J)V", sig := { parameters := [.long], returnType := none }, accessFlags := 1, code := some k16c1 }
/-- java/lang/Long -/
def k16 : Class := { plain "java/lang/Long" (some 12) with
  accessFlags := 49
  interfaces := #[13, 14, 15]
  cf := some (fileOf pool16 1 #[.nestMembers #[235]] #[{ accessFlags := 9, nameIndex := 85, descriptorIndex := 229, attributes := #[] }, { accessFlags := 1, nameIndex := 59, descriptorIndex := 242, attributes := #[] }] 49 271 #[363, 365, 367] #[{ accessFlags := 25, nameIndex := 369, descriptorIndex := 276, attributes := #[] }, { accessFlags := 25, nameIndex := 371, descriptorIndex := 276, attributes := #[] }, { accessFlags := 25, nameIndex := 361, descriptorIndex := 362, attributes := #[] }, { accessFlags := 18, nameIndex := 275, descriptorIndex := 276, attributes := #[] }, { accessFlags := 25, nameIndex := 376, descriptorIndex := 377, attributes := #[] }, { accessFlags := 25, nameIndex := 379, descriptorIndex := 377, attributes := #[] }, { accessFlags := 26, nameIndex := 381, descriptorIndex := 276, attributes := #[] }])
  fields := #[{ name := "MIN_VALUE", type := .long, accessFlags := 25, slot := 0, constantValue := 0 }, { name := "MAX_VALUE", type := .long, accessFlags := 25, slot := 1, constantValue := 0 }, { name := "TYPE", type := (.object "java/lang/Class"), accessFlags := 25, slot := 2, constantValue := 0 }, { name := "value", type := .long, accessFlags := 18, slot := 0, constantValue := 0 }, { name := "SIZE", type := .int, accessFlags := 25, slot := 3, constantValue := 0 }, { name := "BYTES", type := .int, accessFlags := 25, slot := 4, constantValue := 0 }, { name := "serialVersionUID", type := .long, accessFlags := 26, slot := 5, constantValue := 0 }]
  methods := #[k16m0, k16m1]
  instanceTypes := #[.long]
  staticTypes := #[.long, .long, (.object "java/lang/Class"), .int, .int, .long]
  resolved := Array.replicate 524 none
  statics := none }

def pool17 : Array CpInfo := pool [(2, .class_ 4), (1, u "java/lang/Object"), (0, u "<init>"), (0, u "()V"), (0, .class_ 8), (0, u "java/lang/Long"), (7, .class_ 18), (1, u "java/lang/Long$LongCache"), (0, u "$assertionsDisabled"), (0, u "Z"), (8, u "archivedCache"), (0, u "[Ljava/lang/Long;"), (7, u "cache")] 24

def k17m0 : Method := { name := "<init>", desc := "()V", sig := { parameters := [], returnType := none }, accessFlags := 2, code := none }
/-- java/lang/Long$LongCache -/
def k17 : Class := { plain "java/lang/Long$LongCache" (some 0) with
  accessFlags := 48
  interfaces := #[]
  cf := some (fileOf pool17 16 #[.nestHost 7] #[{ accessFlags := 2, nameIndex := 5, descriptorIndex := 6, attributes := #[] }] 48 2 #[] #[{ accessFlags := 24, nameIndex := 38, descriptorIndex := 30, attributes := #[] }, { accessFlags := 8, nameIndex := 29, descriptorIndex := 30, attributes := #[] }, { accessFlags := 4120, nameIndex := 19, descriptorIndex := 20, attributes := #[] }])
  fields := #[{ name := "cache", type := (.array (.object "java/lang/Long")), accessFlags := 24, slot := 0, constantValue := 0 }, { name := "archivedCache", type := (.array (.object "java/lang/Long")), accessFlags := 8, slot := 1, constantValue := 0 }, { name := "$assertionsDisabled", type := .boolean, accessFlags := 4120, slot := 2, constantValue := 0 }]
  methods := #[k17m0]
  instanceTypes := #[]
  staticTypes := #[(.array (.object "java/lang/Long")), (.array (.object "java/lang/Long")), .boolean]
  resolved := Array.replicate 63 none
  statics := some 1 }

def pool18 : Array CpInfo := pool [(1, .class_ 2), (0, u "java/lang/Math"), (1, .class_ 6), (1, u "java/lang/Object"), (0, u "<init>"), (0, u "()V"), (89, .class_ 100), (1, u "java/lang/Math$RandomNumberGeneratorHolder"), (71, u "negativeZeroFloatBits"), (0, u "J"), (2, u "negativeZeroDoubleBits"), (21, u "max"), (46, u "$assertionsDisabled"), (0, u "Z"), (88, u "(II)I"), (2, u "twoToTheDoubleScaleDown"), (0, u "D"), (4, u "twoToTheDoubleScaleUp"), (9, u "E"), (3, u "PI"), (2, u "TAU"), (2, u "DEGREES_TO_RADIANS"), (0, u "RADIANS_TO_DEGREES")] 94

def k18m0 : Method := { name := "<init>", desc := "()V", sig := { parameters := [], returnType := none }, accessFlags := 2, code := none }
def k18c1 : Code := { maxStack := 2, maxLocals := 2, code := jdk_29_method_65_code, exceptionTable := #[], attributes := #[] }
def k18m1 : Method := { name := "max", desc := "(II)I", sig := { parameters := [.int, .int], returnType := some .int }, accessFlags := 9, code := some k18c1 }
/-- java/lang/Math -/
def k18 : Class := { plain "java/lang/Math" (some 0) with
  accessFlags := 49
  interfaces := #[]
  cf := some (fileOf pool18 1 #[.nestMembers #[98]] #[{ accessFlags := 2, nameIndex := 7, descriptorIndex := 8, attributes := #[] }, { accessFlags := 9, nameIndex := 198, descriptorIndex := 335, attributes := #[] }] 49 4 #[] #[{ accessFlags := 25, nameIndex := 354, descriptorIndex := 339, attributes := #[] }, { accessFlags := 25, nameIndex := 358, descriptorIndex := 339, attributes := #[] }, { accessFlags := 25, nameIndex := 361, descriptorIndex := 339, attributes := #[] }, { accessFlags := 26, nameIndex := 364, descriptorIndex := 339, attributes := #[] }, { accessFlags := 26, nameIndex := 365, descriptorIndex := 339, attributes := #[] }, { accessFlags := 26, nameIndex := 172, descriptorIndex := 173, attributes := #[] }, { accessFlags := 26, nameIndex := 176, descriptorIndex := 173, attributes := #[] }, { accessFlags := 8, nameIndex := 344, descriptorIndex := 339, attributes := #[] }, { accessFlags := 8, nameIndex := 338, descriptorIndex := 339, attributes := #[] }, { accessFlags := 4120, nameIndex := 245, descriptorIndex := 246, attributes := #[] }])
  fields := #[{ name := "E", type := .double, accessFlags := 25, slot := 0, constantValue := 0 }, { name := "PI", type := .double, accessFlags := 25, slot := 1, constantValue := 0 }, { name := "TAU", type := .double, accessFlags := 25, slot := 2, constantValue := 0 }, { name := "DEGREES_TO_RADIANS", type := .double, accessFlags := 26, slot := 3, constantValue := 0 }, { name := "RADIANS_TO_DEGREES", type := .double, accessFlags := 26, slot := 4, constantValue := 0 }, { name := "negativeZeroFloatBits", type := .long, accessFlags := 26, slot := 5, constantValue := 0 }, { name := "negativeZeroDoubleBits", type := .long, accessFlags := 26, slot := 6, constantValue := 0 }, { name := "twoToTheDoubleScaleUp", type := .double, accessFlags := 8, slot := 7, constantValue := 0 }, { name := "twoToTheDoubleScaleDown", type := .double, accessFlags := 8, slot := 8, constantValue := 0 }, { name := "$assertionsDisabled", type := .boolean, accessFlags := 4120, slot := 9, constantValue := 0 }]
  methods := #[k18m0, k18m1]
  instanceTypes := #[]
  staticTypes := #[.double, .double, .double, .double, .double, .long, .long, .double, .double, .boolean]
  resolved := Array.replicate 460 none
  statics := none }

def pool19 : Array CpInfo := pool [(8, .class_ 10), (1, u "com/example/waitsfor/waitsfor/Wait"), (0, u "<init>"), (0, u "(JJIJLcom/example/waitsfor/waitsfor/LockTarget;Lcom/example/waitsfor/waitsfor/RowLockMode;Ljava/util/List;I)V"), (2, .methodref 8 16), (0, .nameAndType 11 17), (0, u "(JJJIJLcom/example/waitsfor/waitsfor/LockTarget;Lcom/example/waitsfor/waitsfor/RowLockMode;Ljava/util/List;ILcom/example/waitsfor/waitsfor/HeldLocks;)V"), (0, .methodref 19 20), (0, .class_ 21), (0, .nameAndType 11 22), (0, u "java/lang/Object"), (0, u "()V"), (0, .fieldref 8 24), (0, .nameAndType 25 26), (0, u "transaction"), (0, u "J"), (0, .fieldref 8 28), (0, .nameAndType 29 26), (0, u "holder"), (0, .fieldref 8 31), (0, .nameAndType 32 26), (0, u "kin"), (0, .fieldref 8 34), (0, .nameAndType 35 36), (0, u "shard"), (0, u "I"), (0, .fieldref 8 38), (0, .nameAndType 39 26), (0, u "number"), (0, .fieldref 8 41), (0, .nameAndType 42 43), (0, u "target"), (0, u "Lcom/example/waitsfor/waitsfor/LockTarget;"), (0, .fieldref 8 45), (0, .nameAndType 46 47), (0, u "mode"), (0, u "Lcom/example/waitsfor/waitsfor/RowLockMode;"), (0, .fieldref 8 49), (0, .nameAndType 50 51), (0, u "blockers"), (0, u "Ljava/util/List;"), (0, .fieldref 8 53), (0, .nameAndType 54 36), (0, u "holding"), (0, .fieldref 8 56), (0, .nameAndType 57 58), (0, u "held"), (0, u "Lcom/example/waitsfor/waitsfor/HeldLocks;"), (2, u "NO_LOCK"), (32, u "equals"), (0, u "(Ljava/lang/Object;)Z"), (17, u "NO_SHARD")] 30

def k19c0 : Code := { maxStack := 15, maxLocals := 12, code := prog_94_method_2_code, exceptionTable := #[], attributes := #[] }
def k19m0 : Method := { name := "<init>", desc := "(JJIJLcom/example/waitsfor/waitsfor/LockTarget;Lcom/example/waitsfor/waitsfor/RowLockMode;Ljava/util/List;I)V", sig := { parameters := [.long, .long, .int, .long, (.object "com/example/waitsfor/waitsfor/LockTarget"), (.object "com/example/waitsfor/waitsfor/RowLockMode"), (.object "java/util/List"), .int], returnType := none }, accessFlags := 0, code := some k19c0 }
def k19c1 : Code := { maxStack := 3, maxLocals := 15, code := prog_94_method_3_code, exceptionTable := #[], attributes := #[] }
def k19m1 : Method := { name := "<init>", desc := "(JJJIJLcom/example/waitsfor/waitsfor/LockTarget;Lcom/example/waitsfor/waitsfor/RowLockMode;Ljava/util/List;ILcom/example/waitsfor/waitsfor/HeldLocks;)V", sig := { parameters := [.long, .long, .long, .int, .long, (.object "com/example/waitsfor/waitsfor/LockTarget"), (.object "com/example/waitsfor/waitsfor/RowLockMode"), (.object "java/util/List"), .int, (.object "com/example/waitsfor/waitsfor/HeldLocks")], returnType := none }, accessFlags := 2, code := some k19c1 }
def k19c2 : Code := { maxStack := 4, maxLocals := 3, code := prog_94_method_21_code, exceptionTable := #[], attributes := #[] }
def k19m2 : Method := { name := "equals", desc := "(Ljava/lang/Object;)Z", sig := { parameters := [(.object "java/lang/Object")], returnType := some .boolean }, accessFlags := 1, code := some k19c2 }
/-- com/example/waitsfor/waitsfor/Wait -/
def k19 : Class := { plain "com/example/waitsfor/waitsfor/Wait" (some 0) with
  accessFlags := 48
  interfaces := #[]
  cf := some (fileOf pool19 8 #[] #[{ accessFlags := 0, nameIndex := 11, descriptorIndex := 12, attributes := #[] }, { accessFlags := 2, nameIndex := 11, descriptorIndex := 17, attributes := #[] }, { accessFlags := 1, nameIndex := 94, descriptorIndex := 95, attributes := #[] }] 48 19 #[] #[{ accessFlags := 24, nameIndex := 113, descriptorIndex := 36, attributes := #[] }, { accessFlags := 26, nameIndex := 61, descriptorIndex := 43, attributes := #[] }, { accessFlags := 18, nameIndex := 25, descriptorIndex := 26, attributes := #[] }, { accessFlags := 18, nameIndex := 29, descriptorIndex := 26, attributes := #[] }, { accessFlags := 18, nameIndex := 32, descriptorIndex := 26, attributes := #[] }, { accessFlags := 18, nameIndex := 35, descriptorIndex := 36, attributes := #[] }, { accessFlags := 18, nameIndex := 39, descriptorIndex := 26, attributes := #[] }, { accessFlags := 18, nameIndex := 42, descriptorIndex := 43, attributes := #[] }, { accessFlags := 18, nameIndex := 46, descriptorIndex := 47, attributes := #[] }, { accessFlags := 18, nameIndex := 50, descriptorIndex := 51, attributes := #[] }, { accessFlags := 18, nameIndex := 54, descriptorIndex := 36, attributes := #[] }, { accessFlags := 18, nameIndex := 57, descriptorIndex := 58, attributes := #[] }])
  fields := #[{ name := "NO_SHARD", type := .int, accessFlags := 24, slot := 0, constantValue := 0 }, { name := "NO_LOCK", type := (.object "com/example/waitsfor/waitsfor/LockTarget"), accessFlags := 26, slot := 1, constantValue := 0 }, { name := "transaction", type := .long, accessFlags := 18, slot := 0, constantValue := 0 }, { name := "holder", type := .long, accessFlags := 18, slot := 1, constantValue := 0 }, { name := "kin", type := .long, accessFlags := 18, slot := 2, constantValue := 0 }, { name := "shard", type := .int, accessFlags := 18, slot := 3, constantValue := 0 }, { name := "number", type := .long, accessFlags := 18, slot := 4, constantValue := 0 }, { name := "target", type := (.object "com/example/waitsfor/waitsfor/LockTarget"), accessFlags := 18, slot := 5, constantValue := 0 }, { name := "mode", type := (.object "com/example/waitsfor/waitsfor/RowLockMode"), accessFlags := 18, slot := 6, constantValue := 0 }, { name := "blockers", type := (.object "java/util/List"), accessFlags := 18, slot := 7, constantValue := 0 }, { name := "holding", type := .int, accessFlags := 18, slot := 8, constantValue := 0 }, { name := "held", type := (.object "com/example/waitsfor/waitsfor/HeldLocks"), accessFlags := 18, slot := 9, constantValue := 0 }]
  methods := #[k19m0, k19m1, k19m2]
  instanceTypes := #[.long, .long, .long, .int, .long, (.object "com/example/waitsfor/waitsfor/LockTarget"), (.object "com/example/waitsfor/waitsfor/RowLockMode"), (.object "java/util/List"), .int, (.object "com/example/waitsfor/waitsfor/HeldLocks")]
  staticTypes := #[.int, (.object "com/example/waitsfor/waitsfor/LockTarget")]
  resolved := Array.replicate 144 none
  statics := none }

def pool20 : Array CpInfo := pool [(2, .class_ 4), (1, u "java/lang/Enum"), (0, u "name"), (0, u "Ljava/lang/String;"), (2, u "ordinal"), (0, u "I"), (1, .class_ 14), (1, u "java/lang/Object"), (4, u "hash"), (86, .class_ 108), (1, u "java/lang/Enum$EnumDesc"), (2, .class_ 112), (0, u "java/lang/constant/Constable"), (0, .class_ 114), (0, u "java/lang/Comparable"), (0, .class_ 116), (0, u "java/io/Serializable")] 87

/-- java/lang/Enum -/
def k20 : Class := { plain "java/lang/Enum" (some 0) with
  accessFlags := 1057
  interfaces := #[14, 13, 10]
  cf := some (fileOf pool20 2 #[.nestMembers #[106]] #[] 1057 12 #[111, 113, 115] #[{ accessFlags := 18, nameIndex := 5, descriptorIndex := 6, attributes := #[] }, { accessFlags := 18, nameIndex := 9, descriptorIndex := 10, attributes := #[] }, { accessFlags := 2, nameIndex := 19, descriptorIndex := 10, attributes := #[] }])
  fields := #[{ name := "name", type := (.object "java/lang/String"), accessFlags := 18, slot := 0, constantValue := 0 }, { name := "ordinal", type := .int, accessFlags := 18, slot := 1, constantValue := 0 }, { name := "hash", type := .int, accessFlags := 2, slot := 2, constantValue := 0 }]
  methods := #[]
  instanceTypes := #[(.object "java/lang/String"), .int, .int]
  staticTypes := #[]
  resolved := Array.replicate 204 none
  statics := none }

def pool21 : Array CpInfo := pool [(1, .class_ 2), (0, u "com/example/waitsfor/waitsfor/RowLockMode"), (2, u "FOR_KEY_SHARE"), (0, u "Lcom/example/waitsfor/waitsfor/RowLockMode;"), (2, u "FOR_SHARE"), (2, u "FOR_NO_KEY_UPDATE"), (2, u "FOR_UPDATE"), (2, u "$VALUES"), (0, u "[Lcom/example/waitsfor/waitsfor/RowLockMode;"), (6, .class_ 28), (1, u "java/lang/Enum")] 46

/-- com/example/waitsfor/waitsfor/RowLockMode -/
def k21 : Class := { plain "com/example/waitsfor/waitsfor/RowLockMode" (some 20) with
  accessFlags := 16433
  interfaces := #[]
  cf := some (fileOf pool21 1 #[] #[] 16433 26 #[] #[{ accessFlags := 16409, nameIndex := 5, descriptorIndex := 6, attributes := #[] }, { accessFlags := 16409, nameIndex := 9, descriptorIndex := 6, attributes := #[] }, { accessFlags := 16409, nameIndex := 12, descriptorIndex := 6, attributes := #[] }, { accessFlags := 16409, nameIndex := 15, descriptorIndex := 6, attributes := #[] }, { accessFlags := 4122, nameIndex := 18, descriptorIndex := 19, attributes := #[] }])
  fields := #[{ name := "FOR_KEY_SHARE", type := (.object "com/example/waitsfor/waitsfor/RowLockMode"), accessFlags := 16409, slot := 0, constantValue := 0 }, { name := "FOR_SHARE", type := (.object "com/example/waitsfor/waitsfor/RowLockMode"), accessFlags := 16409, slot := 1, constantValue := 0 }, { name := "FOR_NO_KEY_UPDATE", type := (.object "com/example/waitsfor/waitsfor/RowLockMode"), accessFlags := 16409, slot := 2, constantValue := 0 }, { name := "FOR_UPDATE", type := (.object "com/example/waitsfor/waitsfor/RowLockMode"), accessFlags := 16409, slot := 3, constantValue := 0 }, { name := "$VALUES", type := (.array (.object "com/example/waitsfor/waitsfor/RowLockMode")), accessFlags := 4122, slot := 4, constantValue := 0 }]
  methods := #[]
  instanceTypes := #[(.object "java/lang/String"), .int, .int]
  staticTypes := #[(.object "com/example/waitsfor/waitsfor/RowLockMode"), (.object "com/example/waitsfor/waitsfor/RowLockMode"), (.object "com/example/waitsfor/waitsfor/RowLockMode"), (.object "com/example/waitsfor/waitsfor/RowLockMode"), (.array (.object "com/example/waitsfor/waitsfor/RowLockMode"))]
  resolved := Array.replicate 75 none
  statics := some 2 }

/-- the primitive byte -/
def k22 : Class := { plain "byte" none with kind := .primitive 'B', accessFlags := 0x411 }
/-- [B -/
def k23 : Class := { plain "[B" (some 0) with kind := .array 22 .byte, interfaces := #[9, 10], accessFlags := 1041 }

/-- the primitive int -/
def k24 : Class := { plain "int" none with kind := .primitive 'I', accessFlags := 0x411 }
/-- [I -/
def k25 : Class := { plain "[I" (some 0) with kind := .array 24 .int, interfaces := #[9, 10], accessFlags := 1041 }

/-- [Ljava/lang/Long; -/
def k26 : Class := { plain "[Ljava/lang/Long;" (some 0) with kind := .array 16 (.object "java/lang/Long"), interfaces := #[9, 10], accessFlags := 1041 }

/-- [Ljava/lang/Object; -/
def k27 : Class := { plain "[Ljava/lang/Object;" (some 0) with kind := .array 0 (.object "java/lang/Object"), interfaces := #[9, 10], accessFlags := 1041 }

def heap : Heap := #[{ cls := 11, slots := #[.long 0, .int 0, .ref 264, .ref 265], vm := .statics 11 },
  { cls := 17, slots := #[.ref 3, .null, .int 0], vm := .statics 17 },
  { cls := 21, slots := #[.ref 260, .ref 261, .ref 262, .ref 263, .null], vm := .statics 21 },
  { cls := 26, slots := #[.ref 4, .ref 5, .ref 6, .ref 7, .ref 8, .ref 9, .ref 10, .ref 11, .ref 12, .ref 13, .ref 14, .ref 15, .ref 16, .ref 17, .ref 18, .ref 19, .ref 20, .ref 21, .ref 22, .ref 23, .ref 24, .ref 25, .ref 26, .ref 27, .ref 28, .ref 29, .ref 30, .ref 31, .ref 32, .ref 33, .ref 34, .ref 35, .ref 36, .ref 37, .ref 38, .ref 39, .ref 40, .ref 41, .ref 42, .ref 43, .ref 44, .ref 45, .ref 46, .ref 47, .ref 48, .ref 49, .ref 50, .ref 51, .ref 52, .ref 53, .ref 54, .ref 55, .ref 56, .ref 57, .ref 58, .ref 59, .ref 60, .ref 61, .ref 62, .ref 63, .ref 64, .ref 65, .ref 66, .ref 67, .ref 68, .ref 69, .ref 70, .ref 71, .ref 72, .ref 73, .ref 74, .ref 75, .ref 76, .ref 77, .ref 78, .ref 79, .ref 80, .ref 81, .ref 82, .ref 83, .ref 84, .ref 85, .ref 86, .ref 87, .ref 88, .ref 89, .ref 90, .ref 91, .ref 92, .ref 93, .ref 94, .ref 95, .ref 96, .ref 97, .ref 98, .ref 99, .ref 100, .ref 101, .ref 102, .ref 103, .ref 104, .ref 105, .ref 106, .ref 107, .ref 108, .ref 109, .ref 110, .ref 111, .ref 112, .ref 113, .ref 114, .ref 115, .ref 116, .ref 117, .ref 118, .ref 119, .ref 120, .ref 121, .ref 122, .ref 123, .ref 124, .ref 125, .ref 126, .ref 127, .ref 128, .ref 129, .ref 130, .ref 131, .ref 132, .ref 133, .ref 134, .ref 135, .ref 136, .ref 137, .ref 138, .ref 139, .ref 140, .ref 141, .ref 142, .ref 143, .ref 144, .ref 145, .ref 146, .ref 147, .ref 148, .ref 149, .ref 150, .ref 151, .ref 152, .ref 153, .ref 154, .ref 155, .ref 156, .ref 157, .ref 158, .ref 159, .ref 160, .ref 161, .ref 162, .ref 163, .ref 164, .ref 165, .ref 166, .ref 167, .ref 168, .ref 169, .ref 170, .ref 171, .ref 172, .ref 173, .ref 174, .ref 175, .ref 176, .ref 177, .ref 178, .ref 179, .ref 180, .ref 181, .ref 182, .ref 183, .ref 184, .ref 185, .ref 186, .ref 187, .ref 188, .ref 189, .ref 190, .ref 191, .ref 192, .ref 193, .ref 194, .ref 195, .ref 196, .ref 197, .ref 198, .ref 199, .ref 200, .ref 201, .ref 202, .ref 203, .ref 204, .ref 205, .ref 206, .ref 207, .ref 208, .ref 209, .ref 210, .ref 211, .ref 212, .ref 213, .ref 214, .ref 215, .ref 216, .ref 217, .ref 218, .ref 219, .ref 220, .ref 221, .ref 222, .ref 223, .ref 224, .ref 225, .ref 226, .ref 227, .ref 228, .ref 229, .ref 230, .ref 231, .ref 232, .ref 233, .ref 234, .ref 235, .ref 236, .ref 237, .ref 238, .ref 239, .ref 240, .ref 241, .ref 242, .ref 243, .ref 244, .ref 245, .ref 246, .ref 247, .ref 248, .ref 249, .ref 250, .ref 251, .ref 252, .ref 253, .ref 254, .ref 255, .ref 256, .ref 257, .ref 258, .ref 259], vm := .none },
  { cls := 16, slots := #[.long (-128)], vm := .none },
  { cls := 16, slots := #[.long (-127)], vm := .none },
  { cls := 16, slots := #[.long (-126)], vm := .none },
  { cls := 16, slots := #[.long (-125)], vm := .none },
  { cls := 16, slots := #[.long (-124)], vm := .none },
  { cls := 16, slots := #[.long (-123)], vm := .none },
  { cls := 16, slots := #[.long (-122)], vm := .none },
  { cls := 16, slots := #[.long (-121)], vm := .none },
  { cls := 16, slots := #[.long (-120)], vm := .none },
  { cls := 16, slots := #[.long (-119)], vm := .none },
  { cls := 16, slots := #[.long (-118)], vm := .none },
  { cls := 16, slots := #[.long (-117)], vm := .none },
  { cls := 16, slots := #[.long (-116)], vm := .none },
  { cls := 16, slots := #[.long (-115)], vm := .none },
  { cls := 16, slots := #[.long (-114)], vm := .none },
  { cls := 16, slots := #[.long (-113)], vm := .none },
  { cls := 16, slots := #[.long (-112)], vm := .none },
  { cls := 16, slots := #[.long (-111)], vm := .none },
  { cls := 16, slots := #[.long (-110)], vm := .none },
  { cls := 16, slots := #[.long (-109)], vm := .none },
  { cls := 16, slots := #[.long (-108)], vm := .none },
  { cls := 16, slots := #[.long (-107)], vm := .none },
  { cls := 16, slots := #[.long (-106)], vm := .none },
  { cls := 16, slots := #[.long (-105)], vm := .none },
  { cls := 16, slots := #[.long (-104)], vm := .none },
  { cls := 16, slots := #[.long (-103)], vm := .none },
  { cls := 16, slots := #[.long (-102)], vm := .none },
  { cls := 16, slots := #[.long (-101)], vm := .none },
  { cls := 16, slots := #[.long (-100)], vm := .none },
  { cls := 16, slots := #[.long (-99)], vm := .none },
  { cls := 16, slots := #[.long (-98)], vm := .none },
  { cls := 16, slots := #[.long (-97)], vm := .none },
  { cls := 16, slots := #[.long (-96)], vm := .none },
  { cls := 16, slots := #[.long (-95)], vm := .none },
  { cls := 16, slots := #[.long (-94)], vm := .none },
  { cls := 16, slots := #[.long (-93)], vm := .none },
  { cls := 16, slots := #[.long (-92)], vm := .none },
  { cls := 16, slots := #[.long (-91)], vm := .none },
  { cls := 16, slots := #[.long (-90)], vm := .none },
  { cls := 16, slots := #[.long (-89)], vm := .none },
  { cls := 16, slots := #[.long (-88)], vm := .none },
  { cls := 16, slots := #[.long (-87)], vm := .none },
  { cls := 16, slots := #[.long (-86)], vm := .none },
  { cls := 16, slots := #[.long (-85)], vm := .none },
  { cls := 16, slots := #[.long (-84)], vm := .none },
  { cls := 16, slots := #[.long (-83)], vm := .none },
  { cls := 16, slots := #[.long (-82)], vm := .none },
  { cls := 16, slots := #[.long (-81)], vm := .none },
  { cls := 16, slots := #[.long (-80)], vm := .none },
  { cls := 16, slots := #[.long (-79)], vm := .none },
  { cls := 16, slots := #[.long (-78)], vm := .none },
  { cls := 16, slots := #[.long (-77)], vm := .none },
  { cls := 16, slots := #[.long (-76)], vm := .none },
  { cls := 16, slots := #[.long (-75)], vm := .none },
  { cls := 16, slots := #[.long (-74)], vm := .none },
  { cls := 16, slots := #[.long (-73)], vm := .none },
  { cls := 16, slots := #[.long (-72)], vm := .none },
  { cls := 16, slots := #[.long (-71)], vm := .none },
  { cls := 16, slots := #[.long (-70)], vm := .none },
  { cls := 16, slots := #[.long (-69)], vm := .none },
  { cls := 16, slots := #[.long (-68)], vm := .none },
  { cls := 16, slots := #[.long (-67)], vm := .none },
  { cls := 16, slots := #[.long (-66)], vm := .none },
  { cls := 16, slots := #[.long (-65)], vm := .none },
  { cls := 16, slots := #[.long (-64)], vm := .none },
  { cls := 16, slots := #[.long (-63)], vm := .none },
  { cls := 16, slots := #[.long (-62)], vm := .none },
  { cls := 16, slots := #[.long (-61)], vm := .none },
  { cls := 16, slots := #[.long (-60)], vm := .none },
  { cls := 16, slots := #[.long (-59)], vm := .none },
  { cls := 16, slots := #[.long (-58)], vm := .none },
  { cls := 16, slots := #[.long (-57)], vm := .none },
  { cls := 16, slots := #[.long (-56)], vm := .none },
  { cls := 16, slots := #[.long (-55)], vm := .none },
  { cls := 16, slots := #[.long (-54)], vm := .none },
  { cls := 16, slots := #[.long (-53)], vm := .none },
  { cls := 16, slots := #[.long (-52)], vm := .none },
  { cls := 16, slots := #[.long (-51)], vm := .none },
  { cls := 16, slots := #[.long (-50)], vm := .none },
  { cls := 16, slots := #[.long (-49)], vm := .none },
  { cls := 16, slots := #[.long (-48)], vm := .none },
  { cls := 16, slots := #[.long (-47)], vm := .none },
  { cls := 16, slots := #[.long (-46)], vm := .none },
  { cls := 16, slots := #[.long (-45)], vm := .none },
  { cls := 16, slots := #[.long (-44)], vm := .none },
  { cls := 16, slots := #[.long (-43)], vm := .none },
  { cls := 16, slots := #[.long (-42)], vm := .none },
  { cls := 16, slots := #[.long (-41)], vm := .none },
  { cls := 16, slots := #[.long (-40)], vm := .none },
  { cls := 16, slots := #[.long (-39)], vm := .none },
  { cls := 16, slots := #[.long (-38)], vm := .none },
  { cls := 16, slots := #[.long (-37)], vm := .none },
  { cls := 16, slots := #[.long (-36)], vm := .none },
  { cls := 16, slots := #[.long (-35)], vm := .none },
  { cls := 16, slots := #[.long (-34)], vm := .none },
  { cls := 16, slots := #[.long (-33)], vm := .none },
  { cls := 16, slots := #[.long (-32)], vm := .none },
  { cls := 16, slots := #[.long (-31)], vm := .none },
  { cls := 16, slots := #[.long (-30)], vm := .none },
  { cls := 16, slots := #[.long (-29)], vm := .none },
  { cls := 16, slots := #[.long (-28)], vm := .none },
  { cls := 16, slots := #[.long (-27)], vm := .none },
  { cls := 16, slots := #[.long (-26)], vm := .none },
  { cls := 16, slots := #[.long (-25)], vm := .none },
  { cls := 16, slots := #[.long (-24)], vm := .none },
  { cls := 16, slots := #[.long (-23)], vm := .none },
  { cls := 16, slots := #[.long (-22)], vm := .none },
  { cls := 16, slots := #[.long (-21)], vm := .none },
  { cls := 16, slots := #[.long (-20)], vm := .none },
  { cls := 16, slots := #[.long (-19)], vm := .none },
  { cls := 16, slots := #[.long (-18)], vm := .none },
  { cls := 16, slots := #[.long (-17)], vm := .none },
  { cls := 16, slots := #[.long (-16)], vm := .none },
  { cls := 16, slots := #[.long (-15)], vm := .none },
  { cls := 16, slots := #[.long (-14)], vm := .none },
  { cls := 16, slots := #[.long (-13)], vm := .none },
  { cls := 16, slots := #[.long (-12)], vm := .none },
  { cls := 16, slots := #[.long (-11)], vm := .none },
  { cls := 16, slots := #[.long (-10)], vm := .none },
  { cls := 16, slots := #[.long (-9)], vm := .none },
  { cls := 16, slots := #[.long (-8)], vm := .none },
  { cls := 16, slots := #[.long (-7)], vm := .none },
  { cls := 16, slots := #[.long (-6)], vm := .none },
  { cls := 16, slots := #[.long (-5)], vm := .none },
  { cls := 16, slots := #[.long (-4)], vm := .none },
  { cls := 16, slots := #[.long (-3)], vm := .none },
  { cls := 16, slots := #[.long (-2)], vm := .none },
  { cls := 16, slots := #[.long (-1)], vm := .none },
  { cls := 16, slots := #[.long (0)], vm := .none },
  { cls := 16, slots := #[.long (1)], vm := .none },
  { cls := 16, slots := #[.long (2)], vm := .none },
  { cls := 16, slots := #[.long (3)], vm := .none },
  { cls := 16, slots := #[.long (4)], vm := .none },
  { cls := 16, slots := #[.long (5)], vm := .none },
  { cls := 16, slots := #[.long (6)], vm := .none },
  { cls := 16, slots := #[.long (7)], vm := .none },
  { cls := 16, slots := #[.long (8)], vm := .none },
  { cls := 16, slots := #[.long (9)], vm := .none },
  { cls := 16, slots := #[.long (10)], vm := .none },
  { cls := 16, slots := #[.long (11)], vm := .none },
  { cls := 16, slots := #[.long (12)], vm := .none },
  { cls := 16, slots := #[.long (13)], vm := .none },
  { cls := 16, slots := #[.long (14)], vm := .none },
  { cls := 16, slots := #[.long (15)], vm := .none },
  { cls := 16, slots := #[.long (16)], vm := .none },
  { cls := 16, slots := #[.long (17)], vm := .none },
  { cls := 16, slots := #[.long (18)], vm := .none },
  { cls := 16, slots := #[.long (19)], vm := .none },
  { cls := 16, slots := #[.long (20)], vm := .none },
  { cls := 16, slots := #[.long (21)], vm := .none },
  { cls := 16, slots := #[.long (22)], vm := .none },
  { cls := 16, slots := #[.long (23)], vm := .none },
  { cls := 16, slots := #[.long (24)], vm := .none },
  { cls := 16, slots := #[.long (25)], vm := .none },
  { cls := 16, slots := #[.long (26)], vm := .none },
  { cls := 16, slots := #[.long (27)], vm := .none },
  { cls := 16, slots := #[.long (28)], vm := .none },
  { cls := 16, slots := #[.long (29)], vm := .none },
  { cls := 16, slots := #[.long (30)], vm := .none },
  { cls := 16, slots := #[.long (31)], vm := .none },
  { cls := 16, slots := #[.long (32)], vm := .none },
  { cls := 16, slots := #[.long (33)], vm := .none },
  { cls := 16, slots := #[.long (34)], vm := .none },
  { cls := 16, slots := #[.long (35)], vm := .none },
  { cls := 16, slots := #[.long (36)], vm := .none },
  { cls := 16, slots := #[.long (37)], vm := .none },
  { cls := 16, slots := #[.long (38)], vm := .none },
  { cls := 16, slots := #[.long (39)], vm := .none },
  { cls := 16, slots := #[.long (40)], vm := .none },
  { cls := 16, slots := #[.long (41)], vm := .none },
  { cls := 16, slots := #[.long (42)], vm := .none },
  { cls := 16, slots := #[.long (43)], vm := .none },
  { cls := 16, slots := #[.long (44)], vm := .none },
  { cls := 16, slots := #[.long (45)], vm := .none },
  { cls := 16, slots := #[.long (46)], vm := .none },
  { cls := 16, slots := #[.long (47)], vm := .none },
  { cls := 16, slots := #[.long (48)], vm := .none },
  { cls := 16, slots := #[.long (49)], vm := .none },
  { cls := 16, slots := #[.long (50)], vm := .none },
  { cls := 16, slots := #[.long (51)], vm := .none },
  { cls := 16, slots := #[.long (52)], vm := .none },
  { cls := 16, slots := #[.long (53)], vm := .none },
  { cls := 16, slots := #[.long (54)], vm := .none },
  { cls := 16, slots := #[.long (55)], vm := .none },
  { cls := 16, slots := #[.long (56)], vm := .none },
  { cls := 16, slots := #[.long (57)], vm := .none },
  { cls := 16, slots := #[.long (58)], vm := .none },
  { cls := 16, slots := #[.long (59)], vm := .none },
  { cls := 16, slots := #[.long (60)], vm := .none },
  { cls := 16, slots := #[.long (61)], vm := .none },
  { cls := 16, slots := #[.long (62)], vm := .none },
  { cls := 16, slots := #[.long (63)], vm := .none },
  { cls := 16, slots := #[.long (64)], vm := .none },
  { cls := 16, slots := #[.long (65)], vm := .none },
  { cls := 16, slots := #[.long (66)], vm := .none },
  { cls := 16, slots := #[.long (67)], vm := .none },
  { cls := 16, slots := #[.long (68)], vm := .none },
  { cls := 16, slots := #[.long (69)], vm := .none },
  { cls := 16, slots := #[.long (70)], vm := .none },
  { cls := 16, slots := #[.long (71)], vm := .none },
  { cls := 16, slots := #[.long (72)], vm := .none },
  { cls := 16, slots := #[.long (73)], vm := .none },
  { cls := 16, slots := #[.long (74)], vm := .none },
  { cls := 16, slots := #[.long (75)], vm := .none },
  { cls := 16, slots := #[.long (76)], vm := .none },
  { cls := 16, slots := #[.long (77)], vm := .none },
  { cls := 16, slots := #[.long (78)], vm := .none },
  { cls := 16, slots := #[.long (79)], vm := .none },
  { cls := 16, slots := #[.long (80)], vm := .none },
  { cls := 16, slots := #[.long (81)], vm := .none },
  { cls := 16, slots := #[.long (82)], vm := .none },
  { cls := 16, slots := #[.long (83)], vm := .none },
  { cls := 16, slots := #[.long (84)], vm := .none },
  { cls := 16, slots := #[.long (85)], vm := .none },
  { cls := 16, slots := #[.long (86)], vm := .none },
  { cls := 16, slots := #[.long (87)], vm := .none },
  { cls := 16, slots := #[.long (88)], vm := .none },
  { cls := 16, slots := #[.long (89)], vm := .none },
  { cls := 16, slots := #[.long (90)], vm := .none },
  { cls := 16, slots := #[.long (91)], vm := .none },
  { cls := 16, slots := #[.long (92)], vm := .none },
  { cls := 16, slots := #[.long (93)], vm := .none },
  { cls := 16, slots := #[.long (94)], vm := .none },
  { cls := 16, slots := #[.long (95)], vm := .none },
  { cls := 16, slots := #[.long (96)], vm := .none },
  { cls := 16, slots := #[.long (97)], vm := .none },
  { cls := 16, slots := #[.long (98)], vm := .none },
  { cls := 16, slots := #[.long (99)], vm := .none },
  { cls := 16, slots := #[.long (100)], vm := .none },
  { cls := 16, slots := #[.long (101)], vm := .none },
  { cls := 16, slots := #[.long (102)], vm := .none },
  { cls := 16, slots := #[.long (103)], vm := .none },
  { cls := 16, slots := #[.long (104)], vm := .none },
  { cls := 16, slots := #[.long (105)], vm := .none },
  { cls := 16, slots := #[.long (106)], vm := .none },
  { cls := 16, slots := #[.long (107)], vm := .none },
  { cls := 16, slots := #[.long (108)], vm := .none },
  { cls := 16, slots := #[.long (109)], vm := .none },
  { cls := 16, slots := #[.long (110)], vm := .none },
  { cls := 16, slots := #[.long (111)], vm := .none },
  { cls := 16, slots := #[.long (112)], vm := .none },
  { cls := 16, slots := #[.long (113)], vm := .none },
  { cls := 16, slots := #[.long (114)], vm := .none },
  { cls := 16, slots := #[.long (115)], vm := .none },
  { cls := 16, slots := #[.long (116)], vm := .none },
  { cls := 16, slots := #[.long (117)], vm := .none },
  { cls := 16, slots := #[.long (118)], vm := .none },
  { cls := 16, slots := #[.long (119)], vm := .none },
  { cls := 16, slots := #[.long (120)], vm := .none },
  { cls := 16, slots := #[.long (121)], vm := .none },
  { cls := 16, slots := #[.long (122)], vm := .none },
  { cls := 16, slots := #[.long (123)], vm := .none },
  { cls := 16, slots := #[.long (124)], vm := .none },
  { cls := 16, slots := #[.long (125)], vm := .none },
  { cls := 16, slots := #[.long (126)], vm := .none },
  { cls := 16, slots := #[.long (127)], vm := .none },
  { cls := 21, slots := #[.null, .int 0, .int 0], vm := .none },
  { cls := 21, slots := #[.null, .int 1, .int 0], vm := .none },
  { cls := 21, slots := #[.null, .int 2, .int 0], vm := .none },
  { cls := 21, slots := #[.null, .int 3, .int 0], vm := .none },
  { cls := 27, slots := #[], vm := .none },
  { cls := 27, slots := #[], vm := .none }]
def classes : Array Class := #[k0, k1, k2, k3, k4, k5, k6, k7, k8, k9, k10, k11, k12, k13, k14, k15, k16, k17, k18, k19, k20, k21, k22, k23, k24, k25, k26, k27]
def interned : List (Array UInt16 × Addr) := []
def slotsUsed : Nat := 536
def theMethod : MethodId := ⟨1, 2⟩
def args0 : Array Value := #[.int 5, .long 3, .int 2, .long 7, .long 1, .int 9]
def aboutOver (below : List Frame) : State where
  vm := { classes := classes, interned := interned.toArray }
  heap := heap
  slotsUsed := slotsUsed
  threads := #[{ frames := .invoking theMethod args0 :: below }]
def below0 : List Frame := [.native { method := ⟨0, 0⟩, args := #[] }]
def about1 : State := aboutOver below0
def p0 : Program := .bare "" "" ""
def e0 : Env := launch0.env 0 0 0
theorem w_frames : about1.frames = Frame.invoking theMethod args0 :: below0 := rfl
set_option maxRecDepth 65536 in
theorem w_args : argsFit about1.vm theMethod args0 = true := by decide +kernel
set_option maxRecDepth 65536 in
theorem w_heap : heapFits about1 = true := by decide +kernel
set_option maxRecDepth 65536 in
theorem w_runnable : about1.curStatus? = some .runnable := by decide +kernel
set_option maxRecDepth 65536 in
theorem w_alone : about1.alone = true := by decide +kernel
set_option maxRecDepth 65536 in
theorem w_named : about1.methodNamed? x = some theMethod := by decide +kernel
set_option maxRecDepth 65536 in
theorem w_hears : about1.hears theMethod below0 = true := by decide +kernel
set_option maxRecDepth 65536 in
theorem w_ripe : about1.ripe theMethod args0 below0 = true := by decide +kernel
theorem w_running : about1.status = .running := rfl
set_option maxRecDepth 65536 in
theorem w_room : about1.hasRoom e0.platform room_1 = true :=
  launch0.hasRoom_least _ room_1 (by decide +kernel) (by decide +kernel) (by decide +kernel) (by decide +kernel) (by decide +kernel) (by decide +kernel)
theorem allAtoms_all (ts : List Jvm.Cond) (a : Array Jvm.Value) (st : Jvm.State) : (allAtoms ts).before a st = ts.all (fun c => c.before a st) := by
  induction ts with
  | nil => rfl
  | cons c t ih =>
    show (Jvm.Cond.and c (allAtoms t)).before a st = _
    rw [Jvm.Cond.before_and, ih, List.all_cons]
def words1 : List Jvm.Cond := Jvm.Cond.code x code maxLocals ret :: tables_1
/-- a 'code' word, met by the world's own term for the bytes: nothing is compared byte by byte -/
theorem code_word {y : MethodName} {bytes : ByteArray} {mx : Nat} {rt : Option FieldType} {a : Array Value} {s : State} {m : MethodId} {meth : Method} {c : Code} (h1 : s.methodNamed? y = some m) (h2 : s.vm.method? m = some meth) (h3 : meth.code = some c) (h4 : c.code = bytes)
    (h5 : (c.maxLocals == mx && c.exceptionTable.isEmpty && decide (c.maxStack ≤ mostOperands) && decide (meth.sig.returnType = rt) && !meth.locks && decide (parseMethodDescriptor y.desc = some meth.sig)) = true) : (Jvm.Cond.code y bytes mx rt).before a s = true := by
  simp only [Bool.and_eq_true, beq_iff_eq, Bool.not_eq_true', decide_eq_true_eq] at h5
  obtain ⟨⟨⟨⟨⟨g1, g2⟩, g3⟩, g4⟩, g5⟩, g6⟩ := h5
  simp [Cond.before, Cond.holds, Cond.value, h1, h2, h3, h4, g1, g2, g3, g4, g5, g6]
def isCode : Jvm.Cond → Bool
  | .code _ _ _ _ => true
  | _ => false
theorem all_split {L : List Jvm.Cond} {P : Jvm.Cond → Bool} (h1 : L.all (fun c => isCode c || P c) = true) (h2 : ∀ c ∈ L.filter isCode, P c = true) : L.all P = true := by
  refine List.all_eq_true.mpr fun c hc => ?_
  have h := List.all_eq_true.mp h1 c hc
  rcases Bool.eq_false_or_eq_true (isCode c) with hi | hi
  · exact h2 c (List.mem_filter.mpr ⟨hc, hi⟩)
  · simpa [hi] using h
set_option maxRecDepth 65536 in
theorem w_c0 : (Jvm.Cond.code x code maxLocals ret).before args0 about1 = true := code_word (m := ⟨1, 2⟩) (meth := k1m2) (c := k1c2) (by decide +kernel) rfl rfl rfl (by decide +kernel)
set_option maxRecDepth 65536 in
theorem w_c1 : (Jvm.Cond.code ({ cls := "java/util/ArrayList", name := "<init>", desc := "()V" } : Jvm.MethodName) jdk_38_method_2_code (1 : Nat) (Option.none : Option Jvm.ClassFile.FieldType)).before args0 about1 = true := code_word (m := ⟨11, 0⟩) (meth := k11m0) (c := k11c0) (by decide +kernel) rfl rfl rfl (by decide +kernel)
set_option maxRecDepth 65536 in
theorem w_c2 : (Jvm.Cond.code ({ cls := "java/util/AbstractList", name := "<init>", desc := "()V" } : Jvm.MethodName) jdk_39_method_1_code (1 : Nat) (Option.none : Option Jvm.ClassFile.FieldType)).before args0 about1 = true := code_word (m := ⟨7, 0⟩) (meth := k7m0) (c := k7c0) (by decide +kernel) rfl rfl rfl (by decide +kernel)
set_option maxRecDepth 65536 in
theorem w_c3 : (Jvm.Cond.code ({ cls := "java/util/AbstractCollection", name := "<init>", desc := "()V" } : Jvm.MethodName) jdk_22_method_1_code (1 : Nat) (Option.none : Option Jvm.ClassFile.FieldType)).before args0 about1 = true := code_word (m := ⟨4, 0⟩) (meth := k4m0) (c := k4c0) (by decide +kernel) rfl rfl rfl (by decide +kernel)
set_option maxRecDepth 65536 in
theorem w_c4 : (Jvm.Cond.code ({ cls := "java/lang/Object", name := "<init>", desc := "()V" } : Jvm.MethodName) object_method_1_code (1 : Nat) (Option.none : Option Jvm.ClassFile.FieldType)).before args0 about1 = true := code_word (m := ⟨0, 0⟩) (meth := k0m0) (c := k0c0) (by decide +kernel) rfl rfl rfl (by decide +kernel)
set_option maxRecDepth 65536 in
theorem w_c5 : (Jvm.Cond.code ({ cls := "java/lang/Long", name := "valueOf", desc := "(J)Ljava/lang/Long;" } : Jvm.MethodName) jdk_35_method_24_code (3 : Nat) (Option.some (Jvm.ClassFile.FieldType.object "java/lang/Long"))).before args0 about1 = true := code_word (m := ⟨16, 0⟩) (meth := k16m0) (c := k16c0) (by decide +kernel) rfl rfl rfl (by decide +kernel)
set_option maxRecDepth 65536 in
theorem w_c6 : (Jvm.Cond.code ({ cls := "java/util/ArrayList", name := "add", desc := "(Ljava/lang/Object;)Z" } : Jvm.MethodName) jdk_38_method_25_code (2 : Nat) (Option.some Jvm.ClassFile.FieldType.boolean)).before args0 about1 = true := code_word (m := ⟨11, 5⟩) (meth := k11m5) (c := k11c5) (by decide +kernel) rfl rfl rfl (by decide +kernel)
set_option maxRecDepth 65536 in
theorem w_c7 : (Jvm.Cond.code ({ cls := "java/util/ArrayList", name := "add", desc := "(Ljava/lang/Object;[Ljava/lang/Object;I)V" } : Jvm.MethodName) jdk_38_method_24_code (4 : Nat) (Option.none : Option Jvm.ClassFile.FieldType)).before args0 about1 = true := code_word (m := ⟨11, 4⟩) (meth := k11m4) (c := k11c4) (by decide +kernel) rfl rfl rfl (by decide +kernel)
set_option maxRecDepth 65536 in
theorem w_c8 : (Jvm.Cond.code ({ cls := "java/util/ArrayList", name := "grow", desc := "()[Ljava/lang/Object;" } : Jvm.MethodName) jdk_38_method_7_code (1 : Nat) (Option.some (Jvm.ClassFile.FieldType.array (Jvm.ClassFile.FieldType.object "java/lang/Object")))).before args0 about1 = true := code_word (m := ⟨11, 2⟩) (meth := k11m2) (c := k11c2) (by decide +kernel) rfl rfl rfl (by decide +kernel)
set_option maxRecDepth 65536 in
theorem w_c9 : (Jvm.Cond.code ({ cls := "java/util/ArrayList", name := "grow", desc := "(I)[Ljava/lang/Object;" } : Jvm.MethodName) jdk_38_method_6_code (4 : Nat) (Option.some (Jvm.ClassFile.FieldType.array (Jvm.ClassFile.FieldType.object "java/lang/Object")))).before args0 about1 = true := code_word (m := ⟨11, 1⟩) (meth := k11m1) (c := k11c1) (by decide +kernel) rfl rfl rfl (by decide +kernel)
set_option maxRecDepth 65536 in
theorem w_c10 : (Jvm.Cond.code ({ cls := "java/lang/Math", name := "max", desc := "(II)I" } : Jvm.MethodName) jdk_29_method_65_code (2 : Nat) (Option.some Jvm.ClassFile.FieldType.int)).before args0 about1 = true := code_word (m := ⟨18, 1⟩) (meth := k18m1) (c := k18c1) (by decide +kernel) rfl rfl rfl (by decide +kernel)
set_option maxRecDepth 65536 in
theorem w_c11 : (Jvm.Cond.code ({ cls := "com/example/waitsfor/waitsfor/WaitEqualsPinLaw", name := "mode", desc := "(I)Lcom/example/waitsfor/waitsfor/RowLockMode;" } : Jvm.MethodName) method_2_code (2 : Nat) (Option.some (Jvm.ClassFile.FieldType.object "com/example/waitsfor/waitsfor/RowLockMode"))).before args0 about1 = true := code_word (m := ⟨1, 1⟩) (meth := k1m1) (c := k1c1) (by decide +kernel) rfl rfl rfl (by decide +kernel)
set_option maxRecDepth 65536 in
theorem w_c12 : (Jvm.Cond.code ({ cls := "com/example/waitsfor/waitsfor/Wait", name := "<init>", desc := "(JJIJLcom/example/waitsfor/waitsfor/LockTarget;Lcom/example/waitsfor/waitsfor/RowLockMode;Ljava/util/List;I)V" } : Jvm.MethodName) prog_94_method_2_code (12 : Nat) (Option.none : Option Jvm.ClassFile.FieldType)).before args0 about1 = true := code_word (m := ⟨19, 0⟩) (meth := k19m0) (c := k19c0) (by decide +kernel) rfl rfl rfl (by decide +kernel)
set_option maxRecDepth 65536 in
theorem w_c13 : (Jvm.Cond.code ({ cls := "com/example/waitsfor/waitsfor/Wait", name := "<init>", desc := "(JJJIJLcom/example/waitsfor/waitsfor/LockTarget;Lcom/example/waitsfor/waitsfor/RowLockMode;Ljava/util/List;ILcom/example/waitsfor/waitsfor/HeldLocks;)V" } : Jvm.MethodName) prog_94_method_3_code (15 : Nat) (Option.none : Option Jvm.ClassFile.FieldType)).before args0 about1 = true := code_word (m := ⟨19, 1⟩) (meth := k19m1) (c := k19c1) (by decide +kernel) rfl rfl rfl (by decide +kernel)
set_option maxRecDepth 65536 in
theorem w_c14 : (Jvm.Cond.code ({ cls := "com/example/waitsfor/waitsfor/Wait", name := "equals", desc := "(Ljava/lang/Object;)Z" } : Jvm.MethodName) prog_94_method_21_code (3 : Nat) (Option.some Jvm.ClassFile.FieldType.boolean)).before args0 about1 = true := code_word (m := ⟨19, 2⟩) (meth := k19m2) (c := k19c2) (by decide +kernel) rfl rfl rfl (by decide +kernel)
set_option maxRecDepth 65536 in
theorem w_c15 : (Jvm.Cond.code ({ cls := "java/lang/Long", name := "<init>", desc := "(J)V" } : Jvm.MethodName) jdk_35_method_26_code (3 : Nat) (Option.none : Option Jvm.ClassFile.FieldType)).before args0 about1 = true := code_word (m := ⟨16, 1⟩) (meth := k16m1) (c := k16c1) (by decide +kernel) rfl rfl rfl (by decide +kernel)
set_option maxRecDepth 65536 in
theorem w_c16 : (Jvm.Cond.code ({ cls := "java/lang/Number", name := "<init>", desc := "()V" } : Jvm.MethodName) jdk_18_method_1_code (1 : Nat) (Option.none : Option Jvm.ClassFile.FieldType)).before args0 about1 = true := code_word (m := ⟨12, 0⟩) (meth := k12m0) (c := k12c0) (by decide +kernel) rfl rfl rfl (by decide +kernel)
set_option maxRecDepth 65536 in
theorem w_c17 : (Jvm.Cond.code ({ cls := "java/util/ArrayList", name := "size", desc := "()I" } : Jvm.MethodName) jdk_38_method_8_code (1 : Nat) (Option.some Jvm.ClassFile.FieldType.int)).before args0 about1 = true := code_word (m := ⟨11, 3⟩) (meth := k11m3) (c := k11c3) (by decide +kernel) rfl rfl rfl (by decide +kernel)
def codes1 : List Jvm.Cond := [Jvm.Cond.code x code maxLocals ret, Jvm.Cond.code ({ cls := "java/util/ArrayList", name := "<init>", desc := "()V" } : Jvm.MethodName) jdk_38_method_2_code (1 : Nat) (Option.none : Option Jvm.ClassFile.FieldType), Jvm.Cond.code ({ cls := "java/util/AbstractList", name := "<init>", desc := "()V" } : Jvm.MethodName) jdk_39_method_1_code (1 : Nat) (Option.none : Option Jvm.ClassFile.FieldType), Jvm.Cond.code ({ cls := "java/util/AbstractCollection", name := "<init>", desc := "()V" } : Jvm.MethodName) jdk_22_method_1_code (1 : Nat) (Option.none : Option Jvm.ClassFile.FieldType), Jvm.Cond.code ({ cls := "java/lang/Object", name := "<init>", desc := "()V" } : Jvm.MethodName) object_method_1_code (1 : Nat) (Option.none : Option Jvm.ClassFile.FieldType), Jvm.Cond.code ({ cls := "java/lang/Long", name := "valueOf", desc := "(J)Ljava/lang/Long;" } : Jvm.MethodName) jdk_35_method_24_code (3 : Nat) (Option.some (Jvm.ClassFile.FieldType.object "java/lang/Long")), Jvm.Cond.code ({ cls := "java/util/ArrayList", name := "add", desc := "(Ljava/lang/Object;)Z" } : Jvm.MethodName) jdk_38_method_25_code (2 : Nat) (Option.some Jvm.ClassFile.FieldType.boolean), Jvm.Cond.code ({ cls := "java/util/ArrayList", name := "add", desc := "(Ljava/lang/Object;[Ljava/lang/Object;I)V" } : Jvm.MethodName) jdk_38_method_24_code (4 : Nat) (Option.none : Option Jvm.ClassFile.FieldType), Jvm.Cond.code ({ cls := "java/util/ArrayList", name := "grow", desc := "()[Ljava/lang/Object;" } : Jvm.MethodName) jdk_38_method_7_code (1 : Nat) (Option.some (Jvm.ClassFile.FieldType.array (Jvm.ClassFile.FieldType.object "java/lang/Object"))), Jvm.Cond.code ({ cls := "java/util/ArrayList", name := "grow", desc := "(I)[Ljava/lang/Object;" } : Jvm.MethodName) jdk_38_method_6_code (4 : Nat) (Option.some (Jvm.ClassFile.FieldType.array (Jvm.ClassFile.FieldType.object "java/lang/Object"))), Jvm.Cond.code ({ cls := "java/lang/Math", name := "max", desc := "(II)I" } : Jvm.MethodName) jdk_29_method_65_code (2 : Nat) (Option.some Jvm.ClassFile.FieldType.int), Jvm.Cond.code ({ cls := "com/example/waitsfor/waitsfor/WaitEqualsPinLaw", name := "mode", desc := "(I)Lcom/example/waitsfor/waitsfor/RowLockMode;" } : Jvm.MethodName) method_2_code (2 : Nat) (Option.some (Jvm.ClassFile.FieldType.object "com/example/waitsfor/waitsfor/RowLockMode")), Jvm.Cond.code ({ cls := "com/example/waitsfor/waitsfor/Wait", name := "<init>", desc := "(JJIJLcom/example/waitsfor/waitsfor/LockTarget;Lcom/example/waitsfor/waitsfor/RowLockMode;Ljava/util/List;I)V" } : Jvm.MethodName) prog_94_method_2_code (12 : Nat) (Option.none : Option Jvm.ClassFile.FieldType), Jvm.Cond.code ({ cls := "com/example/waitsfor/waitsfor/Wait", name := "<init>", desc := "(JJJIJLcom/example/waitsfor/waitsfor/LockTarget;Lcom/example/waitsfor/waitsfor/RowLockMode;Ljava/util/List;ILcom/example/waitsfor/waitsfor/HeldLocks;)V" } : Jvm.MethodName) prog_94_method_3_code (15 : Nat) (Option.none : Option Jvm.ClassFile.FieldType), Jvm.Cond.code ({ cls := "com/example/waitsfor/waitsfor/Wait", name := "equals", desc := "(Ljava/lang/Object;)Z" } : Jvm.MethodName) prog_94_method_21_code (3 : Nat) (Option.some Jvm.ClassFile.FieldType.boolean), Jvm.Cond.code ({ cls := "java/lang/Long", name := "<init>", desc := "(J)V" } : Jvm.MethodName) jdk_35_method_26_code (3 : Nat) (Option.none : Option Jvm.ClassFile.FieldType), Jvm.Cond.code ({ cls := "java/lang/Number", name := "<init>", desc := "()V" } : Jvm.MethodName) jdk_18_method_1_code (1 : Nat) (Option.none : Option Jvm.ClassFile.FieldType), Jvm.Cond.code ({ cls := "java/util/ArrayList", name := "size", desc := "()I" } : Jvm.MethodName) jdk_38_method_8_code (1 : Nat) (Option.some Jvm.ClassFile.FieldType.int)]
set_option maxRecDepth 65536 in
theorem codes_eq : words1.filter isCode = codes1 := rfl
theorem w_codes : ∀ c ∈ words1.filter isCode, c.before args0 about1 = true := by
  rw [codes_eq]
  intro c hc
  simp only [codes1, List.mem_cons, List.not_mem_nil, or_false] at hc
  rcases hc with rfl | rfl | rfl | rfl | rfl | rfl | rfl | rfl | rfl | rfl | rfl | rfl | rfl | rfl | rfl | rfl | rfl | rfl
  · exact w_c0
  · exact w_c1
  · exact w_c2
  · exact w_c3
  · exact w_c4
  · exact w_c5
  · exact w_c6
  · exact w_c7
  · exact w_c8
  · exact w_c9
  · exact w_c10
  · exact w_c11
  · exact w_c12
  · exact w_c13
  · exact w_c14
  · exact w_c15
  · exact w_c16
  · exact w_c17
set_option maxRecDepth 65536 in
theorem w_t1 : (words1.take 24).all (fun c => isCode c || c.before args0 about1) = true := by decide +kernel
set_option maxRecDepth 65536 in
theorem w_t2 : ((words1.drop 24).take 24).all (fun c => isCode c || c.before args0 about1) = true := by decide +kernel
set_option maxRecDepth 65536 in
theorem w_t3 : (((words1.drop 24).drop 24).take 24).all (fun c => isCode c || c.before args0 about1) = true := by decide +kernel
set_option maxRecDepth 65536 in
theorem w_t4 : ((((words1.drop 24).drop 24).drop 24).take 24).all (fun c => isCode c || c.before args0 about1) = true := by decide +kernel
set_option maxRecDepth 65536 in
theorem w_t5 : (((((words1.drop 24).drop 24).drop 24).drop 24).take 24).all (fun c => isCode c || c.before args0 about1) = true := by decide +kernel
set_option maxRecDepth 65536 in
theorem w_t6 : ((((((words1.drop 24).drop 24).drop 24).drop 24).drop 24).take 24).all (fun c => isCode c || c.before args0 about1) = true := by decide +kernel
set_option maxRecDepth 65536 in
theorem w_t7 : ((((((words1.drop 24).drop 24).drop 24).drop 24).drop 24).drop 24).all (fun c => isCode c || c.before args0 about1) = true := by decide +kernel
theorem w_tables : (allAtoms (Jvm.Cond.code x code maxLocals ret :: tables_1)).before args0 about1 = true := by
  rw [allAtoms_all]
  show words1.all (fun c => c.before args0 about1) = true
  refine all_split ?_ w_codes
  rw [← List.take_append_drop 24 words1, List.all_append, w_t1, ← List.take_append_drop 24 (words1.drop 24), List.all_append, w_t2, ← List.take_append_drop 24 ((words1.drop 24).drop 24), List.all_append, w_t3, ← List.take_append_drop 24 (((words1.drop 24).drop 24).drop 24), List.all_append, w_t4, ← List.take_append_drop 24 ((((words1.drop 24).drop 24).drop 24).drop 24), List.all_append, w_t5, ← List.take_append_drop 24 (((((words1.drop 24).drop 24).drop 24).drop 24).drop 24), List.all_append, w_t6, w_t7]
  rfl
set_option maxRecDepth 65536 in
theorem w_rest : rest_1_c.before args0 about1 = true := by decide +kernel
set_option maxRecDepth 65536 in
theorem w_case : (Jvm.Cond.and given_1 narrow_1).before args0 about1 = true := by decide +kernel
theorem w_applies : (headSpec (Jvm.Cond.code x code maxLocals ret :: tables_1) room_1).applies x e0.platform about1 = true :=
  (Spec.applies_iff w_frames).mpr ⟨w_running, w_runnable, w_alone, w_named, w_hears, w_ripe, w_room, w_tables⟩
theorem atStart : AtStart classFile x code maxLocals ret World_1 tables_1 room_1 Calls_1 rest_1 Pre_1 launch0 p0 e0 about1 theMethod args0 below0 :=
  ⟨lists_1, trivial, launch0.admits_env _ _ _, launch0.least_env, fairChoices_fair.cas, fairChoices_fair.clock, w_frames, w_args, w_heap, w_applies, trivial, w_rest, w_case⟩
end start1
theorem witness_1 : WitnessClaimed_1 := ⟨start1.p0, start1.e0, start1.about1, start1.theMethod, start1.args0, start1.below0, start1.atStart⟩
end Jvm.Pilot.@@N@@
