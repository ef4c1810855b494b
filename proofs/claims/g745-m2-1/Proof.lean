import JvmDerived
import JvmDerived.Pilot.@@N@@Statement
import JvmDerived.Pilot.@@N@@Code
set_option linter.unusedVariables false
set_option linter.unusedSimpArgs false
namespace Jvm.OwnKit
open Sem ClassFile Op Lib Jvm.Stand Jvm.Free Jvm.LawKit Jvm.RoadKit
/-- from the state A the run comes to an end as the contract asks it -/
def OwnEnd (p : Program) (e : Env) (below : List Frame) (s : State) (Q : Option Value → Heap → List Loc → Prop) (kc ks : Nat) (A : State) : Prop :=
  ∃ (s₂ : State) (o : Outcome), Steps p.tables e below A s₂ ∧ s₂.status = .running ∧ Ended s₂ below o ∧ ∃ v L, o = .returned v ∧ Q v s₂.heap L ∧ FrameEnd s o s₂ L kc ks
section Own
variable {p : Program} {l : Launch} {e : Env} {R : Room} {s : State} {m : MethodId} {args : Array Value} {below : List Frame} {meth : Method} {c : Code} {T : State} {locs : List Loc} {cells slots : Nat} {Z : State} {a0 : Array Value} {h : Heap}
variable {Q : Option Value → Heap → List Loc → Prop} {kc ks : Nat}
theorem go {A B : State} (k : ∀ t, Steps p.tables e below B t → Steps p.tables e below A t) (F : OwnEnd p e below s Q kc ks B) : OwnEnd p e below s Q kc ks A := by
  obtain ⟨s₂, o, h1, r⟩ := F; exact ⟨s₂, o, k _ h1, r⟩
theorem up {cells' slots' : Nat} (X : Stand p l e R s m args below meth c T locs cells slots) (h1 : cells ≤ cells') (h2 : slots ≤ slots') : Stand p l e R s m args below meth c T locs cells' slots' :=
  ⟨X.admits, X.cas, X.clock, X.frames, X.room, X.hears, X.method, X.code, X.here, X.tail, X.warmed, X.limits, X.bytes, X.same.mono h1 h2⟩
theorem done (X : Stand p l e R s m args below meth c T locs cells slots) (hlk : meth.locks = false) {v : Option Value} (hv : meth.sig.returnType = none → v = none) {A : State}
    (st : ∀ fs, (∀ (f : JFrame) (acts : List Action), f.method = m → f.locked = none → f.entered = [] → (doReturn e (T.setTop f) acts v).1 = T.setFrames fs) → Steps p.tables e below A (T.setFrames fs))
    (eT : T.heap = h) (hk : cells ≤ kc) (hs : slots ≤ ks) (hQ : Q v h locs) : OwnEnd p e below s Q kc ks A := by
  obtain ⟨fs, hr, hrun, hended, hW, hsame⟩ := X.leave (v := v) hv hlk
  exact ⟨_, _, st fs hr, hrun, hended, _, _, rfl, (by show Q v T.heap locs; rw [eT]; exact hQ), ⟨_, rfl⟩, hW, hsame.mono hk hs⟩
theorem endI (X : Stand p l e R s m args below meth c T locs cells slots) (hx : p.tables.exec = Jvm.exec) (hlk : meth.locks = false) (hret : meth.sig.returnType = some .int) {pc : Nat} {Ls : Array Slot} {z : Int32} {rest : List Value} (hd : decode c.code pc = .ok (.ireturn, 1))
    (eT : T.heap = h) (hk : cells ≤ kc) (hs : slots ≤ ks) (hQ : Q (some (.int z)) h locs) : OwnEnd p e below s Q kc ks (T.setTop (mkF m pc Ls (.int z :: rest))) :=
  done X hlk (fun q => by rw [hret] at q; cases q) (fun fs hr => retOut X hx (w := .int z) hret rfl (Or.inl ⟨rfl, Or.inl rfl, z, rfl⟩) hd hr) eT hk hs hQ
theorem endN (X : Stand p l e R s m args below meth c T locs cells slots) (hx : p.tables.exec = Jvm.exec) (hlk : meth.locks = false) {t : FieldType} (ht : t = .boolean ∨ t = .byte ∨ t = .char ∨ t = .short) (hret : meth.sig.returnType = some t) {pc : Nat} {Ls : Array Slot} {z : Int32} {rest : List Value} (hd : decode c.code pc = .ok (.ireturn, 1))
    (eT : T.heap = h) (hk : cells ≤ kc) (hs : slots ≤ ks) (hQ : Q (some (.int (nar t z))) h locs) : OwnEnd p e below s Q kc ks (T.setTop (mkF m pc Ls (.int z :: rest))) :=
  done X hlk (fun q => by rw [hret] at q; cases q) (fun fs hr => retN X hx hret ht hd hr) eT hk hs hQ
theorem endJ (X : Stand p l e R s m args below meth c T locs cells slots) (hx : p.tables.exec = Jvm.exec) (hlk : meth.locks = false) (hret : meth.sig.returnType = some .long) {pc : Nat} {Ls : Array Slot} {z : Int64} {rest : List Value} (hd : decode c.code pc = .ok (.lreturn, 1))
    (eT : T.heap = h) (hk : cells ≤ kc) (hs : slots ≤ ks) (hQ : Q (some (.long z)) h locs) : OwnEnd p e below s Q kc ks (T.setTop (mkF m pc Ls (.long z :: rest))) :=
  done X hlk (fun q => by rw [hret] at q; cases q) (fun fs hr => retOut X hx (w := .long z) hret rfl (Or.inr (Or.inl ⟨rfl, rfl, z, rfl⟩)) hd hr) eT hk hs hQ
theorem endA (X : Stand p l e R s m args below meth c T locs cells slots) (hx : p.tables.exec = Jvm.exec) (hlk : meth.locks = false) {t : FieldType} (hret : meth.sig.returnType = some t) (ht : t.isReference = true) {pc : Nat} {Ls : Array Slot} {w : Value} (hw : w.isRef = true) {rest : List Value} (hd : decode c.code pc = .ok (.areturn, 1))
    (eT : T.heap = h) (hk : cells ≤ kc) (hs : slots ≤ ks) (hQ : Q (some w) h locs) : OwnEnd p e below s Q kc ks (T.setTop (mkF m pc Ls (w :: rest))) :=
  done X hlk (fun q => by rw [hret] at q; cases q) (fun fs hr => retOut X hx (w := w) hret (by cases t <;> first | rfl | cases ht) (Or.inr (Or.inr (Or.inr (Or.inr ⟨rfl, ht, hw⟩)))) hd hr) eT hk hs hQ
theorem endV (X : Stand p l e R s m args below meth c T locs cells slots) (hx : p.tables.exec = Jvm.exec) (hlk : meth.locks = false) (hret : meth.sig.returnType = none) {pc : Nat} {Ls : Array Slot} (hd : decode c.code pc = .ok (.return_, 1))
    (eT : T.heap = h) (hk : cells ≤ kc) (hs : slots ≤ ks) (hQ : Q none h locs) : OwnEnd p e below s Q kc ks (T.setTop (mkF m pc Ls [])) :=
  done X hlk (fun _ => rfl) (fun fs hr => X.returnOut hx hret hd hr) eT hk hs hQ
theorem nar01 {P : Prop} [Decidable P] : nar .boolean (if P then (1 : Int32) else 0) = if P then (1 : Int32) else 0 := by split <;> rfl
section Call
variable {own : String} {index : Nat} {y z : MethodName} {bytes : ByteArray} {maxL W : Nat} {ret : Option FieldType} {rm : Room} {as' : Array Value} {Qc : Option Value → Heap → List Loc → Prop} {g : JFrame} {argsL rest : List Value}
theorem callStat (X : Stand p l e R s m args below meth c T locs cells slots) (hx : p.tables.exec = Jvm.exec) (hZ : Z.Warmed39 s.vm) (hown : s.vm.findClass own = some m.cls)
    (w1 : (Cond.methodLink own index y).before a0 Z = true) (w2 : (Cond.static y).before a0 Z = true) (w3 : (Cond.initialized y.cls).before a0 Z = true) (w4 : (Cond.code y bytes maxL ret).before a0 Z = true)
    (hy : y.cls ≠ "java/lang/invoke/MethodHandle" ∧ y.cls ≠ "java/lang/invoke/VarHandle")
    (hM : MetFree l y (head1 [Cond.code y bytes maxL ret] rm) (fun a U => a = as' ∧ Z.Warmed39 U.vm ∧ U.heap = h) (fun _ _ _ _ _ => True) (fun _ U o U' => ∃ v L, o = .returned v ∧ Qc v U'.heap L ∧ FrameEnd U o U' L rm.cells rm.slots))
    (hf : rm.frames + 1 ≤ R.frames) (hl : W + (maxL + 11) + rm.locals ≤ R.locals) (eT : T.heap = h) (hg : g.method = m) (hsize : g.locals.size = c.maxLocals) (ha : argsL.toArray = as')
    (hlen : ∀ sig, parseMethodDescriptor y.desc = some sig → argsL.length = sig.parameters.length) (hstack : g.stack = argsL.reverse ++ rest) (hW : 2 * g.monitorRoom + (rest.map fun v => v.category).sum ≤ W) (hdg : decode c.code g.pc = .ok (.invokestatic index, 3))
    (hc : cells + rm.cells ≤ R.cells) (hs : slots + rm.slots ≤ R.slots) :
    ∃ (v : Option Value) (T' : State) (L : List Loc), Stand p l e R s m args below meth c T' (locs ++ L) (cells + rm.cells) (slots + rm.slots) ∧ Qc v T'.heap L ∧ ∀ target, Steps p.tables e below (T'.setTop { g with pc := g.pc + 3, stack := v.toList ++ rest }) target → Steps p.tables e below (T.setTop g) target := by
  obtain ⟨v, _, ⟨T', L', k', n'⟩, -, X', ⟨L, hQ, l1, l2, l3⟩, st⟩ := Jvm.LawKit.callS X hx hown (mvT hZ w1) (mvT hZ w2) (mvT hZ w3) (mvT hZ w4) hy (backOf (W := W) hM hZ w4 w3 hf hl) (g := g) hg hsize (argsL := argsL) (rest := rest) hlen hstack hW hdg (fun _ _ => ⟨ha, eT, hc, hs⟩)
  dsimp only [Pt.U, Pt.locs, Pt.cells, Pt.slots] at X' l1 l2 l3 st hQ
  subst l1 l2 l3
  exact ⟨v, T', L, X', hQ, st⟩
theorem callInit (X : Stand p l e R s m args below meth c T locs cells slots) (hx : p.tables.exec = Jvm.exec) (hZ : Z.Warmed39 s.vm) (hown : s.vm.findClass own = some m.cls) (hy1 : y.name = "<init>")
    (w1 : (Cond.methodLink own index y).before a0 Z = true) (w2 : (Cond.instanceMethod y).before a0 Z = true) (w3 : (Cond.initialized y.cls).before a0 Z = true) (w4 : (Cond.code y bytes maxL none).before a0 Z = true)
    (hy : y.cls ≠ "java/lang/invoke/MethodHandle" ∧ y.cls ≠ "java/lang/invoke/VarHandle")
    (hM : MetFree l y (head1 [Cond.code y bytes maxL none] rm) (fun a U => a = as' ∧ Z.Warmed39 U.vm ∧ U.heap = h) (fun _ _ _ _ _ => True) (fun _ U o U' => ∃ v L, o = .returned v ∧ Qc v U'.heap L ∧ FrameEnd U o U' L rm.cells rm.slots))
    (hf : rm.frames + 1 ≤ R.frames) (hl : W + (maxL + 11) + rm.locals ≤ R.locals) (eT : T.heap = h) (hg : g.method = m) (hsize : g.locals.size = c.maxLocals) {a : Addr} (ha : (Value.ref a :: argsL).toArray = as')
    (hlen : ∀ sig, parseMethodDescriptor y.desc = some sig → argsL.length = sig.parameters.length) (hstack : g.stack = argsL.reverse ++ .ref a :: rest) (hW : 2 * g.monitorRoom + (rest.map fun v => v.category).sum ≤ W) (hdg : decode c.code g.pc = .ok (.invokespecial index, 3))
    (hc : cells + rm.cells ≤ R.cells) (hs : slots + rm.slots ≤ R.slots) :
    ∃ (v : Option Value) (T' : State) (L : List Loc), Stand p l e R s m args below meth c T' (locs ++ L) (cells + rm.cells) (slots + rm.slots) ∧ Qc v T'.heap L ∧ ∀ target, Steps p.tables e below (T'.setTop { g with pc := g.pc + 3, stack := v.toList ++ rest }) target → Steps p.tables e below (T.setTop g) target := by
  obtain ⟨v, _, ⟨T', L', k', n'⟩, -, X', ⟨L, hQ, l1, l2, l3⟩, st⟩ := X.specialBack hx hy1 hown (mvT hZ w1) (mvT hZ w2) (mvT hZ w4) hy (backOf (W := W) hM hZ w4 w3 hf hl) (g := g) hg hsize (Steps.refl _) (a := a) (argsL := argsL) (rest := rest) hlen hstack hW hdg (fun _ _ => ⟨ha, eT, hc, hs⟩)
  dsimp only [Pt.U, Pt.locs, Pt.cells, Pt.slots] at X' l1 l2 l3 st hQ
  subst l1 l2 l3
  exact ⟨v, T', L, X', hQ, fun _ k => st.trans k⟩
theorem callVirt (X : Stand p l e R s m args below meth c T locs cells slots) (hx : p.tables.exec = Jvm.exec) (hZ : Z.Warmed39 s.vm) (hown : s.vm.findClass own = some m.cls) {C : String}
    (w1 : (Cond.methodLink own index y).before a0 Z = true) (w2 : (Cond.declares y).before a0 Z = true) (hnf : NotFace s y) (w3 : (Cond.selects C y z).before a0 Z = true) (w5 : (Cond.instanceMethod z).before a0 Z = true) (w6 : (Cond.initialized z.cls).before a0 Z = true) (w4 : (Cond.code z bytes maxL ret).before a0 Z = true)
    (hy : y.cls ≠ "java/lang/invoke/MethodHandle" ∧ y.cls ≠ "java/lang/invoke/VarHandle")
    (hM : MetFree l z (head1 [Cond.code z bytes maxL ret] rm) (fun a U => a = as' ∧ Z.Warmed39 U.vm ∧ U.heap = h) (fun _ _ _ _ _ => True) (fun _ U o U' => ∃ v L, o = .returned v ∧ Qc v U'.heap L ∧ FrameEnd U o U' L rm.cells rm.slots))
    (hf : rm.frames + 1 ≤ R.frames) (hl : W + (maxL + 11) + rm.locals ≤ R.locals) (eT : T.heap = h) {a : Addr} (E : Exa Z h a C) (hg : g.method = m) (hsize : g.locals.size = c.maxLocals) (ha : (Value.ref a :: argsL).toArray = as')
    (hlen : ∀ sig, parseMethodDescriptor y.desc = some sig → argsL.length = sig.parameters.length) (hstack : g.stack = argsL.reverse ++ .ref a :: rest) (hW : 2 * g.monitorRoom + (rest.map fun v => v.category).sum ≤ W) (hdg : decode c.code g.pc = .ok (.invokevirtual index, 3))
    (hc : cells + rm.cells ≤ R.cells) (hs : slots + rm.slots ≤ R.slots) :
    ∃ (v : Option Value) (T' : State) (L : List Loc), Stand p l e R s m args below meth c T' (locs ++ L) (cells + rm.cells) (slots + rm.slots) ∧ Qc v T'.heap L ∧ ∀ target, Steps p.tables e below (T'.setTop { g with pc := g.pc + 3, stack := v.toList ++ rest }) target → Steps p.tables e below (T.setTop g) target := by
  obtain ⟨cq, kq, q1, q2, q3⟩ := isOf hZ eT E
  obtain ⟨v, _, ⟨T', L', k', n'⟩, -, X', ⟨L, hQ, l1, l2, l3⟩, st⟩ := X.virtualBack hx hown (mvT hZ w1) (mvT hZ w2) hnf (mvT hZ w3) (mvT hZ w5) hy (backOf (W := W) hM hZ w4 w6 hf hl) q1 q3 (g := g) hg hsize (Steps.refl _) (argsL := argsL) (rest := rest) hlen hstack hW hdg (fun _ _ => ⟨ha, eT, hc, hs⟩)
  dsimp only [Pt.U, Pt.locs, Pt.cells, Pt.slots] at X' l1 l2 l3 st hQ
  subst l1 l2 l3
  exact ⟨v, T', L, X', hQ, fun _ k => st.trans k⟩
theorem callUp (X : Stand p l e R s m args below meth c T locs cells slots) (hx : p.tables.exec = Jvm.exec) (hZ : Z.Warmed39 s.vm) (hown : s.vm.findClass own = some m.cls) {C owner : String}
    (w1 : (Cond.methodLink own index y).before a0 Z = true) (w0 : (Cond.sameMethod y.cls owner y.name y.desc).before a0 Z = true) (w2 : (Cond.declares ⟨owner, y.name, y.desc⟩).before a0 Z = true) (ho : owner ≠ "java/lang/invoke/MethodHandle" ∧ owner ≠ "java/lang/invoke/VarHandle")
    (w3 : (Cond.selects C y z).before a0 Z = true) (w5 : (Cond.instanceMethod z).before a0 Z = true) (w6 : (Cond.initialized z.cls).before a0 Z = true) (w4 : (Cond.code z bytes maxL ret).before a0 Z = true)
    (hM : MetFree l z (head1 [Cond.code z bytes maxL ret] rm) (fun a U => a = as' ∧ Z.Warmed39 U.vm ∧ U.heap = h) (fun _ _ _ _ _ => True) (fun _ U o U' => ∃ v L, o = .returned v ∧ Qc v U'.heap L ∧ FrameEnd U o U' L rm.cells rm.slots))
    (hf : rm.frames + 1 ≤ R.frames) (hl : W + (maxL + 11) + rm.locals ≤ R.locals) (eT : T.heap = h) {a : Addr} (E : Exa Z h a C) (hg : g.method = m) (hsize : g.locals.size = c.maxLocals) (ha : (Value.ref a :: argsL).toArray = as')
    (hlen : ∀ sig, parseMethodDescriptor y.desc = some sig → argsL.length = sig.parameters.length) (hstack : g.stack = argsL.reverse ++ .ref a :: rest) (hW : 2 * g.monitorRoom + (rest.map fun v => v.category).sum ≤ W) (hdg : decode c.code g.pc = .ok (.invokevirtual index, 3))
    (hc : cells + rm.cells ≤ R.cells) (hs : slots + rm.slots ≤ R.slots) :
    ∃ (v : Option Value) (T' : State) (L : List Loc), Stand p l e R s m args below meth c T' (locs ++ L) (cells + rm.cells) (slots + rm.slots) ∧ Qc v T'.heap L ∧ ∀ target, Steps p.tables e below (T'.setTop { g with pc := g.pc + 3, stack := v.toList ++ rest }) target → Steps p.tables e below (T.setTop g) target := by
  obtain ⟨cq, kq, q1, q2, q3⟩ := isOf hZ eT E
  obtain ⟨v, _, ⟨T', L', k', n'⟩, -, X', ⟨L, hQ, l1, l2, l3⟩, st⟩ := X.virtualBackUp hx hown (mvT hZ w1) (mvT hZ w0) (mvT hZ w2) ho (mvT hZ w3) (mvT hZ w5) (backOf (W := W) hM hZ w4 w6 hf hl) q1 q3 (g := g) hg hsize (Steps.refl _) (argsL := argsL) (rest := rest) hlen hstack hW hdg (fun _ _ => ⟨ha, eT, hc, hs⟩)
  dsimp only [Pt.U, Pt.locs, Pt.cells, Pt.slots] at X' l1 l2 l3 st hQ
  subst l1 l2 l3
  exact ⟨v, T', L, X', hQ, fun _ k => st.trans k⟩
theorem callPriv (X : Stand p l e R s m args below meth c T locs cells slots) (hx : p.tables.exec = Jvm.exec) (hZ : Z.Warmed39 s.vm) (hown : s.vm.findClass own = some m.cls) {C : String} {kk : Nat}
    (w1 : (Cond.methodLink own index y).before a0 Z = true) (w2 : (Cond.instanceMethod y).before a0 Z = true) (wp : (Cond.privateMethod y).before a0 Z = true) (wi : (Cond.instantiable y.cls kk).before a0 Z = true) (w6 : (Cond.initialized y.cls).before a0 Z = true) (w4 : (Cond.code y bytes maxL ret).before a0 Z = true)
    (hy : y.cls ≠ "java/lang/invoke/MethodHandle" ∧ y.cls ≠ "java/lang/invoke/VarHandle")
    (hM : MetFree l y (head1 [Cond.code y bytes maxL ret] rm) (fun a U => a = as' ∧ Z.Warmed39 U.vm ∧ U.heap = h) (fun _ _ _ _ _ => True) (fun _ U o U' => ∃ v L, o = .returned v ∧ Qc v U'.heap L ∧ FrameEnd U o U' L rm.cells rm.slots))
    (hf : rm.frames + 1 ≤ R.frames) (hl : W + (maxL + 11) + rm.locals ≤ R.locals) (eT : T.heap = h) {a : Addr} (E : Exa Z h a C) (hg : g.method = m) (hsize : g.locals.size = c.maxLocals) (ha : (Value.ref a :: argsL).toArray = as')
    (hlen : ∀ sig, parseMethodDescriptor y.desc = some sig → argsL.length = sig.parameters.length) (hstack : g.stack = argsL.reverse ++ .ref a :: rest) (hW : 2 * g.monitorRoom + (rest.map fun v => v.category).sum ≤ W) (hdg : decode c.code g.pc = .ok (.invokevirtual index, 3))
    (hc : cells + rm.cells ≤ R.cells) (hs : slots + rm.slots ≤ R.slots) :
    ∃ (v : Option Value) (T' : State) (L : List Loc), Stand p l e R s m args below meth c T' (locs ++ L) (cells + rm.cells) (slots + rm.slots) ∧ Qc v T'.heap L ∧ ∀ target, Steps p.tables e below (T'.setTop { g with pc := g.pc + 3, stack := v.toList ++ rest }) target → Steps p.tables e below (T.setTop g) target := by
  obtain ⟨c2, k2, i1, i2, -, i4, -⟩ := Cond.instantiable_spec (mvT hZ wi (args := args))
  simp only [Bool.or_eq_false_iff] at i4
  have hpriv := Cond.privateMethod_at (mvP hZ wp (args := args))
  have hsel := selects_self_of_private (args := args) i1 i2 i4.1 hpriv (mvT hZ w2) hy
  obtain ⟨cl, q1, q2⟩ := E.cell
  obtain ⟨v, _, ⟨T', L', k', n'⟩, -, X', ⟨L, hQ, l1, l2, l3⟩, st⟩ := X.privateBack hx hown (mvT hZ w1) (mvT hZ w2) hsel hpriv (mvT hZ w4) hy (backOf (W := W) hM hZ w4 w6 hf hl) (g := g) hg hsize (Steps.refl _) (a := a) (cell := cl) (by rw [eT]; exact q1) q2 (argsL := argsL) (rest := rest) hlen hstack hW hdg (fun _ _ => ⟨ha, eT, hc, hs⟩)
  dsimp only [Pt.U, Pt.locs, Pt.cells, Pt.slots] at X' l1 l2 l3 st hQ
  subst l1 l2 l3
  exact ⟨v, T', L, X', hQ, fun _ k => st.trans k⟩
theorem callFace (X : Stand p l e R s m args below meth c T locs cells slots) (hx : p.tables.exec = Jvm.exec) (hZ : Z.Warmed39 s.vm) (hown : s.vm.findClass own = some m.cls) {C : String} {count : Nat}
    (w1 : (Cond.methodLink own index y).before a0 Z = true) (w2 : (Cond.declares y).before a0 Z = true) (wf : (Cond.interfaceMethod y.cls y.cls y.name y.desc).before args s = true) (w3 : (Cond.selects C y z).before a0 Z = true) (w5 : (Cond.instanceMethod z).before a0 Z = true) (wu : (Cond.publicMethod z).before a0 Z = true) (wh : (Cond.unhidden C y.name y.desc).before a0 Z = true) (wk : (Cond.castable C y.cls).before a0 Z = true) (w6 : (Cond.initialized z.cls).before a0 Z = true) (w4 : (Cond.code z bytes maxL ret).before a0 Z = true)
    (hy : y.cls ≠ "java/lang/invoke/MethodHandle" ∧ y.cls ≠ "java/lang/invoke/VarHandle")
    (hM : MetFree l z (head1 [Cond.code z bytes maxL ret] rm) (fun a U => a = as' ∧ Z.Warmed39 U.vm ∧ U.heap = h) (fun _ _ _ _ _ => True) (fun _ U o U' => ∃ v L, o = .returned v ∧ Qc v U'.heap L ∧ FrameEnd U o U' L rm.cells rm.slots))
    (hf : rm.frames + 1 ≤ R.frames) (hl : W + (maxL + 11) + rm.locals ≤ R.locals) (eT : T.heap = h) {a : Addr} (E : Exa Z h a C) (hg : g.method = m) (hsize : g.locals.size = c.maxLocals) (ha : (Value.ref a :: argsL).toArray = as')
    (hlen : ∀ sig, parseMethodDescriptor y.desc = some sig → argsL.length = sig.parameters.length) (hstack : g.stack = argsL.reverse ++ .ref a :: rest) (hW : 2 * g.monitorRoom + (rest.map fun v => v.category).sum ≤ W) (hdg : decode c.code g.pc = .ok (.invokeinterface index count, 5))
    (hc : cells + rm.cells ≤ R.cells) (hs : slots + rm.slots ≤ R.slots) :
    ∃ (v : Option Value) (T' : State) (L : List Loc), Stand p l e R s m args below meth c T' (locs ++ L) (cells + rm.cells) (slots + rm.slots) ∧ Qc v T'.heap L ∧ ∀ target, Steps p.tables e below (T'.setTop { g with pc := g.pc + 5, stack := v.toList ++ rest }) target → Steps p.tables e below (T.setTop g) target := by
  obtain ⟨cq, kq, q1, q2, q3⟩ := isOf hZ eT E
  obtain ⟨v, _, ⟨T', L', k', n'⟩, -, X', ⟨L, hQ, l1, l2, l3⟩, st⟩ := X.interfaceBack hx hown (mvT hZ w1) (mvT hZ w2) wf (mvT hZ w3) (mvT hZ w5) (mvT hZ wu) (mvT hZ wh) (mvT hZ wk) hy (backOf (W := W) hM hZ w4 w6 hf hl) q1 q2 q3 (g := g) hg hsize (Steps.refl _) (argsL := argsL) (rest := rest) hlen hstack hW hdg (fun _ _ => ⟨ha, eT, hc, hs⟩)
  dsimp only [Pt.U, Pt.locs, Pt.cells, Pt.slots] at X' l1 l2 l3 st hQ
  subst l1 l2 l3
  exact ⟨v, T', L, X', hQ, fun _ k => st.trans k⟩
end Call
/-- an object of C is none of K (K a class that can be made) -/
theorem NSroot {O K : String} {kk : Nat} (w : (Cond.noSuperclass O).before a0 Z = true) (wk : (Cond.instantiable K kk).before a0 Z = true) (hn : O ≠ K) : NS Z O K := by
  obtain ⟨c, k, h1, h2, h3, -, -⟩ := Cond.noSuperclass_spec w
  obtain ⟨t, kt, g1, -⟩ := Cond.instantiable_spec wk
  have ne := ids_ne h1 g1 hn
  refine ⟨c, t, h1, g1, fun fuel => ?_⟩
  cases fuel with
  | zero => rfl
  | succ f => simp [Vm.isSubclassAux, ne, h2, h3]
theorem NSno {C S K : String} {kk : Nat} (w : (Cond.superclass C S).before a0 Z = true) (wk : (Cond.instantiable K kk).before a0 Z = true) (n : NS Z C K) (hn : C ≠ K) : ∃ c t, Z.vm.findClass C = some c ∧ Z.vm.findClass K = some t ∧ Z.vm.assignable c t = false := by
  obtain ⟨c, t, h0, g0, n3⟩ := n
  obtain ⟨p, k, kp, h1, h2, h3, h4, h5, -, h7⟩ := Cond.superclass_spec h0 w
  obtain ⟨t', k', g1, g2, g5, g7, -⟩ := Cond.instantiable_spec wk
  cases g0.symm.trans g1
  simp only [Bool.or_eq_false_iff] at g7
  have ne := ids_ne h0 g0 hn
  refine ⟨c, t, h0, g0, ?_⟩
  show Z.vm.assignableAux (255 + 1) c t = false
  simp [Vm.assignableAux, ne, h2, g2, h5, g5, g7.1, Vm.isSubclass, n3]
end Own
end Jvm.OwnKit
namespace Jvm.OwnKit
open Sem ClassFile Op Lib Jvm.Stand Jvm.Free Jvm.LawKit Jvm.RoadKit
section Arrays
variable {p : Program} {l : Launch} {e : Env} {R : Room} {s : State} {m : MethodId} {args : Array Value} {below : List Frame} {meth : Method} {c : Code} {T : State} {locs : List Loc} {cells slots : Nat} {Z : State} {h : Heap}
variable {a : Addr} {k : ClassId} {z j : Int32} {vs : List Value} {dv : Value} {i : Nat} {g : JFrame} {rest : List Value}
theorem stBv (X : Stand p l e R s m args below meth c T locs cells slots) (hx : p.tables.exec = Jvm.exec) (hZ : Z.Warmed39 s.vm) (eT : T.heap = h) (F : Arv Z h a k .byte z vs dv) {x : Int32} (h1 : ¬ j < 0) (h2 : j < z) (h3 : j.toNatClampNeg = i) (h4 : i < vs.length)
    (hg : g.method = m) (hs : g.stack = .int x :: .int j :: .ref a :: rest) (hd : decode c.code g.pc = .ok (.bastore, 1)) :
    ∃ T' h', Stand p l e R s m args below meth c T' (locs ++ [⟨a, i⟩]) cells slots ∧ T'.heap = h' ∧ Wr h h' a i (.int (nar .byte x)) ∧ Arv Z h' a k .byte z (vs.set i (.int (nar .byte x))) dv ∧ ∀ target, Steps p.tables e below (T'.setTop { g with pc := g.pc + 1, stack := rest }) target → Steps p.tables e below (T.setTop g) target := by
  obtain ⟨cl, A, q1, S, q3, H, G⟩ := F
  subst h3
  obtain ⟨T', h', X', e', W, st⟩ := stB X hx hZ eT A (inb_of S ⟨h1, h2⟩) hg hs hd
  exact ⟨T', h', X', e', W, Arv.set A q1 S q3 H G (fits_nar_byte _) W _ rfl h4, st⟩
theorem stIv (X : Stand p l e R s m args below meth c T locs cells slots) (hx : p.tables.exec = Jvm.exec) (hZ : Z.Warmed39 s.vm) (eT : T.heap = h) (F : Arv Z h a k .int z vs dv) {x : Int32} (h1 : ¬ j < 0) (h2 : j < z) (h3 : j.toNatClampNeg = i) (h4 : i < vs.length)
    (hg : g.method = m) (hs : g.stack = .int x :: .int j :: .ref a :: rest) (hd : decode c.code g.pc = .ok (.iastore, 1)) :
    ∃ T' h', Stand p l e R s m args below meth c T' (locs ++ [⟨a, i⟩]) cells slots ∧ T'.heap = h' ∧ Wr h h' a i (.int x) ∧ Arv Z h' a k .int z (vs.set i (.int x)) dv ∧ ∀ target, Steps p.tables e below (T'.setTop { g with pc := g.pc + 1, stack := rest }) target → Steps p.tables e below (T.setTop g) target := by
  obtain ⟨cl, A, q1, S, q3, H, G⟩ := F
  subst h3
  obtain ⟨T', h', X', e', W, st⟩ := stI X hx hZ eT A (inb_of S ⟨h1, h2⟩) hg hs hd
  exact ⟨T', h', X', e', W, Arv.set A q1 S q3 H G rfl W _ rfl h4, st⟩
theorem stCv (X : Stand p l e R s m args below meth c T locs cells slots) (hx : p.tables.exec = Jvm.exec) (hZ : Z.Warmed39 s.vm) (eT : T.heap = h) (F : Arv Z h a k .char z vs dv) {x : Int32} (h1 : ¬ j < 0) (h2 : j < z) (h3 : j.toNatClampNeg = i) (h4 : i < vs.length)
    (hg : g.method = m) (hs : g.stack = .int x :: .int j :: .ref a :: rest) (hd : decode c.code g.pc = .ok (.castore, 1)) :
    ∃ T' h', Stand p l e R s m args below meth c T' (locs ++ [⟨a, i⟩]) cells slots ∧ T'.heap = h' ∧ Wr h h' a i (.int (nar .char x)) ∧ Arv Z h' a k .char z (vs.set i (.int (nar .char x))) dv ∧ ∀ target, Steps p.tables e below (T'.setTop { g with pc := g.pc + 1, stack := rest }) target → Steps p.tables e below (T.setTop g) target := by
  obtain ⟨cl, A, q1, S, q3, H, G⟩ := F
  subst h3
  obtain ⟨T', h', X', e', W, st⟩ := stC X hx hZ eT A (inb_of S ⟨h1, h2⟩) hg hs hd
  exact ⟨T', h', X', e', W, Arv.set A q1 S q3 H G (fits_nar_char _) W _ rfl h4, st⟩
theorem ldBv (X : Stand p l e R s m args below meth c T locs cells slots) (hx : p.tables.exec = Jvm.exec) (hZ : Z.Warmed39 s.vm) (eT : T.heap = h) (F : Arv Z h a k .byte z vs dv) {w : Int32} (h1 : ¬ j < 0) (h2 : j < z) (h3 : j.toNatClampNeg = i) (hv : vs.getD i dv = .int w)
    (hg : g.method = m) (hs : g.stack = .int j :: .ref a :: rest) (hd : decode c.code g.pc = .ok (.baload, 1)) : ∀ target, Steps p.tables e below (T.setTop { g with pc := g.pc + 1, stack := .int w :: rest }) target → Steps p.tables e below (T.setTop g) target := by
  obtain ⟨cl, A, q1, S, q3, H, G⟩ := F
  subst h3
  exact X.baloadBytes hx (by rw [eT]; exact A.1) (State.isArrayOf_alike hZ.alike A.2.1) A.2.2 (inb_of S ⟨h1, h2⟩) (H.at (inb_of S ⟨h1, h2⟩) hv) hg hs hd
theorem ldIv (X : Stand p l e R s m args below meth c T locs cells slots) (hx : p.tables.exec = Jvm.exec) (hZ : Z.Warmed39 s.vm) (eT : T.heap = h) (F : Arv Z h a k .int z vs dv) {w : Int32} (h1 : ¬ j < 0) (h2 : j < z) (h3 : j.toNatClampNeg = i) (hv : vs.getD i dv = .int w)
    (hg : g.method = m) (hs : g.stack = .int j :: .ref a :: rest) (hd : decode c.code g.pc = .ok (.iaload, 1)) : ∀ target, Steps p.tables e below (T.setTop { g with pc := g.pc + 1, stack := .int w :: rest }) target → Steps p.tables e below (T.setTop g) target := by
  obtain ⟨cl, A, q1, S, q3, H, G⟩ := F
  subst h3
  exact X.iaload hx (by rw [eT]; exact A.1) (State.isArrayOf_alike hZ.alike A.2.1) A.2.2 (inb_of S ⟨h1, h2⟩) (H.at (inb_of S ⟨h1, h2⟩) hv) hg hs hd
theorem ldCv (X : Stand p l e R s m args below meth c T locs cells slots) (hx : p.tables.exec = Jvm.exec) (hZ : Z.Warmed39 s.vm) (eT : T.heap = h) (F : Arv Z h a k .char z vs dv) {w : Int32} (h1 : ¬ j < 0) (h2 : j < z) (h3 : j.toNatClampNeg = i) (hv : vs.getD i dv = .int w)
    (hg : g.method = m) (hs : g.stack = .int j :: .ref a :: rest) (hd : decode c.code g.pc = .ok (.caload, 1)) : ∀ target, Steps p.tables e below (T.setTop { g with pc := g.pc + 1, stack := .int w :: rest }) target → Steps p.tables e below (T.setTop g) target := by
  obtain ⟨cl, A, q1, S, q3, H, G⟩ := F
  subst h3
  exact X.caload hx (by rw [eT]; exact A.1) (State.isArrayOf_alike hZ.alike A.2.1) A.2.2 (inb_of S ⟨h1, h2⟩) (H.at (inb_of S ⟨h1, h2⟩) hv) hg hs hd
theorem stRv {ty : FieldType} {y : Addr} {C : String} (X : Stand p l e R s m args below meth c T locs cells slots) (hx : p.tables.exec = Jvm.exec) (hZ : Z.Warmed39 s.vm) (eT : T.heap = h) (F : Arv Z h a k ty z vs dv) (O : Ovr Z k C) (I : Ins Z h y C true) (hty : ty.isReference = true) (hfit : fits ty (.ref y) = true) (h1 : ¬ j < 0) (h2 : j < z) (h3 : j.toNatClampNeg = i) (h4 : i < vs.length)
    (hg : g.method = m) (hs : g.stack = .ref y :: .int j :: .ref a :: rest) (hd : decode c.code g.pc = .ok (.aastore, 1)) :
    ∃ T' h', Stand p l e R s m args below meth c T' (locs ++ [⟨a, i⟩]) cells slots ∧ T'.heap = h' ∧ Wr h h' a i (.ref y) ∧ Arv Z h' a k ty z (vs.set i (.ref y)) dv ∧ ∀ target, Steps p.tables e below (T'.setTop { g with pc := g.pc + 1, stack := rest }) target → Steps p.tables e below (T.setTop g) target := by
  obtain ⟨cl, A, q1, S, q3, H, G⟩ := F
  subst h3
  obtain ⟨T', h', X', e', W, st⟩ := stR X hx hZ eT A (inb_of S ⟨h1, h2⟩) hty (Sto.ofV A q1 O I) hg hs hd
  exact ⟨T', h', X', e', W, Arv.set A q1 S q3 H G hfit W _ rfl h4, st⟩
theorem stNv {ty : FieldType} (X : Stand p l e R s m args below meth c T locs cells slots) (hx : p.tables.exec = Jvm.exec) (hZ : Z.Warmed39 s.vm) (eT : T.heap = h) (F : Arv Z h a k ty z vs dv) (hty : ty.isReference = true) (hfit : fits ty .null = true) (h1 : ¬ j < 0) (h2 : j < z) (h3 : j.toNatClampNeg = i) (h4 : i < vs.length)
    (hg : g.method = m) (hs : g.stack = .null :: .int j :: .ref a :: rest) (hd : decode c.code g.pc = .ok (.aastore, 1)) :
    ∃ T' h', Stand p l e R s m args below meth c T' (locs ++ [⟨a, i⟩]) cells slots ∧ T'.heap = h' ∧ Wr h h' a i .null ∧ Arv Z h' a k ty z (vs.set i .null) dv ∧ ∀ target, Steps p.tables e below (T'.setTop { g with pc := g.pc + 1, stack := rest }) target → Steps p.tables e below (T.setTop g) target := by
  obtain ⟨cl, A, q1, S, q3, H, G⟩ := F
  subst h3
  obtain ⟨T', h', X', e', W, st⟩ := stR X hx hZ eT A (inb_of S ⟨h1, h2⟩) hty (Or.inl rfl) hg hs hd
  exact ⟨T', h', X', e', W, Arv.set A q1 S q3 H G hfit W _ rfl h4, st⟩
theorem lenV {ty : FieldType} (X : Stand p l e R s m args below meth c T locs cells slots) (hx : p.tables.exec = Jvm.exec) (hZ : Z.Warmed39 s.vm) (eT : T.heap = h) (F : Arv Z h a k ty z vs dv) (hg : g.method = m) (hs : g.stack = .ref a :: rest) (hd : decode c.code g.pc = .ok (.arraylength, 1)) :
    ∀ target, Steps p.tables e below (T.setTop { g with pc := g.pc + 1, stack := .int z :: rest }) target → Steps p.tables e below (T.setTop g) target := by
  obtain ⟨cl, A, q1, S, q3, H, G⟩ := F
  intro target kk
  rw [← len_of S q3] at kk
  exact X.arraylength hx (by rw [eT]; exact A.1) (State.isArrayOf_alike hZ.alike A.2.1) hg hs hd target kk
end Arrays
end Jvm.OwnKit
namespace Jvm.OwnKit
open Sem ClassFile Op Lib Jvm.Stand Jvm.Free Jvm.LawKit Jvm.RoadKit
section ArraysD
variable {p : Program} {l : Launch} {e : Env} {R : Room} {s : State} {m : MethodId} {args : Array Value} {below : List Frame} {meth : Method} {c : Code} {T : State} {locs : List Loc} {cells slots : Nat} {Z : State} {h : Heap} {a0 : Array Value}
variable {a : Addr} {k : ClassId} {z j : Int32} {vs : List Value} {dv : Value} {i : Nat} {g : JFrame} {rest : List Value}
theorem stDv (X : Stand p l e R s m args below meth c T locs cells slots) (hx : p.tables.exec = Jvm.exec) (hZ : Z.Warmed39 s.vm) (eT : T.heap = h) (F : Arv Z h a k .double z vs dv) {x : UInt64} (h1 : ¬ j < 0) (h2 : j < z) (h3 : j.toNatClampNeg = i) (h4 : i < vs.length)
    (hg : g.method = m) (hs : g.stack = .double x :: .int j :: .ref a :: rest) (hd : decode c.code g.pc = .ok (.dastore, 1)) :
    ∃ T' h', Stand p l e R s m args below meth c T' (locs ++ [⟨a, i⟩]) cells slots ∧ T'.heap = h' ∧ Wr h h' a i (.double x) ∧ Arv Z h' a k .double z (vs.set i (.double x)) dv ∧ ∀ target, Steps p.tables e below (T'.setTop { g with pc := g.pc + 1, stack := rest }) target → Steps p.tables e below (T.setTop g) target := by
  obtain ⟨cl, A, q1, S, q3, H, G⟩ := F
  subst h3
  obtain ⟨T', h', X', e', W, st⟩ := stD X hx hZ eT A (inb_of S ⟨h1, h2⟩) hg hs hd
  exact ⟨T', h', X', e', W, Arv.set A q1 S q3 H G rfl W _ rfl h4, st⟩
theorem stJv (X : Stand p l e R s m args below meth c T locs cells slots) (hx : p.tables.exec = Jvm.exec) (hZ : Z.Warmed39 s.vm) (eT : T.heap = h) (F : Arv Z h a k .long z vs dv) {x : Int64} (h1 : ¬ j < 0) (h2 : j < z) (h3 : j.toNatClampNeg = i) (h4 : i < vs.length)
    (hg : g.method = m) (hs : g.stack = .long x :: .int j :: .ref a :: rest) (hd : decode c.code g.pc = .ok (.lastore, 1)) :
    ∃ T' h', Stand p l e R s m args below meth c T' (locs ++ [⟨a, i⟩]) cells slots ∧ T'.heap = h' ∧ Wr h h' a i (.long x) ∧ Arv Z h' a k .long z (vs.set i (.long x)) dv ∧ ∀ target, Steps p.tables e below (T'.setTop { g with pc := g.pc + 1, stack := rest }) target → Steps p.tables e below (T.setTop g) target := by
  obtain ⟨cl, A, q1, S, q3, H, G⟩ := F
  subst h3
  obtain ⟨T', h', X', e', W, st⟩ := stJ X hx hZ eT A (inb_of S ⟨h1, h2⟩) hg hs hd
  exact ⟨T', h', X', e', W, Arv.set A q1 S q3 H G rfl W _ rfl h4, st⟩
theorem ldDv (X : Stand p l e R s m args below meth c T locs cells slots) (hx : p.tables.exec = Jvm.exec) (hZ : Z.Warmed39 s.vm) (eT : T.heap = h) (F : Arv Z h a k .double z vs dv) {w : UInt64} (h1 : ¬ j < 0) (h2 : j < z) (h3 : j.toNatClampNeg = i) (hv : vs.getD i dv = .double w)
    (hg : g.method = m) (hs : g.stack = .int j :: .ref a :: rest) (hd : decode c.code g.pc = .ok (.daload, 1)) : ∀ target, Steps p.tables e below (T.setTop { g with pc := g.pc + 1, stack := .double w :: rest }) target → Steps p.tables e below (T.setTop g) target := by
  obtain ⟨cl, A, q1, S, q3, H, G⟩ := F
  subst h3
  exact X.daload hx (by rw [eT]; exact A.1) (State.isArrayOf_alike hZ.alike A.2.1) A.2.2 (inb_of S ⟨h1, h2⟩) (H.at (inb_of S ⟨h1, h2⟩) hv) hg hs hd
theorem ldJv (X : Stand p l e R s m args below meth c T locs cells slots) (hx : p.tables.exec = Jvm.exec) (hZ : Z.Warmed39 s.vm) (eT : T.heap = h) (F : Arv Z h a k .long z vs dv) {w : Int64} (h1 : ¬ j < 0) (h2 : j < z) (h3 : j.toNatClampNeg = i) (hv : vs.getD i dv = .long w)
    (hg : g.method = m) (hs : g.stack = .int j :: .ref a :: rest) (hd : decode c.code g.pc = .ok (.laload, 1)) : ∀ target, Steps p.tables e below (T.setTop { g with pc := g.pc + 1, stack := .long w :: rest }) target → Steps p.tables e below (T.setTop g) target := by
  obtain ⟨cl, A, q1, S, q3, H, G⟩ := F
  subst h3
  exact X.laload hx (by rw [eT]; exact A.1) (State.isArrayOf_alike hZ.alike A.2.1) A.2.2 (inb_of S ⟨h1, h2⟩) (H.at (inb_of S ⟨h1, h2⟩) hv) hg hs hd
theorem ldJw {x0 x1 x2 : Int64} (X : Stand p l e R s m args below meth c T locs cells slots) (hx : p.tables.exec = Jvm.exec) (hZ : Z.Warmed39 s.vm) (eT : T.heap = h) (F : Arv Z h a k .long 3 [.long x0, .long x1, .long x2] dv) (hj : j = 0 ∨ j = 1 ∨ j = 2)
    (hg : g.method = m) (hs : g.stack = .int j :: .ref a :: rest) (hd : decode c.code g.pc = .ok (.laload, 1)) : ∀ target, Steps p.tables e below (T.setTop { g with pc := g.pc + 1, stack := .long (if j = 0 then x0 else if j = 1 then x1 else x2) :: rest }) target → Steps p.tables e below (T.setTop g) target := by
  rcases hj with rfl | rfl | rfl
  · exact ldJv X hx hZ eT F (i := 0) (by decide) (by decide) (by decide) rfl hg hs hd
  · exact ldJv X hx hZ eT F (i := 1) (by decide) (by decide) (by decide) rfl hg hs hd
  · exact ldJv X hx hZ eT F (i := 2) (by decide) (by decide) (by decide) rfl hg hs hd
theorem stJw {x0 x1 x2 x : Int64} (X : Stand p l e R s m args below meth c T locs cells slots) (hx : p.tables.exec = Jvm.exec) (hZ : Z.Warmed39 s.vm) (eT : T.heap = h) (F : Arv Z h a k .long 3 [.long x0, .long x1, .long x2] dv) (hj : j = 0 ∨ j = 1 ∨ j = 2)
    (hg : g.method = m) (hs : g.stack = .long x :: .int j :: .ref a :: rest) (hd : decode c.code g.pc = .ok (.lastore, 1)) :
    ∃ T' h' i, Stand p l e R s m args below meth c T' (locs ++ [⟨a, i⟩]) cells slots ∧ T'.heap = h' ∧ Wr h h' a i (.long x) ∧ Arv Z h' a k .long 3 [.long (if j = 0 then x else x0), .long (if j = 1 then x else x1), .long (if j = 2 then x else x2)] dv ∧ ∀ target, Steps p.tables e below (T'.setTop { g with pc := g.pc + 1, stack := rest }) target → Steps p.tables e below (T.setTop g) target := by
  rcases hj with rfl | rfl | rfl
  · obtain ⟨T', h', X', e', W, V, st⟩ := stJv X hx hZ eT F (i := 0) (by decide) (by decide) (by decide) (Nat.le_of_ble_eq_true rfl) hg hs hd
    exact ⟨T', h', 0, X', e', W, V, st⟩
  · obtain ⟨T', h', X', e', W, V, st⟩ := stJv X hx hZ eT F (i := 1) (by decide) (by decide) (by decide) (Nat.le_of_ble_eq_true rfl) hg hs hd
    exact ⟨T', h', 1, X', e', W, V, st⟩
  · obtain ⟨T', h', X', e', W, V, st⟩ := stJv X hx hZ eT F (i := 2) (by decide) (by decide) (by decide) (Nat.le_of_ble_eq_true rfl) hg hs hd
    exact ⟨T', h', 2, X', e', W, V, st⟩
theorem cloneV {own ad : String} {index : Nat} {ty : FieldType} (X : Stand p l e R s m args below meth c T locs cells slots) (hx : p.tables.exec = Jvm.exec) (hZ : Z.Warmed39 s.vm) (hown : s.vm.findClass own = some m.cls)
    (w1 : (Cond.methodLink own index ⟨ad, "clone", "()Ljava/lang/Object;"⟩).before a0 Z = true) (w2 : (Cond.sameMethod ad "java/lang/Object" "clone" "()Ljava/lang/Object;").before a0 Z = true) (w3 : (Cond.native ⟨"java/lang/Object", "clone", "()Ljava/lang/Object;"⟩).before a0 Z = true)
    (w4 : (Cond.instanceMethod ⟨"java/lang/Object", "clone", "()Ljava/lang/Object;"⟩).before a0 Z = true) (w5 : (Cond.selects ad ⟨ad, "clone", "()Ljava/lang/Object;"⟩ ⟨"java/lang/Object", "clone", "()Ljava/lang/Object;"⟩).before a0 Z = true) (w6 : (Cond.castable ad "java/lang/Cloneable").before a0 Z = true)
    (eT : T.heap = h) (F : Arv Z h a k ty z vs dv) (E : Exa Z h a ad) (hg : g.method = m) (hsize : g.locals.size = c.maxLocals) (hst : g.stack = .ref a :: rest) (hd : decode c.code g.pc = .ok (.invokevirtual index, 3))
    (hf : 1 ≤ R.frames) {W cap : Nat} (hW : 2 * g.monitorRoom + (rest.map fun v => v.category).sum ≤ W) (hl : W + 14 ≤ R.locals) (hcap : z.toNatClampNeg ≤ cap) (hc : cells + 1 ≤ R.cells) (hsl : slots + cap ≤ R.slots) :
    ∃ T' h', Stand p l e R s m args below meth c T' locs (cells + 1) (slots + cap) ∧ T'.heap = h' ∧ Ext h h' ∧ Arv Z h' h.size k ty z vs dv ∧ Exa Z h' h.size ad ∧
      ∀ target, Steps p.tables e below (T'.setTop { g with pc := g.pc + 3, stack := .ref h.size :: rest }) target → Steps p.tables e below (T.setTop g) target := by
  obtain ⟨cl, A, q1, S, q3, H, G⟩ := F
  have FC : FitC Z cl := fitC_of A fun i hi v hv => by rw [H i hi] at hv; cases hv; exact G i hi
  obtain ⟨T', h', X', e', ex, A', E', st⟩ := cloneA X hx hZ hown w1 w2 w3 w4 w5 w6 eT A E FC hg hsize hst hd hf hW hl (by rw [S]; exact hcap) hc hsl
  exact ⟨T', h', X', e', ex, ⟨cloneOf cl, A', q1, S, q3, H, G⟩, E', st⟩
end ArraysD
section EndD
variable {p : Program} {l : Launch} {e : Env} {R : Room} {s : State} {m : MethodId} {args : Array Value} {below : List Frame} {meth : Method} {c : Code} {T : State} {locs : List Loc} {cells slots : Nat} {h : Heap} {Q : Option Value → Heap → List Loc → Prop} {kc ks : Nat}
theorem endD (X : Stand p l e R s m args below meth c T locs cells slots) (hx : p.tables.exec = Jvm.exec) (hlk : meth.locks = false) (hret : meth.sig.returnType = some .double) {pc : Nat} {Ls : Array Slot} {z : UInt64} {rest : List Value} (hd : decode c.code pc = .ok (.dreturn, 1))
    (eT : T.heap = h) (hk : cells ≤ kc) (hs : slots ≤ ks) (hQ : Q (some (.double z)) h locs) : OwnEnd p e below s Q kc ks (T.setTop (mkF m pc Ls (.double z :: rest))) :=
  done X hlk (fun q => by rw [hret] at q; cases q) (fun fs hr => retOut X hx (w := .double z) hret rfl (Or.inr (Or.inr (Or.inl ⟨rfl, rfl, z, rfl⟩))) hd hr) eT hk hs hQ
end EndD
end Jvm.OwnKit
namespace Jvm.OwnKit
open Sem ClassFile Op Lib Jvm.Stand Jvm.Free Jvm.LawKit Jvm.RoadKit
section Nest
variable {p : Program} {l : Launch} {e : Env} {R : Room} {s : State} {m : MethodId} {args : Array Value} {below : List Frame} {meth : Method} {c : Code} {T : State} {locs : List Loc} {cells slots : Nat} {Z : State} {h : Heap} {a0 : Array Value}
variable {own host : String} {index : Nat} {y z : MethodName} {bytes : ByteArray} {maxL W : Nat} {ret : Option FieldType} {rm : Room} {as' : Array Value} {Qc : Option Value → Heap → List Loc → Prop} {g : JFrame} {argsL rest : List Value}
theorem callInitN (X : Stand p l e R s m args below meth c T locs cells slots) (hx : p.tables.exec = Jvm.exec) (hZ : Z.Warmed39 s.vm) (hown : s.vm.findClass own = some m.cls) (hy1 : y.name = "<init>")
    (w1 : (Cond.methodLinkNest own index y host).before a0 Z = true) (w2 : (Cond.instanceMethod y).before a0 Z = true) (w3 : (Cond.initialized y.cls).before a0 Z = true) (w4 : (Cond.code y bytes maxL none).before a0 Z = true)
    (hy : y.cls ≠ "java/lang/invoke/MethodHandle" ∧ y.cls ≠ "java/lang/invoke/VarHandle")
    (hM : MetFree l y (head1 [Cond.code y bytes maxL none] rm) (fun a U => a = as' ∧ Z.Warmed39 U.vm ∧ U.heap = h) (fun _ _ _ _ _ => True) (fun _ U o U' => ∃ v L, o = .returned v ∧ Qc v U'.heap L ∧ FrameEnd U o U' L rm.cells rm.slots))
    (hf : rm.frames + 1 ≤ R.frames) (hl : W + (maxL + 11) + rm.locals ≤ R.locals) (eT : T.heap = h) (hg : g.method = m) (hsize : g.locals.size = c.maxLocals) {a : Addr} (ha : (Value.ref a :: argsL).toArray = as')
    (hlen : ∀ sig, parseMethodDescriptor y.desc = some sig → argsL.length = sig.parameters.length) (hstack : g.stack = argsL.reverse ++ .ref a :: rest) (hW : 2 * g.monitorRoom + (rest.map fun v => v.category).sum ≤ W) (hdg : decode c.code g.pc = .ok (.invokespecial index, 3))
    (hc : cells + rm.cells ≤ R.cells) (hs : slots + rm.slots ≤ R.slots) :
    ∃ (v : Option Value) (T' : State) (L : List Loc), Stand p l e R s m args below meth c T' (locs ++ L) (cells + rm.cells) (slots + rm.slots) ∧ Qc v T'.heap L ∧ ∀ target, Steps p.tables e below (T'.setTop { g with pc := g.pc + 3, stack := v.toList ++ rest }) target → Steps p.tables e below (T.setTop g) target := by
  obtain ⟨v, _, ⟨T', L', k', n'⟩, -, X', ⟨L, hQ, l1, l2, l3⟩, st⟩ := X.specialBackNest hx hy1 hown (Cond.methodLinkNest_wide hZ w1 :) (mvT hZ w2) (mvT hZ w4) hy (backOf (W := W) hM hZ w4 w3 hf hl) (g := g) hg hsize (Steps.refl _) (a := a) (argsL := argsL) (rest := rest) hlen hstack hW hdg (fun _ _ => ⟨ha, eT, hc, hs⟩)
  dsimp only [Pt.U, Pt.locs, Pt.cells, Pt.slots] at X' l1 l2 l3 st hQ
  subst l1 l2 l3
  exact ⟨v, T', L, X', hQ, fun _ k => st.trans k⟩
end Nest
end Jvm.OwnKit
namespace Jvm.OwnKit
open Sem ClassFile Op Lib Jvm.Stand Jvm.Free Jvm.LawKit Jvm.RoadKit
theorem ldRv {p : Program} {l : Launch} {e : Env} {R : Room} {s : State} {m : MethodId} {args : Array Value} {below : List Frame} {meth : Method} {c : Code} {T : State} {locs : List Loc} {cells slots : Nat} {Z : State} {h : Heap} {a : Addr} {k : ClassId} {z j : Int32} {vs : List Value} {dv : Value} {i : Nat} {g : JFrame} {rest : List Value} {ty : FieldType}
    (X : Stand p l e R s m args below meth c T locs cells slots) (hx : p.tables.exec = Jvm.exec) (hZ : Z.Warmed39 s.vm) (eT : T.heap = h) (F : Arv Z h a k ty z vs dv) {w : Value} (hty : ty.isReference = true) (h1 : ¬ j < 0) (h2 : j < z) (h3 : j.toNatClampNeg = i) (hv : vs.getD i dv = w)
    (hg : g.method = m) (hs : g.stack = .int j :: .ref a :: rest) (hd : decode c.code g.pc = .ok (.aaload, 1)) : ∀ target, Steps p.tables e below (T.setTop { g with pc := g.pc + 1, stack := w :: rest }) target → Steps p.tables e below (T.setTop g) target := by
  obtain ⟨cl, A, q1, S, q3, H, G⟩ := F
  subst h3
  exact X.aaload hx (by rw [eT]; exact A.1) (State.isArrayOf_alike hZ.alike A.2.1) hty A.2.2 (inb_of S ⟨h1, h2⟩) (H.at (inb_of S ⟨h1, h2⟩) hv) hg hs hd
end Jvm.OwnKit
namespace Jvm.Pilot.@@N@@
open Jvm Jvm.ClassFile Sem Op Lib Jvm.Free Jvm.Stand Jvm.LawKit Jvm.RoadKit Bundle Jvm.OwnKit Jvm.Pilot.@@N@@.Jvm.D

theorem own_bxL (q : Int64) (h1 : ¬ q < (-128 : Int64)) (h2 : ¬ (127 : Int64) < q) : ¬ ((q.toInt32) + (128 : Int32)) < 0 ∧ ((q.toInt32) + (128 : Int32)).toNatClampNeg < 256 := by
  have a1 := c_l2i q
  have a2 := c_iadd q.toInt32 128
  have a3 := rng32 q.toInt32
  have a4 := rng32 (q.toInt32 + 128)
  have a5 := rng64 q
  simp only [Int64.lt_iff_toInt_lt, Int32.lt_iff_toInt_lt, Int32.toNatClampNeg, Int64.reduceToInt, Int32.reduceToInt] at *
  omega
theorem own_bxI (q : Int32) (h1 : ¬ q < (-128 : Int32)) (h2 : ¬ (127 : Int32) < q) : ¬ (q + (128 : Int32)) < 0 ∧ (q + (128 : Int32)).toNatClampNeg < 256 := by
  have a2 := c_iadd q 128
  have a3 := rng32 q
  have a4 := rng32 (q + 128)
  simp only [Int32.lt_iff_toInt_lt, Int32.toNatClampNeg, Int32.reduceToInt] at *
  omega
theorem own_len {args : Array Value} {s : State} {t : Term} {a : Addr} {cc : Cell} {ty : FieldType} {k : Int32} (ht : t.eval args s none [] s = some (.ref a)) (A : Arr s s.heap a cc ty) (h : (Jvm.Cond.eq (Jvm.Term.length t) (Jvm.Term.int k)).value args s none s [] = some true) : cc.slots.size.toInt32 = k ∧ cc.slots.size < 2 ^ 31 := by
  obtain ⟨x, y, e1, e2, -, k2⟩ := cmp_v (Or.inl h)
  have e3 : y = .int k := (Option.some.inj e2).symm
  subst e3
  obtain ⟨z, rfl⟩ := k2
  have e4 : z = k := gotT (Cond.eq_ints e1 rfl) h
  subst e4
  have e5 := A.fin (Vm.Alike.refl _)
  simp only [Term.eval, ht, e5, Option.bind_eq_bind, Option.bind_some] at e1
  split at e1
  · rename_i hl
    exact ⟨Value.int.inj (Option.some.inj e1), hl⟩
  · cases e1
theorem own_all {args : Array Value} {s : State} {t : Term} {d : Jvm.Cond} {a : Addr} {cc : Cell} {ty : FieldType} {C : String} (ht : t.eval args s none [] s = some (.ref a)) (A : Arr s s.heap a cc ty)
    (h : (Jvm.Cond.all t (Jvm.Cond.and (Jvm.Cond.exactly (Jvm.Term.elem t (Jvm.Term.index 0)) C) d)).value args s none s [] = some true) (hs : cc.slots.size < 2 ^ 31) (ht' : ∀ i, t.eval args s none [i] s = some (.ref a)) : ∀ i, i < cc.slots.size → ∃ b, cc.slots[i]? = some (.ref b) ∧ Exa s s.heap b C := by
  intro i hi
  have h1 := (and_e (Cond.all_elim ht (A.fin (Vm.Alike.refl _)) h i hi)).1
  obtain ⟨b, hb⟩ := exa_v h1
  have hidx : (Jvm.Term.index 0).eval args s none [i] s = some (.int i.toInt32) := by simp [Term.eval]
  obtain ⟨-, e⟩ := elem_in hb (ht' i) hidx A.1
  have en : i.toInt32.toNatClampNeg = i := by simp only [Int32.toNatClampNeg, len_toInt (Nat.lt_trans hi hs)]; rfl
  rw [en] at e
  refine ⟨b, e, ?_⟩
  have hx' := beq_iff_eq.mpr h1
  obtain ⟨a', c', cell, k, e1, e2, e3, e4, e5, rfl, e7⟩ := Cond.exactly_spec (beq_iff_eq.mpr h1 : (Jvm.Cond.exactly (Jvm.Term.elem t (Jvm.Term.index 0)) C).holds args s none s [i] = true)
  cases hb.symm.trans e1
  exact ⟨cell, k, e3, e2, e4, e5, e7⟩

theorem own_allV {args : Array Value} {s : State} {t : Term} {a : Addr} {cc : Cell} {ty : FieldType} {C : String} (ht : t.eval args s none [] s = some (.ref a)) (A : Arr s s.heap a cc ty)
    (h : (Jvm.Cond.all t (Jvm.Cond.and (Jvm.Cond.exactly (Jvm.Term.elem t (Jvm.Term.index 0)) C) (Jvm.Cond.eq (Jvm.Term.field (Jvm.Term.elem t (Jvm.Term.index 0)) C "value" "J") (Jvm.Term.op1 Jvm.Unary.i2l (Jvm.Term.sub (Jvm.Term.index 0) (Jvm.Term.int 128)))))).value args s none s [] = some true) (hs : cc.slots.size < 2 ^ 31) (ht' : ∀ i, t.eval args s none [i] s = some (.ref a)) :
    ∀ i, i < cc.slots.size → ∃ b, cc.slots[i]? = some (.ref b) ∧ Exa s s.heap b C ∧ Fld s s.heap b C "value" "J" (.long ((i.toInt32 - 128).toInt64)) := by
  intro i hi
  obtain ⟨b, e, E⟩ := own_all ht A h hs ht' i hi
  obtain ⟨h1, h2⟩ := and_e (Cond.all_elim ht (A.fin (Vm.Alike.refl _)) h i hi)
  obtain ⟨v, e1, e2⟩ := Cond.eq_worth h2
  obtain ⟨b', hb⟩ := exa_v h1
  have hidx : (Jvm.Term.index 0).eval args s none [i] s = some (.int i.toInt32) := by simp [Term.eval]
  obtain ⟨-, e'⟩ := elem_in hb (ht' i) hidx A.1
  have en : i.toInt32.toNatClampNeg = i := by simp only [Int32.toNatClampNeg, len_toInt (Nat.lt_trans hi hs)]; rfl
  rw [en] at e'
  cases e.symm.trans e'
  have ev : v = .long ((i.toInt32 - 128).toInt64) := by
    have q : (Jvm.Term.op1 Jvm.Unary.i2l (Jvm.Term.sub (Jvm.Term.index 0) (Jvm.Term.int 128))).eval args s none [i] s = some (.long ((i.toInt32 - 128).toInt64)) := by simp [Term.eval, Unary.apply]
    exact Option.some.inj (e2.symm.trans q)
  subst ev
  rw [Term.eval, hb] at e1
  exact ⟨b, e, E, Fld.start e1⟩
theorem own_bxLv (q : Int64) (h1 : ¬ q < (-128 : Int64)) (h2 : ¬ (127 : Int64) < q) : (((((q.toInt32) + (128 : Int32)).toNatClampNeg).toInt32 - 128).toInt64) = q := by
  have a1 := c_l2i q
  have a2 := c_iadd q.toInt32 128
  have a3 := rng32 q.toInt32
  have a4 := rng32 (q.toInt32 + 128)
  have a5 := rng64 q
  have b := (own_bxL q h1 h2).2
  have a6 := len_toInt (Nat.lt_trans b (by decide : 256 < 2 ^ 31))
  apply Int64.toInt_inj.mp
  rw [c_i2l]
  have a7 := c_isub ((q.toInt32 + (128 : Int32)).toNatClampNeg).toInt32 128
  have a8 := rng32 (((q.toInt32 + (128 : Int32)).toNatClampNeg).toInt32 - 128)
  generalize ((q.toInt32 + (128 : Int32)).toNatClampNeg).toInt32 - 128 = z at *
  generalize ((q.toInt32 + (128 : Int32)).toNatClampNeg).toInt32 = y at *
  simp only [Int64.lt_iff_toInt_lt, Int32.lt_iff_toInt_lt, Int32.toNatClampNeg, Int64.reduceToInt, Int32.reduceToInt] at *
  omega

def own_sm (a : Int64) (K : Int) : Prop := -K ≤ a.toInt ∧ a.toInt ≤ K
theorem own_smc0 : own_sm 0 0 := ⟨by decide, by decide⟩
theorem own_smc1 : own_sm 1 1 := ⟨by decide, by decide⟩
theorem own_smi (x : Int32) : own_sm x.toInt64 2147483648 := by
  have a := c_i2l x
  have b := rng32 x
  unfold own_sm; rw [a]; omega
theorem own_sma {a b : Int64} {K1 K2 K : Int} (h1 : own_sm a K1) (h2 : own_sm b K2) (hk : K1 + K2 = K ∧ K < 9223372036854775807) : own_sm (a + b) K := by
  have c := c_ladd a b
  have d := rng64 (a + b)
  unfold own_sm at *
  omega
theorem own_smb {a : Int64} {K : Int} (h : own_sm a K) (hk : K < 9007199254740992) : B53 a := by
  unfold own_sm at h; unfold B53; omega
def own_max (a b : Int32) : Int32 := if a < b then b else a
def own_k0 (v b0 b1 : Int64) : Int64 := if b0 < v then 0 else 1
def own_k1 (v b0 b1 : Int64) : Int64 := if b0 < v then (if b1 < v then 0 else 1) else 0
def own_k2 (v b0 b1 : Int64) : Int64 := if b0 < v then (if b1 < v then 1 else 0) else 0
def own_b (v b0 b1 : Int64) : Int32 := if b0 < v then (if b1 < v then 2 else 1) else 0
theorem own_kA {v b0 b1 : Int64} (h : ¬ b0 < v) : own_k0 v b0 b1 = 1 ∧ own_k1 v b0 b1 = 0 ∧ own_k2 v b0 b1 = 0 := by unfold own_k0 own_k1 own_k2; simp [h]
theorem own_kB {v b0 b1 : Int64} (h : b0 < v) (h' : ¬ b1 < v) : own_k0 v b0 b1 = 0 ∧ own_k1 v b0 b1 = 1 ∧ own_k2 v b0 b1 = 0 := by unfold own_k0 own_k1 own_k2; simp [h, h']
theorem own_kC {v b0 b1 : Int64} (h : b0 < v) (h' : b1 < v) : own_k0 v b0 b1 = 0 ∧ own_k1 v b0 b1 = 0 ∧ own_k2 v b0 b1 = 1 := by unfold own_k0 own_k1 own_k2; simp [h, h']
def own_in (c : Int64) : Prop := ¬ c < (-128 : Int64) ∧ ¬ (127 : Int64) < c
theorem own_in0 (v w b0 b1 : Int64) : own_in (((0 : Int64) + own_k0 v b0 b1) + own_k0 w b0 b1) := by
  unfold own_k0 own_in
  repeat' split
  all_goals decide
theorem own_in1 (v w b0 b1 : Int64) : own_in (((0 : Int64) + own_k1 v b0 b1) + own_k1 w b0 b1) := by
  unfold own_k1 own_in
  repeat' split
  all_goals decide
theorem own_in2 (v w b0 b1 : Int64) : own_in (((0 : Int64) + own_k2 v b0 b1) + own_k2 w b0 b1) := by
  unfold own_k2 own_in
  repeat' split
  all_goals decide
theorem own_smw {a : Int64} {K K' : Int} (h : own_sm a K) (hk : K ≤ K') : own_sm a K' := by unfold own_sm at *; omega
theorem own_b3 (v b0 b1 : Int64) : own_b v b0 b1 = 0 ∨ own_b v b0 b1 = 1 ∨ own_b v b0 b1 = 2 := by unfold own_b; split <;> (try split) <;> simp
theorem own_ce0 (v1 v2 b0 b1 a0 a1 a2 e : Int64) (q0 : a0 = (if (own_b v1 b0 b1) = 0 then ((if (own_b v1 b0 b1) = 0 then (0 : Int64) else if (own_b v1 b0 b1) = 1 then (0 : Int64) else (0 : Int64)) + (1 : Int64)) else (0 : Int64))) (q1 : a1 = (if (own_b v1 b0 b1) = 1 then ((if (own_b v1 b0 b1) = 0 then (0 : Int64) else if (own_b v1 b0 b1) = 1 then (0 : Int64) else (0 : Int64)) + (1 : Int64)) else (0 : Int64))) (q2 : a2 = (if (own_b v1 b0 b1) = 2 then ((if (own_b v1 b0 b1) = 0 then (0 : Int64) else if (own_b v1 b0 b1) = 1 then (0 : Int64) else (0 : Int64)) + (1 : Int64)) else (0 : Int64))) (q : e = (if (own_b v2 b0 b1) = 0 then ((if (own_b v2 b0 b1) = 0 then a0 else if (own_b v2 b0 b1) = 1 then a1 else a2) + (1 : Int64)) else a0)) : (((0 : Int64) + own_k0 v1 b0 b1) + own_k0 v2 b0 b1) = e := by
  subst q0 q1 q2 q
  unfold own_b own_k0
  by_cases h1 : b0 < v1 <;> by_cases h2 : b1 < v1 <;> by_cases h3 : b0 < v2 <;> by_cases h4 : b1 < v2 <;> simp [h1, h2, h3, h4]
theorem own_ce1 (v1 v2 b0 b1 a0 a1 a2 e : Int64) (q0 : a0 = (if (own_b v1 b0 b1) = 0 then ((if (own_b v1 b0 b1) = 0 then (0 : Int64) else if (own_b v1 b0 b1) = 1 then (0 : Int64) else (0 : Int64)) + (1 : Int64)) else (0 : Int64))) (q1 : a1 = (if (own_b v1 b0 b1) = 1 then ((if (own_b v1 b0 b1) = 0 then (0 : Int64) else if (own_b v1 b0 b1) = 1 then (0 : Int64) else (0 : Int64)) + (1 : Int64)) else (0 : Int64))) (q2 : a2 = (if (own_b v1 b0 b1) = 2 then ((if (own_b v1 b0 b1) = 0 then (0 : Int64) else if (own_b v1 b0 b1) = 1 then (0 : Int64) else (0 : Int64)) + (1 : Int64)) else (0 : Int64))) (q : e = (if (own_b v2 b0 b1) = 1 then ((if (own_b v2 b0 b1) = 0 then a0 else if (own_b v2 b0 b1) = 1 then a1 else a2) + (1 : Int64)) else a1)) : (((0 : Int64) + own_k1 v1 b0 b1) + own_k1 v2 b0 b1) = e := by
  subst q0 q1 q2 q
  unfold own_b own_k1
  by_cases h1 : b0 < v1 <;> by_cases h2 : b1 < v1 <;> by_cases h3 : b0 < v2 <;> by_cases h4 : b1 < v2 <;> simp [h1, h2, h3, h4]
theorem own_ce2 (v1 v2 b0 b1 a0 a1 a2 e : Int64) (q0 : a0 = (if (own_b v1 b0 b1) = 0 then ((if (own_b v1 b0 b1) = 0 then (0 : Int64) else if (own_b v1 b0 b1) = 1 then (0 : Int64) else (0 : Int64)) + (1 : Int64)) else (0 : Int64))) (q1 : a1 = (if (own_b v1 b0 b1) = 1 then ((if (own_b v1 b0 b1) = 0 then (0 : Int64) else if (own_b v1 b0 b1) = 1 then (0 : Int64) else (0 : Int64)) + (1 : Int64)) else (0 : Int64))) (q2 : a2 = (if (own_b v1 b0 b1) = 2 then ((if (own_b v1 b0 b1) = 0 then (0 : Int64) else if (own_b v1 b0 b1) = 1 then (0 : Int64) else (0 : Int64)) + (1 : Int64)) else (0 : Int64))) (q : e = (if (own_b v2 b0 b1) = 2 then ((if (own_b v2 b0 b1) = 0 then a0 else if (own_b v2 b0 b1) = 1 then a1 else a2) + (1 : Int64)) else a2)) : (((0 : Int64) + own_k2 v1 b0 b1) + own_k2 v2 b0 b1) = e := by
  subst q0 q1 q2 q
  unfold own_b own_k2
  by_cases h1 : b0 < v1 <;> by_cases h2 : b1 < v1 <;> by_cases h3 : b0 < v2 <;> by_cases h4 : b1 < v2 <;> simp [h1, h2, h3, h4]
abbrev fL0 (y0 : Addr) (y1 : Addr) (y2 : Addr) (y3 : UInt64) : Array Slot := #[.val (.ref y0), .val (.ref y1), .val (.ref y2), .val (.double y3), .second]
abbrev fL1 (y0 : Addr) : Array Slot := #[.val (.ref y0), .unset, .unset, .unset, .unset, .unset, .unset]
abbrev fL2 (y0 : Addr) (y1 : Addr) : Array Slot := #[.val (.ref y0), .val (.ref y1), .unset, .unset, .unset, .unset, .unset]
abbrev fL3 (y0 : Addr) (y1 : Addr) (y2 : Addr) : Array Slot := #[.val (.ref y0), .val (.ref y1), .val (.ref y2), .unset, .unset, .unset, .unset]
abbrev fL4 (y0 : Addr) (y1 : Addr) (y2 : Addr) (y3 : Int32) : Array Slot := #[.val (.ref y0), .val (.ref y1), .val (.ref y2), .val (.int y3), .unset, .unset, .unset]
abbrev fL5 (y0 : Addr) (y1 : Addr) (y2 : Addr) (y3 : Int32) (y4 : Int32) : Array Slot := #[.val (.ref y0), .val (.ref y1), .val (.ref y2), .val (.int y3), .val (.int y4), .unset, .unset]
abbrev fL6 (y0 : Addr) (y1 : Addr) (y2 : Addr) (y3 : Int32) (y4 : Int32) (y5 : Int64) : Array Slot := #[.val (.ref y0), .val (.ref y1), .val (.ref y2), .val (.int y3), .val (.int y4), .val (.long y5), .second]
abbrev fL7 (y0 : UInt64) (y1 : UInt64) (y2 : UInt64) : Array Slot := #[.val (.double y0), .second, .val (.double y1), .second, .val (.double y2), .second]
abbrev fL8 (y0 : Int32) (y1 : Int32) (y2 : Int32) (y3 : Int32) : Array Slot := #[.val (.int y0), .val (.int y1), .val (.int y2), .val (.int y3), .unset, .unset, .unset, .unset, .unset, .unset, .unset, .unset, .unset, .unset, .unset, .unset, .unset]
abbrev fL9 (y0 : Int32) (y1 : Int32) (y2 : Int32) (y3 : Int32) (y4 : UInt64) : Array Slot := #[.val (.int y0), .val (.int y1), .val (.int y2), .val (.int y3), .val (.double y4), .second, .unset, .unset, .unset, .unset, .unset, .unset, .unset, .unset, .unset, .unset, .unset]
abbrev fL10 (y0 : Int32) (y1 : Int32) (y2 : Int32) (y3 : Int32) (y4 : UInt64) (y5 : UInt64) : Array Slot := #[.val (.int y0), .val (.int y1), .val (.int y2), .val (.int y3), .val (.double y4), .second, .val (.double y5), .second, .unset, .unset, .unset, .unset, .unset, .unset, .unset, .unset, .unset]
abbrev fL11 (y0 : Int32) (y1 : Int32) (y2 : Int32) (y3 : Int32) (y4 : UInt64) (y5 : UInt64) (y6 : UInt64) : Array Slot := #[.val (.int y0), .val (.int y1), .val (.int y2), .val (.int y3), .val (.double y4), .second, .val (.double y5), .second, .val (.double y6), .second, .unset, .unset, .unset, .unset, .unset, .unset, .unset]
abbrev fL12 (y0 : Int32) (y1 : Int32) (y2 : Int32) (y3 : Int32) (y4 : UInt64) (y5 : UInt64) (y6 : UInt64) (y7 : UInt64) : Array Slot := #[.val (.int y0), .val (.int y1), .val (.int y2), .val (.int y3), .val (.double y4), .second, .val (.double y5), .second, .val (.double y6), .second, .val (.double y7), .second, .unset, .unset, .unset, .unset, .unset]
abbrev fL13 (y0 : Int32) (y1 : Int32) (y2 : Int32) (y3 : Int32) (y4 : UInt64) (y5 : UInt64) (y6 : UInt64) (y7 : UInt64) (y8 : Addr) : Array Slot := #[.val (.int y0), .val (.int y1), .val (.int y2), .val (.int y3), .val (.double y4), .second, .val (.double y5), .second, .val (.double y6), .second, .val (.double y7), .second, .val (.ref y8), .unset, .unset, .unset, .unset]
abbrev fL14 (y0 : Int32) (y1 : Int32) (y2 : Int32) (y3 : Int32) (y4 : UInt64) (y5 : UInt64) (y6 : UInt64) (y7 : UInt64) (y8 : Addr) (y9 : Addr) : Array Slot := #[.val (.int y0), .val (.int y1), .val (.int y2), .val (.int y3), .val (.double y4), .second, .val (.double y5), .second, .val (.double y6), .second, .val (.double y7), .second, .val (.ref y8), .val (.ref y9), .unset, .unset, .unset]
abbrev fL15 (y0 : Int32) (y1 : Int32) (y2 : Int32) (y3 : Int32) (y4 : UInt64) (y5 : UInt64) (y6 : UInt64) (y7 : UInt64) (y8 : Addr) (y9 : Addr) (y10 : Addr) : Array Slot := #[.val (.int y0), .val (.int y1), .val (.int y2), .val (.int y3), .val (.double y4), .second, .val (.double y5), .second, .val (.double y6), .second, .val (.double y7), .second, .val (.ref y8), .val (.ref y9), .val (.ref y10), .unset, .unset]
abbrev fL16 (y0 : Int32) (y1 : Int32) (y2 : Int32) (y3 : Int32) (y4 : UInt64) (y5 : UInt64) (y6 : UInt64) (y7 : UInt64) (y8 : Addr) (y9 : Addr) (y10 : Addr) (y11 : Addr) : Array Slot := #[.val (.int y0), .val (.int y1), .val (.int y2), .val (.int y3), .val (.double y4), .second, .val (.double y5), .second, .val (.double y6), .second, .val (.double y7), .second, .val (.ref y8), .val (.ref y9), .val (.ref y10), .val (.ref y11), .unset]
abbrev fL17 (y0 : Int32) (y1 : Int32) (y2 : Int32) (y3 : Int32) (y4 : UInt64) (y5 : UInt64) (y6 : UInt64) (y7 : UInt64) (y8 : Addr) (y9 : Addr) (y10 : Addr) (y11 : Addr) (y12 : Addr) : Array Slot := #[.val (.int y0), .val (.int y1), .val (.int y2), .val (.int y3), .val (.double y4), .second, .val (.double y5), .second, .val (.double y6), .second, .val (.double y7), .second, .val (.ref y8), .val (.ref y9), .val (.ref y10), .val (.ref y11), .val (.ref y12)]
theorem d_jdk_18_method_1_code_0 : decode jdk_18_method_1_code 0 = .ok (.aload_n 0, 1) := by decide +kernel
theorem d_jdk_18_method_1_code_1 : decode jdk_18_method_1_code 1 = .ok (.invokespecial 1, 3) := by decide +kernel
theorem d_jdk_18_method_1_code_4 : decode jdk_18_method_1_code 4 = .ok (.return_, 1) := by decide +kernel
theorem pn_java_lang_Number : plainName "java/lang/Number" = true := by first | (simp [plainName, overriddenIn]; done) | decide +kernel
theorem ef_rm_numD (m : MethodId) (y0 : Addr) : entryFrame m #[(.ref y0)] 1 = mkF m 0 #[.val (.ref y0)] [] := by first | (simp [entryFrame, mkF, argsToLocals, Value.category]; done) | rfl
def Q_rm_numD (Z : State) (a0' : Addr) (h0 : Heap) (n0 : Nat) (v : Option Value) (h : Heap) (L : List Loc) : Prop := v = none ∧ Fr n0 L ∧ h = h0
set_option maxRecDepth 65536 in
set_option maxHeartbeats 40000000 in
theorem rm_numD (l : Launch) (Z : State) (a0 : Array Value) (hw : ∀ d ∈ tables_1, d.before a0 Z = true) (ws : List Jvm.Cond) (a0' : Addr) (h0 : Heap) (n0 : Nat) :
    MetFree l (⟨"java/lang/Number", "<init>", "()V"⟩ : MethodName) (head1 (Jvm.Cond.code (⟨"java/lang/Number", "<init>", "()V"⟩ : MethodName) jdk_18_method_1_code 1 none :: ws) ({ frames := 1, cells := 0, slots := 0, locals := 12 } : Room)) (fun a U => a = #[(.ref a0')] ∧ Z.Warmed39 U.vm ∧ U.heap = h0) (fun _ _ _ _ _ => True) (fun _ U o U' => ∃ v L, o = .returned v ∧ Q_rm_numD Z a0' h0 n0 v U'.heap L ∧ FrameEnd U o U' L 0 0) := by
  refine MetFree.of_bodySF (plainFor_of_name pn_java_lang_Number) hisR ?_
  intro p e s m args below meth c s₁ Bd hml0 hP hK
  obtain ⟨rfl, hZ, hh⟩ := hP
  have hx := Bd.exec
  have hby := Bd.bytes
  have hlk := Bd.notSynchronized
  have hml : c.maxLocals = 1 := hml0
  have hown : s.vm.findClass "java/lang/Number" = some m.cls := findClass_of_methodNamed Bd.named
  have hnm := (name_of_methodNamed Bd.named Bd.method).1
  have X0 : Stand p l e ({ frames := 1, cells := 0, slots := 0, locals := 12 } : Room) s m #[(.ref a0')] below meth c s₁ [] 0 0 := Stand.of_body Bd
  have e0 : s₁.heap = h0 := by rw [← hh, Bd.state]; rfl
  have N0 := Fr.nil n0
  show OwnEnd p e below s (Q_rm_numD Z a0' h0 n0) 0 0 (s₁.setTop (entryFrame m #[(.ref a0')] 1))
  refine go (fun t k => castTop (ef_rm_numD m a0') k) ?_
  show OwnEnd _ _ _ _ _ _ _ (s₁.setTop (mkF m 0 #[.val (.ref a0')] []))
  refine go (fun _ k => by refine XS.aloadN X0.here hx rfl (hb hby d_jdk_18_method_1_code_0) rfl rfl ?_; exact k) ?_
  show OwnEnd _ _ _ _ _ _ _ (s₁.setTop (mkF m 1 #[.val (.ref a0')] [(.ref a0')]))
  obtain ⟨T1, X1, e1, st1⟩ := initO X0 hx hZ hown (hw _ (List.mem_of_getElem? (i := 42) rfl)) (hw _ (List.mem_of_getElem? (i := 19) rfl)) (hw _ (List.mem_of_getElem? (i := 20) rfl)) e0 (g := (mkF m 1 #[.val (.ref a0')] [(.ref a0')])) rfl (by rw [hml]; rfl) rfl (hb hby d_jdk_18_method_1_code_1) (by decide) (W := 0) (by show 2 * 0 + _ ≤ _; exact Nat.le_of_eq rfl) (by decide)
  refine go st1 ?_
  show OwnEnd _ _ _ _ _ _ _ (T1.setTop (mkF m 4 #[.val (.ref a0')] []))
  refine endV X1 hx hlk Bd.returns (hb hby d_jdk_18_method_1_code_4) e1 (by decide) (by decide) ?_
  exact ⟨rfl, N0, rfl⟩
theorem d_jdk_117_method_9_code_0 : decode jdk_117_method_9_code 0 = .ok (.aload_n 0, 1) := by decide +kernel
theorem d_jdk_117_method_9_code_1 : decode jdk_117_method_9_code 1 = .ok (.invokespecial 113, 3) := by decide +kernel
theorem pd___V : parseMethodDescriptor "()V" = some ⟨[], none⟩ := by decide +kernel
theorem d_jdk_117_method_9_code_4 : decode jdk_117_method_9_code 4 = .ok (.aload_n 0, 1) := by decide +kernel
theorem d_jdk_117_method_9_code_5 : decode jdk_117_method_9_code 5 = .ok (.dload_n 1, 1) := by decide +kernel
theorem d_jdk_117_method_9_code_6 : decode jdk_117_method_9_code 6 = .ok (.putfield 118, 3) := by decide +kernel
theorem d_jdk_117_method_9_code_9 : decode jdk_117_method_9_code 9 = .ok (.return_, 1) := by decide +kernel
theorem pn_java_lang_Double : plainName "java/lang/Double" = true := by first | (simp [plainName, overriddenIn]; done) | decide +kernel
theorem ef_rm_dbi (m : MethodId) (y0 : Addr) (y1 : UInt64) : entryFrame m #[(.ref y0), (.double y1)] 3 = mkF m 0 #[.val (.ref y0), .val (.double y1), .second] [] := by first | (simp [entryFrame, mkF, argsToLocals, Value.category]; done) | rfl
def Q_rm_dbi (Z : State) (a0' : Addr) (d1 : UInt64) (h0 : Heap) (n0 : Nat) (v : Option Value) (h : Heap) (L : List Loc) : Prop := v = none ∧ Fr n0 L ∧ Keep h0 h [a0'] ∧ Exa Z h a0' "java/lang/Double" ∧ Fld Z h a0' "java/lang/Double" "value" "D" (.double d1)
set_option maxRecDepth 65536 in
set_option maxHeartbeats 40000000 in
theorem rm_dbi (l : Launch) (Z : State) (a0 : Array Value) (hw : ∀ d ∈ tables_1, d.before a0 Z = true) (ws : List Jvm.Cond) (a0' : Addr) (d1 : UInt64) (h0 : Heap) (n0 : Nat) (ga : n0 ≤ a0') (EA : Exa Z h0 a0' "java/lang/Double") (F_value : Fld Z h0 a0' "java/lang/Double" "value" "D" (.double (0 : UInt64))) :
    MetFree l (⟨"java/lang/Double", "<init>", "(D)V"⟩ : MethodName) (head1 (Jvm.Cond.code (⟨"java/lang/Double", "<init>", "(D)V"⟩ : MethodName) jdk_117_method_9_code 3 none :: ws) ({ frames := 2, cells := 0, slots := 0, locals := 24 } : Room)) (fun a U => a = #[(.ref a0'), (.double d1)] ∧ Z.Warmed39 U.vm ∧ U.heap = h0) (fun _ _ _ _ _ => True) (fun _ U o U' => ∃ v L, o = .returned v ∧ Q_rm_dbi Z a0' d1 h0 n0 v U'.heap L ∧ FrameEnd U o U' L 0 0) := by
  refine MetFree.of_bodySF (plainFor_of_name pn_java_lang_Double) hisR ?_
  intro p e s m args below meth c s₁ Bd hml0 hP hK
  obtain ⟨rfl, hZ, hh⟩ := hP
  have hx := Bd.exec
  have hby := Bd.bytes
  have hlk := Bd.notSynchronized
  have hml : c.maxLocals = 3 := hml0
  have hown : s.vm.findClass "java/lang/Double" = some m.cls := findClass_of_methodNamed Bd.named
  have hnm := (name_of_methodNamed Bd.named Bd.method).1
  have X0 : Stand p l e ({ frames := 2, cells := 0, slots := 0, locals := 24 } : Room) s m #[(.ref a0'), (.double d1)] below meth c s₁ [] 0 0 := Stand.of_body Bd
  have e0 : s₁.heap = h0 := by rw [← hh, Bd.state]; rfl
  have N0 := Fr.nil n0
  show OwnEnd p e below s (Q_rm_dbi Z a0' d1 h0 n0) 0 0 (s₁.setTop (entryFrame m #[(.ref a0'), (.double d1)] 3))
  refine go (fun t k => castTop (ef_rm_dbi m a0' d1) k) ?_
  have KK := Keep.refl h0 [a0']
  show OwnEnd _ _ _ _ _ _ _ (s₁.setTop (mkF m 0 #[.val (.ref a0'), .val (.double d1), .second] []))
  refine go (fun _ k => by refine XS.aloadN X0.here hx rfl (hb hby d_jdk_117_method_9_code_0) rfl rfl ?_; exact k) ?_
  show OwnEnd _ _ _ _ _ _ _ (s₁.setTop (mkF m 1 #[.val (.ref a0'), .val (.double d1), .second] [(.ref a0')]))
  obtain ⟨_, T1, L1, X1, hQ1, st1⟩ := callInit X0 hx hZ hown rfl (hw _ (List.mem_of_getElem? (i := 36) rfl)) (hw _ (List.mem_of_getElem? (i := 37) rfl)) (hw _ (List.mem_of_getElem? (i := 40) rfl)) (hw _ (List.mem_of_getElem? (i := 41) rfl)) (by decide) (rm_numD l Z a0 hw [] a0' h0 n0 ) (W := 0) (by decide) (by decide) e0 (g := (mkF m 1 #[.val (.ref a0'), .val (.double d1), .second] [(.ref a0')])) rfl (by rw [hml]; rfl) (argsL := []) (rest := []) rfl (lenOf pd___V rfl) rfl (by show 2 * 0 + _ ≤ _; exact Nat.le_of_eq rfl) (hb hby d_jdk_117_method_9_code_1) (by decide) (by decide)
  obtain ⟨rfl, Nq1, eq1⟩ := hQ1
  have N1 := Fr.app N0 Nq1
  refine go st1 ?_
  refine go (fun _ k => by refine XS.aloadN X1.here hx rfl (hb hby d_jdk_117_method_9_code_4) rfl rfl ?_; exact k) ?_
  refine go (fun _ k => by refine XS.dloadN X1.here hx rfl (hb hby d_jdk_117_method_9_code_5) rfl ?_; exact k) ?_
  show OwnEnd _ _ _ _ _ _ _ (T1.setTop (mkF m 6 #[.val (.ref a0'), .val (.double d1), .second] [(.double d1), (.ref a0')]))
  obtain ⟨T2, h2, X2, e2, W2, st2⟩ := putF X1 hx hZ hown (host := "") (Or.inl (hw _ (List.mem_of_getElem? (i := 43) rfl))) Via.refl eq1 F_value EA (Or.inr ⟨(hw _ (List.mem_of_getElem? (i := 44) rfl)), rfl, hnm⟩) (hw _ (List.mem_of_getElem? (i := 31) rfl)) (ty := .double) (by decide) rfl rfl (g := (mkF m 6 #[.val (.ref a0'), .val (.double d1), .second] [(.double d1), (.ref a0')])) rfl rfl (hb hby d_jdk_117_method_9_code_6)
  have N2 := Fr.snoc X2 N1 ga
  have EA := EA.wr W2
  have KK := Keep.wr KK W2 (Or.inl (List.mem_of_getElem? (i := 0) rfl))
  have F_value := F_value.same W2
  refine go st2 ?_
  show OwnEnd _ _ _ _ _ _ _ (T2.setTop (mkF m 9 #[.val (.ref a0'), .val (.double d1), .second] []))
  refine endV X2 hx hlk Bd.returns (hb hby d_jdk_117_method_9_code_9) e2 (by decide) (by decide) ?_
  exact ⟨rfl, N2, KK, EA, F_value⟩
theorem d_jdk_117_method_4_code_0 : decode jdk_117_method_4_code 0 = .ok (.new 1, 3) := by decide +kernel
theorem d_jdk_117_method_4_code_3 : decode jdk_117_method_4_code 3 = .ok (.dup, 1) := by decide +kernel
theorem d_jdk_117_method_4_code_4 : decode jdk_117_method_4_code 4 = .ok (.dload_n 0, 1) := by decide +kernel
theorem d_jdk_117_method_4_code_5 : decode jdk_117_method_4_code 5 = .ok (.invokespecial 105, 3) := by decide +kernel
theorem pd__D_V : parseMethodDescriptor "(D)V" = some ⟨[.double], none⟩ := by decide +kernel
theorem d_jdk_117_method_4_code_8 : decode jdk_117_method_4_code 8 = .ok (.areturn, 1) := by decide +kernel
theorem ef_rm_dvo (m : MethodId) (y0 : UInt64) : entryFrame m #[(.double y0)] 2 = mkF m 0 #[.val (.double y0), .second] [] := by first | (simp [entryFrame, mkF, argsToLocals, Value.category]; done) | rfl
def Q_rm_dvo (Z : State) (dd : UInt64) (h0 : Heap) (n0 : Nat) (v : Option Value) (h : Heap) (L : List Loc) : Prop := ∃ b, v = some (.ref b) ∧ Fr n0 L ∧ Keep h0 h [] ∧ n0 ≤ b ∧ h0.size ≤ b ∧ Exa Z h b "java/lang/Double" ∧ Fld Z h b "java/lang/Double" "value" "D" (.double dd)
set_option maxRecDepth 65536 in
set_option maxHeartbeats 40000000 in
theorem rm_dvo (l : Launch) (Z : State) (a0 : Array Value) (hw : ∀ d ∈ tables_1, d.before a0 Z = true) (ws : List Jvm.Cond) (dd : UInt64) (h0 : Heap) (n0 : Nat) (Z0 : n0 ≤ h0.size) :
    MetFree l (⟨"java/lang/Double", "valueOf", "(D)Ljava/lang/Double;"⟩ : MethodName) (head1 (Jvm.Cond.code (⟨"java/lang/Double", "valueOf", "(D)Ljava/lang/Double;"⟩ : MethodName) jdk_117_method_4_code 2 (some (.object "java/lang/Double")) :: ws) ({ frames := 3, cells := 1, slots := 1, locals := 39 } : Room)) (fun a U => a = #[(.double dd)] ∧ Z.Warmed39 U.vm ∧ U.heap = h0) (fun _ _ _ _ _ => True) (fun _ U o U' => ∃ v L, o = .returned v ∧ Q_rm_dvo Z dd h0 n0 v U'.heap L ∧ FrameEnd U o U' L 1 1) := by
  refine MetFree.of_bodySF (plainFor_of_name pn_java_lang_Double) hisR ?_
  intro p e s m args below meth c s₁ Bd hml0 hP hK
  obtain ⟨rfl, hZ, hh⟩ := hP
  have hx := Bd.exec
  have hby := Bd.bytes
  have hlk := Bd.notSynchronized
  have hml : c.maxLocals = 2 := hml0
  have hown : s.vm.findClass "java/lang/Double" = some m.cls := findClass_of_methodNamed Bd.named
  have hnm := (name_of_methodNamed Bd.named Bd.method).1
  have X0 : Stand p l e ({ frames := 3, cells := 1, slots := 1, locals := 39 } : Room) s m #[(.double dd)] below meth c s₁ [] 0 0 := Stand.of_body Bd
  have e0 : s₁.heap = h0 := by rw [← hh, Bd.state]; rfl
  have N0 := Fr.nil n0
  show OwnEnd p e below s (Q_rm_dvo Z dd h0 n0) 1 1 (s₁.setTop (entryFrame m #[(.double dd)] 2))
  refine go (fun t k => castTop (ef_rm_dvo m dd) k) ?_
  have KK := Keep.refl h0 []
  show OwnEnd _ _ _ _ _ _ _ (s₁.setTop (mkF m 0 #[.val (.double dd), .second] []))
  obtain ⟨T1, h1, X1, e1, E1, A1, D1, -, st1⟩ := newO X0 hx hZ hown (hw _ (List.mem_of_getElem? (i := 30) rfl)) (hw _ (List.mem_of_getElem? (i := 31) rfl)) (hw _ (List.mem_of_getElem? (i := 28) rfl)) e0 (g := (mkF m 0 #[.val (.double dd), .second] [])) rfl (hb hby d_jdk_117_method_4_code_0) (by decide) (by decide)
  obtain ⟨b1, g1⟩ : ∃ z, z = h0.size := ⟨_, rfl⟩
  rw [← g1] at A1 D1 st1
  have g_b1 : n0 ≤ b1 := Nat.le_trans Z0 (Nat.le_of_eq g1.symm)
  have sz_b1 : h0.size ≤ b1 := Nat.le_trans KK.1 (Nat.le_of_eq g1.symm)
  have Z0 := Nat.le_trans Z0 E1.1
  have KK := Keep.ext KK E1
  have F_value_b1 : Fld Z h1 b1 "java/lang/Double" "value" "D" (.double (0 : UInt64)) := D1 (Or.inr (hw _ (List.mem_of_getElem? (i := 44) rfl))) (ty := .double) (by decide)
  have E_b1 := A1
  refine go st1 ?_
  refine go (fun _ k => by refine XS.dup X1.here hx rfl (hb hby d_jdk_117_method_4_code_3) rfl rfl ?_; exact k) ?_
  refine go (fun _ k => by refine XS.dloadN X1.here hx rfl (hb hby d_jdk_117_method_4_code_4) rfl ?_; exact k) ?_
  show OwnEnd _ _ _ _ _ _ _ (T1.setTop (mkF m 5 #[.val (.double dd), .second] [(.double dd), (.ref b1), (.ref b1)]))
  obtain ⟨_, T2, L2, X2, hQ2, st2⟩ := callInit X1 hx hZ hown rfl (hw _ (List.mem_of_getElem? (i := 32) rfl)) (hw _ (List.mem_of_getElem? (i := 33) rfl)) (hw _ (List.mem_of_getElem? (i := 28) rfl)) (hw _ (List.mem_of_getElem? (i := 35) rfl)) (by decide) (rm_dbi l Z a0 hw [] b1 dd h1 n0 g_b1 E_b1 F_value_b1) (W := 1) (by decide) (by decide) e1 (g := (mkF m 5 #[.val (.double dd), .second] [(.double dd), (.ref b1), (.ref b1)])) rfl (by rw [hml]; rfl) (argsL := [(.double dd)]) (rest := [(.ref b1)]) rfl (lenOf pd__D_V rfl) rfl (by show 2 * 0 + _ ≤ _; exact Nat.le_of_eq rfl) (hb hby d_jdk_117_method_4_code_5) (by decide) (by decide)
  obtain ⟨rfl, Nq2, K2, E_b1, F_value_b1⟩ := hQ2
  have N2 := Fr.app N0 Nq2
  have Z0 := Nat.le_trans Z0 K2.1
  have KK := Keep.trans KK K2 (allS (Or.inr sz_b1) all0)
  refine go st2 ?_
  show OwnEnd _ _ _ _ _ _ _ (T2.setTop (mkF m 8 #[.val (.double dd), .second] [(.ref b1)]))
  refine endA X2 hx hlk Bd.returns rfl rfl (hb hby d_jdk_117_method_4_code_8) rfl (by decide) (by decide) ?_
  exact ⟨b1, rfl, N2, KK, g_b1, sz_b1, E_b1, F_value_b1⟩
theorem d_jdk_29_method_65_code_0 : decode jdk_29_method_65_code 0 = .ok (.iload_n 0, 1) := by decide +kernel
theorem d_jdk_29_method_65_code_1 : decode jdk_29_method_65_code 1 = .ok (.iload_n 1, 1) := by decide +kernel
theorem d_jdk_29_method_65_code_2 : decode jdk_29_method_65_code 2 = .ok (.if_icmp .lt 7, 3) := by decide +kernel
theorem d_jdk_29_method_65_code_9 : decode jdk_29_method_65_code 9 = .ok (.iload_n 1, 1) := by decide +kernel
theorem d_jdk_29_method_65_code_10 : decode jdk_29_method_65_code 10 = .ok (.ireturn, 1) := by decide +kernel
theorem d_jdk_29_method_65_code_5 : decode jdk_29_method_65_code 5 = .ok (.iload_n 0, 1) := by decide +kernel
theorem d_jdk_29_method_65_code_6 : decode jdk_29_method_65_code 6 = .ok (.goto 4, 3) := by decide +kernel
theorem ef_rm_max (m : MethodId) (y0 : Int32) (y1 : Int32) : entryFrame m #[(.int y0), (.int y1)] 2 = mkF m 0 #[.val (.int y0), .val (.int y1)] [] := by first | (simp [entryFrame, mkF, argsToLocals, Value.category]; done) | rfl
def Q_rm_max (Z : State) (p0 : Int32) (p1 : Int32) (h0 : Heap) (n0 : Nat) (v : Option Value) (h : Heap) (L : List Loc) : Prop := v = some (.int (own_max p0 p1)) ∧ Fr n0 L ∧ h = h0
set_option maxRecDepth 65536 in
set_option maxHeartbeats 40000000 in
theorem rm_max (l : Launch) (Z : State) (a0 : Array Value) (hw : ∀ d ∈ tables_1, d.before a0 Z = true) (ws : List Jvm.Cond) (p0 : Int32) (p1 : Int32) (h0 : Heap) (n0 : Nat) :
    MetFree l (⟨"java/lang/Math", "max", "(II)I"⟩ : MethodName) (head1 (Jvm.Cond.code (⟨"java/lang/Math", "max", "(II)I"⟩ : MethodName) jdk_29_method_65_code 2 (some .int) :: ws) ({ frames := 0, cells := 0, slots := 0, locals := 0 } : Room)) (fun a U => a = #[(.int p0), (.int p1)] ∧ Z.Warmed39 U.vm ∧ U.heap = h0) (fun _ _ _ _ _ => True) (fun _ U o U' => ∃ v L, o = .returned v ∧ Q_rm_max Z p0 p1 h0 n0 v U'.heap L ∧ FrameEnd U o U' L 0 0) := by
  refine MetFree.of_bodySF (Jvm.Free.JP.mathPlain rfl (by decide +kernel)) hisR ?_
  intro p e s m args below meth c s₁ Bd hml0 hP hK
  obtain ⟨rfl, hZ, hh⟩ := hP
  have hx := Bd.exec
  have hby := Bd.bytes
  have hlk := Bd.notSynchronized
  have hml : c.maxLocals = 2 := hml0
  have hown : s.vm.findClass "java/lang/Math" = some m.cls := findClass_of_methodNamed Bd.named
  have hnm := (name_of_methodNamed Bd.named Bd.method).1
  have X0 : Stand p l e ({ frames := 0, cells := 0, slots := 0, locals := 0 } : Room) s m #[(.int p0), (.int p1)] below meth c s₁ [] 0 0 := Stand.of_body Bd
  have e0 : s₁.heap = h0 := by rw [← hh, Bd.state]; rfl
  have N0 := Fr.nil n0
  show OwnEnd p e below s (Q_rm_max Z p0 p1 h0 n0) 0 0 (s₁.setTop (entryFrame m #[(.int p0), (.int p1)] 2))
  refine go (fun t k => castTop (ef_rm_max m p0 p1) k) ?_
  show OwnEnd _ _ _ _ _ _ _ (s₁.setTop (mkF m 0 #[.val (.int p0), .val (.int p1)] []))
  refine go (fun _ k => by refine XS.iloadN X0.here hx rfl (hb hby d_jdk_29_method_65_code_0) rfl ?_; exact k) ?_
  refine go (fun _ k => by refine XS.iloadN X0.here hx rfl (hb hby d_jdk_29_method_65_code_1) rfl ?_; exact k) ?_
  show OwnEnd _ _ _ _ _ _ _ (s₁.setTop (mkF m 2 #[.val (.int p0), .val (.int p1)] [(.int p1), (.int p0)]))
  by_cases hc2_1 : p0 < p1
  · refine go (fun _ k => by refine XS.icmpYes X0.here hx rfl (pc0 := 2) (pc' := 9) rfl (hb hby d_jdk_29_method_65_code_2) rfl (tlt hc2_1).1 (by decide) (by decide) ?_; exact k) ?_
    show OwnEnd _ _ _ _ _ _ _ (s₁.setTop (mkF m 9 #[.val (.int p0), .val (.int p1)] []))
    refine go (fun _ k => by refine XS.iloadN X0.here hx rfl (hb hby d_jdk_29_method_65_code_9) rfl ?_; exact k) ?_
    show OwnEnd _ _ _ _ _ _ _ (s₁.setTop (mkF m 10 #[.val (.int p0), .val (.int p1)] [(.int p1)]))
    refine endI X0 hx hlk Bd.returns (hb hby d_jdk_29_method_65_code_10) e0 (by decide) (by decide) ?_
    exact ⟨by unfold own_max; rw [if_pos (by assumption)], N0, rfl⟩
  · refine go (fun _ k => by refine XS.icmpNo X0.here hx rfl (hb hby d_jdk_29_method_65_code_2) rfl (flt hc2_1).1 ?_; exact k) ?_
    show OwnEnd _ _ _ _ _ _ _ (s₁.setTop (mkF m 5 #[.val (.int p0), .val (.int p1)] []))
    refine go (fun _ k => by refine XS.iloadN X0.here hx rfl (hb hby d_jdk_29_method_65_code_5) rfl ?_; exact k) ?_
    refine go (fun _ k => by refine XS.goto X0.here hx rfl (pc0 := 6) (pc' := 10) rfl (hb hby d_jdk_29_method_65_code_6) (by decide) (by decide) ?_; exact k) ?_
    show OwnEnd _ _ _ _ _ _ _ (s₁.setTop (mkF m 10 #[.val (.int p0), .val (.int p1)] [(.int p0)]))
    refine endI X0 hx hlk Bd.returns (hb hby d_jdk_29_method_65_code_10) e0 (by decide) (by decide) ?_
    exact ⟨by unfold own_max; rw [if_neg (by assumption)], N0, rfl⟩
theorem d_jdk_22_method_1_code_0 : decode jdk_22_method_1_code 0 = .ok (.aload_n 0, 1) := by decide +kernel
theorem d_jdk_22_method_1_code_1 : decode jdk_22_method_1_code 1 = .ok (.invokespecial 1, 3) := by decide +kernel
theorem d_jdk_22_method_1_code_4 : decode jdk_22_method_1_code 4 = .ok (.return_, 1) := by decide +kernel
theorem pn_java_util_AbstractCollection : plainName "java/util/AbstractCollection" = true := by first | (simp [plainName, overriddenIn]; done) | decide +kernel
theorem ef_rm_aci (m : MethodId) (y0 : Addr) : entryFrame m #[(.ref y0)] 1 = mkF m 0 #[.val (.ref y0)] [] := by first | (simp [entryFrame, mkF, argsToLocals, Value.category]; done) | rfl
def Q_rm_aci (Z : State) (a0' : Addr) (h0 : Heap) (n0 : Nat) (v : Option Value) (h : Heap) (L : List Loc) : Prop := v = none ∧ Fr n0 L ∧ h = h0
set_option maxRecDepth 65536 in
set_option maxHeartbeats 40000000 in
theorem rm_aci (l : Launch) (Z : State) (a0 : Array Value) (hw : ∀ d ∈ tables_1, d.before a0 Z = true) (ws : List Jvm.Cond) (a0' : Addr) (h0 : Heap) (n0 : Nat) :
    MetFree l (⟨"java/util/AbstractCollection", "<init>", "()V"⟩ : MethodName) (head1 (Jvm.Cond.code (⟨"java/util/AbstractCollection", "<init>", "()V"⟩ : MethodName) jdk_22_method_1_code 1 none :: ws) ({ frames := 1, cells := 0, slots := 0, locals := 12 } : Room)) (fun a U => a = #[(.ref a0')] ∧ Z.Warmed39 U.vm ∧ U.heap = h0) (fun _ _ _ _ _ => True) (fun _ U o U' => ∃ v L, o = .returned v ∧ Q_rm_aci Z a0' h0 n0 v U'.heap L ∧ FrameEnd U o U' L 0 0) := by
  refine MetFree.of_bodySF (plainFor_of_name pn_java_util_AbstractCollection) hisR ?_
  intro p e s m args below meth c s₁ Bd hml0 hP hK
  obtain ⟨rfl, hZ, hh⟩ := hP
  have hx := Bd.exec
  have hby := Bd.bytes
  have hlk := Bd.notSynchronized
  have hml : c.maxLocals = 1 := hml0
  have hown : s.vm.findClass "java/util/AbstractCollection" = some m.cls := findClass_of_methodNamed Bd.named
  have hnm := (name_of_methodNamed Bd.named Bd.method).1
  have X0 : Stand p l e ({ frames := 1, cells := 0, slots := 0, locals := 12 } : Room) s m #[(.ref a0')] below meth c s₁ [] 0 0 := Stand.of_body Bd
  have e0 : s₁.heap = h0 := by rw [← hh, Bd.state]; rfl
  have N0 := Fr.nil n0
  show OwnEnd p e below s (Q_rm_aci Z a0' h0 n0) 0 0 (s₁.setTop (entryFrame m #[(.ref a0')] 1))
  refine go (fun t k => castTop (ef_rm_aci m a0') k) ?_
  show OwnEnd _ _ _ _ _ _ _ (s₁.setTop (mkF m 0 #[.val (.ref a0')] []))
  refine go (fun _ k => by refine XS.aloadN X0.here hx rfl (hb hby d_jdk_22_method_1_code_0) rfl rfl ?_; exact k) ?_
  show OwnEnd _ _ _ _ _ _ _ (s₁.setTop (mkF m 1 #[.val (.ref a0')] [(.ref a0')]))
  obtain ⟨T1, X1, e1, st1⟩ := initO X0 hx hZ hown (hw _ (List.mem_of_getElem? (i := 18) rfl)) (hw _ (List.mem_of_getElem? (i := 19) rfl)) (hw _ (List.mem_of_getElem? (i := 20) rfl)) e0 (g := (mkF m 1 #[.val (.ref a0')] [(.ref a0')])) rfl (by rw [hml]; rfl) rfl (hb hby d_jdk_22_method_1_code_1) (by decide) (W := 0) (by show 2 * 0 + _ ≤ _; exact Nat.le_of_eq rfl) (by decide)
  refine go st1 ?_
  show OwnEnd _ _ _ _ _ _ _ (T1.setTop (mkF m 4 #[.val (.ref a0')] []))
  refine endV X1 hx hlk Bd.returns (hb hby d_jdk_22_method_1_code_4) e1 (by decide) (by decide) ?_
  exact ⟨rfl, N0, rfl⟩
theorem d_jdk_39_method_1_code_0 : decode jdk_39_method_1_code 0 = .ok (.aload_n 0, 1) := by decide +kernel
theorem d_jdk_39_method_1_code_1 : decode jdk_39_method_1_code 1 = .ok (.invokespecial 1, 3) := by decide +kernel
theorem d_jdk_39_method_1_code_4 : decode jdk_39_method_1_code 4 = .ok (.aload_n 0, 1) := by decide +kernel
theorem d_jdk_39_method_1_code_5 : decode jdk_39_method_1_code 5 = .ok (.iconst 0, 1) := by decide +kernel
theorem d_jdk_39_method_1_code_6 : decode jdk_39_method_1_code 6 = .ok (.putfield 7, 3) := by decide +kernel
theorem d_jdk_39_method_1_code_9 : decode jdk_39_method_1_code 9 = .ok (.return_, 1) := by decide +kernel
theorem pn_java_util_AbstractList : plainName "java/util/AbstractList" = true := by first | (simp [plainName, overriddenIn]; done) | decide +kernel
theorem ef_rm_abi (m : MethodId) (y0 : Addr) : entryFrame m #[(.ref y0)] 1 = mkF m 0 #[.val (.ref y0)] [] := by first | (simp [entryFrame, mkF, argsToLocals, Value.category]; done) | rfl
def Q_rm_abi (Z : State) (a0' : Addr) (h0 : Heap) (n0 : Nat) (v : Option Value) (h : Heap) (L : List Loc) : Prop := v = none ∧ Fr n0 L ∧ Keep h0 h [a0'] ∧ Exa Z h a0' "java/util/ArrayList" ∧ Fld Z h a0' "java/util/AbstractList" "modCount" "I" (.int (0 : Int32)) ∧ Fld Z h a0' "java/util/ArrayList" "elementData" "[Ljava/lang/Object;" .null ∧ Fld Z h a0' "java/util/ArrayList" "size" "I" (.int (0 : Int32))
set_option maxRecDepth 65536 in
set_option maxHeartbeats 40000000 in
theorem rm_abi (l : Launch) (Z : State) (a0 : Array Value) (hw : ∀ d ∈ tables_1, d.before a0 Z = true) (ws : List Jvm.Cond) (a0' : Addr) (h0 : Heap) (n0 : Nat) (ga : n0 ≤ a0') (EA : Exa Z h0 a0' "java/util/ArrayList") (F_modCount : Fld Z h0 a0' "java/util/AbstractList" "modCount" "I" (.int (0 : Int32))) (F_elementData : Fld Z h0 a0' "java/util/ArrayList" "elementData" "[Ljava/lang/Object;" .null) (F_size : Fld Z h0 a0' "java/util/ArrayList" "size" "I" (.int (0 : Int32))) :
    MetFree l (⟨"java/util/AbstractList", "<init>", "()V"⟩ : MethodName) (head1 (Jvm.Cond.code (⟨"java/util/AbstractList", "<init>", "()V"⟩ : MethodName) jdk_39_method_1_code 1 none :: ws) ({ frames := 2, cells := 0, slots := 0, locals := 24 } : Room)) (fun a U => a = #[(.ref a0')] ∧ Z.Warmed39 U.vm ∧ U.heap = h0) (fun _ _ _ _ _ => True) (fun _ U o U' => ∃ v L, o = .returned v ∧ Q_rm_abi Z a0' h0 n0 v U'.heap L ∧ FrameEnd U o U' L 0 0) := by
  refine MetFree.of_bodySF (plainFor_of_name pn_java_util_AbstractList) hisR ?_
  intro p e s m args below meth c s₁ Bd hml0 hP hK
  obtain ⟨rfl, hZ, hh⟩ := hP
  have hx := Bd.exec
  have hby := Bd.bytes
  have hlk := Bd.notSynchronized
  have hml : c.maxLocals = 1 := hml0
  have hown : s.vm.findClass "java/util/AbstractList" = some m.cls := findClass_of_methodNamed Bd.named
  have hnm := (name_of_methodNamed Bd.named Bd.method).1
  have X0 : Stand p l e ({ frames := 2, cells := 0, slots := 0, locals := 24 } : Room) s m #[(.ref a0')] below meth c s₁ [] 0 0 := Stand.of_body Bd
  have e0 : s₁.heap = h0 := by rw [← hh, Bd.state]; rfl
  have N0 := Fr.nil n0
  show OwnEnd p e below s (Q_rm_abi Z a0' h0 n0) 0 0 (s₁.setTop (entryFrame m #[(.ref a0')] 1))
  refine go (fun t k => castTop (ef_rm_abi m a0') k) ?_
  have KK := Keep.refl h0 [a0']
  show OwnEnd _ _ _ _ _ _ _ (s₁.setTop (mkF m 0 #[.val (.ref a0')] []))
  refine go (fun _ k => by refine XS.aloadN X0.here hx rfl (hb hby d_jdk_39_method_1_code_0) rfl rfl ?_; exact k) ?_
  show OwnEnd _ _ _ _ _ _ _ (s₁.setTop (mkF m 1 #[.val (.ref a0')] [(.ref a0')]))
  obtain ⟨_, T1, L1, X1, hQ1, st1⟩ := callInit X0 hx hZ hown rfl (hw _ (List.mem_of_getElem? (i := 12) rfl)) (hw _ (List.mem_of_getElem? (i := 13) rfl)) (hw _ (List.mem_of_getElem? (i := 16) rfl)) (hw _ (List.mem_of_getElem? (i := 17) rfl)) (by decide) (rm_aci l Z a0 hw [] a0' h0 n0 ) (W := 0) (by decide) (by decide) e0 (g := (mkF m 1 #[.val (.ref a0')] [(.ref a0')])) rfl (by rw [hml]; rfl) (argsL := []) (rest := []) rfl (lenOf pd___V rfl) rfl (by show 2 * 0 + _ ≤ _; exact Nat.le_of_eq rfl) (hb hby d_jdk_39_method_1_code_1) (by decide) (by decide)
  obtain ⟨rfl, Nq1, eq1⟩ := hQ1
  have N1 := Fr.app N0 Nq1
  refine go st1 ?_
  refine go (fun _ k => by refine XS.aloadN X1.here hx rfl (hb hby d_jdk_39_method_1_code_4) rfl rfl ?_; exact k) ?_
  refine go (fun _ k => by refine XS.iconst X1.here hx rfl (hb hby d_jdk_39_method_1_code_5) ?_; exact k) ?_
  show OwnEnd _ _ _ _ _ _ _ (T1.setTop (mkF m 6 #[.val (.ref a0')] [(.int (0 : Int32)), (.ref a0')]))
  obtain ⟨T2, h2, X2, e2, W2, st2⟩ := putF X1 hx hZ hown (host := "") (Or.inl (hw _ (List.mem_of_getElem? (i := 21) rfl))) Via.refl eq1 F_modCount EA (Or.inl (hw _ (List.mem_of_getElem? (i := 22) rfl))) (hw _ (List.mem_of_getElem? (i := 1) rfl)) (ty := .int) (by decide) rfl rfl (g := (mkF m 6 #[.val (.ref a0')] [(.int (0 : Int32)), (.ref a0')])) rfl rfl (hb hby d_jdk_39_method_1_code_6)
  have N2 := Fr.snoc X2 N1 ga
  have EA := EA.wr W2
  have KK := Keep.wr KK W2 (Or.inl (List.mem_of_getElem? (i := 0) rfl))
  have F_elementData := F_elementData.other W2 (Or.inr (slot_ne (Or.inl (hw _ (List.mem_of_getElem? (i := 25) rfl))) (Or.inl (hw _ (List.mem_of_getElem? (i := 22) rfl))) (by decide) (t := (.array (.object "java/lang/Object"))) (t' := .int) (by decide) (by decide)))
  have F_size := F_size.other W2 (Or.inr (slot_ne (Or.inl (hw _ (List.mem_of_getElem? (i := 57) rfl))) (Or.inl (hw _ (List.mem_of_getElem? (i := 22) rfl))) (by decide) (t := .int) (t' := .int) (by decide) (by decide)))
  have F_modCount := F_modCount.same W2
  refine go st2 ?_
  show OwnEnd _ _ _ _ _ _ _ (T2.setTop (mkF m 9 #[.val (.ref a0')] []))
  refine endV X2 hx hlk Bd.returns (hb hby d_jdk_39_method_1_code_9) e2 (by decide) (by decide) ?_
  exact ⟨rfl, N2, KK, EA, F_modCount, F_elementData, F_size⟩
theorem d_jdk_38_method_2_code_0 : decode jdk_38_method_2_code 0 = .ok (.aload_n 0, 1) := by decide +kernel
theorem d_jdk_38_method_2_code_1 : decode jdk_38_method_2_code 1 = .ok (.invokespecial 1, 3) := by decide +kernel
theorem d_jdk_38_method_2_code_4 : decode jdk_38_method_2_code 4 = .ok (.aload_n 0, 1) := by decide +kernel
theorem d_jdk_38_method_2_code_5 : decode jdk_38_method_2_code 5 = .ok (.getstatic 39, 3) := by decide +kernel
theorem d_jdk_38_method_2_code_8 : decode jdk_38_method_2_code 8 = .ok (.putfield 9, 3) := by decide +kernel
theorem d_jdk_38_method_2_code_11 : decode jdk_38_method_2_code 11 = .ok (.return_, 1) := by decide +kernel
theorem pn_java_util_ArrayList : plainName "java/util/ArrayList" = true := by first | (simp [plainName, overriddenIn]; done) | decide +kernel
theorem ef_rm_ali (m : MethodId) (y0 : Addr) : entryFrame m #[(.ref y0)] 1 = mkF m 0 #[.val (.ref y0)] [] := by first | (simp [entryFrame, mkF, argsToLocals, Value.category]; done) | rfl
def Q_rm_ali (Z : State) (a0' : Addr) (da : Addr) (h0 : Heap) (n0 : Nat) (v : Option Value) (h : Heap) (L : List Loc) : Prop := v = none ∧ Fr n0 L ∧ Keep h0 h [a0'] ∧ Exa Z h a0' "java/util/ArrayList" ∧ Fld Z h a0' "java/util/AbstractList" "modCount" "I" (.int (0 : Int32)) ∧ Fld Z h a0' "java/util/ArrayList" "elementData" "[Ljava/lang/Object;" (.ref da) ∧ Fld Z h a0' "java/util/ArrayList" "size" "I" (.int (0 : Int32))
set_option maxRecDepth 65536 in
set_option maxHeartbeats 40000000 in
theorem rm_ali (l : Launch) (Z : State) (a0 : Array Value) (hw : ∀ d ∈ tables_1, d.before a0 Z = true) (ws : List Jvm.Cond) (a0' : Addr) (da : Addr) (h0 : Heap) (n0 : Nat) (ga : n0 ≤ a0') (EA : Exa Z h0 a0' "java/util/ArrayList") (F_modCount : Fld Z h0 a0' "java/util/AbstractList" "modCount" "I" (.int (0 : Int32))) (F_elementData : Fld Z h0 a0' "java/util/ArrayList" "elementData" "[Ljava/lang/Object;" .null) (F_size : Fld Z h0 a0' "java/util/ArrayList" "size" "I" (.int (0 : Int32))) (O : Old Z n0 h0) (SD : Sta Z Z.heap "java/util/ArrayList" "DEFAULTCAPACITY_EMPTY_ELEMENTDATA" "[Ljava/lang/Object;" (.ref da)) :
    MetFree l (⟨"java/util/ArrayList", "<init>", "()V"⟩ : MethodName) (head1 (Jvm.Cond.code (⟨"java/util/ArrayList", "<init>", "()V"⟩ : MethodName) jdk_38_method_2_code 1 none :: ws) ({ frames := 3, cells := 0, slots := 0, locals := 36 } : Room)) (fun a U => a = #[(.ref a0')] ∧ Z.Warmed39 U.vm ∧ U.heap = h0) (fun _ _ _ _ _ => True) (fun _ U o U' => ∃ v L, o = .returned v ∧ Q_rm_ali Z a0' da h0 n0 v U'.heap L ∧ FrameEnd U o U' L 0 0) := by
  refine MetFree.of_bodySF (plainFor_of_name pn_java_util_ArrayList) hisR ?_
  intro p e s m args below meth c s₁ Bd hml0 hP hK
  obtain ⟨rfl, hZ, hh⟩ := hP
  have hx := Bd.exec
  have hby := Bd.bytes
  have hlk := Bd.notSynchronized
  have hml : c.maxLocals = 1 := hml0
  have hown : s.vm.findClass "java/util/ArrayList" = some m.cls := findClass_of_methodNamed Bd.named
  have hnm := (name_of_methodNamed Bd.named Bd.method).1
  have X0 : Stand p l e ({ frames := 3, cells := 0, slots := 0, locals := 36 } : Room) s m #[(.ref a0')] below meth c s₁ [] 0 0 := Stand.of_body Bd
  have e0 : s₁.heap = h0 := by rw [← hh, Bd.state]; rfl
  have N0 := Fr.nil n0
  show OwnEnd p e below s (Q_rm_ali Z a0' da h0 n0) 0 0 (s₁.setTop (entryFrame m #[(.ref a0')] 1))
  refine go (fun t k => castTop (ef_rm_ali m a0') k) ?_
  have KK := Keep.refl h0 [a0']
  have S1 := SD.ext O.2
  show OwnEnd _ _ _ _ _ _ _ (s₁.setTop (mkF m 0 #[.val (.ref a0')] []))
  refine go (fun _ k => by refine XS.aloadN X0.here hx rfl (hb hby d_jdk_38_method_2_code_0) rfl rfl ?_; exact k) ?_
  show OwnEnd _ _ _ _ _ _ _ (s₁.setTop (mkF m 1 #[.val (.ref a0')] [(.ref a0')]))
  obtain ⟨_, T1, L1, X1, hQ1, st1⟩ := callInit X0 hx hZ hown rfl (hw _ (List.mem_of_getElem? (i := 6) rfl)) (hw _ (List.mem_of_getElem? (i := 7) rfl)) (hw _ (List.mem_of_getElem? (i := 10) rfl)) (hw _ (List.mem_of_getElem? (i := 11) rfl)) (by decide) (rm_abi l Z a0 hw [] a0' h0 n0 ga EA F_modCount F_elementData F_size) (W := 0) (by decide) (by decide) e0 (g := (mkF m 1 #[.val (.ref a0')] [(.ref a0')])) rfl (by rw [hml]; rfl) (argsL := []) (rest := []) rfl (lenOf pd___V rfl) rfl (by show 2 * 0 + _ ≤ _; exact Nat.le_of_eq rfl) (hb hby d_jdk_38_method_2_code_1) (by decide) (by decide)
  obtain ⟨rfl, Nq1, K1, EA, F_modCount, F_elementData, F_size⟩ := hQ1
  have N1 := Fr.app N0 Nq1
  have KK := Keep.trans KK K1 (allS (Or.inl (List.mem_of_getElem? (i := 0) rfl)) all0)
  have O := O.keep K1 (allS ga all0)
  have S1 := SD.ext O.2
  refine go st1 ?_
  refine go (fun _ k => by refine XS.aloadN X1.here hx rfl (hb hby d_jdk_38_method_2_code_4) rfl rfl ?_; exact k) ?_
  show OwnEnd _ _ _ _ _ _ _ (T1.setTop (mkF m 5 #[.val (.ref a0')] [(.ref a0')]))
  obtain ⟨T2, X2, e2, st2⟩ := getS2 X1 hx hZ hown (host := "") (Or.inl (hw _ (List.mem_of_getElem? (i := 23) rfl))) Via.refl rfl S1 (g := (mkF m 5 #[.val (.ref a0')] [(.ref a0')])) rfl (hb hby d_jdk_38_method_2_code_5)
  refine go st2 ?_
  show OwnEnd _ _ _ _ _ _ _ (T2.setTop (mkF m 8 #[.val (.ref a0')] [(.ref da), (.ref a0')]))
  obtain ⟨T3, h3, X3, e3, W3, st3⟩ := putF X2 hx hZ hown (host := "") (Or.inl (hw _ (List.mem_of_getElem? (i := 24) rfl))) Via.refl e2 F_elementData EA (Or.inl (hw _ (List.mem_of_getElem? (i := 25) rfl))) (hw _ (List.mem_of_getElem? (i := 1) rfl)) (ty := (.array (.object "java/lang/Object"))) (by decide) rfl rfl (g := (mkF m 8 #[.val (.ref a0')] [(.ref da), (.ref a0')])) rfl rfl (hb hby d_jdk_38_method_2_code_8)
  have N3 := Fr.snoc X3 N1 ga
  have KK := Keep.wr KK W3 (Or.inl (List.mem_of_getElem? (i := 0) rfl))
  have O := O.wr W3 ga
  have S1 := S1.wr W3
  have EA := EA.wr W3
  have F_modCount := F_modCount.other W3 (Or.inr (slot_ne (Or.inl (hw _ (List.mem_of_getElem? (i := 22) rfl))) (Or.inl (hw _ (List.mem_of_getElem? (i := 25) rfl))) (by decide) (t := .int) (t' := (.array (.object "java/lang/Object"))) (by decide) (by decide)))
  have F_size := F_size.other W3 (Or.inr (slot_ne (Or.inl (hw _ (List.mem_of_getElem? (i := 57) rfl))) (Or.inl (hw _ (List.mem_of_getElem? (i := 25) rfl))) (by decide) (t := .int) (t' := (.array (.object "java/lang/Object"))) (by decide) (by decide)))
  have F_elementData := F_elementData.same W3
  refine go st3 ?_
  show OwnEnd _ _ _ _ _ _ _ (T3.setTop (mkF m 11 #[.val (.ref a0')] []))
  refine endV X3 hx hlk Bd.returns (hb hby d_jdk_38_method_2_code_11) e3 (by decide) (by decide) ?_
  exact ⟨rfl, N3, KK, EA, F_modCount, F_elementData, F_size⟩
theorem d_jdk_38_method_6_code_0 : decode jdk_38_method_6_code 0 = .ok (.aload_n 0, 1) := by decide +kernel
theorem d_jdk_38_method_6_code_1 : decode jdk_38_method_6_code 1 = .ok (.getfield 9, 3) := by decide +kernel
theorem d_jdk_38_method_6_code_4 : decode jdk_38_method_6_code 4 = .ok (.arraylength, 1) := by decide +kernel
theorem d_jdk_38_method_6_code_5 : decode jdk_38_method_6_code 5 = .ok (.istore_n 2, 1) := by decide +kernel
theorem d_jdk_38_method_6_code_6 : decode jdk_38_method_6_code 6 = .ok (.iload_n 2, 1) := by decide +kernel
theorem d_jdk_38_method_6_code_7 : decode jdk_38_method_6_code 7 = .ok (.ifCond .gt 13, 3) := by decide +kernel
theorem d_jdk_38_method_6_code_10 : decode jdk_38_method_6_code 10 = .ok (.aload_n 0, 1) := by decide +kernel
theorem d_jdk_38_method_6_code_11 : decode jdk_38_method_6_code 11 = .ok (.getfield 9, 3) := by decide +kernel
theorem d_jdk_38_method_6_code_14 : decode jdk_38_method_6_code 14 = .ok (.getstatic 39, 3) := by decide +kernel
theorem d_jdk_38_method_6_code_17 : decode jdk_38_method_6_code 17 = .ok (.if_acmp .eq 28, 3) := by decide +kernel
theorem d_jdk_38_method_6_code_45 : decode jdk_38_method_6_code 45 = .ok (.aload_n 0, 1) := by decide +kernel
theorem d_jdk_38_method_6_code_46 : decode jdk_38_method_6_code 46 = .ok (.bipush 10, 2) := by decide +kernel
theorem d_jdk_38_method_6_code_48 : decode jdk_38_method_6_code 48 = .ok (.iload_n 1, 1) := by decide +kernel
theorem d_jdk_38_method_6_code_49 : decode jdk_38_method_6_code 49 = .ok (.invokestatic 79, 3) := by decide +kernel
theorem pd__II_I : parseMethodDescriptor "(II)I" = some ⟨[.int, .int], some .int⟩ := by decide +kernel
theorem d_jdk_38_method_6_code_52 : decode jdk_38_method_6_code 52 = .ok (.anewarray 7, 3) := by decide +kernel
theorem d_jdk_38_method_6_code_55 : decode jdk_38_method_6_code 55 = .ok (.dup_x1, 1) := by decide +kernel
theorem d_jdk_38_method_6_code_56 : decode jdk_38_method_6_code 56 = .ok (.putfield 9, 3) := by decide +kernel
theorem d_jdk_38_method_6_code_59 : decode jdk_38_method_6_code 59 = .ok (.areturn, 1) := by decide +kernel
theorem ef_rm_gr1 (m : MethodId) (y0 : Addr) : entryFrame m #[(.ref y0), (.int (1 : Int32))] 4 = mkF m 0 #[.val (.ref y0), .val (.int (1 : Int32)), .unset, .unset] [] := by first | (simp [entryFrame, mkF, argsToLocals, Value.category]; done) | rfl
def Q_rm_gr1 (Z : State) (a0' : Addr) (da : Addr) (dk : ClassId) (mc : Int32) (h0 : Heap) (n0 : Nat) (v : Option Value) (h : Heap) (L : List Loc) : Prop := ∃ gb gk, v = some (.ref gb) ∧ Fr n0 L ∧ Keep h0 h [a0'] ∧ n0 ≤ gb ∧ h0.size ≤ gb ∧ Exa Z h a0' "java/util/ArrayList" ∧ Fld Z h a0' "java/util/AbstractList" "modCount" "I" (.int mc) ∧ Fld Z h a0' "java/util/ArrayList" "elementData" "[Ljava/lang/Object;" (.ref gb) ∧ Fld Z h a0' "java/util/ArrayList" "size" "I" (.int 0) ∧ Arv Z h gb gk (.object "java/lang/Object") 10 [.null, .null, .null, .null, .null, .null, .null, .null, .null, .null] .null ∧ Ovr Z gk "java/lang/Object"
set_option maxRecDepth 65536 in
set_option maxHeartbeats 40000000 in
theorem rm_gr1 (l : Launch) (Z : State) (a0 : Array Value) (hw : ∀ d ∈ tables_1, d.before a0 Z = true) (ws : List Jvm.Cond) (a0' : Addr) (da : Addr) (dk : ClassId) (mc : Int32) (h0 : Heap) (n0 : Nat) (ga : n0 ≤ a0') (EA : Exa Z h0 a0' "java/util/ArrayList") (FM : Fld Z h0 a0' "java/util/AbstractList" "modCount" "I" (.int mc)) (FE : Fld Z h0 a0' "java/util/ArrayList" "elementData" "[Ljava/lang/Object;" (.ref da)) (FS : Fld Z h0 a0' "java/util/ArrayList" "size" "I" (.int 0)) (O : Old Z n0 h0) (SD : Sta Z Z.heap "java/util/ArrayList" "DEFAULTCAPACITY_EMPTY_ELEMENTDATA" "[Ljava/lang/Object;" (.ref da)) (VD : Arv Z Z.heap da dk (.object "java/lang/Object") 0 [] .null) :
    MetFree l (⟨"java/util/ArrayList", "grow", "(I)[Ljava/lang/Object;"⟩ : MethodName) (head1 (Jvm.Cond.code (⟨"java/util/ArrayList", "grow", "(I)[Ljava/lang/Object;"⟩ : MethodName) jdk_38_method_6_code 4 (some (.array (.object "java/lang/Object"))) :: ws) ({ frames := 1, cells := 1, slots := 10, locals := 14 } : Room)) (fun a U => a = #[(.ref a0'), (.int (1 : Int32))] ∧ Z.Warmed39 U.vm ∧ U.heap = h0) (fun _ _ _ _ _ => True) (fun _ U o U' => ∃ v L, o = .returned v ∧ Q_rm_gr1 Z a0' da dk mc h0 n0 v U'.heap L ∧ FrameEnd U o U' L 1 10) := by
  refine MetFree.of_bodySF (plainFor_of_name pn_java_util_ArrayList) hisR ?_
  intro p e s m args below meth c s₁ Bd hml0 hP hK
  obtain ⟨rfl, hZ, hh⟩ := hP
  have hx := Bd.exec
  have hby := Bd.bytes
  have hlk := Bd.notSynchronized
  have hml : c.maxLocals = 4 := hml0
  have hown : s.vm.findClass "java/util/ArrayList" = some m.cls := findClass_of_methodNamed Bd.named
  have hnm := (name_of_methodNamed Bd.named Bd.method).1
  have X0 : Stand p l e ({ frames := 1, cells := 1, slots := 10, locals := 14 } : Room) s m #[(.ref a0'), (.int (1 : Int32))] below meth c s₁ [] 0 0 := Stand.of_body Bd
  have e0 : s₁.heap = h0 := by rw [← hh, Bd.state]; rfl
  have N0 := Fr.nil n0
  show OwnEnd p e below s (Q_rm_gr1 Z a0' da dk mc h0 n0) 1 10 (s₁.setTop (entryFrame m #[(.ref a0'), (.int (1 : Int32))] 4))
  refine go (fun t k => castTop (ef_rm_gr1 m a0') k) ?_
  have KK := Keep.refl h0 [a0']
  have S1 := SD.ext O.2
  have V1 := VD.ext O.2
  have Z0 : n0 ≤ h0.size := by rw [← O.1]; exact O.2.1
  have ned : a0' ≠ da := fun q => absurd VD.lt (by rw [← q, O.1]; exact Nat.not_lt.mpr ga)
  show OwnEnd _ _ _ _ _ _ _ (s₁.setTop (mkF m 0 #[.val (.ref a0'), .val (.int (1 : Int32)), .unset, .unset] []))
  refine go (fun _ k => by refine XS.aloadN X0.here hx rfl (hb hby d_jdk_38_method_6_code_0) rfl rfl ?_; exact k) ?_
  show OwnEnd _ _ _ _ _ _ _ (s₁.setTop (mkF m 1 #[.val (.ref a0'), .val (.int (1 : Int32)), .unset, .unset] [(.ref a0')]))
  obtain ⟨T1, X1, e1, st1⟩ := getF X0 hx hZ hown (host := "") (Or.inl (hw _ (List.mem_of_getElem? (i := 24) rfl))) Via.refl e0 FE (g := (mkF m 1 #[.val (.ref a0'), .val (.int (1 : Int32)), .unset, .unset] [(.ref a0')])) rfl rfl (hb hby d_jdk_38_method_6_code_1)
  refine go st1 ?_
  show OwnEnd _ _ _ _ _ _ _ (T1.setTop (mkF m 4 #[.val (.ref a0'), .val (.int (1 : Int32)), .unset, .unset] [(.ref da)]))
  refine go (lenV X1 hx hZ e1 V1 (g := (mkF m 4 #[.val (.ref a0'), .val (.int (1 : Int32)), .unset, .unset] [(.ref da)])) rfl rfl (hb hby d_jdk_38_method_6_code_4)) ?_
  refine go (fun _ k => by refine XS.istoreN X1.here hx rfl (hb hby d_jdk_38_method_6_code_5) rfl (l' := #[.val (.ref a0'), .val (.int (1 : Int32)), .val (.int (0 : Int32)), .unset]) rfl ?_; exact k) ?_
  refine go (fun _ k => by refine XS.iloadN X1.here hx rfl (hb hby d_jdk_38_method_6_code_6) rfl ?_; exact k) ?_
  show OwnEnd _ _ _ _ _ _ _ (T1.setTop (mkF m 7 #[.val (.ref a0'), .val (.int (1 : Int32)), .val (.int (0 : Int32)), .unset] [(.int (0 : Int32))]))
  refine go (fun _ k => by refine XS.ifNo X1.here hx rfl (hb hby d_jdk_38_method_6_code_7) rfl ((if0 _ _).trans (flt (by decide)).2.2.1) ?_; exact k) ?_
  refine go (fun _ k => by refine XS.aloadN X1.here hx rfl (hb hby d_jdk_38_method_6_code_10) rfl rfl ?_; exact k) ?_
  show OwnEnd _ _ _ _ _ _ _ (T1.setTop (mkF m 11 #[.val (.ref a0'), .val (.int (1 : Int32)), .val (.int (0 : Int32)), .unset] [(.ref a0')]))
  obtain ⟨T2, X2, e2, st2⟩ := getF X1 hx hZ hown (host := "") (Or.inl (hw _ (List.mem_of_getElem? (i := 24) rfl))) Via.refl e1 FE (g := (mkF m 11 #[.val (.ref a0'), .val (.int (1 : Int32)), .val (.int (0 : Int32)), .unset] [(.ref a0')])) rfl rfl (hb hby d_jdk_38_method_6_code_11)
  refine go st2 ?_
  show OwnEnd _ _ _ _ _ _ _ (T2.setTop (mkF m 14 #[.val (.ref a0'), .val (.int (1 : Int32)), .val (.int (0 : Int32)), .unset] [(.ref da)]))
  obtain ⟨T3, X3, e3, st3⟩ := getS2 X2 hx hZ hown (host := "") (Or.inl (hw _ (List.mem_of_getElem? (i := 23) rfl))) Via.refl e2 S1 (g := (mkF m 14 #[.val (.ref a0'), .val (.int (1 : Int32)), .val (.int (0 : Int32)), .unset] [(.ref da)])) rfl (hb hby d_jdk_38_method_6_code_14)
  refine go st3 ?_
  show OwnEnd _ _ _ _ _ _ _ (T3.setTop (mkF m 17 #[.val (.ref a0'), .val (.int (1 : Int32)), .val (.int (0 : Int32)), .unset] [(.ref da), (.ref da)]))
  refine go (fun t k => Jvm.RoadKit.acmp (g := (mkF m 17 #[.val (.ref a0'), .val (.int (1 : Int32)), .val (.int (0 : Int32)), .unset] [(.ref da), (.ref da)])) X3 hx rfl rfl rfl (pc0 := 17) (pc' := 45) (same := true) rfl (hb hby d_jdk_38_method_6_code_17) rfl (decide_eq_true rfl) (by decide) (by decide) k) ?_
  refine go (fun _ k => by refine XS.aloadN X3.here hx rfl (hb hby d_jdk_38_method_6_code_45) rfl rfl ?_; exact k) ?_
  refine go (fun _ k => by refine XS.bipush X3.here hx rfl (hb hby d_jdk_38_method_6_code_46) ?_; exact k) ?_
  refine go (fun _ k => by refine XS.iloadN X3.here hx rfl (hb hby d_jdk_38_method_6_code_48) rfl ?_; exact k) ?_
  show OwnEnd _ _ _ _ _ _ _ (T3.setTop (mkF m 49 #[.val (.ref a0'), .val (.int (1 : Int32)), .val (.int (0 : Int32)), .unset] [(.int (1 : Int32)), (.int (10 : Int32)), (.ref a0')]))
  obtain ⟨_, T4, L4, X4, hQ4, st4⟩ := callStat X3 hx hZ hown (hw _ (List.mem_of_getElem? (i := 73) rfl)) (hw _ (List.mem_of_getElem? (i := 74) rfl)) (hw _ (List.mem_of_getElem? (i := 75) rfl)) (hw _ (List.mem_of_getElem? (i := 76) rfl)) (by decide) (rm_max l Z a0 hw [] (10 : Int32) (1 : Int32) h0 n0 ) (W := 1) (by decide) (by decide) e3 (g := (mkF m 49 #[.val (.ref a0'), .val (.int (1 : Int32)), .val (.int (0 : Int32)), .unset] [(.int (1 : Int32)), (.int (10 : Int32)), (.ref a0')])) rfl (by rw [hml]; rfl) (argsL := [(.int (10 : Int32)), (.int (1 : Int32))]) (rest := [(.ref a0')]) rfl (lenOf pd__II_I rfl) rfl (by show 2 * 0 + _ ≤ _; exact Nat.le_of_eq rfl) (hb hby d_jdk_38_method_6_code_49) (by decide) (by decide)
  obtain ⟨rfl, Nq4, eq4⟩ := hQ4
  have N4 := Fr.app N0 Nq4
  refine go st4 ?_
  show OwnEnd _ _ _ _ _ _ _ (T4.setTop (mkF m 52 #[.val (.ref a0'), .val (.int (1 : Int32)), .val (.int (0 : Int32)), .unset] [(.int (10 : Int32)), (.ref a0')]))
  obtain ⟨T5, h5, k5, X5, e5, E5, A5, O5, st5⟩ := newR X4 hx hZ hown (hw _ (List.mem_of_getElem? (i := 77) rfl)) (hw _ (List.mem_of_getElem? (i := 78) rfl)) eq4 (g := (mkF m 52 #[.val (.ref a0'), .val (.int (1 : Int32)), .val (.int (0 : Int32)), .unset] [(.int (10 : Int32)), (.ref a0')])) rfl (hb hby d_jdk_38_method_6_code_52) rfl (by decide) (cap := 10) (by decide) (by decide) (by decide) (by decide)
  obtain ⟨b5, g5⟩ : ∃ z, z = h0.size := ⟨_, rfl⟩
  rw [← g5] at A5 st5
  have ne_a0__b5 : a0' ≠ b5 := fun q => absurd EA.lt (by rw [q, g5]; exact Nat.lt_irrefl _)
  have ne_da_b5 : da ≠ b5 := fun q => absurd V1.lt (by rw [q, g5]; exact Nat.lt_irrefl _)
  have g_b5 : n0 ≤ b5 := Nat.le_trans Z0 (Nat.le_of_eq g5.symm)
  have sz_b5 : h0.size ≤ b5 := Nat.le_trans KK.1 (Nat.le_of_eq g5.symm)
  have EA := EA.ext E5
  have FM := FM.ext E5
  have FE := FE.ext E5
  have FS := FS.ext E5
  have O := O.ext E5
  have Z0 := Nat.le_trans Z0 E5.1
  have KK := Keep.ext KK E5
  have V1 := V1.ext E5
  have S1 := S1.ext E5
  have V_b5 : Arv Z h5 b5 k5 (.object "java/lang/Object") (10 : Int32) [.null, .null, .null, .null, .null, .null, .null, .null, .null, .null] .null := (Arv.new A5 (by decide)).pad (pad_rep [] .null 10)
  refine go st5 ?_
  show OwnEnd _ _ _ _ _ _ _ (T5.setTop (mkF m 55 #[.val (.ref a0'), .val (.int (1 : Int32)), .val (.int (0 : Int32)), .unset] [(.ref b5), (.ref a0')]))
  refine go (fun _ k => by refine XS.dupX1 X5.here hx rfl (hb hby d_jdk_38_method_6_code_55) rfl rfl rfl ?_; exact k) ?_
  show OwnEnd _ _ _ _ _ _ _ (T5.setTop (mkF m 56 #[.val (.ref a0'), .val (.int (1 : Int32)), .val (.int (0 : Int32)), .unset] [(.ref b5), (.ref a0'), (.ref b5)]))
  obtain ⟨T6, h6, X6, e6, W6, st6⟩ := putF X5 hx hZ hown (host := "") (Or.inl (hw _ (List.mem_of_getElem? (i := 24) rfl))) Via.refl e5 FE EA (Or.inl (hw _ (List.mem_of_getElem? (i := 25) rfl))) (hw _ (List.mem_of_getElem? (i := 1) rfl)) (ty := (.array (.object "java/lang/Object"))) (by decide) rfl rfl (g := (mkF m 56 #[.val (.ref a0'), .val (.int (1 : Int32)), .val (.int (0 : Int32)), .unset] [(.ref b5), (.ref a0'), (.ref b5)])) rfl rfl (hb hby d_jdk_38_method_6_code_56)
  have N6 := Fr.snoc X6 N4 ga
  have EA := EA.wr W6
  have FM := FM.other W6 (Or.inr (slot_ne (Or.inl (hw _ (List.mem_of_getElem? (i := 22) rfl))) (Or.inl (hw _ (List.mem_of_getElem? (i := 25) rfl))) (by decide) (t := .int) (t' := (.array (.object "java/lang/Object"))) (by decide) (by decide)))
  have FS := FS.other W6 (Or.inr (slot_ne (Or.inl (hw _ (List.mem_of_getElem? (i := 57) rfl))) (Or.inl (hw _ (List.mem_of_getElem? (i := 25) rfl))) (by decide) (t := .int) (t' := (.array (.object "java/lang/Object"))) (by decide) (by decide)))
  have O := O.wr W6 ga
  have Z0 := Nat.le_trans Z0 (Keep.of_wr W6).1
  have KK := Keep.wr KK W6 (Or.inl (List.mem_of_getElem? (i := 0) rfl))
  have V1 := V1.other W6 (Ne.symm ned)
  have S1 := S1.wr W6
  have V_b5 := V_b5.other W6 (Ne.symm ne_a0__b5)
  have FE := FE.same W6
  refine go st6 ?_
  show OwnEnd _ _ _ _ _ _ _ (T6.setTop (mkF m 59 #[.val (.ref a0'), .val (.int (1 : Int32)), .val (.int (0 : Int32)), .unset] [(.ref b5)]))
  refine endA X6 hx hlk Bd.returns rfl rfl (hb hby d_jdk_38_method_6_code_59) e6 (by decide) (by decide) ?_
  exact ⟨b5, k5, rfl, N6, KK, g_b5, sz_b5, EA, FM, FE, FS, V_b5, O5⟩
theorem d_jdk_38_method_7_code_0 : decode jdk_38_method_7_code 0 = .ok (.aload_n 0, 1) := by decide +kernel
theorem d_jdk_38_method_7_code_1 : decode jdk_38_method_7_code 1 = .ok (.aload_n 0, 1) := by decide +kernel
theorem d_jdk_38_method_7_code_2 : decode jdk_38_method_7_code 2 = .ok (.getfield 48, 3) := by decide +kernel
theorem d_jdk_38_method_7_code_5 : decode jdk_38_method_7_code 5 = .ok (.iconst 1, 1) := by decide +kernel
theorem d_jdk_38_method_7_code_6 : decode jdk_38_method_7_code 6 = .ok (.iadd, 1) := by decide +kernel
theorem d_jdk_38_method_7_code_7 : decode jdk_38_method_7_code 7 = .ok (.invokevirtual 69, 3) := by decide +kernel
theorem pd__I__Ljava_lang_Object_ : parseMethodDescriptor "(I)[Ljava/lang/Object;" = some ⟨[.int], some (.array (.object "java/lang/Object"))⟩ := by decide +kernel
theorem d_jdk_38_method_7_code_10 : decode jdk_38_method_7_code 10 = .ok (.areturn, 1) := by decide +kernel
theorem ef_rm_gr0 (m : MethodId) (y0 : Addr) : entryFrame m #[(.ref y0)] 1 = mkF m 0 #[.val (.ref y0)] [] := by first | (simp [entryFrame, mkF, argsToLocals, Value.category]; done) | rfl
def Q_rm_gr0 (Z : State) (a0' : Addr) (da : Addr) (dk : ClassId) (mc : Int32) (h0 : Heap) (n0 : Nat) (v : Option Value) (h : Heap) (L : List Loc) : Prop := ∃ gb gk, v = some (.ref gb) ∧ Fr n0 L ∧ Keep h0 h [a0'] ∧ n0 ≤ gb ∧ h0.size ≤ gb ∧ Exa Z h a0' "java/util/ArrayList" ∧ Fld Z h a0' "java/util/AbstractList" "modCount" "I" (.int mc) ∧ Fld Z h a0' "java/util/ArrayList" "elementData" "[Ljava/lang/Object;" (.ref gb) ∧ Fld Z h a0' "java/util/ArrayList" "size" "I" (.int 0) ∧ Arv Z h gb gk (.object "java/lang/Object") 10 [.null, .null, .null, .null, .null, .null, .null, .null, .null, .null] .null ∧ Ovr Z gk "java/lang/Object"
set_option maxRecDepth 65536 in
set_option maxHeartbeats 40000000 in
theorem rm_gr0 (l : Launch) (Z : State) (a0 : Array Value) (hw : ∀ d ∈ tables_1, d.before a0 Z = true) (ws : List Jvm.Cond) (a0' : Addr) (da : Addr) (dk : ClassId) (mc : Int32) (h0 : Heap) (n0 : Nat) (ga : n0 ≤ a0') (EA : Exa Z h0 a0' "java/util/ArrayList") (FM : Fld Z h0 a0' "java/util/AbstractList" "modCount" "I" (.int mc)) (FE : Fld Z h0 a0' "java/util/ArrayList" "elementData" "[Ljava/lang/Object;" (.ref da)) (FS : Fld Z h0 a0' "java/util/ArrayList" "size" "I" (.int 0)) (O : Old Z n0 h0) (SD : Sta Z Z.heap "java/util/ArrayList" "DEFAULTCAPACITY_EMPTY_ELEMENTDATA" "[Ljava/lang/Object;" (.ref da)) (VD : Arv Z Z.heap da dk (.object "java/lang/Object") 0 [] .null) :
    MetFree l (⟨"java/util/ArrayList", "grow", "()[Ljava/lang/Object;"⟩ : MethodName) (head1 (Jvm.Cond.code (⟨"java/util/ArrayList", "grow", "()[Ljava/lang/Object;"⟩ : MethodName) jdk_38_method_7_code 1 (some (.array (.object "java/lang/Object"))) :: ws) ({ frames := 2, cells := 1, slots := 10, locals := 29 } : Room)) (fun a U => a = #[(.ref a0')] ∧ Z.Warmed39 U.vm ∧ U.heap = h0) (fun _ _ _ _ _ => True) (fun _ U o U' => ∃ v L, o = .returned v ∧ Q_rm_gr0 Z a0' da dk mc h0 n0 v U'.heap L ∧ FrameEnd U o U' L 1 10) := by
  refine MetFree.of_bodySF (plainFor_of_name pn_java_util_ArrayList) hisR ?_
  intro p e s m args below meth c s₁ Bd hml0 hP hK
  obtain ⟨rfl, hZ, hh⟩ := hP
  have hx := Bd.exec
  have hby := Bd.bytes
  have hlk := Bd.notSynchronized
  have hml : c.maxLocals = 1 := hml0
  have hown : s.vm.findClass "java/util/ArrayList" = some m.cls := findClass_of_methodNamed Bd.named
  have hnm := (name_of_methodNamed Bd.named Bd.method).1
  have X0 : Stand p l e ({ frames := 2, cells := 1, slots := 10, locals := 29 } : Room) s m #[(.ref a0')] below meth c s₁ [] 0 0 := Stand.of_body Bd
  have e0 : s₁.heap = h0 := by rw [← hh, Bd.state]; rfl
  have N0 := Fr.nil n0
  show OwnEnd p e below s (Q_rm_gr0 Z a0' da dk mc h0 n0) 1 10 (s₁.setTop (entryFrame m #[(.ref a0')] 1))
  refine go (fun t k => castTop (ef_rm_gr0 m a0') k) ?_
  have KK := Keep.refl h0 [a0']
  have S1 := SD.ext O.2
  have V1 := VD.ext O.2
  have Z0 : n0 ≤ h0.size := by rw [← O.1]; exact O.2.1
  have ned : a0' ≠ da := fun q => absurd VD.lt (by rw [← q, O.1]; exact Nat.not_lt.mpr ga)
  show OwnEnd _ _ _ _ _ _ _ (s₁.setTop (mkF m 0 #[.val (.ref a0')] []))
  refine go (fun _ k => by refine XS.aloadN X0.here hx rfl (hb hby d_jdk_38_method_7_code_0) rfl rfl ?_; exact k) ?_
  refine go (fun _ k => by refine XS.aloadN X0.here hx rfl (hb hby d_jdk_38_method_7_code_1) rfl rfl ?_; exact k) ?_
  show OwnEnd _ _ _ _ _ _ _ (s₁.setTop (mkF m 2 #[.val (.ref a0')] [(.ref a0'), (.ref a0')]))
  obtain ⟨T1, X1, e1, st1⟩ := getF X0 hx hZ hown (host := "") (Or.inl (hw _ (List.mem_of_getElem? (i := 56) rfl))) Via.refl e0 FS (g := (mkF m 2 #[.val (.ref a0')] [(.ref a0'), (.ref a0')])) rfl rfl (hb hby d_jdk_38_method_7_code_2)
  refine go st1 ?_
  refine go (fun _ k => by refine XS.iconst X1.here hx rfl (hb hby d_jdk_38_method_7_code_5) ?_; exact k) ?_
  refine go (fun _ k => by refine XS.iadd X1.here hx rfl (hb hby d_jdk_38_method_7_code_6) rfl ?_; exact k) ?_
  show OwnEnd _ _ _ _ _ _ _ (T1.setTop (mkF m 7 #[.val (.ref a0')] [(.int ((0 : Int32) + (1 : Int32))), (.ref a0')]))
  rw [show ((0 : Int32) + (1 : Int32)) = (1 : Int32) from by decide]
  show OwnEnd _ _ _ _ _ _ _ (T1.setTop (mkF m 7 #[.val (.ref a0')] [(.int (1 : Int32)), (.ref a0')]))
  obtain ⟨_, T2, L2, X2, hQ2, st2⟩ := callPriv X1 hx hZ hown (hw _ (List.mem_of_getElem? (i := 68) rfl)) (hw _ (List.mem_of_getElem? (i := 69) rfl)) (hw _ (List.mem_of_getElem? (i := 70) rfl)) (hw _ (List.mem_of_getElem? (i := 1) rfl)) (hw _ (List.mem_of_getElem? (i := 2) rfl)) (hw _ (List.mem_of_getElem? (i := 72) rfl)) (by decide) (rm_gr1 l Z a0 hw [] a0' da dk mc h0 n0 ga EA FM FE FS O SD VD) (W := 0) (by decide) (by decide) e1 EA (g := (mkF m 7 #[.val (.ref a0')] [(.int (1 : Int32)), (.ref a0')])) rfl (by rw [hml]; rfl) (argsL := [(.int (1 : Int32))]) (rest := []) rfl (lenOf pd__I__Ljava_lang_Object_ rfl) rfl (by show 2 * 0 + _ ≤ _; exact Nat.le_of_eq rfl) (hb hby d_jdk_38_method_7_code_7) (by decide) (by decide)
  have lto2 := EA.lt
  have ltv2 := V1.lt
  obtain ⟨gb2, k2, rfl, Nq2, K2, g_gb2, sq2, EA, FM, FE, FS, V_gb2, O2⟩ := hQ2
  have sz_gb2 : h0.size ≤ gb2 := Nat.le_trans KK.1 sq2
  have N2 := Fr.app N0 Nq2
  have O := O.keep K2 (allS ga all0)
  have Z0 := Nat.le_trans Z0 K2.1
  have KK := Keep.trans KK K2 (allS (Or.inl (List.mem_of_getElem? (i := 0) rfl)) all0)
  have V1 := V1.keep K2 (ninS (Ne.symm ned) nin0)
  have S1 := SD.ext O.2
  have ne_gb2 : a0' ≠ gb2 := fun q => absurd lto2 (by rw [q]; exact Nat.not_lt.mpr sq2)
  have nd_gb2 : da ≠ gb2 := fun q => absurd ltv2 (by rw [q]; exact Nat.not_lt.mpr sq2)
  refine go st2 ?_
  show OwnEnd _ _ _ _ _ _ _ (T2.setTop (mkF m 10 #[.val (.ref a0')] [(.ref gb2)]))
  refine endA X2 hx hlk Bd.returns rfl rfl (hb hby d_jdk_38_method_7_code_10) rfl (by decide) (by decide) ?_
  exact ⟨gb2, k2, rfl, N2, KK, g_gb2, sz_gb2, EA, FM, FE, FS, V_gb2, O2⟩
theorem d_jdk_38_method_24_code_0 : decode jdk_38_method_24_code 0 = .ok (.iload_n 3, 1) := by decide +kernel
theorem d_jdk_38_method_24_code_1 : decode jdk_38_method_24_code 1 = .ok (.aload_n 2, 1) := by decide +kernel
theorem d_jdk_38_method_24_code_2 : decode jdk_38_method_24_code 2 = .ok (.arraylength, 1) := by decide +kernel
theorem d_jdk_38_method_24_code_3 : decode jdk_38_method_24_code 3 = .ok (.if_icmp .ne 8, 3) := by decide +kernel
theorem d_jdk_38_method_24_code_6 : decode jdk_38_method_24_code 6 = .ok (.aload_n 0, 1) := by decide +kernel
theorem d_jdk_38_method_24_code_7 : decode jdk_38_method_24_code 7 = .ok (.invokevirtual 129, 3) := by decide +kernel
theorem pd____Ljava_lang_Object_ : parseMethodDescriptor "()[Ljava/lang/Object;" = some ⟨[], some (.array (.object "java/lang/Object"))⟩ := by decide +kernel
theorem d_jdk_38_method_24_code_10 : decode jdk_38_method_24_code 10 = .ok (.astore_n 2, 1) := by decide +kernel
theorem d_jdk_38_method_24_code_11 : decode jdk_38_method_24_code 11 = .ok (.aload_n 2, 1) := by decide +kernel
theorem d_jdk_38_method_24_code_12 : decode jdk_38_method_24_code 12 = .ok (.iload_n 3, 1) := by decide +kernel
theorem d_jdk_38_method_24_code_13 : decode jdk_38_method_24_code 13 = .ok (.aload_n 1, 1) := by decide +kernel
theorem d_jdk_38_method_24_code_14 : decode jdk_38_method_24_code 14 = .ok (.aastore, 1) := by decide +kernel
theorem d_jdk_38_method_24_code_15 : decode jdk_38_method_24_code 15 = .ok (.aload_n 0, 1) := by decide +kernel
theorem d_jdk_38_method_24_code_16 : decode jdk_38_method_24_code 16 = .ok (.iload_n 3, 1) := by decide +kernel
theorem d_jdk_38_method_24_code_17 : decode jdk_38_method_24_code 17 = .ok (.iconst 1, 1) := by decide +kernel
theorem d_jdk_38_method_24_code_18 : decode jdk_38_method_24_code 18 = .ok (.iadd, 1) := by decide +kernel
theorem d_jdk_38_method_24_code_19 : decode jdk_38_method_24_code 19 = .ok (.putfield 48, 3) := by decide +kernel
theorem d_jdk_38_method_24_code_22 : decode jdk_38_method_24_code 22 = .ok (.return_, 1) := by decide +kernel
theorem ef_rm_a3_D0 (m : MethodId) (y0 : Addr) (y1 : Addr) (y2 : Addr) : entryFrame m #[(.ref y0), (.ref y1), (.ref y2), (.int (0 : Int32))] 4 = mkF m 0 #[.val (.ref y0), .val (.ref y1), .val (.ref y2), .val (.int (0 : Int32))] [] := by first | (simp [entryFrame, mkF, argsToLocals, Value.category]; done) | rfl
def Q_rm_a3_D0 (Z : State) (a0' : Addr) (x1 : Addr) (da : Addr) (dk : ClassId) (h0 : Heap) (n0 : Nat) (v : Option Value) (h : Heap) (L : List Loc) : Prop := ∃ gb gk, v = none ∧ Fr n0 L ∧ Keep h0 h [a0'] ∧ n0 ≤ gb ∧ h0.size ≤ gb ∧ Exa Z h a0' "java/util/ArrayList" ∧ Fld Z h a0' "java/util/AbstractList" "modCount" "I" (.int 1) ∧ Fld Z h a0' "java/util/ArrayList" "elementData" "[Ljava/lang/Object;" (.ref gb) ∧ Fld Z h a0' "java/util/ArrayList" "size" "I" (.int 1) ∧ Arv Z h gb gk (.object "java/lang/Object") 10 [(.ref x1), .null, .null, .null, .null, .null, .null, .null, .null, .null] .null ∧ Ovr Z gk "java/lang/Object"
set_option maxRecDepth 65536 in
set_option maxHeartbeats 40000000 in
theorem rm_a3_D0 (l : Launch) (Z : State) (a0 : Array Value) (hw : ∀ d ∈ tables_1, d.before a0 Z = true) (ws : List Jvm.Cond) (a0' : Addr) (x1 : Addr) (da : Addr) (dk : ClassId) (h0 : Heap) (n0 : Nat) (ga : n0 ≤ a0') (EA : Exa Z h0 a0' "java/util/ArrayList") (FM : Fld Z h0 a0' "java/util/AbstractList" "modCount" "I" (.int 1)) (FE : Fld Z h0 a0' "java/util/ArrayList" "elementData" "[Ljava/lang/Object;" (.ref da)) (FS : Fld Z h0 a0' "java/util/ArrayList" "size" "I" (.int 0)) (O : Old Z n0 h0) (SD : Sta Z Z.heap "java/util/ArrayList" "DEFAULTCAPACITY_EMPTY_ELEMENTDATA" "[Ljava/lang/Object;" (.ref da)) (VD : Arv Z Z.heap da dk (.object "java/lang/Object") 0 [] .null) (EX : Exa Z h0 x1 "java/lang/Double") :
    MetFree l (⟨"java/util/ArrayList", "add", "(Ljava/lang/Object;[Ljava/lang/Object;I)V"⟩ : MethodName) (head1 (Jvm.Cond.code (⟨"java/util/ArrayList", "add", "(Ljava/lang/Object;[Ljava/lang/Object;I)V"⟩ : MethodName) jdk_38_method_24_code 4 none :: ws) ({ frames := 3, cells := 1, slots := 10, locals := 41 } : Room)) (fun a U => a = #[(.ref a0'), (.ref x1), (.ref da), (.int (0 : Int32))] ∧ Z.Warmed39 U.vm ∧ U.heap = h0) (fun _ _ _ _ _ => True) (fun _ U o U' => ∃ v L, o = .returned v ∧ Q_rm_a3_D0 Z a0' x1 da dk h0 n0 v U'.heap L ∧ FrameEnd U o U' L 1 10) := by
  refine MetFree.of_bodySF (plainFor_of_name pn_java_util_ArrayList) hisR ?_
  intro p e s m args below meth c s₁ Bd hml0 hP hK
  obtain ⟨rfl, hZ, hh⟩ := hP
  have hx := Bd.exec
  have hby := Bd.bytes
  have hlk := Bd.notSynchronized
  have hml : c.maxLocals = 4 := hml0
  have hown : s.vm.findClass "java/util/ArrayList" = some m.cls := findClass_of_methodNamed Bd.named
  have hnm := (name_of_methodNamed Bd.named Bd.method).1
  have X0 : Stand p l e ({ frames := 3, cells := 1, slots := 10, locals := 41 } : Room) s m #[(.ref a0'), (.ref x1), (.ref da), (.int (0 : Int32))] below meth c s₁ [] 0 0 := Stand.of_body Bd
  have e0 : s₁.heap = h0 := by rw [← hh, Bd.state]; rfl
  have N0 := Fr.nil n0
  show OwnEnd p e below s (Q_rm_a3_D0 Z a0' x1 da dk h0 n0) 1 10 (s₁.setTop (entryFrame m #[(.ref a0'), (.ref x1), (.ref da), (.int (0 : Int32))] 4))
  refine go (fun t k => castTop (ef_rm_a3_D0 m a0' x1 da) k) ?_
  have KK := Keep.refl h0 [a0']
  have S1 := SD.ext O.2
  have V1 := VD.ext O.2
  have Z0 : n0 ≤ h0.size := by rw [← O.1]; exact O.2.1
  have ned : a0' ≠ da := fun q => absurd VD.lt (by rw [← q, O.1]; exact Nat.not_lt.mpr ga)
  have nex : x1 ≠ a0' := Jvm.RoadKit.ne_exa EX EA (by decide)
  show OwnEnd _ _ _ _ _ _ _ (s₁.setTop (mkF m 0 #[.val (.ref a0'), .val (.ref x1), .val (.ref da), .val (.int (0 : Int32))] []))
  refine go (fun _ k => by refine XS.iloadN X0.here hx rfl (hb hby d_jdk_38_method_24_code_0) rfl ?_; exact k) ?_
  refine go (fun _ k => by refine XS.aloadN X0.here hx rfl (hb hby d_jdk_38_method_24_code_1) rfl rfl ?_; exact k) ?_
  show OwnEnd _ _ _ _ _ _ _ (s₁.setTop (mkF m 2 #[.val (.ref a0'), .val (.ref x1), .val (.ref da), .val (.int (0 : Int32))] [(.ref da), (.int (0 : Int32))]))
  refine go (lenV X0 hx hZ e0 V1 (g := (mkF m 2 #[.val (.ref a0'), .val (.ref x1), .val (.ref da), .val (.int (0 : Int32))] [(.ref da), (.int (0 : Int32))])) rfl rfl (hb hby d_jdk_38_method_24_code_2)) ?_
  show OwnEnd _ _ _ _ _ _ _ (s₁.setTop (mkF m 3 #[.val (.ref a0'), .val (.ref x1), .val (.ref da), .val (.int (0 : Int32))] [(.int (0 : Int32)), (.int (0 : Int32))]))
  refine go (fun _ k => by refine XS.icmpNo X0.here hx rfl (hb hby d_jdk_38_method_24_code_3) rfl (teq (by decide)).2 ?_; exact k) ?_
  refine go (fun _ k => by refine XS.aloadN X0.here hx rfl (hb hby d_jdk_38_method_24_code_6) rfl rfl ?_; exact k) ?_
  show OwnEnd _ _ _ _ _ _ _ (s₁.setTop (mkF m 7 #[.val (.ref a0'), .val (.ref x1), .val (.ref da), .val (.int (0 : Int32))] [(.ref a0')]))
  obtain ⟨_, T1, L1, X1, hQ1, st1⟩ := callPriv X0 hx hZ hown (hw _ (List.mem_of_getElem? (i := 63) rfl)) (hw _ (List.mem_of_getElem? (i := 64) rfl)) (hw _ (List.mem_of_getElem? (i := 65) rfl)) (hw _ (List.mem_of_getElem? (i := 1) rfl)) (hw _ (List.mem_of_getElem? (i := 2) rfl)) (hw _ (List.mem_of_getElem? (i := 67) rfl)) (by decide) (rm_gr0 l Z a0 hw [] a0' da dk (1 : Int32) h0 n0 ga EA FM FE FS O SD VD) (W := 0) (by decide) (by decide) e0 EA (g := (mkF m 7 #[.val (.ref a0'), .val (.ref x1), .val (.ref da), .val (.int (0 : Int32))] [(.ref a0')])) rfl (by rw [hml]; rfl) (argsL := []) (rest := []) rfl (lenOf pd____Ljava_lang_Object_ rfl) rfl (by show 2 * 0 + _ ≤ _; exact Nat.le_of_eq rfl) (hb hby d_jdk_38_method_24_code_7) (by decide) (by decide)
  have lto1 := EA.lt
  have ltv1 := V1.lt
  obtain ⟨gb1, k1, rfl, Nq1, K1, g_gb1, sq1, EA, FM, FE, FS, V_gb1, O1⟩ := hQ1
  have sz_gb1 : h0.size ≤ gb1 := Nat.le_trans KK.1 sq1
  have N1 := Fr.app N0 Nq1
  have O := O.keep K1 (allS ga all0)
  have Z0 := Nat.le_trans Z0 K1.1
  have KK := Keep.trans KK K1 (allS (Or.inl (List.mem_of_getElem? (i := 0) rfl)) all0)
  have V1 := V1.keep K1 (ninS (Ne.symm ned) nin0)
  have EX := EX.keep K1
  have S1 := SD.ext O.2
  have ne_gb1 : a0' ≠ gb1 := fun q => absurd lto1 (by rw [q]; exact Nat.not_lt.mpr sq1)
  have nd_gb1 : da ≠ gb1 := fun q => absurd ltv1 (by rw [q]; exact Nat.not_lt.mpr sq1)
  refine go st1 ?_
  refine go (fun _ k => by refine XS.astoreN X1.here hx rfl (hb hby d_jdk_38_method_24_code_10) rfl rfl (l' := #[.val (.ref a0'), .val (.ref x1), .val (.ref gb1), .val (.int (0 : Int32))]) rfl ?_; exact k) ?_
  refine go (fun _ k => by refine XS.aloadN X1.here hx rfl (hb hby d_jdk_38_method_24_code_11) rfl rfl ?_; exact k) ?_
  refine go (fun _ k => by refine XS.iloadN X1.here hx rfl (hb hby d_jdk_38_method_24_code_12) rfl ?_; exact k) ?_
  show OwnEnd _ _ _ _ _ _ _ (T1.setTop (mkF m 13 #[.val (.ref a0'), .val (.ref x1), .val (.ref gb1), .val (.int (0 : Int32))] [(.int (0 : Int32)), (.ref gb1)]))
  refine go (fun _ k => by refine XS.aloadN X1.here hx rfl (hb hby d_jdk_38_method_24_code_13) rfl rfl ?_; exact k) ?_
  show OwnEnd _ _ _ _ _ _ _ (T1.setTop (mkF m 14 #[.val (.ref a0'), .val (.ref x1), .val (.ref gb1), .val (.int (0 : Int32))] [(.ref x1), (.int (0 : Int32)), (.ref gb1)]))
  obtain ⟨T2, h2, X2, e2, W2, V_gb1', st2⟩ := stRv X1 hx hZ rfl V_gb1 O1 (Ins.of_exa EX (hw _ (List.mem_of_getElem? (i := 79) rfl))) rfl rfl (j := (0 : Int32)) (i := 0) (by decide) (by decide) (by decide) (Nat.le_of_ble_eq_true rfl) (g := (mkF m 14 #[.val (.ref a0'), .val (.ref x1), .val (.ref gb1), .val (.int (0 : Int32))] [(.ref x1), (.int (0 : Int32)), (.ref gb1)])) rfl rfl (hb hby d_jdk_38_method_24_code_14)
  have N2 := Fr.snoc X2 N1 g_gb1
  have O := O.wr W2 g_gb1
  have Z0 := Nat.le_trans Z0 (Keep.of_wr W2).1
  have KK := Keep.wr KK W2 (Or.inr sz_gb1)
  have V1 := V1.other W2 nd_gb1
  have S1 := S1.wr W2
  have EX := EX.wr W2
  have EA := EA.wr W2
  have FM := FM.other W2 (Or.inl ne_gb1)
  have FE := FE.other W2 (Or.inl ne_gb1)
  have FS := FS.other W2 (Or.inl ne_gb1)
  have V_gb1 : Arv Z h2 gb1 k1 (.object "java/lang/Object") (10 : Int32) [(.ref x1), .null, .null, .null, .null, .null, .null, .null, .null, .null] .null := V_gb1'
  refine go st2 ?_
  refine go (fun _ k => by refine XS.aloadN X2.here hx rfl (hb hby d_jdk_38_method_24_code_15) rfl rfl ?_; exact k) ?_
  refine go (fun _ k => by refine XS.iloadN X2.here hx rfl (hb hby d_jdk_38_method_24_code_16) rfl ?_; exact k) ?_
  refine go (fun _ k => by refine XS.iconst X2.here hx rfl (hb hby d_jdk_38_method_24_code_17) ?_; exact k) ?_
  show OwnEnd _ _ _ _ _ _ _ (T2.setTop (mkF m 18 #[.val (.ref a0'), .val (.ref x1), .val (.ref gb1), .val (.int (0 : Int32))] [(.int (1 : Int32)), (.int (0 : Int32)), (.ref a0')]))
  refine go (fun _ k => by refine XS.iadd X2.here hx rfl (hb hby d_jdk_38_method_24_code_18) rfl ?_; exact k) ?_
  show OwnEnd _ _ _ _ _ _ _ (T2.setTop (mkF m 19 #[.val (.ref a0'), .val (.ref x1), .val (.ref gb1), .val (.int (0 : Int32))] [(.int ((0 : Int32) + (1 : Int32))), (.ref a0')]))
  rw [show ((0 : Int32) + (1 : Int32)) = (1 : Int32) from by decide]
  show OwnEnd _ _ _ _ _ _ _ (T2.setTop (mkF m 19 #[.val (.ref a0'), .val (.ref x1), .val (.ref gb1), .val (.int (0 : Int32))] [(.int (1 : Int32)), (.ref a0')]))
  obtain ⟨T3, h3, X3, e3, W3, st3⟩ := putF X2 hx hZ hown (host := "") (Or.inl (hw _ (List.mem_of_getElem? (i := 56) rfl))) Via.refl e2 FS EA (Or.inl (hw _ (List.mem_of_getElem? (i := 57) rfl))) (hw _ (List.mem_of_getElem? (i := 1) rfl)) (ty := .int) (by decide) rfl rfl (g := (mkF m 19 #[.val (.ref a0'), .val (.ref x1), .val (.ref gb1), .val (.int (0 : Int32))] [(.int (1 : Int32)), (.ref a0')])) rfl rfl (hb hby d_jdk_38_method_24_code_19)
  have N3 := Fr.snoc X3 N2 ga
  have O := O.wr W3 ga
  have Z0 := Nat.le_trans Z0 (Keep.of_wr W3).1
  have KK := Keep.wr KK W3 (Or.inl (List.mem_of_getElem? (i := 0) rfl))
  have V1 := V1.other W3 (Ne.symm ned)
  have S1 := S1.wr W3
  have EX := EX.wr W3
  have EA := EA.wr W3
  have FM := FM.other W3 (Or.inr (slot_ne (Or.inl (hw _ (List.mem_of_getElem? (i := 22) rfl))) (Or.inl (hw _ (List.mem_of_getElem? (i := 57) rfl))) (by decide) (t := .int) (t' := .int) (by decide) (by decide)))
  have FE := FE.other W3 (Or.inr (slot_ne (Or.inl (hw _ (List.mem_of_getElem? (i := 25) rfl))) (Or.inl (hw _ (List.mem_of_getElem? (i := 57) rfl))) (by decide) (t := (.array (.object "java/lang/Object"))) (t' := .int) (by decide) (by decide)))
  have V_gb1 := V_gb1.other W3 (Ne.symm ne_gb1)
  have FS := FS.same W3
  refine go st3 ?_
  show OwnEnd _ _ _ _ _ _ _ (T3.setTop (mkF m 22 #[.val (.ref a0'), .val (.ref x1), .val (.ref gb1), .val (.int (0 : Int32))] []))
  refine endV X3 hx hlk Bd.returns (hb hby d_jdk_38_method_24_code_22) e3 (by decide) (by decide) ?_
  exact ⟨_, _, rfl, N3, KK, g_gb1, sz_gb1, EA, FM, FE, FS, V_gb1, O1⟩
theorem d_jdk_38_method_25_code_0 : decode jdk_38_method_25_code 0 = .ok (.aload_n 0, 1) := by decide +kernel
theorem d_jdk_38_method_25_code_1 : decode jdk_38_method_25_code 1 = .ok (.dup, 1) := by decide +kernel
theorem d_jdk_38_method_25_code_2 : decode jdk_38_method_25_code 2 = .ok (.getfield 63, 3) := by decide +kernel
theorem d_jdk_38_method_25_code_5 : decode jdk_38_method_25_code 5 = .ok (.iconst 1, 1) := by decide +kernel
theorem d_jdk_38_method_25_code_6 : decode jdk_38_method_25_code 6 = .ok (.iadd, 1) := by decide +kernel
theorem d_jdk_38_method_25_code_7 : decode jdk_38_method_25_code 7 = .ok (.putfield 63, 3) := by decide +kernel
theorem d_jdk_38_method_25_code_10 : decode jdk_38_method_25_code 10 = .ok (.aload_n 0, 1) := by decide +kernel
theorem d_jdk_38_method_25_code_11 : decode jdk_38_method_25_code 11 = .ok (.aload_n 1, 1) := by decide +kernel
theorem d_jdk_38_method_25_code_12 : decode jdk_38_method_25_code 12 = .ok (.aload_n 0, 1) := by decide +kernel
theorem d_jdk_38_method_25_code_13 : decode jdk_38_method_25_code 13 = .ok (.getfield 9, 3) := by decide +kernel
theorem d_jdk_38_method_25_code_16 : decode jdk_38_method_25_code 16 = .ok (.aload_n 0, 1) := by decide +kernel
theorem d_jdk_38_method_25_code_17 : decode jdk_38_method_25_code 17 = .ok (.getfield 48, 3) := by decide +kernel
theorem d_jdk_38_method_25_code_20 : decode jdk_38_method_25_code 20 = .ok (.invokevirtual 131, 3) := by decide +kernel
theorem pd__Ljava_lang_Object__Ljava_lang_Object_I_V : parseMethodDescriptor "(Ljava/lang/Object;[Ljava/lang/Object;I)V" = some ⟨[(.object "java/lang/Object"), (.array (.object "java/lang/Object")), .int], none⟩ := by decide +kernel
theorem d_jdk_38_method_25_code_23 : decode jdk_38_method_25_code 23 = .ok (.iconst 1, 1) := by decide +kernel
theorem d_jdk_38_method_25_code_24 : decode jdk_38_method_25_code 24 = .ok (.ireturn, 1) := by decide +kernel
theorem ef_rm_a1_D0 (m : MethodId) (y0 : Addr) (y1 : Addr) : entryFrame m #[(.ref y0), (.ref y1)] 2 = mkF m 0 #[.val (.ref y0), .val (.ref y1)] [] := by first | (simp [entryFrame, mkF, argsToLocals, Value.category]; done) | rfl
def Q_rm_a1_D0 (Z : State) (a0' : Addr) (x1 : Addr) (da : Addr) (dk : ClassId) (h0 : Heap) (n0 : Nat) (v : Option Value) (h : Heap) (L : List Loc) : Prop := ∃ gb gk, v = some (.int 1) ∧ Fr n0 L ∧ Keep h0 h [a0'] ∧ n0 ≤ gb ∧ h0.size ≤ gb ∧ Exa Z h a0' "java/util/ArrayList" ∧ Fld Z h a0' "java/util/AbstractList" "modCount" "I" (.int 1) ∧ Fld Z h a0' "java/util/ArrayList" "elementData" "[Ljava/lang/Object;" (.ref gb) ∧ Fld Z h a0' "java/util/ArrayList" "size" "I" (.int 1) ∧ Arv Z h gb gk (.object "java/lang/Object") 10 [(.ref x1), .null, .null, .null, .null, .null, .null, .null, .null, .null] .null ∧ Ovr Z gk "java/lang/Object"
set_option maxRecDepth 65536 in
set_option maxHeartbeats 40000000 in
theorem rm_a1_D0 (l : Launch) (Z : State) (a0 : Array Value) (hw : ∀ d ∈ tables_1, d.before a0 Z = true) (ws : List Jvm.Cond) (a0' : Addr) (x1 : Addr) (da : Addr) (dk : ClassId) (h0 : Heap) (n0 : Nat) (ga : n0 ≤ a0') (EA : Exa Z h0 a0' "java/util/ArrayList") (FM : Fld Z h0 a0' "java/util/AbstractList" "modCount" "I" (.int 0)) (FE : Fld Z h0 a0' "java/util/ArrayList" "elementData" "[Ljava/lang/Object;" (.ref da)) (FS : Fld Z h0 a0' "java/util/ArrayList" "size" "I" (.int 0)) (O : Old Z n0 h0) (SD : Sta Z Z.heap "java/util/ArrayList" "DEFAULTCAPACITY_EMPTY_ELEMENTDATA" "[Ljava/lang/Object;" (.ref da)) (VD : Arv Z Z.heap da dk (.object "java/lang/Object") 0 [] .null) (EX : Exa Z h0 x1 "java/lang/Double") :
    MetFree l (⟨"java/util/ArrayList", "add", "(Ljava/lang/Object;)Z"⟩ : MethodName) (head1 (Jvm.Cond.code (⟨"java/util/ArrayList", "add", "(Ljava/lang/Object;)Z"⟩ : MethodName) jdk_38_method_25_code 2 (some .boolean) :: ws) ({ frames := 4, cells := 1, slots := 10, locals := 56 } : Room)) (fun a U => a = #[(.ref a0'), (.ref x1)] ∧ Z.Warmed39 U.vm ∧ U.heap = h0) (fun _ _ _ _ _ => True) (fun _ U o U' => ∃ v L, o = .returned v ∧ Q_rm_a1_D0 Z a0' x1 da dk h0 n0 v U'.heap L ∧ FrameEnd U o U' L 1 10) := by
  refine MetFree.of_bodySF (plainFor_of_name pn_java_util_ArrayList) hisR ?_
  intro p e s m args below meth c s₁ Bd hml0 hP hK
  obtain ⟨rfl, hZ, hh⟩ := hP
  have hx := Bd.exec
  have hby := Bd.bytes
  have hlk := Bd.notSynchronized
  have hml : c.maxLocals = 2 := hml0
  have hown : s.vm.findClass "java/util/ArrayList" = some m.cls := findClass_of_methodNamed Bd.named
  have hnm := (name_of_methodNamed Bd.named Bd.method).1
  have X0 : Stand p l e ({ frames := 4, cells := 1, slots := 10, locals := 56 } : Room) s m #[(.ref a0'), (.ref x1)] below meth c s₁ [] 0 0 := Stand.of_body Bd
  have e0 : s₁.heap = h0 := by rw [← hh, Bd.state]; rfl
  have N0 := Fr.nil n0
  show OwnEnd p e below s (Q_rm_a1_D0 Z a0' x1 da dk h0 n0) 1 10 (s₁.setTop (entryFrame m #[(.ref a0'), (.ref x1)] 2))
  refine go (fun t k => castTop (ef_rm_a1_D0 m a0' x1) k) ?_
  have KK := Keep.refl h0 [a0']
  have S1 := SD.ext O.2
  have V1 := VD.ext O.2
  have Z0 : n0 ≤ h0.size := by rw [← O.1]; exact O.2.1
  have ned : a0' ≠ da := fun q => absurd VD.lt (by rw [← q, O.1]; exact Nat.not_lt.mpr ga)
  have nex : x1 ≠ a0' := Jvm.RoadKit.ne_exa EX EA (by decide)
  show OwnEnd _ _ _ _ _ _ _ (s₁.setTop (mkF m 0 #[.val (.ref a0'), .val (.ref x1)] []))
  refine go (fun _ k => by refine XS.aloadN X0.here hx rfl (hb hby d_jdk_38_method_25_code_0) rfl rfl ?_; exact k) ?_
  refine go (fun _ k => by refine XS.dup X0.here hx rfl (hb hby d_jdk_38_method_25_code_1) rfl rfl ?_; exact k) ?_
  show OwnEnd _ _ _ _ _ _ _ (s₁.setTop (mkF m 2 #[.val (.ref a0'), .val (.ref x1)] [(.ref a0'), (.ref a0')]))
  obtain ⟨T1, X1, e1, st1⟩ := getF X0 hx hZ hown (host := "") (Or.inl (hw _ (List.mem_of_getElem? (i := 54) rfl))) (Via.of (hw _ (List.mem_of_getElem? (i := 55) rfl))) e0 FM (g := (mkF m 2 #[.val (.ref a0'), .val (.ref x1)] [(.ref a0'), (.ref a0')])) rfl rfl (hb hby d_jdk_38_method_25_code_2)
  refine go st1 ?_
  refine go (fun _ k => by refine XS.iconst X1.here hx rfl (hb hby d_jdk_38_method_25_code_5) ?_; exact k) ?_
  refine go (fun _ k => by refine XS.iadd X1.here hx rfl (hb hby d_jdk_38_method_25_code_6) rfl ?_; exact k) ?_
  show OwnEnd _ _ _ _ _ _ _ (T1.setTop (mkF m 7 #[.val (.ref a0'), .val (.ref x1)] [(.int ((0 : Int32) + (1 : Int32))), (.ref a0')]))
  rw [show ((0 : Int32) + (1 : Int32)) = (1 : Int32) from by decide]
  show OwnEnd _ _ _ _ _ _ _ (T1.setTop (mkF m 7 #[.val (.ref a0'), .val (.ref x1)] [(.int (1 : Int32)), (.ref a0')]))
  obtain ⟨T2, h2, X2, e2, W2, st2⟩ := putF X1 hx hZ hown (host := "") (Or.inl (hw _ (List.mem_of_getElem? (i := 54) rfl))) (Via.of (hw _ (List.mem_of_getElem? (i := 55) rfl))) e1 FM EA (Or.inl (hw _ (List.mem_of_getElem? (i := 22) rfl))) (hw _ (List.mem_of_getElem? (i := 1) rfl)) (ty := .int) (by decide) rfl rfl (g := (mkF m 7 #[.val (.ref a0'), .val (.ref x1)] [(.int (1 : Int32)), (.ref a0')])) rfl rfl (hb hby d_jdk_38_method_25_code_7)
  have N2 := Fr.snoc X2 N0 ga
  have EA := EA.wr W2
  have FE := FE.other W2 (Or.inr (slot_ne (Or.inl (hw _ (List.mem_of_getElem? (i := 25) rfl))) (Or.inl (hw _ (List.mem_of_getElem? (i := 22) rfl))) (by decide) (t := (.array (.object "java/lang/Object"))) (t' := .int) (by decide) (by decide)))
  have FS := FS.other W2 (Or.inr (slot_ne (Or.inl (hw _ (List.mem_of_getElem? (i := 57) rfl))) (Or.inl (hw _ (List.mem_of_getElem? (i := 22) rfl))) (by decide) (t := .int) (t' := .int) (by decide) (by decide)))
  have O := O.wr W2 ga
  have Z0 := Nat.le_trans Z0 (Keep.of_wr W2).1
  have KK := Keep.wr KK W2 (Or.inl (List.mem_of_getElem? (i := 0) rfl))
  have V1 := V1.other W2 (Ne.symm ned)
  have S1 := S1.wr W2
  have EX := EX.wr W2
  have FM := FM.same W2
  refine go st2 ?_
  refine go (fun _ k => by refine XS.aloadN X2.here hx rfl (hb hby d_jdk_38_method_25_code_10) rfl rfl ?_; exact k) ?_
  refine go (fun _ k => by refine XS.aloadN X2.here hx rfl (hb hby d_jdk_38_method_25_code_11) rfl rfl ?_; exact k) ?_
  refine go (fun _ k => by refine XS.aloadN X2.here hx rfl (hb hby d_jdk_38_method_25_code_12) rfl rfl ?_; exact k) ?_
  show OwnEnd _ _ _ _ _ _ _ (T2.setTop (mkF m 13 #[.val (.ref a0'), .val (.ref x1)] [(.ref a0'), (.ref x1), (.ref a0')]))
  obtain ⟨T3, X3, e3, st3⟩ := getF X2 hx hZ hown (host := "") (Or.inl (hw _ (List.mem_of_getElem? (i := 24) rfl))) Via.refl e2 FE (g := (mkF m 13 #[.val (.ref a0'), .val (.ref x1)] [(.ref a0'), (.ref x1), (.ref a0')])) rfl rfl (hb hby d_jdk_38_method_25_code_13)
  refine go st3 ?_
  refine go (fun _ k => by refine XS.aloadN X3.here hx rfl (hb hby d_jdk_38_method_25_code_16) rfl rfl ?_; exact k) ?_
  show OwnEnd _ _ _ _ _ _ _ (T3.setTop (mkF m 17 #[.val (.ref a0'), .val (.ref x1)] [(.ref a0'), (.ref da), (.ref x1), (.ref a0')]))
  obtain ⟨T4, X4, e4, st4⟩ := getF X3 hx hZ hown (host := "") (Or.inl (hw _ (List.mem_of_getElem? (i := 56) rfl))) Via.refl e3 FS (g := (mkF m 17 #[.val (.ref a0'), .val (.ref x1)] [(.ref a0'), (.ref da), (.ref x1), (.ref a0')])) rfl rfl (hb hby d_jdk_38_method_25_code_17)
  refine go st4 ?_
  show OwnEnd _ _ _ _ _ _ _ (T4.setTop (mkF m 20 #[.val (.ref a0'), .val (.ref x1)] [(.int (0 : Int32)), (.ref da), (.ref x1), (.ref a0')]))
  obtain ⟨_, T5, L5, X5, hQ5, st5⟩ := callPriv X4 hx hZ hown (hw _ (List.mem_of_getElem? (i := 58) rfl)) (hw _ (List.mem_of_getElem? (i := 59) rfl)) (hw _ (List.mem_of_getElem? (i := 60) rfl)) (hw _ (List.mem_of_getElem? (i := 1) rfl)) (hw _ (List.mem_of_getElem? (i := 2) rfl)) (hw _ (List.mem_of_getElem? (i := 62) rfl)) (by decide) (rm_a3_D0 l Z a0 hw [] a0' x1 da dk h2 n0 ga EA FM FE FS O SD VD EX) (W := 0) (by decide) (by decide) e4 EA (g := (mkF m 20 #[.val (.ref a0'), .val (.ref x1)] [(.int (0 : Int32)), (.ref da), (.ref x1), (.ref a0')])) rfl (by rw [hml]; rfl) (argsL := [(.ref x1), (.ref da), (.int (0 : Int32))]) (rest := []) rfl (lenOf pd__Ljava_lang_Object__Ljava_lang_Object_I_V rfl) rfl (by show 2 * 0 + _ ≤ _; exact Nat.le_of_eq rfl) (hb hby d_jdk_38_method_25_code_20) (by decide) (by decide)
  have lto5 := EA.lt
  have ltz5_0 := V1.lt
  have ltz5_1 := EX.lt
  obtain ⟨gb5, k5, rfl, Nq5, K5, g_gb5, sq5, EA, FM, FE, FS, V_gb5, O5⟩ := hQ5
  have sz_gb5 : h0.size ≤ gb5 := Nat.le_trans KK.1 sq5
  have N5 := Fr.app N2 Nq5
  have O := O.keep K5 (allS ga all0)
  have Z0 := Nat.le_trans Z0 K5.1
  have KK := Keep.trans KK K5 (allS (Or.inl (List.mem_of_getElem? (i := 0) rfl)) all0)
  have V1 := V1.keep K5 (ninS (Ne.symm ned) nin0)
  have EX := EX.keep K5
  have S1 := SD.ext O.2
  have ne_gb5 : a0' ≠ gb5 := fun q => absurd lto5 (by rw [q]; exact Nat.not_lt.mpr sq5)
  have nz_gb5_0 : da ≠ gb5 := fun q => absurd ltz5_0 (by rw [q]; exact Nat.not_lt.mpr sq5)
  have nz_gb5_1 : x1 ≠ gb5 := fun q => absurd ltz5_1 (by rw [q]; exact Nat.not_lt.mpr sq5)
  refine go st5 ?_
  refine go (fun _ k => by refine XS.iconst X5.here hx rfl (hb hby d_jdk_38_method_25_code_23) ?_; exact k) ?_
  show OwnEnd _ _ _ _ _ _ _ (T5.setTop (mkF m 24 #[.val (.ref a0'), .val (.ref x1)] [(.int (1 : Int32))]))
  refine endN X5 hx hlk (t := .boolean) (by simp) Bd.returns (hb hby d_jdk_38_method_25_code_24) rfl (by decide) (by decide) ?_
  exact ⟨_, _, rfl, N5, KK, g_gb5, sz_gb5, EA, FM, FE, FS, V_gb5, O5⟩
theorem ef_rm_a3_D1 (m : MethodId) (y0 : Addr) (y1 : Addr) (y2 : Addr) : entryFrame m #[(.ref y0), (.ref y1), (.ref y2), (.int (1 : Int32))] 4 = mkF m 0 #[.val (.ref y0), .val (.ref y1), .val (.ref y2), .val (.int (1 : Int32))] [] := by first | (simp [entryFrame, mkF, argsToLocals, Value.category]; done) | rfl
def Q_rm_a3_D1 (Z : State) (a0' : Addr) (x1 : Addr) (gb : Addr) (gk : ClassId) (y0 : Addr) (h0 : Heap) (n0 : Nat) (v : Option Value) (h : Heap) (L : List Loc) : Prop := v = none ∧ Fr n0 L ∧ Keep h0 h [a0', gb] ∧ Exa Z h a0' "java/util/ArrayList" ∧ Fld Z h a0' "java/util/AbstractList" "modCount" "I" (.int 2) ∧ Fld Z h a0' "java/util/ArrayList" "elementData" "[Ljava/lang/Object;" (.ref gb) ∧ Fld Z h a0' "java/util/ArrayList" "size" "I" (.int 2) ∧ Arv Z h gb gk (.object "java/lang/Object") 10 [(.ref y0), (.ref x1), .null, .null, .null, .null, .null, .null, .null, .null] .null
set_option maxRecDepth 65536 in
set_option maxHeartbeats 40000000 in
theorem rm_a3_D1 (l : Launch) (Z : State) (a0 : Array Value) (hw : ∀ d ∈ tables_1, d.before a0 Z = true) (ws : List Jvm.Cond) (a0' : Addr) (x1 : Addr) (gb : Addr) (gk : ClassId) (y0 : Addr) (h0 : Heap) (n0 : Nat) (ga : n0 ≤ a0') (gg : n0 ≤ gb) (nag : a0' ≠ gb) (EA : Exa Z h0 a0' "java/util/ArrayList") (FM : Fld Z h0 a0' "java/util/AbstractList" "modCount" "I" (.int 2)) (FE : Fld Z h0 a0' "java/util/ArrayList" "elementData" "[Ljava/lang/Object;" (.ref gb)) (FS : Fld Z h0 a0' "java/util/ArrayList" "size" "I" (.int 1)) (VG : Arv Z h0 gb gk (.object "java/lang/Object") 10 [(.ref y0), .null, .null, .null, .null, .null, .null, .null, .null, .null] .null) (OV : Ovr Z gk "java/lang/Object") (EX : Exa Z h0 x1 "java/lang/Double") :
    MetFree l (⟨"java/util/ArrayList", "add", "(Ljava/lang/Object;[Ljava/lang/Object;I)V"⟩ : MethodName) (head1 (Jvm.Cond.code (⟨"java/util/ArrayList", "add", "(Ljava/lang/Object;[Ljava/lang/Object;I)V"⟩ : MethodName) jdk_38_method_24_code 4 none :: ws) ({ frames := 0, cells := 0, slots := 0, locals := 0 } : Room)) (fun a U => a = #[(.ref a0'), (.ref x1), (.ref gb), (.int (1 : Int32))] ∧ Z.Warmed39 U.vm ∧ U.heap = h0) (fun _ _ _ _ _ => True) (fun _ U o U' => ∃ v L, o = .returned v ∧ Q_rm_a3_D1 Z a0' x1 gb gk y0 h0 n0 v U'.heap L ∧ FrameEnd U o U' L 0 0) := by
  refine MetFree.of_bodySF (plainFor_of_name pn_java_util_ArrayList) hisR ?_
  intro p e s m args below meth c s₁ Bd hml0 hP hK
  obtain ⟨rfl, hZ, hh⟩ := hP
  have hx := Bd.exec
  have hby := Bd.bytes
  have hlk := Bd.notSynchronized
  have hml : c.maxLocals = 4 := hml0
  have hown : s.vm.findClass "java/util/ArrayList" = some m.cls := findClass_of_methodNamed Bd.named
  have hnm := (name_of_methodNamed Bd.named Bd.method).1
  have X0 : Stand p l e ({ frames := 0, cells := 0, slots := 0, locals := 0 } : Room) s m #[(.ref a0'), (.ref x1), (.ref gb), (.int (1 : Int32))] below meth c s₁ [] 0 0 := Stand.of_body Bd
  have e0 : s₁.heap = h0 := by rw [← hh, Bd.state]; rfl
  have N0 := Fr.nil n0
  show OwnEnd p e below s (Q_rm_a3_D1 Z a0' x1 gb gk y0 h0 n0) 0 0 (s₁.setTop (entryFrame m #[(.ref a0'), (.ref x1), (.ref gb), (.int (1 : Int32))] 4))
  refine go (fun t k => castTop (ef_rm_a3_D1 m a0' x1 gb) k) ?_
  have KK := Keep.refl h0 [a0', gb]
  have nex : x1 ≠ a0' := Jvm.RoadKit.ne_exa EX EA (by decide)
  show OwnEnd _ _ _ _ _ _ _ (s₁.setTop (mkF m 0 #[.val (.ref a0'), .val (.ref x1), .val (.ref gb), .val (.int (1 : Int32))] []))
  refine go (fun _ k => by refine XS.iloadN X0.here hx rfl (hb hby d_jdk_38_method_24_code_0) rfl ?_; exact k) ?_
  refine go (fun _ k => by refine XS.aloadN X0.here hx rfl (hb hby d_jdk_38_method_24_code_1) rfl rfl ?_; exact k) ?_
  show OwnEnd _ _ _ _ _ _ _ (s₁.setTop (mkF m 2 #[.val (.ref a0'), .val (.ref x1), .val (.ref gb), .val (.int (1 : Int32))] [(.ref gb), (.int (1 : Int32))]))
  refine go (lenV X0 hx hZ e0 VG (g := (mkF m 2 #[.val (.ref a0'), .val (.ref x1), .val (.ref gb), .val (.int (1 : Int32))] [(.ref gb), (.int (1 : Int32))])) rfl rfl (hb hby d_jdk_38_method_24_code_2)) ?_
  show OwnEnd _ _ _ _ _ _ _ (s₁.setTop (mkF m 3 #[.val (.ref a0'), .val (.ref x1), .val (.ref gb), .val (.int (1 : Int32))] [(.int (10 : Int32)), (.int (1 : Int32))]))
  refine go (fun _ k => by refine XS.icmpYes X0.here hx rfl (pc0 := 3) (pc' := 11) rfl (hb hby d_jdk_38_method_24_code_3) rfl (feq (by decide)).2 (by decide) (by decide) ?_; exact k) ?_
  refine go (fun _ k => by refine XS.aloadN X0.here hx rfl (hb hby d_jdk_38_method_24_code_11) rfl rfl ?_; exact k) ?_
  refine go (fun _ k => by refine XS.iloadN X0.here hx rfl (hb hby d_jdk_38_method_24_code_12) rfl ?_; exact k) ?_
  refine go (fun _ k => by refine XS.aloadN X0.here hx rfl (hb hby d_jdk_38_method_24_code_13) rfl rfl ?_; exact k) ?_
  show OwnEnd _ _ _ _ _ _ _ (s₁.setTop (mkF m 14 #[.val (.ref a0'), .val (.ref x1), .val (.ref gb), .val (.int (1 : Int32))] [(.ref x1), (.int (1 : Int32)), (.ref gb)]))
  obtain ⟨T1, h1, X1, e1, W1, VG', st1⟩ := stRv X0 hx hZ e0 VG OV (Ins.of_exa EX (hw _ (List.mem_of_getElem? (i := 79) rfl))) rfl rfl (j := (1 : Int32)) (i := 1) (by decide) (by decide) (by decide) (Nat.le_of_ble_eq_true rfl) (g := (mkF m 14 #[.val (.ref a0'), .val (.ref x1), .val (.ref gb), .val (.int (1 : Int32))] [(.ref x1), (.int (1 : Int32)), (.ref gb)])) rfl rfl (hb hby d_jdk_38_method_24_code_14)
  have N1 := Fr.snoc X1 N0 gg
  have EA := EA.wr W1
  have FM := FM.other W1 (Or.inl nag)
  have FE := FE.other W1 (Or.inl nag)
  have FS := FS.other W1 (Or.inl nag)
  have EX := EX.wr W1
  have KK := Keep.wr KK W1 (Or.inl (List.mem_of_getElem? (i := 1) rfl))
  have VG : Arv Z h1 gb gk (.object "java/lang/Object") (10 : Int32) [(.ref y0), (.ref x1), .null, .null, .null, .null, .null, .null, .null, .null] .null := VG'
  refine go st1 ?_
  refine go (fun _ k => by refine XS.aloadN X1.here hx rfl (hb hby d_jdk_38_method_24_code_15) rfl rfl ?_; exact k) ?_
  refine go (fun _ k => by refine XS.iloadN X1.here hx rfl (hb hby d_jdk_38_method_24_code_16) rfl ?_; exact k) ?_
  refine go (fun _ k => by refine XS.iconst X1.here hx rfl (hb hby d_jdk_38_method_24_code_17) ?_; exact k) ?_
  show OwnEnd _ _ _ _ _ _ _ (T1.setTop (mkF m 18 #[.val (.ref a0'), .val (.ref x1), .val (.ref gb), .val (.int (1 : Int32))] [(.int (1 : Int32)), (.int (1 : Int32)), (.ref a0')]))
  refine go (fun _ k => by refine XS.iadd X1.here hx rfl (hb hby d_jdk_38_method_24_code_18) rfl ?_; exact k) ?_
  show OwnEnd _ _ _ _ _ _ _ (T1.setTop (mkF m 19 #[.val (.ref a0'), .val (.ref x1), .val (.ref gb), .val (.int (1 : Int32))] [(.int ((1 : Int32) + (1 : Int32))), (.ref a0')]))
  rw [show ((1 : Int32) + (1 : Int32)) = (2 : Int32) from by decide]
  show OwnEnd _ _ _ _ _ _ _ (T1.setTop (mkF m 19 #[.val (.ref a0'), .val (.ref x1), .val (.ref gb), .val (.int (1 : Int32))] [(.int (2 : Int32)), (.ref a0')]))
  obtain ⟨T2, h2, X2, e2, W2, st2⟩ := putF X1 hx hZ hown (host := "") (Or.inl (hw _ (List.mem_of_getElem? (i := 56) rfl))) Via.refl e1 FS EA (Or.inl (hw _ (List.mem_of_getElem? (i := 57) rfl))) (hw _ (List.mem_of_getElem? (i := 1) rfl)) (ty := .int) (by decide) rfl rfl (g := (mkF m 19 #[.val (.ref a0'), .val (.ref x1), .val (.ref gb), .val (.int (1 : Int32))] [(.int (2 : Int32)), (.ref a0')])) rfl rfl (hb hby d_jdk_38_method_24_code_19)
  have N2 := Fr.snoc X2 N1 ga
  have EA := EA.wr W2
  have FM := FM.other W2 (Or.inr (slot_ne (Or.inl (hw _ (List.mem_of_getElem? (i := 22) rfl))) (Or.inl (hw _ (List.mem_of_getElem? (i := 57) rfl))) (by decide) (t := .int) (t' := .int) (by decide) (by decide)))
  have FE := FE.other W2 (Or.inr (slot_ne (Or.inl (hw _ (List.mem_of_getElem? (i := 25) rfl))) (Or.inl (hw _ (List.mem_of_getElem? (i := 57) rfl))) (by decide) (t := (.array (.object "java/lang/Object"))) (t' := .int) (by decide) (by decide)))
  have VG := VG.other W2 (Ne.symm nag)
  have EX := EX.wr W2
  have KK := Keep.wr KK W2 (Or.inl (List.mem_of_getElem? (i := 0) rfl))
  have FS := FS.same W2
  refine go st2 ?_
  show OwnEnd _ _ _ _ _ _ _ (T2.setTop (mkF m 22 #[.val (.ref a0'), .val (.ref x1), .val (.ref gb), .val (.int (1 : Int32))] []))
  refine endV X2 hx hlk Bd.returns (hb hby d_jdk_38_method_24_code_22) e2 (by decide) (by decide) ?_
  exact ⟨rfl, N2, KK, EA, FM, FE, FS, VG⟩
theorem ef_rm_a1_D1 (m : MethodId) (y0 : Addr) (y1 : Addr) : entryFrame m #[(.ref y0), (.ref y1)] 2 = mkF m 0 #[.val (.ref y0), .val (.ref y1)] [] := by first | (simp [entryFrame, mkF, argsToLocals, Value.category]; done) | rfl
def Q_rm_a1_D1 (Z : State) (a0' : Addr) (x1 : Addr) (gb : Addr) (gk : ClassId) (y0 : Addr) (h0 : Heap) (n0 : Nat) (v : Option Value) (h : Heap) (L : List Loc) : Prop := v = some (.int 1) ∧ Fr n0 L ∧ Keep h0 h [a0', gb] ∧ Exa Z h a0' "java/util/ArrayList" ∧ Fld Z h a0' "java/util/AbstractList" "modCount" "I" (.int 2) ∧ Fld Z h a0' "java/util/ArrayList" "elementData" "[Ljava/lang/Object;" (.ref gb) ∧ Fld Z h a0' "java/util/ArrayList" "size" "I" (.int 2) ∧ Arv Z h gb gk (.object "java/lang/Object") 10 [(.ref y0), (.ref x1), .null, .null, .null, .null, .null, .null, .null, .null] .null
set_option maxRecDepth 65536 in
set_option maxHeartbeats 40000000 in
theorem rm_a1_D1 (l : Launch) (Z : State) (a0 : Array Value) (hw : ∀ d ∈ tables_1, d.before a0 Z = true) (ws : List Jvm.Cond) (a0' : Addr) (x1 : Addr) (gb : Addr) (gk : ClassId) (y0 : Addr) (h0 : Heap) (n0 : Nat) (ga : n0 ≤ a0') (gg : n0 ≤ gb) (nag : a0' ≠ gb) (EA : Exa Z h0 a0' "java/util/ArrayList") (FM : Fld Z h0 a0' "java/util/AbstractList" "modCount" "I" (.int 1)) (FE : Fld Z h0 a0' "java/util/ArrayList" "elementData" "[Ljava/lang/Object;" (.ref gb)) (FS : Fld Z h0 a0' "java/util/ArrayList" "size" "I" (.int 1)) (VG : Arv Z h0 gb gk (.object "java/lang/Object") 10 [(.ref y0), .null, .null, .null, .null, .null, .null, .null, .null, .null] .null) (OV : Ovr Z gk "java/lang/Object") (EX : Exa Z h0 x1 "java/lang/Double") :
    MetFree l (⟨"java/util/ArrayList", "add", "(Ljava/lang/Object;)Z"⟩ : MethodName) (head1 (Jvm.Cond.code (⟨"java/util/ArrayList", "add", "(Ljava/lang/Object;)Z"⟩ : MethodName) jdk_38_method_25_code 2 (some .boolean) :: ws) ({ frames := 1, cells := 0, slots := 0, locals := 15 } : Room)) (fun a U => a = #[(.ref a0'), (.ref x1)] ∧ Z.Warmed39 U.vm ∧ U.heap = h0) (fun _ _ _ _ _ => True) (fun _ U o U' => ∃ v L, o = .returned v ∧ Q_rm_a1_D1 Z a0' x1 gb gk y0 h0 n0 v U'.heap L ∧ FrameEnd U o U' L 0 0) := by
  refine MetFree.of_bodySF (plainFor_of_name pn_java_util_ArrayList) hisR ?_
  intro p e s m args below meth c s₁ Bd hml0 hP hK
  obtain ⟨rfl, hZ, hh⟩ := hP
  have hx := Bd.exec
  have hby := Bd.bytes
  have hlk := Bd.notSynchronized
  have hml : c.maxLocals = 2 := hml0
  have hown : s.vm.findClass "java/util/ArrayList" = some m.cls := findClass_of_methodNamed Bd.named
  have hnm := (name_of_methodNamed Bd.named Bd.method).1
  have X0 : Stand p l e ({ frames := 1, cells := 0, slots := 0, locals := 15 } : Room) s m #[(.ref a0'), (.ref x1)] below meth c s₁ [] 0 0 := Stand.of_body Bd
  have e0 : s₁.heap = h0 := by rw [← hh, Bd.state]; rfl
  have N0 := Fr.nil n0
  show OwnEnd p e below s (Q_rm_a1_D1 Z a0' x1 gb gk y0 h0 n0) 0 0 (s₁.setTop (entryFrame m #[(.ref a0'), (.ref x1)] 2))
  refine go (fun t k => castTop (ef_rm_a1_D1 m a0' x1) k) ?_
  have KK := Keep.refl h0 [a0', gb]
  have nex : x1 ≠ a0' := Jvm.RoadKit.ne_exa EX EA (by decide)
  show OwnEnd _ _ _ _ _ _ _ (s₁.setTop (mkF m 0 #[.val (.ref a0'), .val (.ref x1)] []))
  refine go (fun _ k => by refine XS.aloadN X0.here hx rfl (hb hby d_jdk_38_method_25_code_0) rfl rfl ?_; exact k) ?_
  refine go (fun _ k => by refine XS.dup X0.here hx rfl (hb hby d_jdk_38_method_25_code_1) rfl rfl ?_; exact k) ?_
  show OwnEnd _ _ _ _ _ _ _ (s₁.setTop (mkF m 2 #[.val (.ref a0'), .val (.ref x1)] [(.ref a0'), (.ref a0')]))
  obtain ⟨T1, X1, e1, st1⟩ := getF X0 hx hZ hown (host := "") (Or.inl (hw _ (List.mem_of_getElem? (i := 54) rfl))) (Via.of (hw _ (List.mem_of_getElem? (i := 55) rfl))) e0 FM (g := (mkF m 2 #[.val (.ref a0'), .val (.ref x1)] [(.ref a0'), (.ref a0')])) rfl rfl (hb hby d_jdk_38_method_25_code_2)
  refine go st1 ?_
  refine go (fun _ k => by refine XS.iconst X1.here hx rfl (hb hby d_jdk_38_method_25_code_5) ?_; exact k) ?_
  refine go (fun _ k => by refine XS.iadd X1.here hx rfl (hb hby d_jdk_38_method_25_code_6) rfl ?_; exact k) ?_
  show OwnEnd _ _ _ _ _ _ _ (T1.setTop (mkF m 7 #[.val (.ref a0'), .val (.ref x1)] [(.int ((1 : Int32) + (1 : Int32))), (.ref a0')]))
  rw [show ((1 : Int32) + (1 : Int32)) = (2 : Int32) from by decide]
  show OwnEnd _ _ _ _ _ _ _ (T1.setTop (mkF m 7 #[.val (.ref a0'), .val (.ref x1)] [(.int (2 : Int32)), (.ref a0')]))
  obtain ⟨T2, h2, X2, e2, W2, st2⟩ := putF X1 hx hZ hown (host := "") (Or.inl (hw _ (List.mem_of_getElem? (i := 54) rfl))) (Via.of (hw _ (List.mem_of_getElem? (i := 55) rfl))) e1 FM EA (Or.inl (hw _ (List.mem_of_getElem? (i := 22) rfl))) (hw _ (List.mem_of_getElem? (i := 1) rfl)) (ty := .int) (by decide) rfl rfl (g := (mkF m 7 #[.val (.ref a0'), .val (.ref x1)] [(.int (2 : Int32)), (.ref a0')])) rfl rfl (hb hby d_jdk_38_method_25_code_7)
  have N2 := Fr.snoc X2 N0 ga
  have EA := EA.wr W2
  have FE := FE.other W2 (Or.inr (slot_ne (Or.inl (hw _ (List.mem_of_getElem? (i := 25) rfl))) (Or.inl (hw _ (List.mem_of_getElem? (i := 22) rfl))) (by decide) (t := (.array (.object "java/lang/Object"))) (t' := .int) (by decide) (by decide)))
  have FS := FS.other W2 (Or.inr (slot_ne (Or.inl (hw _ (List.mem_of_getElem? (i := 57) rfl))) (Or.inl (hw _ (List.mem_of_getElem? (i := 22) rfl))) (by decide) (t := .int) (t' := .int) (by decide) (by decide)))
  have VG := VG.other W2 (Ne.symm nag)
  have EX := EX.wr W2
  have KK := Keep.wr KK W2 (Or.inl (List.mem_of_getElem? (i := 0) rfl))
  have FM := FM.same W2
  refine go st2 ?_
  refine go (fun _ k => by refine XS.aloadN X2.here hx rfl (hb hby d_jdk_38_method_25_code_10) rfl rfl ?_; exact k) ?_
  refine go (fun _ k => by refine XS.aloadN X2.here hx rfl (hb hby d_jdk_38_method_25_code_11) rfl rfl ?_; exact k) ?_
  refine go (fun _ k => by refine XS.aloadN X2.here hx rfl (hb hby d_jdk_38_method_25_code_12) rfl rfl ?_; exact k) ?_
  show OwnEnd _ _ _ _ _ _ _ (T2.setTop (mkF m 13 #[.val (.ref a0'), .val (.ref x1)] [(.ref a0'), (.ref x1), (.ref a0')]))
  obtain ⟨T3, X3, e3, st3⟩ := getF X2 hx hZ hown (host := "") (Or.inl (hw _ (List.mem_of_getElem? (i := 24) rfl))) Via.refl e2 FE (g := (mkF m 13 #[.val (.ref a0'), .val (.ref x1)] [(.ref a0'), (.ref x1), (.ref a0')])) rfl rfl (hb hby d_jdk_38_method_25_code_13)
  refine go st3 ?_
  refine go (fun _ k => by refine XS.aloadN X3.here hx rfl (hb hby d_jdk_38_method_25_code_16) rfl rfl ?_; exact k) ?_
  show OwnEnd _ _ _ _ _ _ _ (T3.setTop (mkF m 17 #[.val (.ref a0'), .val (.ref x1)] [(.ref a0'), (.ref gb), (.ref x1), (.ref a0')]))
  obtain ⟨T4, X4, e4, st4⟩ := getF X3 hx hZ hown (host := "") (Or.inl (hw _ (List.mem_of_getElem? (i := 56) rfl))) Via.refl e3 FS (g := (mkF m 17 #[.val (.ref a0'), .val (.ref x1)] [(.ref a0'), (.ref gb), (.ref x1), (.ref a0')])) rfl rfl (hb hby d_jdk_38_method_25_code_17)
  refine go st4 ?_
  show OwnEnd _ _ _ _ _ _ _ (T4.setTop (mkF m 20 #[.val (.ref a0'), .val (.ref x1)] [(.int (1 : Int32)), (.ref gb), (.ref x1), (.ref a0')]))
  obtain ⟨_, T5, L5, X5, hQ5, st5⟩ := callPriv X4 hx hZ hown (hw _ (List.mem_of_getElem? (i := 58) rfl)) (hw _ (List.mem_of_getElem? (i := 59) rfl)) (hw _ (List.mem_of_getElem? (i := 60) rfl)) (hw _ (List.mem_of_getElem? (i := 1) rfl)) (hw _ (List.mem_of_getElem? (i := 2) rfl)) (hw _ (List.mem_of_getElem? (i := 62) rfl)) (by decide) (rm_a3_D1 l Z a0 hw [] a0' x1 gb gk y0 h2 n0 ga gg nag EA FM FE FS VG OV EX) (W := 0) (by decide) (by decide) e4 EA (g := (mkF m 20 #[.val (.ref a0'), .val (.ref x1)] [(.int (1 : Int32)), (.ref gb), (.ref x1), (.ref a0')])) rfl (by rw [hml]; rfl) (argsL := [(.ref x1), (.ref gb), (.int (1 : Int32))]) (rest := []) rfl (lenOf pd__Ljava_lang_Object__Ljava_lang_Object_I_V rfl) rfl (by show 2 * 0 + _ ≤ _; exact Nat.le_of_eq rfl) (hb hby d_jdk_38_method_25_code_20) (by decide) (by decide)
  obtain ⟨rfl, Nq5, K5, EA, FM, FE, FS, VG⟩ := hQ5
  have N5 := Fr.app N2 Nq5
  have EX := EX.keep K5
  have KK := Keep.trans KK K5 (allS (Or.inl (List.mem_of_getElem? (i := 0) rfl)) (allS (Or.inl (List.mem_of_getElem? (i := 1) rfl)) all0))
  refine go st5 ?_
  refine go (fun _ k => by refine XS.iconst X5.here hx rfl (hb hby d_jdk_38_method_25_code_23) ?_; exact k) ?_
  show OwnEnd _ _ _ _ _ _ _ (T5.setTop (mkF m 24 #[.val (.ref a0'), .val (.ref x1)] [(.int (1 : Int32))]))
  refine endN X5 hx hlk (t := .boolean) (by simp) Bd.returns (hb hby d_jdk_38_method_25_code_24) rfl (by decide) (by decide) ?_
  exact ⟨rfl, N5, KK, EA, FM, FE, FS, VG⟩
theorem ef_rm_a3_D2 (m : MethodId) (y0 : Addr) (y1 : Addr) (y2 : Addr) : entryFrame m #[(.ref y0), (.ref y1), (.ref y2), (.int (2 : Int32))] 4 = mkF m 0 #[.val (.ref y0), .val (.ref y1), .val (.ref y2), .val (.int (2 : Int32))] [] := by first | (simp [entryFrame, mkF, argsToLocals, Value.category]; done) | rfl
def Q_rm_a3_D2 (Z : State) (a0' : Addr) (x1 : Addr) (gb : Addr) (gk : ClassId) (y0 : Addr) (y1 : Addr) (h0 : Heap) (n0 : Nat) (v : Option Value) (h : Heap) (L : List Loc) : Prop := v = none ∧ Fr n0 L ∧ Keep h0 h [a0', gb] ∧ Exa Z h a0' "java/util/ArrayList" ∧ Fld Z h a0' "java/util/AbstractList" "modCount" "I" (.int 3) ∧ Fld Z h a0' "java/util/ArrayList" "elementData" "[Ljava/lang/Object;" (.ref gb) ∧ Fld Z h a0' "java/util/ArrayList" "size" "I" (.int 3) ∧ Arv Z h gb gk (.object "java/lang/Object") 10 [(.ref y0), (.ref y1), (.ref x1), .null, .null, .null, .null, .null, .null, .null] .null
set_option maxRecDepth 65536 in
set_option maxHeartbeats 40000000 in
theorem rm_a3_D2 (l : Launch) (Z : State) (a0 : Array Value) (hw : ∀ d ∈ tables_1, d.before a0 Z = true) (ws : List Jvm.Cond) (a0' : Addr) (x1 : Addr) (gb : Addr) (gk : ClassId) (y0 : Addr) (y1 : Addr) (h0 : Heap) (n0 : Nat) (ga : n0 ≤ a0') (gg : n0 ≤ gb) (nag : a0' ≠ gb) (EA : Exa Z h0 a0' "java/util/ArrayList") (FM : Fld Z h0 a0' "java/util/AbstractList" "modCount" "I" (.int 3)) (FE : Fld Z h0 a0' "java/util/ArrayList" "elementData" "[Ljava/lang/Object;" (.ref gb)) (FS : Fld Z h0 a0' "java/util/ArrayList" "size" "I" (.int 2)) (VG : Arv Z h0 gb gk (.object "java/lang/Object") 10 [(.ref y0), (.ref y1), .null, .null, .null, .null, .null, .null, .null, .null] .null) (OV : Ovr Z gk "java/lang/Object") (EX : Exa Z h0 x1 "java/lang/Double") :
    MetFree l (⟨"java/util/ArrayList", "add", "(Ljava/lang/Object;[Ljava/lang/Object;I)V"⟩ : MethodName) (head1 (Jvm.Cond.code (⟨"java/util/ArrayList", "add", "(Ljava/lang/Object;[Ljava/lang/Object;I)V"⟩ : MethodName) jdk_38_method_24_code 4 none :: ws) ({ frames := 0, cells := 0, slots := 0, locals := 0 } : Room)) (fun a U => a = #[(.ref a0'), (.ref x1), (.ref gb), (.int (2 : Int32))] ∧ Z.Warmed39 U.vm ∧ U.heap = h0) (fun _ _ _ _ _ => True) (fun _ U o U' => ∃ v L, o = .returned v ∧ Q_rm_a3_D2 Z a0' x1 gb gk y0 y1 h0 n0 v U'.heap L ∧ FrameEnd U o U' L 0 0) := by
  refine MetFree.of_bodySF (plainFor_of_name pn_java_util_ArrayList) hisR ?_
  intro p e s m args below meth c s₁ Bd hml0 hP hK
  obtain ⟨rfl, hZ, hh⟩ := hP
  have hx := Bd.exec
  have hby := Bd.bytes
  have hlk := Bd.notSynchronized
  have hml : c.maxLocals = 4 := hml0
  have hown : s.vm.findClass "java/util/ArrayList" = some m.cls := findClass_of_methodNamed Bd.named
  have hnm := (name_of_methodNamed Bd.named Bd.method).1
  have X0 : Stand p l e ({ frames := 0, cells := 0, slots := 0, locals := 0 } : Room) s m #[(.ref a0'), (.ref x1), (.ref gb), (.int (2 : Int32))] below meth c s₁ [] 0 0 := Stand.of_body Bd
  have e0 : s₁.heap = h0 := by rw [← hh, Bd.state]; rfl
  have N0 := Fr.nil n0
  show OwnEnd p e below s (Q_rm_a3_D2 Z a0' x1 gb gk y0 y1 h0 n0) 0 0 (s₁.setTop (entryFrame m #[(.ref a0'), (.ref x1), (.ref gb), (.int (2 : Int32))] 4))
  refine go (fun t k => castTop (ef_rm_a3_D2 m a0' x1 gb) k) ?_
  have KK := Keep.refl h0 [a0', gb]
  have nex : x1 ≠ a0' := Jvm.RoadKit.ne_exa EX EA (by decide)
  show OwnEnd _ _ _ _ _ _ _ (s₁.setTop (mkF m 0 #[.val (.ref a0'), .val (.ref x1), .val (.ref gb), .val (.int (2 : Int32))] []))
  refine go (fun _ k => by refine XS.iloadN X0.here hx rfl (hb hby d_jdk_38_method_24_code_0) rfl ?_; exact k) ?_
  refine go (fun _ k => by refine XS.aloadN X0.here hx rfl (hb hby d_jdk_38_method_24_code_1) rfl rfl ?_; exact k) ?_
  show OwnEnd _ _ _ _ _ _ _ (s₁.setTop (mkF m 2 #[.val (.ref a0'), .val (.ref x1), .val (.ref gb), .val (.int (2 : Int32))] [(.ref gb), (.int (2 : Int32))]))
  refine go (lenV X0 hx hZ e0 VG (g := (mkF m 2 #[.val (.ref a0'), .val (.ref x1), .val (.ref gb), .val (.int (2 : Int32))] [(.ref gb), (.int (2 : Int32))])) rfl rfl (hb hby d_jdk_38_method_24_code_2)) ?_
  show OwnEnd _ _ _ _ _ _ _ (s₁.setTop (mkF m 3 #[.val (.ref a0'), .val (.ref x1), .val (.ref gb), .val (.int (2 : Int32))] [(.int (10 : Int32)), (.int (2 : Int32))]))
  refine go (fun _ k => by refine XS.icmpYes X0.here hx rfl (pc0 := 3) (pc' := 11) rfl (hb hby d_jdk_38_method_24_code_3) rfl (feq (by decide)).2 (by decide) (by decide) ?_; exact k) ?_
  refine go (fun _ k => by refine XS.aloadN X0.here hx rfl (hb hby d_jdk_38_method_24_code_11) rfl rfl ?_; exact k) ?_
  refine go (fun _ k => by refine XS.iloadN X0.here hx rfl (hb hby d_jdk_38_method_24_code_12) rfl ?_; exact k) ?_
  refine go (fun _ k => by refine XS.aloadN X0.here hx rfl (hb hby d_jdk_38_method_24_code_13) rfl rfl ?_; exact k) ?_
  show OwnEnd _ _ _ _ _ _ _ (s₁.setTop (mkF m 14 #[.val (.ref a0'), .val (.ref x1), .val (.ref gb), .val (.int (2 : Int32))] [(.ref x1), (.int (2 : Int32)), (.ref gb)]))
  obtain ⟨T1, h1, X1, e1, W1, VG', st1⟩ := stRv X0 hx hZ e0 VG OV (Ins.of_exa EX (hw _ (List.mem_of_getElem? (i := 79) rfl))) rfl rfl (j := (2 : Int32)) (i := 2) (by decide) (by decide) (by decide) (Nat.le_of_ble_eq_true rfl) (g := (mkF m 14 #[.val (.ref a0'), .val (.ref x1), .val (.ref gb), .val (.int (2 : Int32))] [(.ref x1), (.int (2 : Int32)), (.ref gb)])) rfl rfl (hb hby d_jdk_38_method_24_code_14)
  have N1 := Fr.snoc X1 N0 gg
  have EA := EA.wr W1
  have FM := FM.other W1 (Or.inl nag)
  have FE := FE.other W1 (Or.inl nag)
  have FS := FS.other W1 (Or.inl nag)
  have EX := EX.wr W1
  have KK := Keep.wr KK W1 (Or.inl (List.mem_of_getElem? (i := 1) rfl))
  have VG : Arv Z h1 gb gk (.object "java/lang/Object") (10 : Int32) [(.ref y0), (.ref y1), (.ref x1), .null, .null, .null, .null, .null, .null, .null] .null := VG'
  refine go st1 ?_
  refine go (fun _ k => by refine XS.aloadN X1.here hx rfl (hb hby d_jdk_38_method_24_code_15) rfl rfl ?_; exact k) ?_
  refine go (fun _ k => by refine XS.iloadN X1.here hx rfl (hb hby d_jdk_38_method_24_code_16) rfl ?_; exact k) ?_
  refine go (fun _ k => by refine XS.iconst X1.here hx rfl (hb hby d_jdk_38_method_24_code_17) ?_; exact k) ?_
  show OwnEnd _ _ _ _ _ _ _ (T1.setTop (mkF m 18 #[.val (.ref a0'), .val (.ref x1), .val (.ref gb), .val (.int (2 : Int32))] [(.int (1 : Int32)), (.int (2 : Int32)), (.ref a0')]))
  refine go (fun _ k => by refine XS.iadd X1.here hx rfl (hb hby d_jdk_38_method_24_code_18) rfl ?_; exact k) ?_
  show OwnEnd _ _ _ _ _ _ _ (T1.setTop (mkF m 19 #[.val (.ref a0'), .val (.ref x1), .val (.ref gb), .val (.int (2 : Int32))] [(.int ((2 : Int32) + (1 : Int32))), (.ref a0')]))
  rw [show ((2 : Int32) + (1 : Int32)) = (3 : Int32) from by decide]
  show OwnEnd _ _ _ _ _ _ _ (T1.setTop (mkF m 19 #[.val (.ref a0'), .val (.ref x1), .val (.ref gb), .val (.int (2 : Int32))] [(.int (3 : Int32)), (.ref a0')]))
  obtain ⟨T2, h2, X2, e2, W2, st2⟩ := putF X1 hx hZ hown (host := "") (Or.inl (hw _ (List.mem_of_getElem? (i := 56) rfl))) Via.refl e1 FS EA (Or.inl (hw _ (List.mem_of_getElem? (i := 57) rfl))) (hw _ (List.mem_of_getElem? (i := 1) rfl)) (ty := .int) (by decide) rfl rfl (g := (mkF m 19 #[.val (.ref a0'), .val (.ref x1), .val (.ref gb), .val (.int (2 : Int32))] [(.int (3 : Int32)), (.ref a0')])) rfl rfl (hb hby d_jdk_38_method_24_code_19)
  have N2 := Fr.snoc X2 N1 ga
  have EA := EA.wr W2
  have FM := FM.other W2 (Or.inr (slot_ne (Or.inl (hw _ (List.mem_of_getElem? (i := 22) rfl))) (Or.inl (hw _ (List.mem_of_getElem? (i := 57) rfl))) (by decide) (t := .int) (t' := .int) (by decide) (by decide)))
  have FE := FE.other W2 (Or.inr (slot_ne (Or.inl (hw _ (List.mem_of_getElem? (i := 25) rfl))) (Or.inl (hw _ (List.mem_of_getElem? (i := 57) rfl))) (by decide) (t := (.array (.object "java/lang/Object"))) (t' := .int) (by decide) (by decide)))
  have VG := VG.other W2 (Ne.symm nag)
  have EX := EX.wr W2
  have KK := Keep.wr KK W2 (Or.inl (List.mem_of_getElem? (i := 0) rfl))
  have FS := FS.same W2
  refine go st2 ?_
  show OwnEnd _ _ _ _ _ _ _ (T2.setTop (mkF m 22 #[.val (.ref a0'), .val (.ref x1), .val (.ref gb), .val (.int (2 : Int32))] []))
  refine endV X2 hx hlk Bd.returns (hb hby d_jdk_38_method_24_code_22) e2 (by decide) (by decide) ?_
  exact ⟨rfl, N2, KK, EA, FM, FE, FS, VG⟩
theorem ef_rm_a1_D2 (m : MethodId) (y0 : Addr) (y1 : Addr) : entryFrame m #[(.ref y0), (.ref y1)] 2 = mkF m 0 #[.val (.ref y0), .val (.ref y1)] [] := by first | (simp [entryFrame, mkF, argsToLocals, Value.category]; done) | rfl
def Q_rm_a1_D2 (Z : State) (a0' : Addr) (x1 : Addr) (gb : Addr) (gk : ClassId) (y0 : Addr) (y1 : Addr) (h0 : Heap) (n0 : Nat) (v : Option Value) (h : Heap) (L : List Loc) : Prop := v = some (.int 1) ∧ Fr n0 L ∧ Keep h0 h [a0', gb] ∧ Exa Z h a0' "java/util/ArrayList" ∧ Fld Z h a0' "java/util/AbstractList" "modCount" "I" (.int 3) ∧ Fld Z h a0' "java/util/ArrayList" "elementData" "[Ljava/lang/Object;" (.ref gb) ∧ Fld Z h a0' "java/util/ArrayList" "size" "I" (.int 3) ∧ Arv Z h gb gk (.object "java/lang/Object") 10 [(.ref y0), (.ref y1), (.ref x1), .null, .null, .null, .null, .null, .null, .null] .null
set_option maxRecDepth 65536 in
set_option maxHeartbeats 40000000 in
theorem rm_a1_D2 (l : Launch) (Z : State) (a0 : Array Value) (hw : ∀ d ∈ tables_1, d.before a0 Z = true) (ws : List Jvm.Cond) (a0' : Addr) (x1 : Addr) (gb : Addr) (gk : ClassId) (y0 : Addr) (y1 : Addr) (h0 : Heap) (n0 : Nat) (ga : n0 ≤ a0') (gg : n0 ≤ gb) (nag : a0' ≠ gb) (EA : Exa Z h0 a0' "java/util/ArrayList") (FM : Fld Z h0 a0' "java/util/AbstractList" "modCount" "I" (.int 2)) (FE : Fld Z h0 a0' "java/util/ArrayList" "elementData" "[Ljava/lang/Object;" (.ref gb)) (FS : Fld Z h0 a0' "java/util/ArrayList" "size" "I" (.int 2)) (VG : Arv Z h0 gb gk (.object "java/lang/Object") 10 [(.ref y0), (.ref y1), .null, .null, .null, .null, .null, .null, .null, .null] .null) (OV : Ovr Z gk "java/lang/Object") (EX : Exa Z h0 x1 "java/lang/Double") :
    MetFree l (⟨"java/util/ArrayList", "add", "(Ljava/lang/Object;)Z"⟩ : MethodName) (head1 (Jvm.Cond.code (⟨"java/util/ArrayList", "add", "(Ljava/lang/Object;)Z"⟩ : MethodName) jdk_38_method_25_code 2 (some .boolean) :: ws) ({ frames := 1, cells := 0, slots := 0, locals := 15 } : Room)) (fun a U => a = #[(.ref a0'), (.ref x1)] ∧ Z.Warmed39 U.vm ∧ U.heap = h0) (fun _ _ _ _ _ => True) (fun _ U o U' => ∃ v L, o = .returned v ∧ Q_rm_a1_D2 Z a0' x1 gb gk y0 y1 h0 n0 v U'.heap L ∧ FrameEnd U o U' L 0 0) := by
  refine MetFree.of_bodySF (plainFor_of_name pn_java_util_ArrayList) hisR ?_
  intro p e s m args below meth c s₁ Bd hml0 hP hK
  obtain ⟨rfl, hZ, hh⟩ := hP
  have hx := Bd.exec
  have hby := Bd.bytes
  have hlk := Bd.notSynchronized
  have hml : c.maxLocals = 2 := hml0
  have hown : s.vm.findClass "java/util/ArrayList" = some m.cls := findClass_of_methodNamed Bd.named
  have hnm := (name_of_methodNamed Bd.named Bd.method).1
  have X0 : Stand p l e ({ frames := 1, cells := 0, slots := 0, locals := 15 } : Room) s m #[(.ref a0'), (.ref x1)] below meth c s₁ [] 0 0 := Stand.of_body Bd
  have e0 : s₁.heap = h0 := by rw [← hh, Bd.state]; rfl
  have N0 := Fr.nil n0
  show OwnEnd p e below s (Q_rm_a1_D2 Z a0' x1 gb gk y0 y1 h0 n0) 0 0 (s₁.setTop (entryFrame m #[(.ref a0'), (.ref x1)] 2))
  refine go (fun t k => castTop (ef_rm_a1_D2 m a0' x1) k) ?_
  have KK := Keep.refl h0 [a0', gb]
  have nex : x1 ≠ a0' := Jvm.RoadKit.ne_exa EX EA (by decide)
  show OwnEnd _ _ _ _ _ _ _ (s₁.setTop (mkF m 0 #[.val (.ref a0'), .val (.ref x1)] []))
  refine go (fun _ k => by refine XS.aloadN X0.here hx rfl (hb hby d_jdk_38_method_25_code_0) rfl rfl ?_; exact k) ?_
  refine go (fun _ k => by refine XS.dup X0.here hx rfl (hb hby d_jdk_38_method_25_code_1) rfl rfl ?_; exact k) ?_
  show OwnEnd _ _ _ _ _ _ _ (s₁.setTop (mkF m 2 #[.val (.ref a0'), .val (.ref x1)] [(.ref a0'), (.ref a0')]))
  obtain ⟨T1, X1, e1, st1⟩ := getF X0 hx hZ hown (host := "") (Or.inl (hw _ (List.mem_of_getElem? (i := 54) rfl))) (Via.of (hw _ (List.mem_of_getElem? (i := 55) rfl))) e0 FM (g := (mkF m 2 #[.val (.ref a0'), .val (.ref x1)] [(.ref a0'), (.ref a0')])) rfl rfl (hb hby d_jdk_38_method_25_code_2)
  refine go st1 ?_
  refine go (fun _ k => by refine XS.iconst X1.here hx rfl (hb hby d_jdk_38_method_25_code_5) ?_; exact k) ?_
  refine go (fun _ k => by refine XS.iadd X1.here hx rfl (hb hby d_jdk_38_method_25_code_6) rfl ?_; exact k) ?_
  show OwnEnd _ _ _ _ _ _ _ (T1.setTop (mkF m 7 #[.val (.ref a0'), .val (.ref x1)] [(.int ((2 : Int32) + (1 : Int32))), (.ref a0')]))
  rw [show ((2 : Int32) + (1 : Int32)) = (3 : Int32) from by decide]
  show OwnEnd _ _ _ _ _ _ _ (T1.setTop (mkF m 7 #[.val (.ref a0'), .val (.ref x1)] [(.int (3 : Int32)), (.ref a0')]))
  obtain ⟨T2, h2, X2, e2, W2, st2⟩ := putF X1 hx hZ hown (host := "") (Or.inl (hw _ (List.mem_of_getElem? (i := 54) rfl))) (Via.of (hw _ (List.mem_of_getElem? (i := 55) rfl))) e1 FM EA (Or.inl (hw _ (List.mem_of_getElem? (i := 22) rfl))) (hw _ (List.mem_of_getElem? (i := 1) rfl)) (ty := .int) (by decide) rfl rfl (g := (mkF m 7 #[.val (.ref a0'), .val (.ref x1)] [(.int (3 : Int32)), (.ref a0')])) rfl rfl (hb hby d_jdk_38_method_25_code_7)
  have N2 := Fr.snoc X2 N0 ga
  have EA := EA.wr W2
  have FE := FE.other W2 (Or.inr (slot_ne (Or.inl (hw _ (List.mem_of_getElem? (i := 25) rfl))) (Or.inl (hw _ (List.mem_of_getElem? (i := 22) rfl))) (by decide) (t := (.array (.object "java/lang/Object"))) (t' := .int) (by decide) (by decide)))
  have FS := FS.other W2 (Or.inr (slot_ne (Or.inl (hw _ (List.mem_of_getElem? (i := 57) rfl))) (Or.inl (hw _ (List.mem_of_getElem? (i := 22) rfl))) (by decide) (t := .int) (t' := .int) (by decide) (by decide)))
  have VG := VG.other W2 (Ne.symm nag)
  have EX := EX.wr W2
  have KK := Keep.wr KK W2 (Or.inl (List.mem_of_getElem? (i := 0) rfl))
  have FM := FM.same W2
  refine go st2 ?_
  refine go (fun _ k => by refine XS.aloadN X2.here hx rfl (hb hby d_jdk_38_method_25_code_10) rfl rfl ?_; exact k) ?_
  refine go (fun _ k => by refine XS.aloadN X2.here hx rfl (hb hby d_jdk_38_method_25_code_11) rfl rfl ?_; exact k) ?_
  refine go (fun _ k => by refine XS.aloadN X2.here hx rfl (hb hby d_jdk_38_method_25_code_12) rfl rfl ?_; exact k) ?_
  show OwnEnd _ _ _ _ _ _ _ (T2.setTop (mkF m 13 #[.val (.ref a0'), .val (.ref x1)] [(.ref a0'), (.ref x1), (.ref a0')]))
  obtain ⟨T3, X3, e3, st3⟩ := getF X2 hx hZ hown (host := "") (Or.inl (hw _ (List.mem_of_getElem? (i := 24) rfl))) Via.refl e2 FE (g := (mkF m 13 #[.val (.ref a0'), .val (.ref x1)] [(.ref a0'), (.ref x1), (.ref a0')])) rfl rfl (hb hby d_jdk_38_method_25_code_13)
  refine go st3 ?_
  refine go (fun _ k => by refine XS.aloadN X3.here hx rfl (hb hby d_jdk_38_method_25_code_16) rfl rfl ?_; exact k) ?_
  show OwnEnd _ _ _ _ _ _ _ (T3.setTop (mkF m 17 #[.val (.ref a0'), .val (.ref x1)] [(.ref a0'), (.ref gb), (.ref x1), (.ref a0')]))
  obtain ⟨T4, X4, e4, st4⟩ := getF X3 hx hZ hown (host := "") (Or.inl (hw _ (List.mem_of_getElem? (i := 56) rfl))) Via.refl e3 FS (g := (mkF m 17 #[.val (.ref a0'), .val (.ref x1)] [(.ref a0'), (.ref gb), (.ref x1), (.ref a0')])) rfl rfl (hb hby d_jdk_38_method_25_code_17)
  refine go st4 ?_
  show OwnEnd _ _ _ _ _ _ _ (T4.setTop (mkF m 20 #[.val (.ref a0'), .val (.ref x1)] [(.int (2 : Int32)), (.ref gb), (.ref x1), (.ref a0')]))
  obtain ⟨_, T5, L5, X5, hQ5, st5⟩ := callPriv X4 hx hZ hown (hw _ (List.mem_of_getElem? (i := 58) rfl)) (hw _ (List.mem_of_getElem? (i := 59) rfl)) (hw _ (List.mem_of_getElem? (i := 60) rfl)) (hw _ (List.mem_of_getElem? (i := 1) rfl)) (hw _ (List.mem_of_getElem? (i := 2) rfl)) (hw _ (List.mem_of_getElem? (i := 62) rfl)) (by decide) (rm_a3_D2 l Z a0 hw [] a0' x1 gb gk y0 y1 h2 n0 ga gg nag EA FM FE FS VG OV EX) (W := 0) (by decide) (by decide) e4 EA (g := (mkF m 20 #[.val (.ref a0'), .val (.ref x1)] [(.int (2 : Int32)), (.ref gb), (.ref x1), (.ref a0')])) rfl (by rw [hml]; rfl) (argsL := [(.ref x1), (.ref gb), (.int (2 : Int32))]) (rest := []) rfl (lenOf pd__Ljava_lang_Object__Ljava_lang_Object_I_V rfl) rfl (by show 2 * 0 + _ ≤ _; exact Nat.le_of_eq rfl) (hb hby d_jdk_38_method_25_code_20) (by decide) (by decide)
  obtain ⟨rfl, Nq5, K5, EA, FM, FE, FS, VG⟩ := hQ5
  have N5 := Fr.app N2 Nq5
  have EX := EX.keep K5
  have KK := Keep.trans KK K5 (allS (Or.inl (List.mem_of_getElem? (i := 0) rfl)) (allS (Or.inl (List.mem_of_getElem? (i := 1) rfl)) all0))
  refine go st5 ?_
  refine go (fun _ k => by refine XS.iconst X5.here hx rfl (hb hby d_jdk_38_method_25_code_23) ?_; exact k) ?_
  show OwnEnd _ _ _ _ _ _ _ (T5.setTop (mkF m 24 #[.val (.ref a0'), .val (.ref x1)] [(.int (1 : Int32))]))
  refine endN X5 hx hlk (t := .boolean) (by simp) Bd.returns (hb hby d_jdk_38_method_25_code_24) rfl (by decide) (by decide) ?_
  exact ⟨rfl, N5, KK, EA, FM, FE, FS, VG⟩
theorem ef_rm_a3_L0 (m : MethodId) (y0 : Addr) (y1 : Addr) (y2 : Addr) : entryFrame m #[(.ref y0), (.ref y1), (.ref y2), (.int (0 : Int32))] 4 = mkF m 0 #[.val (.ref y0), .val (.ref y1), .val (.ref y2), .val (.int (0 : Int32))] [] := by first | (simp [entryFrame, mkF, argsToLocals, Value.category]; done) | rfl
def Q_rm_a3_L0 (Z : State) (a0' : Addr) (x1 : Addr) (da : Addr) (dk : ClassId) (h0 : Heap) (n0 : Nat) (v : Option Value) (h : Heap) (L : List Loc) : Prop := ∃ gb gk, v = none ∧ Fr n0 L ∧ Keep h0 h [a0'] ∧ n0 ≤ gb ∧ h0.size ≤ gb ∧ Exa Z h a0' "java/util/ArrayList" ∧ Fld Z h a0' "java/util/AbstractList" "modCount" "I" (.int 1) ∧ Fld Z h a0' "java/util/ArrayList" "elementData" "[Ljava/lang/Object;" (.ref gb) ∧ Fld Z h a0' "java/util/ArrayList" "size" "I" (.int 1) ∧ Arv Z h gb gk (.object "java/lang/Object") 10 [(.ref x1), .null, .null, .null, .null, .null, .null, .null, .null, .null] .null ∧ Ovr Z gk "java/lang/Object"
set_option maxRecDepth 65536 in
set_option maxHeartbeats 40000000 in
theorem rm_a3_L0 (l : Launch) (Z : State) (a0 : Array Value) (hw : ∀ d ∈ tables_1, d.before a0 Z = true) (ws : List Jvm.Cond) (a0' : Addr) (x1 : Addr) (da : Addr) (dk : ClassId) (h0 : Heap) (n0 : Nat) (ga : n0 ≤ a0') (EA : Exa Z h0 a0' "java/util/ArrayList") (FM : Fld Z h0 a0' "java/util/AbstractList" "modCount" "I" (.int 1)) (FE : Fld Z h0 a0' "java/util/ArrayList" "elementData" "[Ljava/lang/Object;" (.ref da)) (FS : Fld Z h0 a0' "java/util/ArrayList" "size" "I" (.int 0)) (O : Old Z n0 h0) (SD : Sta Z Z.heap "java/util/ArrayList" "DEFAULTCAPACITY_EMPTY_ELEMENTDATA" "[Ljava/lang/Object;" (.ref da)) (VD : Arv Z Z.heap da dk (.object "java/lang/Object") 0 [] .null) (EX : Exa Z h0 x1 "java/lang/Long") :
    MetFree l (⟨"java/util/ArrayList", "add", "(Ljava/lang/Object;[Ljava/lang/Object;I)V"⟩ : MethodName) (head1 (Jvm.Cond.code (⟨"java/util/ArrayList", "add", "(Ljava/lang/Object;[Ljava/lang/Object;I)V"⟩ : MethodName) jdk_38_method_24_code 4 none :: ws) ({ frames := 3, cells := 1, slots := 10, locals := 41 } : Room)) (fun a U => a = #[(.ref a0'), (.ref x1), (.ref da), (.int (0 : Int32))] ∧ Z.Warmed39 U.vm ∧ U.heap = h0) (fun _ _ _ _ _ => True) (fun _ U o U' => ∃ v L, o = .returned v ∧ Q_rm_a3_L0 Z a0' x1 da dk h0 n0 v U'.heap L ∧ FrameEnd U o U' L 1 10) := by
  refine MetFree.of_bodySF (plainFor_of_name pn_java_util_ArrayList) hisR ?_
  intro p e s m args below meth c s₁ Bd hml0 hP hK
  obtain ⟨rfl, hZ, hh⟩ := hP
  have hx := Bd.exec
  have hby := Bd.bytes
  have hlk := Bd.notSynchronized
  have hml : c.maxLocals = 4 := hml0
  have hown : s.vm.findClass "java/util/ArrayList" = some m.cls := findClass_of_methodNamed Bd.named
  have hnm := (name_of_methodNamed Bd.named Bd.method).1
  have X0 : Stand p l e ({ frames := 3, cells := 1, slots := 10, locals := 41 } : Room) s m #[(.ref a0'), (.ref x1), (.ref da), (.int (0 : Int32))] below meth c s₁ [] 0 0 := Stand.of_body Bd
  have e0 : s₁.heap = h0 := by rw [← hh, Bd.state]; rfl
  have N0 := Fr.nil n0
  show OwnEnd p e below s (Q_rm_a3_L0 Z a0' x1 da dk h0 n0) 1 10 (s₁.setTop (entryFrame m #[(.ref a0'), (.ref x1), (.ref da), (.int (0 : Int32))] 4))
  refine go (fun t k => castTop (ef_rm_a3_L0 m a0' x1 da) k) ?_
  have KK := Keep.refl h0 [a0']
  have S1 := SD.ext O.2
  have V1 := VD.ext O.2
  have Z0 : n0 ≤ h0.size := by rw [← O.1]; exact O.2.1
  have ned : a0' ≠ da := fun q => absurd VD.lt (by rw [← q, O.1]; exact Nat.not_lt.mpr ga)
  have nex : x1 ≠ a0' := Jvm.RoadKit.ne_exa EX EA (by decide)
  show OwnEnd _ _ _ _ _ _ _ (s₁.setTop (mkF m 0 #[.val (.ref a0'), .val (.ref x1), .val (.ref da), .val (.int (0 : Int32))] []))
  refine go (fun _ k => by refine XS.iloadN X0.here hx rfl (hb hby d_jdk_38_method_24_code_0) rfl ?_; exact k) ?_
  refine go (fun _ k => by refine XS.aloadN X0.here hx rfl (hb hby d_jdk_38_method_24_code_1) rfl rfl ?_; exact k) ?_
  show OwnEnd _ _ _ _ _ _ _ (s₁.setTop (mkF m 2 #[.val (.ref a0'), .val (.ref x1), .val (.ref da), .val (.int (0 : Int32))] [(.ref da), (.int (0 : Int32))]))
  refine go (lenV X0 hx hZ e0 V1 (g := (mkF m 2 #[.val (.ref a0'), .val (.ref x1), .val (.ref da), .val (.int (0 : Int32))] [(.ref da), (.int (0 : Int32))])) rfl rfl (hb hby d_jdk_38_method_24_code_2)) ?_
  show OwnEnd _ _ _ _ _ _ _ (s₁.setTop (mkF m 3 #[.val (.ref a0'), .val (.ref x1), .val (.ref da), .val (.int (0 : Int32))] [(.int (0 : Int32)), (.int (0 : Int32))]))
  refine go (fun _ k => by refine XS.icmpNo X0.here hx rfl (hb hby d_jdk_38_method_24_code_3) rfl (teq (by decide)).2 ?_; exact k) ?_
  refine go (fun _ k => by refine XS.aloadN X0.here hx rfl (hb hby d_jdk_38_method_24_code_6) rfl rfl ?_; exact k) ?_
  show OwnEnd _ _ _ _ _ _ _ (s₁.setTop (mkF m 7 #[.val (.ref a0'), .val (.ref x1), .val (.ref da), .val (.int (0 : Int32))] [(.ref a0')]))
  obtain ⟨_, T1, L1, X1, hQ1, st1⟩ := callPriv X0 hx hZ hown (hw _ (List.mem_of_getElem? (i := 63) rfl)) (hw _ (List.mem_of_getElem? (i := 64) rfl)) (hw _ (List.mem_of_getElem? (i := 65) rfl)) (hw _ (List.mem_of_getElem? (i := 1) rfl)) (hw _ (List.mem_of_getElem? (i := 2) rfl)) (hw _ (List.mem_of_getElem? (i := 67) rfl)) (by decide) (rm_gr0 l Z a0 hw [] a0' da dk (1 : Int32) h0 n0 ga EA FM FE FS O SD VD) (W := 0) (by decide) (by decide) e0 EA (g := (mkF m 7 #[.val (.ref a0'), .val (.ref x1), .val (.ref da), .val (.int (0 : Int32))] [(.ref a0')])) rfl (by rw [hml]; rfl) (argsL := []) (rest := []) rfl (lenOf pd____Ljava_lang_Object_ rfl) rfl (by show 2 * 0 + _ ≤ _; exact Nat.le_of_eq rfl) (hb hby d_jdk_38_method_24_code_7) (by decide) (by decide)
  have lto1 := EA.lt
  have ltv1 := V1.lt
  obtain ⟨gb1, k1, rfl, Nq1, K1, g_gb1, sq1, EA, FM, FE, FS, V_gb1, O1⟩ := hQ1
  have sz_gb1 : h0.size ≤ gb1 := Nat.le_trans KK.1 sq1
  have N1 := Fr.app N0 Nq1
  have O := O.keep K1 (allS ga all0)
  have Z0 := Nat.le_trans Z0 K1.1
  have KK := Keep.trans KK K1 (allS (Or.inl (List.mem_of_getElem? (i := 0) rfl)) all0)
  have V1 := V1.keep K1 (ninS (Ne.symm ned) nin0)
  have EX := EX.keep K1
  have S1 := SD.ext O.2
  have ne_gb1 : a0' ≠ gb1 := fun q => absurd lto1 (by rw [q]; exact Nat.not_lt.mpr sq1)
  have nd_gb1 : da ≠ gb1 := fun q => absurd ltv1 (by rw [q]; exact Nat.not_lt.mpr sq1)
  refine go st1 ?_
  refine go (fun _ k => by refine XS.astoreN X1.here hx rfl (hb hby d_jdk_38_method_24_code_10) rfl rfl (l' := #[.val (.ref a0'), .val (.ref x1), .val (.ref gb1), .val (.int (0 : Int32))]) rfl ?_; exact k) ?_
  refine go (fun _ k => by refine XS.aloadN X1.here hx rfl (hb hby d_jdk_38_method_24_code_11) rfl rfl ?_; exact k) ?_
  refine go (fun _ k => by refine XS.iloadN X1.here hx rfl (hb hby d_jdk_38_method_24_code_12) rfl ?_; exact k) ?_
  show OwnEnd _ _ _ _ _ _ _ (T1.setTop (mkF m 13 #[.val (.ref a0'), .val (.ref x1), .val (.ref gb1), .val (.int (0 : Int32))] [(.int (0 : Int32)), (.ref gb1)]))
  refine go (fun _ k => by refine XS.aloadN X1.here hx rfl (hb hby d_jdk_38_method_24_code_13) rfl rfl ?_; exact k) ?_
  show OwnEnd _ _ _ _ _ _ _ (T1.setTop (mkF m 14 #[.val (.ref a0'), .val (.ref x1), .val (.ref gb1), .val (.int (0 : Int32))] [(.ref x1), (.int (0 : Int32)), (.ref gb1)]))
  obtain ⟨T2, h2, X2, e2, W2, V_gb1', st2⟩ := stRv X1 hx hZ rfl V_gb1 O1 (Ins.of_exa EX (hw _ (List.mem_of_getElem? (i := 181) rfl))) rfl rfl (j := (0 : Int32)) (i := 0) (by decide) (by decide) (by decide) (Nat.le_of_ble_eq_true rfl) (g := (mkF m 14 #[.val (.ref a0'), .val (.ref x1), .val (.ref gb1), .val (.int (0 : Int32))] [(.ref x1), (.int (0 : Int32)), (.ref gb1)])) rfl rfl (hb hby d_jdk_38_method_24_code_14)
  have N2 := Fr.snoc X2 N1 g_gb1
  have O := O.wr W2 g_gb1
  have Z0 := Nat.le_trans Z0 (Keep.of_wr W2).1
  have KK := Keep.wr KK W2 (Or.inr sz_gb1)
  have V1 := V1.other W2 nd_gb1
  have S1 := S1.wr W2
  have EX := EX.wr W2
  have EA := EA.wr W2
  have FM := FM.other W2 (Or.inl ne_gb1)
  have FE := FE.other W2 (Or.inl ne_gb1)
  have FS := FS.other W2 (Or.inl ne_gb1)
  have V_gb1 : Arv Z h2 gb1 k1 (.object "java/lang/Object") (10 : Int32) [(.ref x1), .null, .null, .null, .null, .null, .null, .null, .null, .null] .null := V_gb1'
  refine go st2 ?_
  refine go (fun _ k => by refine XS.aloadN X2.here hx rfl (hb hby d_jdk_38_method_24_code_15) rfl rfl ?_; exact k) ?_
  refine go (fun _ k => by refine XS.iloadN X2.here hx rfl (hb hby d_jdk_38_method_24_code_16) rfl ?_; exact k) ?_
  refine go (fun _ k => by refine XS.iconst X2.here hx rfl (hb hby d_jdk_38_method_24_code_17) ?_; exact k) ?_
  show OwnEnd _ _ _ _ _ _ _ (T2.setTop (mkF m 18 #[.val (.ref a0'), .val (.ref x1), .val (.ref gb1), .val (.int (0 : Int32))] [(.int (1 : Int32)), (.int (0 : Int32)), (.ref a0')]))
  refine go (fun _ k => by refine XS.iadd X2.here hx rfl (hb hby d_jdk_38_method_24_code_18) rfl ?_; exact k) ?_
  show OwnEnd _ _ _ _ _ _ _ (T2.setTop (mkF m 19 #[.val (.ref a0'), .val (.ref x1), .val (.ref gb1), .val (.int (0 : Int32))] [(.int ((0 : Int32) + (1 : Int32))), (.ref a0')]))
  rw [show ((0 : Int32) + (1 : Int32)) = (1 : Int32) from by decide]
  show OwnEnd _ _ _ _ _ _ _ (T2.setTop (mkF m 19 #[.val (.ref a0'), .val (.ref x1), .val (.ref gb1), .val (.int (0 : Int32))] [(.int (1 : Int32)), (.ref a0')]))
  obtain ⟨T3, h3, X3, e3, W3, st3⟩ := putF X2 hx hZ hown (host := "") (Or.inl (hw _ (List.mem_of_getElem? (i := 56) rfl))) Via.refl e2 FS EA (Or.inl (hw _ (List.mem_of_getElem? (i := 57) rfl))) (hw _ (List.mem_of_getElem? (i := 1) rfl)) (ty := .int) (by decide) rfl rfl (g := (mkF m 19 #[.val (.ref a0'), .val (.ref x1), .val (.ref gb1), .val (.int (0 : Int32))] [(.int (1 : Int32)), (.ref a0')])) rfl rfl (hb hby d_jdk_38_method_24_code_19)
  have N3 := Fr.snoc X3 N2 ga
  have O := O.wr W3 ga
  have Z0 := Nat.le_trans Z0 (Keep.of_wr W3).1
  have KK := Keep.wr KK W3 (Or.inl (List.mem_of_getElem? (i := 0) rfl))
  have V1 := V1.other W3 (Ne.symm ned)
  have S1 := S1.wr W3
  have EX := EX.wr W3
  have EA := EA.wr W3
  have FM := FM.other W3 (Or.inr (slot_ne (Or.inl (hw _ (List.mem_of_getElem? (i := 22) rfl))) (Or.inl (hw _ (List.mem_of_getElem? (i := 57) rfl))) (by decide) (t := .int) (t' := .int) (by decide) (by decide)))
  have FE := FE.other W3 (Or.inr (slot_ne (Or.inl (hw _ (List.mem_of_getElem? (i := 25) rfl))) (Or.inl (hw _ (List.mem_of_getElem? (i := 57) rfl))) (by decide) (t := (.array (.object "java/lang/Object"))) (t' := .int) (by decide) (by decide)))
  have V_gb1 := V_gb1.other W3 (Ne.symm ne_gb1)
  have FS := FS.same W3
  refine go st3 ?_
  show OwnEnd _ _ _ _ _ _ _ (T3.setTop (mkF m 22 #[.val (.ref a0'), .val (.ref x1), .val (.ref gb1), .val (.int (0 : Int32))] []))
  refine endV X3 hx hlk Bd.returns (hb hby d_jdk_38_method_24_code_22) e3 (by decide) (by decide) ?_
  exact ⟨_, _, rfl, N3, KK, g_gb1, sz_gb1, EA, FM, FE, FS, V_gb1, O1⟩
theorem ef_rm_a1_L0 (m : MethodId) (y0 : Addr) (y1 : Addr) : entryFrame m #[(.ref y0), (.ref y1)] 2 = mkF m 0 #[.val (.ref y0), .val (.ref y1)] [] := by first | (simp [entryFrame, mkF, argsToLocals, Value.category]; done) | rfl
def Q_rm_a1_L0 (Z : State) (a0' : Addr) (x1 : Addr) (da : Addr) (dk : ClassId) (h0 : Heap) (n0 : Nat) (v : Option Value) (h : Heap) (L : List Loc) : Prop := ∃ gb gk, v = some (.int 1) ∧ Fr n0 L ∧ Keep h0 h [a0'] ∧ n0 ≤ gb ∧ h0.size ≤ gb ∧ Exa Z h a0' "java/util/ArrayList" ∧ Fld Z h a0' "java/util/AbstractList" "modCount" "I" (.int 1) ∧ Fld Z h a0' "java/util/ArrayList" "elementData" "[Ljava/lang/Object;" (.ref gb) ∧ Fld Z h a0' "java/util/ArrayList" "size" "I" (.int 1) ∧ Arv Z h gb gk (.object "java/lang/Object") 10 [(.ref x1), .null, .null, .null, .null, .null, .null, .null, .null, .null] .null ∧ Ovr Z gk "java/lang/Object"
set_option maxRecDepth 65536 in
set_option maxHeartbeats 40000000 in
theorem rm_a1_L0 (l : Launch) (Z : State) (a0 : Array Value) (hw : ∀ d ∈ tables_1, d.before a0 Z = true) (ws : List Jvm.Cond) (a0' : Addr) (x1 : Addr) (da : Addr) (dk : ClassId) (h0 : Heap) (n0 : Nat) (ga : n0 ≤ a0') (EA : Exa Z h0 a0' "java/util/ArrayList") (FM : Fld Z h0 a0' "java/util/AbstractList" "modCount" "I" (.int 0)) (FE : Fld Z h0 a0' "java/util/ArrayList" "elementData" "[Ljava/lang/Object;" (.ref da)) (FS : Fld Z h0 a0' "java/util/ArrayList" "size" "I" (.int 0)) (O : Old Z n0 h0) (SD : Sta Z Z.heap "java/util/ArrayList" "DEFAULTCAPACITY_EMPTY_ELEMENTDATA" "[Ljava/lang/Object;" (.ref da)) (VD : Arv Z Z.heap da dk (.object "java/lang/Object") 0 [] .null) (EX : Exa Z h0 x1 "java/lang/Long") :
    MetFree l (⟨"java/util/ArrayList", "add", "(Ljava/lang/Object;)Z"⟩ : MethodName) (head1 (Jvm.Cond.code (⟨"java/util/ArrayList", "add", "(Ljava/lang/Object;)Z"⟩ : MethodName) jdk_38_method_25_code 2 (some .boolean) :: ws) ({ frames := 4, cells := 1, slots := 10, locals := 56 } : Room)) (fun a U => a = #[(.ref a0'), (.ref x1)] ∧ Z.Warmed39 U.vm ∧ U.heap = h0) (fun _ _ _ _ _ => True) (fun _ U o U' => ∃ v L, o = .returned v ∧ Q_rm_a1_L0 Z a0' x1 da dk h0 n0 v U'.heap L ∧ FrameEnd U o U' L 1 10) := by
  refine MetFree.of_bodySF (plainFor_of_name pn_java_util_ArrayList) hisR ?_
  intro p e s m args below meth c s₁ Bd hml0 hP hK
  obtain ⟨rfl, hZ, hh⟩ := hP
  have hx := Bd.exec
  have hby := Bd.bytes
  have hlk := Bd.notSynchronized
  have hml : c.maxLocals = 2 := hml0
  have hown : s.vm.findClass "java/util/ArrayList" = some m.cls := findClass_of_methodNamed Bd.named
  have hnm := (name_of_methodNamed Bd.named Bd.method).1
  have X0 : Stand p l e ({ frames := 4, cells := 1, slots := 10, locals := 56 } : Room) s m #[(.ref a0'), (.ref x1)] below meth c s₁ [] 0 0 := Stand.of_body Bd
  have e0 : s₁.heap = h0 := by rw [← hh, Bd.state]; rfl
  have N0 := Fr.nil n0
  show OwnEnd p e below s (Q_rm_a1_L0 Z a0' x1 da dk h0 n0) 1 10 (s₁.setTop (entryFrame m #[(.ref a0'), (.ref x1)] 2))
  refine go (fun t k => castTop (ef_rm_a1_L0 m a0' x1) k) ?_
  have KK := Keep.refl h0 [a0']
  have S1 := SD.ext O.2
  have V1 := VD.ext O.2
  have Z0 : n0 ≤ h0.size := by rw [← O.1]; exact O.2.1
  have ned : a0' ≠ da := fun q => absurd VD.lt (by rw [← q, O.1]; exact Nat.not_lt.mpr ga)
  have nex : x1 ≠ a0' := Jvm.RoadKit.ne_exa EX EA (by decide)
  show OwnEnd _ _ _ _ _ _ _ (s₁.setTop (mkF m 0 #[.val (.ref a0'), .val (.ref x1)] []))
  refine go (fun _ k => by refine XS.aloadN X0.here hx rfl (hb hby d_jdk_38_method_25_code_0) rfl rfl ?_; exact k) ?_
  refine go (fun _ k => by refine XS.dup X0.here hx rfl (hb hby d_jdk_38_method_25_code_1) rfl rfl ?_; exact k) ?_
  show OwnEnd _ _ _ _ _ _ _ (s₁.setTop (mkF m 2 #[.val (.ref a0'), .val (.ref x1)] [(.ref a0'), (.ref a0')]))
  obtain ⟨T1, X1, e1, st1⟩ := getF X0 hx hZ hown (host := "") (Or.inl (hw _ (List.mem_of_getElem? (i := 54) rfl))) (Via.of (hw _ (List.mem_of_getElem? (i := 55) rfl))) e0 FM (g := (mkF m 2 #[.val (.ref a0'), .val (.ref x1)] [(.ref a0'), (.ref a0')])) rfl rfl (hb hby d_jdk_38_method_25_code_2)
  refine go st1 ?_
  refine go (fun _ k => by refine XS.iconst X1.here hx rfl (hb hby d_jdk_38_method_25_code_5) ?_; exact k) ?_
  refine go (fun _ k => by refine XS.iadd X1.here hx rfl (hb hby d_jdk_38_method_25_code_6) rfl ?_; exact k) ?_
  show OwnEnd _ _ _ _ _ _ _ (T1.setTop (mkF m 7 #[.val (.ref a0'), .val (.ref x1)] [(.int ((0 : Int32) + (1 : Int32))), (.ref a0')]))
  rw [show ((0 : Int32) + (1 : Int32)) = (1 : Int32) from by decide]
  show OwnEnd _ _ _ _ _ _ _ (T1.setTop (mkF m 7 #[.val (.ref a0'), .val (.ref x1)] [(.int (1 : Int32)), (.ref a0')]))
  obtain ⟨T2, h2, X2, e2, W2, st2⟩ := putF X1 hx hZ hown (host := "") (Or.inl (hw _ (List.mem_of_getElem? (i := 54) rfl))) (Via.of (hw _ (List.mem_of_getElem? (i := 55) rfl))) e1 FM EA (Or.inl (hw _ (List.mem_of_getElem? (i := 22) rfl))) (hw _ (List.mem_of_getElem? (i := 1) rfl)) (ty := .int) (by decide) rfl rfl (g := (mkF m 7 #[.val (.ref a0'), .val (.ref x1)] [(.int (1 : Int32)), (.ref a0')])) rfl rfl (hb hby d_jdk_38_method_25_code_7)
  have N2 := Fr.snoc X2 N0 ga
  have EA := EA.wr W2
  have FE := FE.other W2 (Or.inr (slot_ne (Or.inl (hw _ (List.mem_of_getElem? (i := 25) rfl))) (Or.inl (hw _ (List.mem_of_getElem? (i := 22) rfl))) (by decide) (t := (.array (.object "java/lang/Object"))) (t' := .int) (by decide) (by decide)))
  have FS := FS.other W2 (Or.inr (slot_ne (Or.inl (hw _ (List.mem_of_getElem? (i := 57) rfl))) (Or.inl (hw _ (List.mem_of_getElem? (i := 22) rfl))) (by decide) (t := .int) (t' := .int) (by decide) (by decide)))
  have O := O.wr W2 ga
  have Z0 := Nat.le_trans Z0 (Keep.of_wr W2).1
  have KK := Keep.wr KK W2 (Or.inl (List.mem_of_getElem? (i := 0) rfl))
  have V1 := V1.other W2 (Ne.symm ned)
  have S1 := S1.wr W2
  have EX := EX.wr W2
  have FM := FM.same W2
  refine go st2 ?_
  refine go (fun _ k => by refine XS.aloadN X2.here hx rfl (hb hby d_jdk_38_method_25_code_10) rfl rfl ?_; exact k) ?_
  refine go (fun _ k => by refine XS.aloadN X2.here hx rfl (hb hby d_jdk_38_method_25_code_11) rfl rfl ?_; exact k) ?_
  refine go (fun _ k => by refine XS.aloadN X2.here hx rfl (hb hby d_jdk_38_method_25_code_12) rfl rfl ?_; exact k) ?_
  show OwnEnd _ _ _ _ _ _ _ (T2.setTop (mkF m 13 #[.val (.ref a0'), .val (.ref x1)] [(.ref a0'), (.ref x1), (.ref a0')]))
  obtain ⟨T3, X3, e3, st3⟩ := getF X2 hx hZ hown (host := "") (Or.inl (hw _ (List.mem_of_getElem? (i := 24) rfl))) Via.refl e2 FE (g := (mkF m 13 #[.val (.ref a0'), .val (.ref x1)] [(.ref a0'), (.ref x1), (.ref a0')])) rfl rfl (hb hby d_jdk_38_method_25_code_13)
  refine go st3 ?_
  refine go (fun _ k => by refine XS.aloadN X3.here hx rfl (hb hby d_jdk_38_method_25_code_16) rfl rfl ?_; exact k) ?_
  show OwnEnd _ _ _ _ _ _ _ (T3.setTop (mkF m 17 #[.val (.ref a0'), .val (.ref x1)] [(.ref a0'), (.ref da), (.ref x1), (.ref a0')]))
  obtain ⟨T4, X4, e4, st4⟩ := getF X3 hx hZ hown (host := "") (Or.inl (hw _ (List.mem_of_getElem? (i := 56) rfl))) Via.refl e3 FS (g := (mkF m 17 #[.val (.ref a0'), .val (.ref x1)] [(.ref a0'), (.ref da), (.ref x1), (.ref a0')])) rfl rfl (hb hby d_jdk_38_method_25_code_17)
  refine go st4 ?_
  show OwnEnd _ _ _ _ _ _ _ (T4.setTop (mkF m 20 #[.val (.ref a0'), .val (.ref x1)] [(.int (0 : Int32)), (.ref da), (.ref x1), (.ref a0')]))
  obtain ⟨_, T5, L5, X5, hQ5, st5⟩ := callPriv X4 hx hZ hown (hw _ (List.mem_of_getElem? (i := 58) rfl)) (hw _ (List.mem_of_getElem? (i := 59) rfl)) (hw _ (List.mem_of_getElem? (i := 60) rfl)) (hw _ (List.mem_of_getElem? (i := 1) rfl)) (hw _ (List.mem_of_getElem? (i := 2) rfl)) (hw _ (List.mem_of_getElem? (i := 62) rfl)) (by decide) (rm_a3_L0 l Z a0 hw [] a0' x1 da dk h2 n0 ga EA FM FE FS O SD VD EX) (W := 0) (by decide) (by decide) e4 EA (g := (mkF m 20 #[.val (.ref a0'), .val (.ref x1)] [(.int (0 : Int32)), (.ref da), (.ref x1), (.ref a0')])) rfl (by rw [hml]; rfl) (argsL := [(.ref x1), (.ref da), (.int (0 : Int32))]) (rest := []) rfl (lenOf pd__Ljava_lang_Object__Ljava_lang_Object_I_V rfl) rfl (by show 2 * 0 + _ ≤ _; exact Nat.le_of_eq rfl) (hb hby d_jdk_38_method_25_code_20) (by decide) (by decide)
  have lto5 := EA.lt
  have ltz5_0 := V1.lt
  have ltz5_1 := EX.lt
  obtain ⟨gb5, k5, rfl, Nq5, K5, g_gb5, sq5, EA, FM, FE, FS, V_gb5, O5⟩ := hQ5
  have sz_gb5 : h0.size ≤ gb5 := Nat.le_trans KK.1 sq5
  have N5 := Fr.app N2 Nq5
  have O := O.keep K5 (allS ga all0)
  have Z0 := Nat.le_trans Z0 K5.1
  have KK := Keep.trans KK K5 (allS (Or.inl (List.mem_of_getElem? (i := 0) rfl)) all0)
  have V1 := V1.keep K5 (ninS (Ne.symm ned) nin0)
  have EX := EX.keep K5
  have S1 := SD.ext O.2
  have ne_gb5 : a0' ≠ gb5 := fun q => absurd lto5 (by rw [q]; exact Nat.not_lt.mpr sq5)
  have nz_gb5_0 : da ≠ gb5 := fun q => absurd ltz5_0 (by rw [q]; exact Nat.not_lt.mpr sq5)
  have nz_gb5_1 : x1 ≠ gb5 := fun q => absurd ltz5_1 (by rw [q]; exact Nat.not_lt.mpr sq5)
  refine go st5 ?_
  refine go (fun _ k => by refine XS.iconst X5.here hx rfl (hb hby d_jdk_38_method_25_code_23) ?_; exact k) ?_
  show OwnEnd _ _ _ _ _ _ _ (T5.setTop (mkF m 24 #[.val (.ref a0'), .val (.ref x1)] [(.int (1 : Int32))]))
  refine endN X5 hx hlk (t := .boolean) (by simp) Bd.returns (hb hby d_jdk_38_method_25_code_24) rfl (by decide) (by decide) ?_
  exact ⟨_, _, rfl, N5, KK, g_gb5, sz_gb5, EA, FM, FE, FS, V_gb5, O5⟩
theorem ef_rm_a3_L1 (m : MethodId) (y0 : Addr) (y1 : Addr) (y2 : Addr) : entryFrame m #[(.ref y0), (.ref y1), (.ref y2), (.int (1 : Int32))] 4 = mkF m 0 #[.val (.ref y0), .val (.ref y1), .val (.ref y2), .val (.int (1 : Int32))] [] := by first | (simp [entryFrame, mkF, argsToLocals, Value.category]; done) | rfl
def Q_rm_a3_L1 (Z : State) (a0' : Addr) (x1 : Addr) (gb : Addr) (gk : ClassId) (y0 : Addr) (h0 : Heap) (n0 : Nat) (v : Option Value) (h : Heap) (L : List Loc) : Prop := v = none ∧ Fr n0 L ∧ Keep h0 h [a0', gb] ∧ Exa Z h a0' "java/util/ArrayList" ∧ Fld Z h a0' "java/util/AbstractList" "modCount" "I" (.int 2) ∧ Fld Z h a0' "java/util/ArrayList" "elementData" "[Ljava/lang/Object;" (.ref gb) ∧ Fld Z h a0' "java/util/ArrayList" "size" "I" (.int 2) ∧ Arv Z h gb gk (.object "java/lang/Object") 10 [(.ref y0), (.ref x1), .null, .null, .null, .null, .null, .null, .null, .null] .null
set_option maxRecDepth 65536 in
set_option maxHeartbeats 40000000 in
theorem rm_a3_L1 (l : Launch) (Z : State) (a0 : Array Value) (hw : ∀ d ∈ tables_1, d.before a0 Z = true) (ws : List Jvm.Cond) (a0' : Addr) (x1 : Addr) (gb : Addr) (gk : ClassId) (y0 : Addr) (h0 : Heap) (n0 : Nat) (ga : n0 ≤ a0') (gg : n0 ≤ gb) (nag : a0' ≠ gb) (EA : Exa Z h0 a0' "java/util/ArrayList") (FM : Fld Z h0 a0' "java/util/AbstractList" "modCount" "I" (.int 2)) (FE : Fld Z h0 a0' "java/util/ArrayList" "elementData" "[Ljava/lang/Object;" (.ref gb)) (FS : Fld Z h0 a0' "java/util/ArrayList" "size" "I" (.int 1)) (VG : Arv Z h0 gb gk (.object "java/lang/Object") 10 [(.ref y0), .null, .null, .null, .null, .null, .null, .null, .null, .null] .null) (OV : Ovr Z gk "java/lang/Object") (EX : Exa Z h0 x1 "java/lang/Long") :
    MetFree l (⟨"java/util/ArrayList", "add", "(Ljava/lang/Object;[Ljava/lang/Object;I)V"⟩ : MethodName) (head1 (Jvm.Cond.code (⟨"java/util/ArrayList", "add", "(Ljava/lang/Object;[Ljava/lang/Object;I)V"⟩ : MethodName) jdk_38_method_24_code 4 none :: ws) ({ frames := 0, cells := 0, slots := 0, locals := 0 } : Room)) (fun a U => a = #[(.ref a0'), (.ref x1), (.ref gb), (.int (1 : Int32))] ∧ Z.Warmed39 U.vm ∧ U.heap = h0) (fun _ _ _ _ _ => True) (fun _ U o U' => ∃ v L, o = .returned v ∧ Q_rm_a3_L1 Z a0' x1 gb gk y0 h0 n0 v U'.heap L ∧ FrameEnd U o U' L 0 0) := by
  refine MetFree.of_bodySF (plainFor_of_name pn_java_util_ArrayList) hisR ?_
  intro p e s m args below meth c s₁ Bd hml0 hP hK
  obtain ⟨rfl, hZ, hh⟩ := hP
  have hx := Bd.exec
  have hby := Bd.bytes
  have hlk := Bd.notSynchronized
  have hml : c.maxLocals = 4 := hml0
  have hown : s.vm.findClass "java/util/ArrayList" = some m.cls := findClass_of_methodNamed Bd.named
  have hnm := (name_of_methodNamed Bd.named Bd.method).1
  have X0 : Stand p l e ({ frames := 0, cells := 0, slots := 0, locals := 0 } : Room) s m #[(.ref a0'), (.ref x1), (.ref gb), (.int (1 : Int32))] below meth c s₁ [] 0 0 := Stand.of_body Bd
  have e0 : s₁.heap = h0 := by rw [← hh, Bd.state]; rfl
  have N0 := Fr.nil n0
  show OwnEnd p e below s (Q_rm_a3_L1 Z a0' x1 gb gk y0 h0 n0) 0 0 (s₁.setTop (entryFrame m #[(.ref a0'), (.ref x1), (.ref gb), (.int (1 : Int32))] 4))
  refine go (fun t k => castTop (ef_rm_a3_L1 m a0' x1 gb) k) ?_
  have KK := Keep.refl h0 [a0', gb]
  have nex : x1 ≠ a0' := Jvm.RoadKit.ne_exa EX EA (by decide)
  show OwnEnd _ _ _ _ _ _ _ (s₁.setTop (mkF m 0 #[.val (.ref a0'), .val (.ref x1), .val (.ref gb), .val (.int (1 : Int32))] []))
  refine go (fun _ k => by refine XS.iloadN X0.here hx rfl (hb hby d_jdk_38_method_24_code_0) rfl ?_; exact k) ?_
  refine go (fun _ k => by refine XS.aloadN X0.here hx rfl (hb hby d_jdk_38_method_24_code_1) rfl rfl ?_; exact k) ?_
  show OwnEnd _ _ _ _ _ _ _ (s₁.setTop (mkF m 2 #[.val (.ref a0'), .val (.ref x1), .val (.ref gb), .val (.int (1 : Int32))] [(.ref gb), (.int (1 : Int32))]))
  refine go (lenV X0 hx hZ e0 VG (g := (mkF m 2 #[.val (.ref a0'), .val (.ref x1), .val (.ref gb), .val (.int (1 : Int32))] [(.ref gb), (.int (1 : Int32))])) rfl rfl (hb hby d_jdk_38_method_24_code_2)) ?_
  show OwnEnd _ _ _ _ _ _ _ (s₁.setTop (mkF m 3 #[.val (.ref a0'), .val (.ref x1), .val (.ref gb), .val (.int (1 : Int32))] [(.int (10 : Int32)), (.int (1 : Int32))]))
  refine go (fun _ k => by refine XS.icmpYes X0.here hx rfl (pc0 := 3) (pc' := 11) rfl (hb hby d_jdk_38_method_24_code_3) rfl (feq (by decide)).2 (by decide) (by decide) ?_; exact k) ?_
  refine go (fun _ k => by refine XS.aloadN X0.here hx rfl (hb hby d_jdk_38_method_24_code_11) rfl rfl ?_; exact k) ?_
  refine go (fun _ k => by refine XS.iloadN X0.here hx rfl (hb hby d_jdk_38_method_24_code_12) rfl ?_; exact k) ?_
  refine go (fun _ k => by refine XS.aloadN X0.here hx rfl (hb hby d_jdk_38_method_24_code_13) rfl rfl ?_; exact k) ?_
  show OwnEnd _ _ _ _ _ _ _ (s₁.setTop (mkF m 14 #[.val (.ref a0'), .val (.ref x1), .val (.ref gb), .val (.int (1 : Int32))] [(.ref x1), (.int (1 : Int32)), (.ref gb)]))
  obtain ⟨T1, h1, X1, e1, W1, VG', st1⟩ := stRv X0 hx hZ e0 VG OV (Ins.of_exa EX (hw _ (List.mem_of_getElem? (i := 181) rfl))) rfl rfl (j := (1 : Int32)) (i := 1) (by decide) (by decide) (by decide) (Nat.le_of_ble_eq_true rfl) (g := (mkF m 14 #[.val (.ref a0'), .val (.ref x1), .val (.ref gb), .val (.int (1 : Int32))] [(.ref x1), (.int (1 : Int32)), (.ref gb)])) rfl rfl (hb hby d_jdk_38_method_24_code_14)
  have N1 := Fr.snoc X1 N0 gg
  have EA := EA.wr W1
  have FM := FM.other W1 (Or.inl nag)
  have FE := FE.other W1 (Or.inl nag)
  have FS := FS.other W1 (Or.inl nag)
  have EX := EX.wr W1
  have KK := Keep.wr KK W1 (Or.inl (List.mem_of_getElem? (i := 1) rfl))
  have VG : Arv Z h1 gb gk (.object "java/lang/Object") (10 : Int32) [(.ref y0), (.ref x1), .null, .null, .null, .null, .null, .null, .null, .null] .null := VG'
  refine go st1 ?_
  refine go (fun _ k => by refine XS.aloadN X1.here hx rfl (hb hby d_jdk_38_method_24_code_15) rfl rfl ?_; exact k) ?_
  refine go (fun _ k => by refine XS.iloadN X1.here hx rfl (hb hby d_jdk_38_method_24_code_16) rfl ?_; exact k) ?_
  refine go (fun _ k => by refine XS.iconst X1.here hx rfl (hb hby d_jdk_38_method_24_code_17) ?_; exact k) ?_
  show OwnEnd _ _ _ _ _ _ _ (T1.setTop (mkF m 18 #[.val (.ref a0'), .val (.ref x1), .val (.ref gb), .val (.int (1 : Int32))] [(.int (1 : Int32)), (.int (1 : Int32)), (.ref a0')]))
  refine go (fun _ k => by refine XS.iadd X1.here hx rfl (hb hby d_jdk_38_method_24_code_18) rfl ?_; exact k) ?_
  show OwnEnd _ _ _ _ _ _ _ (T1.setTop (mkF m 19 #[.val (.ref a0'), .val (.ref x1), .val (.ref gb), .val (.int (1 : Int32))] [(.int ((1 : Int32) + (1 : Int32))), (.ref a0')]))
  rw [show ((1 : Int32) + (1 : Int32)) = (2 : Int32) from by decide]
  show OwnEnd _ _ _ _ _ _ _ (T1.setTop (mkF m 19 #[.val (.ref a0'), .val (.ref x1), .val (.ref gb), .val (.int (1 : Int32))] [(.int (2 : Int32)), (.ref a0')]))
  obtain ⟨T2, h2, X2, e2, W2, st2⟩ := putF X1 hx hZ hown (host := "") (Or.inl (hw _ (List.mem_of_getElem? (i := 56) rfl))) Via.refl e1 FS EA (Or.inl (hw _ (List.mem_of_getElem? (i := 57) rfl))) (hw _ (List.mem_of_getElem? (i := 1) rfl)) (ty := .int) (by decide) rfl rfl (g := (mkF m 19 #[.val (.ref a0'), .val (.ref x1), .val (.ref gb), .val (.int (1 : Int32))] [(.int (2 : Int32)), (.ref a0')])) rfl rfl (hb hby d_jdk_38_method_24_code_19)
  have N2 := Fr.snoc X2 N1 ga
  have EA := EA.wr W2
  have FM := FM.other W2 (Or.inr (slot_ne (Or.inl (hw _ (List.mem_of_getElem? (i := 22) rfl))) (Or.inl (hw _ (List.mem_of_getElem? (i := 57) rfl))) (by decide) (t := .int) (t' := .int) (by decide) (by decide)))
  have FE := FE.other W2 (Or.inr (slot_ne (Or.inl (hw _ (List.mem_of_getElem? (i := 25) rfl))) (Or.inl (hw _ (List.mem_of_getElem? (i := 57) rfl))) (by decide) (t := (.array (.object "java/lang/Object"))) (t' := .int) (by decide) (by decide)))
  have VG := VG.other W2 (Ne.symm nag)
  have EX := EX.wr W2
  have KK := Keep.wr KK W2 (Or.inl (List.mem_of_getElem? (i := 0) rfl))
  have FS := FS.same W2
  refine go st2 ?_
  show OwnEnd _ _ _ _ _ _ _ (T2.setTop (mkF m 22 #[.val (.ref a0'), .val (.ref x1), .val (.ref gb), .val (.int (1 : Int32))] []))
  refine endV X2 hx hlk Bd.returns (hb hby d_jdk_38_method_24_code_22) e2 (by decide) (by decide) ?_
  exact ⟨rfl, N2, KK, EA, FM, FE, FS, VG⟩
theorem ef_rm_a1_L1 (m : MethodId) (y0 : Addr) (y1 : Addr) : entryFrame m #[(.ref y0), (.ref y1)] 2 = mkF m 0 #[.val (.ref y0), .val (.ref y1)] [] := by first | (simp [entryFrame, mkF, argsToLocals, Value.category]; done) | rfl
def Q_rm_a1_L1 (Z : State) (a0' : Addr) (x1 : Addr) (gb : Addr) (gk : ClassId) (y0 : Addr) (h0 : Heap) (n0 : Nat) (v : Option Value) (h : Heap) (L : List Loc) : Prop := v = some (.int 1) ∧ Fr n0 L ∧ Keep h0 h [a0', gb] ∧ Exa Z h a0' "java/util/ArrayList" ∧ Fld Z h a0' "java/util/AbstractList" "modCount" "I" (.int 2) ∧ Fld Z h a0' "java/util/ArrayList" "elementData" "[Ljava/lang/Object;" (.ref gb) ∧ Fld Z h a0' "java/util/ArrayList" "size" "I" (.int 2) ∧ Arv Z h gb gk (.object "java/lang/Object") 10 [(.ref y0), (.ref x1), .null, .null, .null, .null, .null, .null, .null, .null] .null
set_option maxRecDepth 65536 in
set_option maxHeartbeats 40000000 in
theorem rm_a1_L1 (l : Launch) (Z : State) (a0 : Array Value) (hw : ∀ d ∈ tables_1, d.before a0 Z = true) (ws : List Jvm.Cond) (a0' : Addr) (x1 : Addr) (gb : Addr) (gk : ClassId) (y0 : Addr) (h0 : Heap) (n0 : Nat) (ga : n0 ≤ a0') (gg : n0 ≤ gb) (nag : a0' ≠ gb) (EA : Exa Z h0 a0' "java/util/ArrayList") (FM : Fld Z h0 a0' "java/util/AbstractList" "modCount" "I" (.int 1)) (FE : Fld Z h0 a0' "java/util/ArrayList" "elementData" "[Ljava/lang/Object;" (.ref gb)) (FS : Fld Z h0 a0' "java/util/ArrayList" "size" "I" (.int 1)) (VG : Arv Z h0 gb gk (.object "java/lang/Object") 10 [(.ref y0), .null, .null, .null, .null, .null, .null, .null, .null, .null] .null) (OV : Ovr Z gk "java/lang/Object") (EX : Exa Z h0 x1 "java/lang/Long") :
    MetFree l (⟨"java/util/ArrayList", "add", "(Ljava/lang/Object;)Z"⟩ : MethodName) (head1 (Jvm.Cond.code (⟨"java/util/ArrayList", "add", "(Ljava/lang/Object;)Z"⟩ : MethodName) jdk_38_method_25_code 2 (some .boolean) :: ws) ({ frames := 1, cells := 0, slots := 0, locals := 15 } : Room)) (fun a U => a = #[(.ref a0'), (.ref x1)] ∧ Z.Warmed39 U.vm ∧ U.heap = h0) (fun _ _ _ _ _ => True) (fun _ U o U' => ∃ v L, o = .returned v ∧ Q_rm_a1_L1 Z a0' x1 gb gk y0 h0 n0 v U'.heap L ∧ FrameEnd U o U' L 0 0) := by
  refine MetFree.of_bodySF (plainFor_of_name pn_java_util_ArrayList) hisR ?_
  intro p e s m args below meth c s₁ Bd hml0 hP hK
  obtain ⟨rfl, hZ, hh⟩ := hP
  have hx := Bd.exec
  have hby := Bd.bytes
  have hlk := Bd.notSynchronized
  have hml : c.maxLocals = 2 := hml0
  have hown : s.vm.findClass "java/util/ArrayList" = some m.cls := findClass_of_methodNamed Bd.named
  have hnm := (name_of_methodNamed Bd.named Bd.method).1
  have X0 : Stand p l e ({ frames := 1, cells := 0, slots := 0, locals := 15 } : Room) s m #[(.ref a0'), (.ref x1)] below meth c s₁ [] 0 0 := Stand.of_body Bd
  have e0 : s₁.heap = h0 := by rw [← hh, Bd.state]; rfl
  have N0 := Fr.nil n0
  show OwnEnd p e below s (Q_rm_a1_L1 Z a0' x1 gb gk y0 h0 n0) 0 0 (s₁.setTop (entryFrame m #[(.ref a0'), (.ref x1)] 2))
  refine go (fun t k => castTop (ef_rm_a1_L1 m a0' x1) k) ?_
  have KK := Keep.refl h0 [a0', gb]
  have nex : x1 ≠ a0' := Jvm.RoadKit.ne_exa EX EA (by decide)
  show OwnEnd _ _ _ _ _ _ _ (s₁.setTop (mkF m 0 #[.val (.ref a0'), .val (.ref x1)] []))
  refine go (fun _ k => by refine XS.aloadN X0.here hx rfl (hb hby d_jdk_38_method_25_code_0) rfl rfl ?_; exact k) ?_
  refine go (fun _ k => by refine XS.dup X0.here hx rfl (hb hby d_jdk_38_method_25_code_1) rfl rfl ?_; exact k) ?_
  show OwnEnd _ _ _ _ _ _ _ (s₁.setTop (mkF m 2 #[.val (.ref a0'), .val (.ref x1)] [(.ref a0'), (.ref a0')]))
  obtain ⟨T1, X1, e1, st1⟩ := getF X0 hx hZ hown (host := "") (Or.inl (hw _ (List.mem_of_getElem? (i := 54) rfl))) (Via.of (hw _ (List.mem_of_getElem? (i := 55) rfl))) e0 FM (g := (mkF m 2 #[.val (.ref a0'), .val (.ref x1)] [(.ref a0'), (.ref a0')])) rfl rfl (hb hby d_jdk_38_method_25_code_2)
  refine go st1 ?_
  refine go (fun _ k => by refine XS.iconst X1.here hx rfl (hb hby d_jdk_38_method_25_code_5) ?_; exact k) ?_
  refine go (fun _ k => by refine XS.iadd X1.here hx rfl (hb hby d_jdk_38_method_25_code_6) rfl ?_; exact k) ?_
  show OwnEnd _ _ _ _ _ _ _ (T1.setTop (mkF m 7 #[.val (.ref a0'), .val (.ref x1)] [(.int ((1 : Int32) + (1 : Int32))), (.ref a0')]))
  rw [show ((1 : Int32) + (1 : Int32)) = (2 : Int32) from by decide]
  show OwnEnd _ _ _ _ _ _ _ (T1.setTop (mkF m 7 #[.val (.ref a0'), .val (.ref x1)] [(.int (2 : Int32)), (.ref a0')]))
  obtain ⟨T2, h2, X2, e2, W2, st2⟩ := putF X1 hx hZ hown (host := "") (Or.inl (hw _ (List.mem_of_getElem? (i := 54) rfl))) (Via.of (hw _ (List.mem_of_getElem? (i := 55) rfl))) e1 FM EA (Or.inl (hw _ (List.mem_of_getElem? (i := 22) rfl))) (hw _ (List.mem_of_getElem? (i := 1) rfl)) (ty := .int) (by decide) rfl rfl (g := (mkF m 7 #[.val (.ref a0'), .val (.ref x1)] [(.int (2 : Int32)), (.ref a0')])) rfl rfl (hb hby d_jdk_38_method_25_code_7)
  have N2 := Fr.snoc X2 N0 ga
  have EA := EA.wr W2
  have FE := FE.other W2 (Or.inr (slot_ne (Or.inl (hw _ (List.mem_of_getElem? (i := 25) rfl))) (Or.inl (hw _ (List.mem_of_getElem? (i := 22) rfl))) (by decide) (t := (.array (.object "java/lang/Object"))) (t' := .int) (by decide) (by decide)))
  have FS := FS.other W2 (Or.inr (slot_ne (Or.inl (hw _ (List.mem_of_getElem? (i := 57) rfl))) (Or.inl (hw _ (List.mem_of_getElem? (i := 22) rfl))) (by decide) (t := .int) (t' := .int) (by decide) (by decide)))
  have VG := VG.other W2 (Ne.symm nag)
  have EX := EX.wr W2
  have KK := Keep.wr KK W2 (Or.inl (List.mem_of_getElem? (i := 0) rfl))
  have FM := FM.same W2
  refine go st2 ?_
  refine go (fun _ k => by refine XS.aloadN X2.here hx rfl (hb hby d_jdk_38_method_25_code_10) rfl rfl ?_; exact k) ?_
  refine go (fun _ k => by refine XS.aloadN X2.here hx rfl (hb hby d_jdk_38_method_25_code_11) rfl rfl ?_; exact k) ?_
  refine go (fun _ k => by refine XS.aloadN X2.here hx rfl (hb hby d_jdk_38_method_25_code_12) rfl rfl ?_; exact k) ?_
  show OwnEnd _ _ _ _ _ _ _ (T2.setTop (mkF m 13 #[.val (.ref a0'), .val (.ref x1)] [(.ref a0'), (.ref x1), (.ref a0')]))
  obtain ⟨T3, X3, e3, st3⟩ := getF X2 hx hZ hown (host := "") (Or.inl (hw _ (List.mem_of_getElem? (i := 24) rfl))) Via.refl e2 FE (g := (mkF m 13 #[.val (.ref a0'), .val (.ref x1)] [(.ref a0'), (.ref x1), (.ref a0')])) rfl rfl (hb hby d_jdk_38_method_25_code_13)
  refine go st3 ?_
  refine go (fun _ k => by refine XS.aloadN X3.here hx rfl (hb hby d_jdk_38_method_25_code_16) rfl rfl ?_; exact k) ?_
  show OwnEnd _ _ _ _ _ _ _ (T3.setTop (mkF m 17 #[.val (.ref a0'), .val (.ref x1)] [(.ref a0'), (.ref gb), (.ref x1), (.ref a0')]))
  obtain ⟨T4, X4, e4, st4⟩ := getF X3 hx hZ hown (host := "") (Or.inl (hw _ (List.mem_of_getElem? (i := 56) rfl))) Via.refl e3 FS (g := (mkF m 17 #[.val (.ref a0'), .val (.ref x1)] [(.ref a0'), (.ref gb), (.ref x1), (.ref a0')])) rfl rfl (hb hby d_jdk_38_method_25_code_17)
  refine go st4 ?_
  show OwnEnd _ _ _ _ _ _ _ (T4.setTop (mkF m 20 #[.val (.ref a0'), .val (.ref x1)] [(.int (1 : Int32)), (.ref gb), (.ref x1), (.ref a0')]))
  obtain ⟨_, T5, L5, X5, hQ5, st5⟩ := callPriv X4 hx hZ hown (hw _ (List.mem_of_getElem? (i := 58) rfl)) (hw _ (List.mem_of_getElem? (i := 59) rfl)) (hw _ (List.mem_of_getElem? (i := 60) rfl)) (hw _ (List.mem_of_getElem? (i := 1) rfl)) (hw _ (List.mem_of_getElem? (i := 2) rfl)) (hw _ (List.mem_of_getElem? (i := 62) rfl)) (by decide) (rm_a3_L1 l Z a0 hw [] a0' x1 gb gk y0 h2 n0 ga gg nag EA FM FE FS VG OV EX) (W := 0) (by decide) (by decide) e4 EA (g := (mkF m 20 #[.val (.ref a0'), .val (.ref x1)] [(.int (1 : Int32)), (.ref gb), (.ref x1), (.ref a0')])) rfl (by rw [hml]; rfl) (argsL := [(.ref x1), (.ref gb), (.int (1 : Int32))]) (rest := []) rfl (lenOf pd__Ljava_lang_Object__Ljava_lang_Object_I_V rfl) rfl (by show 2 * 0 + _ ≤ _; exact Nat.le_of_eq rfl) (hb hby d_jdk_38_method_25_code_20) (by decide) (by decide)
  obtain ⟨rfl, Nq5, K5, EA, FM, FE, FS, VG⟩ := hQ5
  have N5 := Fr.app N2 Nq5
  have EX := EX.keep K5
  have KK := Keep.trans KK K5 (allS (Or.inl (List.mem_of_getElem? (i := 0) rfl)) (allS (Or.inl (List.mem_of_getElem? (i := 1) rfl)) all0))
  refine go st5 ?_
  refine go (fun _ k => by refine XS.iconst X5.here hx rfl (hb hby d_jdk_38_method_25_code_23) ?_; exact k) ?_
  show OwnEnd _ _ _ _ _ _ _ (T5.setTop (mkF m 24 #[.val (.ref a0'), .val (.ref x1)] [(.int (1 : Int32))]))
  refine endN X5 hx hlk (t := .boolean) (by simp) Bd.returns (hb hby d_jdk_38_method_25_code_24) rfl (by decide) (by decide) ?_
  exact ⟨rfl, N5, KK, EA, FM, FE, FS, VG⟩
theorem ef_rm_a3_L2 (m : MethodId) (y0 : Addr) (y1 : Addr) (y2 : Addr) : entryFrame m #[(.ref y0), (.ref y1), (.ref y2), (.int (2 : Int32))] 4 = mkF m 0 #[.val (.ref y0), .val (.ref y1), .val (.ref y2), .val (.int (2 : Int32))] [] := by first | (simp [entryFrame, mkF, argsToLocals, Value.category]; done) | rfl
def Q_rm_a3_L2 (Z : State) (a0' : Addr) (x1 : Addr) (gb : Addr) (gk : ClassId) (y0 : Addr) (y1 : Addr) (h0 : Heap) (n0 : Nat) (v : Option Value) (h : Heap) (L : List Loc) : Prop := v = none ∧ Fr n0 L ∧ Keep h0 h [a0', gb] ∧ Exa Z h a0' "java/util/ArrayList" ∧ Fld Z h a0' "java/util/AbstractList" "modCount" "I" (.int 3) ∧ Fld Z h a0' "java/util/ArrayList" "elementData" "[Ljava/lang/Object;" (.ref gb) ∧ Fld Z h a0' "java/util/ArrayList" "size" "I" (.int 3) ∧ Arv Z h gb gk (.object "java/lang/Object") 10 [(.ref y0), (.ref y1), (.ref x1), .null, .null, .null, .null, .null, .null, .null] .null
set_option maxRecDepth 65536 in
set_option maxHeartbeats 40000000 in
theorem rm_a3_L2 (l : Launch) (Z : State) (a0 : Array Value) (hw : ∀ d ∈ tables_1, d.before a0 Z = true) (ws : List Jvm.Cond) (a0' : Addr) (x1 : Addr) (gb : Addr) (gk : ClassId) (y0 : Addr) (y1 : Addr) (h0 : Heap) (n0 : Nat) (ga : n0 ≤ a0') (gg : n0 ≤ gb) (nag : a0' ≠ gb) (EA : Exa Z h0 a0' "java/util/ArrayList") (FM : Fld Z h0 a0' "java/util/AbstractList" "modCount" "I" (.int 3)) (FE : Fld Z h0 a0' "java/util/ArrayList" "elementData" "[Ljava/lang/Object;" (.ref gb)) (FS : Fld Z h0 a0' "java/util/ArrayList" "size" "I" (.int 2)) (VG : Arv Z h0 gb gk (.object "java/lang/Object") 10 [(.ref y0), (.ref y1), .null, .null, .null, .null, .null, .null, .null, .null] .null) (OV : Ovr Z gk "java/lang/Object") (EX : Exa Z h0 x1 "java/lang/Long") :
    MetFree l (⟨"java/util/ArrayList", "add", "(Ljava/lang/Object;[Ljava/lang/Object;I)V"⟩ : MethodName) (head1 (Jvm.Cond.code (⟨"java/util/ArrayList", "add", "(Ljava/lang/Object;[Ljava/lang/Object;I)V"⟩ : MethodName) jdk_38_method_24_code 4 none :: ws) ({ frames := 0, cells := 0, slots := 0, locals := 0 } : Room)) (fun a U => a = #[(.ref a0'), (.ref x1), (.ref gb), (.int (2 : Int32))] ∧ Z.Warmed39 U.vm ∧ U.heap = h0) (fun _ _ _ _ _ => True) (fun _ U o U' => ∃ v L, o = .returned v ∧ Q_rm_a3_L2 Z a0' x1 gb gk y0 y1 h0 n0 v U'.heap L ∧ FrameEnd U o U' L 0 0) := by
  refine MetFree.of_bodySF (plainFor_of_name pn_java_util_ArrayList) hisR ?_
  intro p e s m args below meth c s₁ Bd hml0 hP hK
  obtain ⟨rfl, hZ, hh⟩ := hP
  have hx := Bd.exec
  have hby := Bd.bytes
  have hlk := Bd.notSynchronized
  have hml : c.maxLocals = 4 := hml0
  have hown : s.vm.findClass "java/util/ArrayList" = some m.cls := findClass_of_methodNamed Bd.named
  have hnm := (name_of_methodNamed Bd.named Bd.method).1
  have X0 : Stand p l e ({ frames := 0, cells := 0, slots := 0, locals := 0 } : Room) s m #[(.ref a0'), (.ref x1), (.ref gb), (.int (2 : Int32))] below meth c s₁ [] 0 0 := Stand.of_body Bd
  have e0 : s₁.heap = h0 := by rw [← hh, Bd.state]; rfl
  have N0 := Fr.nil n0
  show OwnEnd p e below s (Q_rm_a3_L2 Z a0' x1 gb gk y0 y1 h0 n0) 0 0 (s₁.setTop (entryFrame m #[(.ref a0'), (.ref x1), (.ref gb), (.int (2 : Int32))] 4))
  refine go (fun t k => castTop (ef_rm_a3_L2 m a0' x1 gb) k) ?_
  have KK := Keep.refl h0 [a0', gb]
  have nex : x1 ≠ a0' := Jvm.RoadKit.ne_exa EX EA (by decide)
  show OwnEnd _ _ _ _ _ _ _ (s₁.setTop (mkF m 0 #[.val (.ref a0'), .val (.ref x1), .val (.ref gb), .val (.int (2 : Int32))] []))
  refine go (fun _ k => by refine XS.iloadN X0.here hx rfl (hb hby d_jdk_38_method_24_code_0) rfl ?_; exact k) ?_
  refine go (fun _ k => by refine XS.aloadN X0.here hx rfl (hb hby d_jdk_38_method_24_code_1) rfl rfl ?_; exact k) ?_
  show OwnEnd _ _ _ _ _ _ _ (s₁.setTop (mkF m 2 #[.val (.ref a0'), .val (.ref x1), .val (.ref gb), .val (.int (2 : Int32))] [(.ref gb), (.int (2 : Int32))]))
  refine go (lenV X0 hx hZ e0 VG (g := (mkF m 2 #[.val (.ref a0'), .val (.ref x1), .val (.ref gb), .val (.int (2 : Int32))] [(.ref gb), (.int (2 : Int32))])) rfl rfl (hb hby d_jdk_38_method_24_code_2)) ?_
  show OwnEnd _ _ _ _ _ _ _ (s₁.setTop (mkF m 3 #[.val (.ref a0'), .val (.ref x1), .val (.ref gb), .val (.int (2 : Int32))] [(.int (10 : Int32)), (.int (2 : Int32))]))
  refine go (fun _ k => by refine XS.icmpYes X0.here hx rfl (pc0 := 3) (pc' := 11) rfl (hb hby d_jdk_38_method_24_code_3) rfl (feq (by decide)).2 (by decide) (by decide) ?_; exact k) ?_
  refine go (fun _ k => by refine XS.aloadN X0.here hx rfl (hb hby d_jdk_38_method_24_code_11) rfl rfl ?_; exact k) ?_
  refine go (fun _ k => by refine XS.iloadN X0.here hx rfl (hb hby d_jdk_38_method_24_code_12) rfl ?_; exact k) ?_
  refine go (fun _ k => by refine XS.aloadN X0.here hx rfl (hb hby d_jdk_38_method_24_code_13) rfl rfl ?_; exact k) ?_
  show OwnEnd _ _ _ _ _ _ _ (s₁.setTop (mkF m 14 #[.val (.ref a0'), .val (.ref x1), .val (.ref gb), .val (.int (2 : Int32))] [(.ref x1), (.int (2 : Int32)), (.ref gb)]))
  obtain ⟨T1, h1, X1, e1, W1, VG', st1⟩ := stRv X0 hx hZ e0 VG OV (Ins.of_exa EX (hw _ (List.mem_of_getElem? (i := 181) rfl))) rfl rfl (j := (2 : Int32)) (i := 2) (by decide) (by decide) (by decide) (Nat.le_of_ble_eq_true rfl) (g := (mkF m 14 #[.val (.ref a0'), .val (.ref x1), .val (.ref gb), .val (.int (2 : Int32))] [(.ref x1), (.int (2 : Int32)), (.ref gb)])) rfl rfl (hb hby d_jdk_38_method_24_code_14)
  have N1 := Fr.snoc X1 N0 gg
  have EA := EA.wr W1
  have FM := FM.other W1 (Or.inl nag)
  have FE := FE.other W1 (Or.inl nag)
  have FS := FS.other W1 (Or.inl nag)
  have EX := EX.wr W1
  have KK := Keep.wr KK W1 (Or.inl (List.mem_of_getElem? (i := 1) rfl))
  have VG : Arv Z h1 gb gk (.object "java/lang/Object") (10 : Int32) [(.ref y0), (.ref y1), (.ref x1), .null, .null, .null, .null, .null, .null, .null] .null := VG'
  refine go st1 ?_
  refine go (fun _ k => by refine XS.aloadN X1.here hx rfl (hb hby d_jdk_38_method_24_code_15) rfl rfl ?_; exact k) ?_
  refine go (fun _ k => by refine XS.iloadN X1.here hx rfl (hb hby d_jdk_38_method_24_code_16) rfl ?_; exact k) ?_
  refine go (fun _ k => by refine XS.iconst X1.here hx rfl (hb hby d_jdk_38_method_24_code_17) ?_; exact k) ?_
  show OwnEnd _ _ _ _ _ _ _ (T1.setTop (mkF m 18 #[.val (.ref a0'), .val (.ref x1), .val (.ref gb), .val (.int (2 : Int32))] [(.int (1 : Int32)), (.int (2 : Int32)), (.ref a0')]))
  refine go (fun _ k => by refine XS.iadd X1.here hx rfl (hb hby d_jdk_38_method_24_code_18) rfl ?_; exact k) ?_
  show OwnEnd _ _ _ _ _ _ _ (T1.setTop (mkF m 19 #[.val (.ref a0'), .val (.ref x1), .val (.ref gb), .val (.int (2 : Int32))] [(.int ((2 : Int32) + (1 : Int32))), (.ref a0')]))
  rw [show ((2 : Int32) + (1 : Int32)) = (3 : Int32) from by decide]
  show OwnEnd _ _ _ _ _ _ _ (T1.setTop (mkF m 19 #[.val (.ref a0'), .val (.ref x1), .val (.ref gb), .val (.int (2 : Int32))] [(.int (3 : Int32)), (.ref a0')]))
  obtain ⟨T2, h2, X2, e2, W2, st2⟩ := putF X1 hx hZ hown (host := "") (Or.inl (hw _ (List.mem_of_getElem? (i := 56) rfl))) Via.refl e1 FS EA (Or.inl (hw _ (List.mem_of_getElem? (i := 57) rfl))) (hw _ (List.mem_of_getElem? (i := 1) rfl)) (ty := .int) (by decide) rfl rfl (g := (mkF m 19 #[.val (.ref a0'), .val (.ref x1), .val (.ref gb), .val (.int (2 : Int32))] [(.int (3 : Int32)), (.ref a0')])) rfl rfl (hb hby d_jdk_38_method_24_code_19)
  have N2 := Fr.snoc X2 N1 ga
  have EA := EA.wr W2
  have FM := FM.other W2 (Or.inr (slot_ne (Or.inl (hw _ (List.mem_of_getElem? (i := 22) rfl))) (Or.inl (hw _ (List.mem_of_getElem? (i := 57) rfl))) (by decide) (t := .int) (t' := .int) (by decide) (by decide)))
  have FE := FE.other W2 (Or.inr (slot_ne (Or.inl (hw _ (List.mem_of_getElem? (i := 25) rfl))) (Or.inl (hw _ (List.mem_of_getElem? (i := 57) rfl))) (by decide) (t := (.array (.object "java/lang/Object"))) (t' := .int) (by decide) (by decide)))
  have VG := VG.other W2 (Ne.symm nag)
  have EX := EX.wr W2
  have KK := Keep.wr KK W2 (Or.inl (List.mem_of_getElem? (i := 0) rfl))
  have FS := FS.same W2
  refine go st2 ?_
  show OwnEnd _ _ _ _ _ _ _ (T2.setTop (mkF m 22 #[.val (.ref a0'), .val (.ref x1), .val (.ref gb), .val (.int (2 : Int32))] []))
  refine endV X2 hx hlk Bd.returns (hb hby d_jdk_38_method_24_code_22) e2 (by decide) (by decide) ?_
  exact ⟨rfl, N2, KK, EA, FM, FE, FS, VG⟩
theorem ef_rm_a1_L2 (m : MethodId) (y0 : Addr) (y1 : Addr) : entryFrame m #[(.ref y0), (.ref y1)] 2 = mkF m 0 #[.val (.ref y0), .val (.ref y1)] [] := by first | (simp [entryFrame, mkF, argsToLocals, Value.category]; done) | rfl
def Q_rm_a1_L2 (Z : State) (a0' : Addr) (x1 : Addr) (gb : Addr) (gk : ClassId) (y0 : Addr) (y1 : Addr) (h0 : Heap) (n0 : Nat) (v : Option Value) (h : Heap) (L : List Loc) : Prop := v = some (.int 1) ∧ Fr n0 L ∧ Keep h0 h [a0', gb] ∧ Exa Z h a0' "java/util/ArrayList" ∧ Fld Z h a0' "java/util/AbstractList" "modCount" "I" (.int 3) ∧ Fld Z h a0' "java/util/ArrayList" "elementData" "[Ljava/lang/Object;" (.ref gb) ∧ Fld Z h a0' "java/util/ArrayList" "size" "I" (.int 3) ∧ Arv Z h gb gk (.object "java/lang/Object") 10 [(.ref y0), (.ref y1), (.ref x1), .null, .null, .null, .null, .null, .null, .null] .null
set_option maxRecDepth 65536 in
set_option maxHeartbeats 40000000 in
theorem rm_a1_L2 (l : Launch) (Z : State) (a0 : Array Value) (hw : ∀ d ∈ tables_1, d.before a0 Z = true) (ws : List Jvm.Cond) (a0' : Addr) (x1 : Addr) (gb : Addr) (gk : ClassId) (y0 : Addr) (y1 : Addr) (h0 : Heap) (n0 : Nat) (ga : n0 ≤ a0') (gg : n0 ≤ gb) (nag : a0' ≠ gb) (EA : Exa Z h0 a0' "java/util/ArrayList") (FM : Fld Z h0 a0' "java/util/AbstractList" "modCount" "I" (.int 2)) (FE : Fld Z h0 a0' "java/util/ArrayList" "elementData" "[Ljava/lang/Object;" (.ref gb)) (FS : Fld Z h0 a0' "java/util/ArrayList" "size" "I" (.int 2)) (VG : Arv Z h0 gb gk (.object "java/lang/Object") 10 [(.ref y0), (.ref y1), .null, .null, .null, .null, .null, .null, .null, .null] .null) (OV : Ovr Z gk "java/lang/Object") (EX : Exa Z h0 x1 "java/lang/Long") :
    MetFree l (⟨"java/util/ArrayList", "add", "(Ljava/lang/Object;)Z"⟩ : MethodName) (head1 (Jvm.Cond.code (⟨"java/util/ArrayList", "add", "(Ljava/lang/Object;)Z"⟩ : MethodName) jdk_38_method_25_code 2 (some .boolean) :: ws) ({ frames := 1, cells := 0, slots := 0, locals := 15 } : Room)) (fun a U => a = #[(.ref a0'), (.ref x1)] ∧ Z.Warmed39 U.vm ∧ U.heap = h0) (fun _ _ _ _ _ => True) (fun _ U o U' => ∃ v L, o = .returned v ∧ Q_rm_a1_L2 Z a0' x1 gb gk y0 y1 h0 n0 v U'.heap L ∧ FrameEnd U o U' L 0 0) := by
  refine MetFree.of_bodySF (plainFor_of_name pn_java_util_ArrayList) hisR ?_
  intro p e s m args below meth c s₁ Bd hml0 hP hK
  obtain ⟨rfl, hZ, hh⟩ := hP
  have hx := Bd.exec
  have hby := Bd.bytes
  have hlk := Bd.notSynchronized
  have hml : c.maxLocals = 2 := hml0
  have hown : s.vm.findClass "java/util/ArrayList" = some m.cls := findClass_of_methodNamed Bd.named
  have hnm := (name_of_methodNamed Bd.named Bd.method).1
  have X0 : Stand p l e ({ frames := 1, cells := 0, slots := 0, locals := 15 } : Room) s m #[(.ref a0'), (.ref x1)] below meth c s₁ [] 0 0 := Stand.of_body Bd
  have e0 : s₁.heap = h0 := by rw [← hh, Bd.state]; rfl
  have N0 := Fr.nil n0
  show OwnEnd p e below s (Q_rm_a1_L2 Z a0' x1 gb gk y0 y1 h0 n0) 0 0 (s₁.setTop (entryFrame m #[(.ref a0'), (.ref x1)] 2))
  refine go (fun t k => castTop (ef_rm_a1_L2 m a0' x1) k) ?_
  have KK := Keep.refl h0 [a0', gb]
  have nex : x1 ≠ a0' := Jvm.RoadKit.ne_exa EX EA (by decide)
  show OwnEnd _ _ _ _ _ _ _ (s₁.setTop (mkF m 0 #[.val (.ref a0'), .val (.ref x1)] []))
  refine go (fun _ k => by refine XS.aloadN X0.here hx rfl (hb hby d_jdk_38_method_25_code_0) rfl rfl ?_; exact k) ?_
  refine go (fun _ k => by refine XS.dup X0.here hx rfl (hb hby d_jdk_38_method_25_code_1) rfl rfl ?_; exact k) ?_
  show OwnEnd _ _ _ _ _ _ _ (s₁.setTop (mkF m 2 #[.val (.ref a0'), .val (.ref x1)] [(.ref a0'), (.ref a0')]))
  obtain ⟨T1, X1, e1, st1⟩ := getF X0 hx hZ hown (host := "") (Or.inl (hw _ (List.mem_of_getElem? (i := 54) rfl))) (Via.of (hw _ (List.mem_of_getElem? (i := 55) rfl))) e0 FM (g := (mkF m 2 #[.val (.ref a0'), .val (.ref x1)] [(.ref a0'), (.ref a0')])) rfl rfl (hb hby d_jdk_38_method_25_code_2)
  refine go st1 ?_
  refine go (fun _ k => by refine XS.iconst X1.here hx rfl (hb hby d_jdk_38_method_25_code_5) ?_; exact k) ?_
  refine go (fun _ k => by refine XS.iadd X1.here hx rfl (hb hby d_jdk_38_method_25_code_6) rfl ?_; exact k) ?_
  show OwnEnd _ _ _ _ _ _ _ (T1.setTop (mkF m 7 #[.val (.ref a0'), .val (.ref x1)] [(.int ((2 : Int32) + (1 : Int32))), (.ref a0')]))
  rw [show ((2 : Int32) + (1 : Int32)) = (3 : Int32) from by decide]
  show OwnEnd _ _ _ _ _ _ _ (T1.setTop (mkF m 7 #[.val (.ref a0'), .val (.ref x1)] [(.int (3 : Int32)), (.ref a0')]))
  obtain ⟨T2, h2, X2, e2, W2, st2⟩ := putF X1 hx hZ hown (host := "") (Or.inl (hw _ (List.mem_of_getElem? (i := 54) rfl))) (Via.of (hw _ (List.mem_of_getElem? (i := 55) rfl))) e1 FM EA (Or.inl (hw _ (List.mem_of_getElem? (i := 22) rfl))) (hw _ (List.mem_of_getElem? (i := 1) rfl)) (ty := .int) (by decide) rfl rfl (g := (mkF m 7 #[.val (.ref a0'), .val (.ref x1)] [(.int (3 : Int32)), (.ref a0')])) rfl rfl (hb hby d_jdk_38_method_25_code_7)
  have N2 := Fr.snoc X2 N0 ga
  have EA := EA.wr W2
  have FE := FE.other W2 (Or.inr (slot_ne (Or.inl (hw _ (List.mem_of_getElem? (i := 25) rfl))) (Or.inl (hw _ (List.mem_of_getElem? (i := 22) rfl))) (by decide) (t := (.array (.object "java/lang/Object"))) (t' := .int) (by decide) (by decide)))
  have FS := FS.other W2 (Or.inr (slot_ne (Or.inl (hw _ (List.mem_of_getElem? (i := 57) rfl))) (Or.inl (hw _ (List.mem_of_getElem? (i := 22) rfl))) (by decide) (t := .int) (t' := .int) (by decide) (by decide)))
  have VG := VG.other W2 (Ne.symm nag)
  have EX := EX.wr W2
  have KK := Keep.wr KK W2 (Or.inl (List.mem_of_getElem? (i := 0) rfl))
  have FM := FM.same W2
  refine go st2 ?_
  refine go (fun _ k => by refine XS.aloadN X2.here hx rfl (hb hby d_jdk_38_method_25_code_10) rfl rfl ?_; exact k) ?_
  refine go (fun _ k => by refine XS.aloadN X2.here hx rfl (hb hby d_jdk_38_method_25_code_11) rfl rfl ?_; exact k) ?_
  refine go (fun _ k => by refine XS.aloadN X2.here hx rfl (hb hby d_jdk_38_method_25_code_12) rfl rfl ?_; exact k) ?_
  show OwnEnd _ _ _ _ _ _ _ (T2.setTop (mkF m 13 #[.val (.ref a0'), .val (.ref x1)] [(.ref a0'), (.ref x1), (.ref a0')]))
  obtain ⟨T3, X3, e3, st3⟩ := getF X2 hx hZ hown (host := "") (Or.inl (hw _ (List.mem_of_getElem? (i := 24) rfl))) Via.refl e2 FE (g := (mkF m 13 #[.val (.ref a0'), .val (.ref x1)] [(.ref a0'), (.ref x1), (.ref a0')])) rfl rfl (hb hby d_jdk_38_method_25_code_13)
  refine go st3 ?_
  refine go (fun _ k => by refine XS.aloadN X3.here hx rfl (hb hby d_jdk_38_method_25_code_16) rfl rfl ?_; exact k) ?_
  show OwnEnd _ _ _ _ _ _ _ (T3.setTop (mkF m 17 #[.val (.ref a0'), .val (.ref x1)] [(.ref a0'), (.ref gb), (.ref x1), (.ref a0')]))
  obtain ⟨T4, X4, e4, st4⟩ := getF X3 hx hZ hown (host := "") (Or.inl (hw _ (List.mem_of_getElem? (i := 56) rfl))) Via.refl e3 FS (g := (mkF m 17 #[.val (.ref a0'), .val (.ref x1)] [(.ref a0'), (.ref gb), (.ref x1), (.ref a0')])) rfl rfl (hb hby d_jdk_38_method_25_code_17)
  refine go st4 ?_
  show OwnEnd _ _ _ _ _ _ _ (T4.setTop (mkF m 20 #[.val (.ref a0'), .val (.ref x1)] [(.int (2 : Int32)), (.ref gb), (.ref x1), (.ref a0')]))
  obtain ⟨_, T5, L5, X5, hQ5, st5⟩ := callPriv X4 hx hZ hown (hw _ (List.mem_of_getElem? (i := 58) rfl)) (hw _ (List.mem_of_getElem? (i := 59) rfl)) (hw _ (List.mem_of_getElem? (i := 60) rfl)) (hw _ (List.mem_of_getElem? (i := 1) rfl)) (hw _ (List.mem_of_getElem? (i := 2) rfl)) (hw _ (List.mem_of_getElem? (i := 62) rfl)) (by decide) (rm_a3_L2 l Z a0 hw [] a0' x1 gb gk y0 y1 h2 n0 ga gg nag EA FM FE FS VG OV EX) (W := 0) (by decide) (by decide) e4 EA (g := (mkF m 20 #[.val (.ref a0'), .val (.ref x1)] [(.int (2 : Int32)), (.ref gb), (.ref x1), (.ref a0')])) rfl (by rw [hml]; rfl) (argsL := [(.ref x1), (.ref gb), (.int (2 : Int32))]) (rest := []) rfl (lenOf pd__Ljava_lang_Object__Ljava_lang_Object_I_V rfl) rfl (by show 2 * 0 + _ ≤ _; exact Nat.le_of_eq rfl) (hb hby d_jdk_38_method_25_code_20) (by decide) (by decide)
  obtain ⟨rfl, Nq5, K5, EA, FM, FE, FS, VG⟩ := hQ5
  have N5 := Fr.app N2 Nq5
  have EX := EX.keep K5
  have KK := Keep.trans KK K5 (allS (Or.inl (List.mem_of_getElem? (i := 0) rfl)) (allS (Or.inl (List.mem_of_getElem? (i := 1) rfl)) all0))
  refine go st5 ?_
  refine go (fun _ k => by refine XS.iconst X5.here hx rfl (hb hby d_jdk_38_method_25_code_23) ?_; exact k) ?_
  show OwnEnd _ _ _ _ _ _ _ (T5.setTop (mkF m 24 #[.val (.ref a0'), .val (.ref x1)] [(.int (1 : Int32))]))
  refine endN X5 hx hlk (t := .boolean) (by simp) Bd.returns (hb hby d_jdk_38_method_25_code_24) rfl (by decide) (by decide) ?_
  exact ⟨rfl, N5, KK, EA, FM, FE, FS, VG⟩
theorem d_jdk_38_method_8_code_0 : decode jdk_38_method_8_code 0 = .ok (.aload_n 0, 1) := by decide +kernel
theorem d_jdk_38_method_8_code_1 : decode jdk_38_method_8_code 1 = .ok (.getfield 48, 3) := by decide +kernel
theorem d_jdk_38_method_8_code_4 : decode jdk_38_method_8_code 4 = .ok (.ireturn, 1) := by decide +kernel
theorem ef_rm_siz (m : MethodId) (y0 : Addr) : entryFrame m #[(.ref y0)] 1 = mkF m 0 #[.val (.ref y0)] [] := by first | (simp [entryFrame, mkF, argsToLocals, Value.category]; done) | rfl
def Q_rm_siz (Z : State) (a0' : Addr) (k : Int32) (h0 : Heap) (n0 : Nat) (v : Option Value) (h : Heap) (L : List Loc) : Prop := v = some (.int k) ∧ Fr n0 L ∧ h = h0
set_option maxRecDepth 65536 in
set_option maxHeartbeats 40000000 in
theorem rm_siz (l : Launch) (Z : State) (a0 : Array Value) (hw : ∀ d ∈ tables_1, d.before a0 Z = true) (ws : List Jvm.Cond) (a0' : Addr) (k : Int32) (h0 : Heap) (n0 : Nat) (FS : Fld Z h0 a0' "java/util/ArrayList" "size" "I" (.int k)) :
    MetFree l (⟨"java/util/ArrayList", "size", "()I"⟩ : MethodName) (head1 (Jvm.Cond.code (⟨"java/util/ArrayList", "size", "()I"⟩ : MethodName) jdk_38_method_8_code 1 (some .int) :: ws) ({ frames := 0, cells := 0, slots := 0, locals := 0 } : Room)) (fun a U => a = #[(.ref a0')] ∧ Z.Warmed39 U.vm ∧ U.heap = h0) (fun _ _ _ _ _ => True) (fun _ U o U' => ∃ v L, o = .returned v ∧ Q_rm_siz Z a0' k h0 n0 v U'.heap L ∧ FrameEnd U o U' L 0 0) := by
  refine MetFree.of_bodySF (plainFor_of_name pn_java_util_ArrayList) hisR ?_
  intro p e s m args below meth c s₁ Bd hml0 hP hK
  obtain ⟨rfl, hZ, hh⟩ := hP
  have hx := Bd.exec
  have hby := Bd.bytes
  have hlk := Bd.notSynchronized
  have hml : c.maxLocals = 1 := hml0
  have hown : s.vm.findClass "java/util/ArrayList" = some m.cls := findClass_of_methodNamed Bd.named
  have hnm := (name_of_methodNamed Bd.named Bd.method).1
  have X0 : Stand p l e ({ frames := 0, cells := 0, slots := 0, locals := 0 } : Room) s m #[(.ref a0')] below meth c s₁ [] 0 0 := Stand.of_body Bd
  have e0 : s₁.heap = h0 := by rw [← hh, Bd.state]; rfl
  have N0 := Fr.nil n0
  show OwnEnd p e below s (Q_rm_siz Z a0' k h0 n0) 0 0 (s₁.setTop (entryFrame m #[(.ref a0')] 1))
  refine go (fun t k => castTop (ef_rm_siz m a0') k) ?_
  show OwnEnd _ _ _ _ _ _ _ (s₁.setTop (mkF m 0 #[.val (.ref a0')] []))
  refine go (fun _ k => by refine XS.aloadN X0.here hx rfl (hb hby d_jdk_38_method_8_code_0) rfl rfl ?_; exact k) ?_
  show OwnEnd _ _ _ _ _ _ _ (s₁.setTop (mkF m 1 #[.val (.ref a0')] [(.ref a0')]))
  obtain ⟨T1, X1, e1, st1⟩ := getF X0 hx hZ hown (host := "") (Or.inl (hw _ (List.mem_of_getElem? (i := 56) rfl))) Via.refl e0 FS (g := (mkF m 1 #[.val (.ref a0')] [(.ref a0')])) rfl rfl (hb hby d_jdk_38_method_8_code_1)
  refine go st1 ?_
  show OwnEnd _ _ _ _ _ _ _ (T1.setTop (mkF m 4 #[.val (.ref a0')] [(.int k)]))
  refine endI X1 hx hlk Bd.returns (hb hby d_jdk_38_method_8_code_4) e1 (by decide) (by decide) ?_
  exact ⟨rfl, N0, rfl⟩
theorem d_jdk_41_method_11_code_0 : decode jdk_41_method_11_code 0 = .ok (.iload_n 0, 1) := by decide +kernel
theorem d_jdk_41_method_11_code_1 : decode jdk_41_method_11_code 1 = .ok (.ifCond .lt 8, 3) := by decide +kernel
theorem d_jdk_41_method_11_code_4 : decode jdk_41_method_11_code 4 = .ok (.iload_n 0, 1) := by decide +kernel
theorem d_jdk_41_method_11_code_5 : decode jdk_41_method_11_code 5 = .ok (.iload_n 1, 1) := by decide +kernel
theorem d_jdk_41_method_11_code_6 : decode jdk_41_method_11_code 6 = .ok (.if_icmp .lt 10, 3) := by decide +kernel
theorem d_jdk_41_method_11_code_16 : decode jdk_41_method_11_code 16 = .ok (.iload_n 0, 1) := by decide +kernel
theorem d_jdk_41_method_11_code_17 : decode jdk_41_method_11_code 17 = .ok (.ireturn, 1) := by decide +kernel
theorem pn_jdk_internal_util_Preconditions : plainName "jdk/internal/util/Preconditions" = true := by first | (simp [plainName, overriddenIn]; done) | decide +kernel
theorem ef_rm_pci (m : MethodId) (y0 : Int32) (y1 : Int32) : entryFrame m #[(.int y0), (.int y1), .null] 3 = mkF m 0 #[.val (.int y0), .val (.int y1), .val .null] [] := by first | (simp [entryFrame, mkF, argsToLocals, Value.category]; done) | rfl
def Q_rm_pci (Z : State) (p0 : Int32) (p1 : Int32) (h0 : Heap) (n0 : Nat) (v : Option Value) (h : Heap) (L : List Loc) : Prop := v = some (.int p0) ∧ Fr n0 L ∧ h = h0
set_option maxRecDepth 65536 in
set_option maxHeartbeats 40000000 in
theorem rm_pci (l : Launch) (Z : State) (a0 : Array Value) (hw : ∀ d ∈ tables_1, d.before a0 Z = true) (ws : List Jvm.Cond) (p0 : Int32) (p1 : Int32) (h0 : Heap) (n0 : Nat) (h1 : ¬ p0 < (0 : Int32)) (h2 : p0 < p1) :
    MetFree l (⟨"jdk/internal/util/Preconditions", "checkIndex", "(IILjava/util/function/BiFunction;)I"⟩ : MethodName) (head1 (Jvm.Cond.code (⟨"jdk/internal/util/Preconditions", "checkIndex", "(IILjava/util/function/BiFunction;)I"⟩ : MethodName) jdk_41_method_11_code 3 (some .int) :: ws) ({ frames := 0, cells := 0, slots := 0, locals := 0 } : Room)) (fun a U => a = #[(.int p0), (.int p1), .null] ∧ Z.Warmed39 U.vm ∧ U.heap = h0) (fun _ _ _ _ _ => True) (fun _ U o U' => ∃ v L, o = .returned v ∧ Q_rm_pci Z p0 p1 h0 n0 v U'.heap L ∧ FrameEnd U o U' L 0 0) := by
  refine MetFree.of_bodySF (plainFor_of_name pn_jdk_internal_util_Preconditions) hisR ?_
  intro p e s m args below meth c s₁ Bd hml0 hP hK
  obtain ⟨rfl, hZ, hh⟩ := hP
  have hx := Bd.exec
  have hby := Bd.bytes
  have hlk := Bd.notSynchronized
  have hml : c.maxLocals = 3 := hml0
  have hown : s.vm.findClass "jdk/internal/util/Preconditions" = some m.cls := findClass_of_methodNamed Bd.named
  have hnm := (name_of_methodNamed Bd.named Bd.method).1
  have X0 : Stand p l e ({ frames := 0, cells := 0, slots := 0, locals := 0 } : Room) s m #[(.int p0), (.int p1), .null] below meth c s₁ [] 0 0 := Stand.of_body Bd
  have e0 : s₁.heap = h0 := by rw [← hh, Bd.state]; rfl
  have N0 := Fr.nil n0
  show OwnEnd p e below s (Q_rm_pci Z p0 p1 h0 n0) 0 0 (s₁.setTop (entryFrame m #[(.int p0), (.int p1), .null] 3))
  refine go (fun t k => castTop (ef_rm_pci m p0 p1) k) ?_
  show OwnEnd _ _ _ _ _ _ _ (s₁.setTop (mkF m 0 #[.val (.int p0), .val (.int p1), .val .null] []))
  refine go (fun _ k => by refine XS.iloadN X0.here hx rfl (hb hby d_jdk_41_method_11_code_0) rfl ?_; exact k) ?_
  show OwnEnd _ _ _ _ _ _ _ (s₁.setTop (mkF m 1 #[.val (.int p0), .val (.int p1), .val .null] [(.int p0)]))
  refine go (fun _ k => by refine XS.ifNo X0.here hx rfl (hb hby d_jdk_41_method_11_code_1) rfl ((if0 _ _).trans (flt h1).1) ?_; exact k) ?_
  refine go (fun _ k => by refine XS.iloadN X0.here hx rfl (hb hby d_jdk_41_method_11_code_4) rfl ?_; exact k) ?_
  refine go (fun _ k => by refine XS.iloadN X0.here hx rfl (hb hby d_jdk_41_method_11_code_5) rfl ?_; exact k) ?_
  show OwnEnd _ _ _ _ _ _ _ (s₁.setTop (mkF m 6 #[.val (.int p0), .val (.int p1), .val .null] [(.int p1), (.int p0)]))
  refine go (fun _ k => by refine XS.icmpYes X0.here hx rfl (pc0 := 6) (pc' := 16) rfl (hb hby d_jdk_41_method_11_code_6) rfl (tlt h2).1 (by decide) (by decide) ?_; exact k) ?_
  refine go (fun _ k => by refine XS.iloadN X0.here hx rfl (hb hby d_jdk_41_method_11_code_16) rfl ?_; exact k) ?_
  show OwnEnd _ _ _ _ _ _ _ (s₁.setTop (mkF m 17 #[.val (.int p0), .val (.int p1), .val .null] [(.int p0)]))
  refine endI X0 hx hlk Bd.returns (hb hby d_jdk_41_method_11_code_17) e0 (by decide) (by decide) ?_
  exact ⟨rfl, N0, rfl⟩
theorem d_jdk_31_method_17_code_0 : decode jdk_31_method_17_code 0 = .ok (.iload_n 0, 1) := by decide +kernel
theorem d_jdk_31_method_17_code_1 : decode jdk_31_method_17_code 1 = .ok (.iload_n 1, 1) := by decide +kernel
theorem d_jdk_31_method_17_code_2 : decode jdk_31_method_17_code 2 = .ok (.aconst_null, 1) := by decide +kernel
theorem d_jdk_31_method_17_code_3 : decode jdk_31_method_17_code 3 = .ok (.invokestatic 105, 3) := by decide +kernel
theorem pd__IILjava_util_function_BiFunction__I : parseMethodDescriptor "(IILjava/util/function/BiFunction;)I" = some ⟨[.int, .int, (.object "java/util/function/BiFunction")], some .int⟩ := by decide +kernel
theorem d_jdk_31_method_17_code_6 : decode jdk_31_method_17_code 6 = .ok (.ireturn, 1) := by decide +kernel
theorem pn_java_util_Objects : plainName "java/util/Objects" = true := by first | (simp [plainName, overriddenIn]; done) | decide +kernel
theorem ef_rm_oci (m : MethodId) (y0 : Int32) (y1 : Int32) : entryFrame m #[(.int y0), (.int y1)] 2 = mkF m 0 #[.val (.int y0), .val (.int y1)] [] := by first | (simp [entryFrame, mkF, argsToLocals, Value.category]; done) | rfl
def Q_rm_oci (Z : State) (p0 : Int32) (p1 : Int32) (h0 : Heap) (n0 : Nat) (v : Option Value) (h : Heap) (L : List Loc) : Prop := v = some (.int p0) ∧ Fr n0 L ∧ h = h0
set_option maxRecDepth 65536 in
set_option maxHeartbeats 40000000 in
theorem rm_oci (l : Launch) (Z : State) (a0 : Array Value) (hw : ∀ d ∈ tables_1, d.before a0 Z = true) (ws : List Jvm.Cond) (p0 : Int32) (p1 : Int32) (h0 : Heap) (n0 : Nat) (h1 : ¬ p0 < (0 : Int32)) (h2 : p0 < p1) :
    MetFree l (⟨"java/util/Objects", "checkIndex", "(II)I"⟩ : MethodName) (head1 (Jvm.Cond.code (⟨"java/util/Objects", "checkIndex", "(II)I"⟩ : MethodName) jdk_31_method_17_code 2 (some .int) :: ws) ({ frames := 1, cells := 0, slots := 0, locals := 14 } : Room)) (fun a U => a = #[(.int p0), (.int p1)] ∧ Z.Warmed39 U.vm ∧ U.heap = h0) (fun _ _ _ _ _ => True) (fun _ U o U' => ∃ v L, o = .returned v ∧ Q_rm_oci Z p0 p1 h0 n0 v U'.heap L ∧ FrameEnd U o U' L 0 0) := by
  refine MetFree.of_bodySF (plainFor_of_name pn_java_util_Objects) hisR ?_
  intro p e s m args below meth c s₁ Bd hml0 hP hK
  obtain ⟨rfl, hZ, hh⟩ := hP
  have hx := Bd.exec
  have hby := Bd.bytes
  have hlk := Bd.notSynchronized
  have hml : c.maxLocals = 2 := hml0
  have hown : s.vm.findClass "java/util/Objects" = some m.cls := findClass_of_methodNamed Bd.named
  have hnm := (name_of_methodNamed Bd.named Bd.method).1
  have X0 : Stand p l e ({ frames := 1, cells := 0, slots := 0, locals := 14 } : Room) s m #[(.int p0), (.int p1)] below meth c s₁ [] 0 0 := Stand.of_body Bd
  have e0 : s₁.heap = h0 := by rw [← hh, Bd.state]; rfl
  have N0 := Fr.nil n0
  show OwnEnd p e below s (Q_rm_oci Z p0 p1 h0 n0) 0 0 (s₁.setTop (entryFrame m #[(.int p0), (.int p1)] 2))
  refine go (fun t k => castTop (ef_rm_oci m p0 p1) k) ?_
  show OwnEnd _ _ _ _ _ _ _ (s₁.setTop (mkF m 0 #[.val (.int p0), .val (.int p1)] []))
  refine go (fun _ k => by refine XS.iloadN X0.here hx rfl (hb hby d_jdk_31_method_17_code_0) rfl ?_; exact k) ?_
  refine go (fun _ k => by refine XS.iloadN X0.here hx rfl (hb hby d_jdk_31_method_17_code_1) rfl ?_; exact k) ?_
  refine go (fun _ k => by refine XS.aconstNull X0.here hx rfl (hb hby d_jdk_31_method_17_code_2) ?_; exact k) ?_
  show OwnEnd _ _ _ _ _ _ _ (s₁.setTop (mkF m 3 #[.val (.int p0), .val (.int p1)] [.null, (.int p1), (.int p0)]))
  obtain ⟨_, T1, L1, X1, hQ1, st1⟩ := callStat X0 hx hZ hown (hw _ (List.mem_of_getElem? (i := 113) rfl)) (hw _ (List.mem_of_getElem? (i := 114) rfl)) (hw _ (List.mem_of_getElem? (i := 115) rfl)) (hw _ (List.mem_of_getElem? (i := 116) rfl)) (by decide) (rm_pci l Z a0 hw [] p0 p1 h0 n0 h1 h2) (W := 0) (by decide) (by decide) e0 (g := (mkF m 3 #[.val (.int p0), .val (.int p1)] [.null, (.int p1), (.int p0)])) rfl (by rw [hml]; rfl) (argsL := [(.int p0), (.int p1), .null]) (rest := []) rfl (lenOf pd__IILjava_util_function_BiFunction__I rfl) rfl (by show 2 * 0 + _ ≤ _; exact Nat.le_of_eq rfl) (hb hby d_jdk_31_method_17_code_3) (by decide) (by decide)
  obtain ⟨rfl, Nq1, eq1⟩ := hQ1
  have N1 := Fr.app N0 Nq1
  refine go st1 ?_
  show OwnEnd _ _ _ _ _ _ _ (T1.setTop (mkF m 6 #[.val (.int p0), .val (.int p1)] [(.int p0)]))
  refine endI X1 hx hlk Bd.returns (hb hby d_jdk_31_method_17_code_6) eq1 (by decide) (by decide) ?_
  exact ⟨rfl, N1, rfl⟩
theorem d_jdk_38_method_18_code_0 : decode jdk_38_method_18_code 0 = .ok (.aload_n 0, 1) := by decide +kernel
theorem d_jdk_38_method_18_code_1 : decode jdk_38_method_18_code 1 = .ok (.getfield 9, 3) := by decide +kernel
theorem d_jdk_38_method_18_code_4 : decode jdk_38_method_18_code 4 = .ok (.iload_n 1, 1) := by decide +kernel
theorem d_jdk_38_method_18_code_5 : decode jdk_38_method_18_code 5 = .ok (.aaload, 1) := by decide +kernel
theorem d_jdk_38_method_18_code_6 : decode jdk_38_method_18_code 6 = .ok (.areturn, 1) := by decide +kernel
theorem ef_rm_ed0 (m : MethodId) (y0 : Addr) : entryFrame m #[(.ref y0), (.int (0 : Int32))] 2 = mkF m 0 #[.val (.ref y0), .val (.int (0 : Int32))] [] := by first | (simp [entryFrame, mkF, argsToLocals, Value.category]; done) | rfl
def Q_rm_ed0 (Z : State) (a0' : Addr) (gb : Addr) (gk : ClassId) (y0 : Addr) (y1 : Addr) (y2 : Addr) (h0 : Heap) (n0 : Nat) (v : Option Value) (h : Heap) (L : List Loc) : Prop := v = some (.ref y0) ∧ Fr n0 L ∧ h = h0
set_option maxRecDepth 65536 in
set_option maxHeartbeats 40000000 in
theorem rm_ed0 (l : Launch) (Z : State) (a0 : Array Value) (hw : ∀ d ∈ tables_1, d.before a0 Z = true) (ws : List Jvm.Cond) (a0' : Addr) (gb : Addr) (gk : ClassId) (y0 : Addr) (y1 : Addr) (y2 : Addr) (h0 : Heap) (n0 : Nat) (FE : Fld Z h0 a0' "java/util/ArrayList" "elementData" "[Ljava/lang/Object;" (.ref gb)) (VG : Arv Z h0 gb gk (.object "java/lang/Object") 10 [(.ref y0), (.ref y1), (.ref y2), .null, .null, .null, .null, .null, .null, .null] .null) :
    MetFree l (⟨"java/util/ArrayList", "elementData", "(I)Ljava/lang/Object;"⟩ : MethodName) (head1 (Jvm.Cond.code (⟨"java/util/ArrayList", "elementData", "(I)Ljava/lang/Object;"⟩ : MethodName) jdk_38_method_18_code 2 (some (.object "java/lang/Object")) :: ws) ({ frames := 0, cells := 0, slots := 0, locals := 0 } : Room)) (fun a U => a = #[(.ref a0'), (.int (0 : Int32))] ∧ Z.Warmed39 U.vm ∧ U.heap = h0) (fun _ _ _ _ _ => True) (fun _ U o U' => ∃ v L, o = .returned v ∧ Q_rm_ed0 Z a0' gb gk y0 y1 y2 h0 n0 v U'.heap L ∧ FrameEnd U o U' L 0 0) := by
  refine MetFree.of_bodySF (plainFor_of_name pn_java_util_ArrayList) hisR ?_
  intro p e s m args below meth c s₁ Bd hml0 hP hK
  obtain ⟨rfl, hZ, hh⟩ := hP
  have hx := Bd.exec
  have hby := Bd.bytes
  have hlk := Bd.notSynchronized
  have hml : c.maxLocals = 2 := hml0
  have hown : s.vm.findClass "java/util/ArrayList" = some m.cls := findClass_of_methodNamed Bd.named
  have hnm := (name_of_methodNamed Bd.named Bd.method).1
  have X0 : Stand p l e ({ frames := 0, cells := 0, slots := 0, locals := 0 } : Room) s m #[(.ref a0'), (.int (0 : Int32))] below meth c s₁ [] 0 0 := Stand.of_body Bd
  have e0 : s₁.heap = h0 := by rw [← hh, Bd.state]; rfl
  have N0 := Fr.nil n0
  show OwnEnd p e below s (Q_rm_ed0 Z a0' gb gk y0 y1 y2 h0 n0) 0 0 (s₁.setTop (entryFrame m #[(.ref a0'), (.int (0 : Int32))] 2))
  refine go (fun t k => castTop (ef_rm_ed0 m a0') k) ?_
  show OwnEnd _ _ _ _ _ _ _ (s₁.setTop (mkF m 0 #[.val (.ref a0'), .val (.int (0 : Int32))] []))
  refine go (fun _ k => by refine XS.aloadN X0.here hx rfl (hb hby d_jdk_38_method_18_code_0) rfl rfl ?_; exact k) ?_
  show OwnEnd _ _ _ _ _ _ _ (s₁.setTop (mkF m 1 #[.val (.ref a0'), .val (.int (0 : Int32))] [(.ref a0')]))
  obtain ⟨T1, X1, e1, st1⟩ := getF X0 hx hZ hown (host := "") (Or.inl (hw _ (List.mem_of_getElem? (i := 24) rfl))) Via.refl e0 FE (g := (mkF m 1 #[.val (.ref a0'), .val (.int (0 : Int32))] [(.ref a0')])) rfl rfl (hb hby d_jdk_38_method_18_code_1)
  refine go st1 ?_
  refine go (fun _ k => by refine XS.iloadN X1.here hx rfl (hb hby d_jdk_38_method_18_code_4) rfl ?_; exact k) ?_
  show OwnEnd _ _ _ _ _ _ _ (T1.setTop (mkF m 5 #[.val (.ref a0'), .val (.int (0 : Int32))] [(.int (0 : Int32)), (.ref gb)]))
  refine go (ldRv X1 hx hZ e1 VG (j := (0 : Int32)) (i := 0) (w := (.ref y0)) rfl (by decide) (by decide) (by decide) rfl (g := (mkF m 5 #[.val (.ref a0'), .val (.int (0 : Int32))] [(.int (0 : Int32)), (.ref gb)])) rfl rfl (hb hby d_jdk_38_method_18_code_5)) ?_
  show OwnEnd _ _ _ _ _ _ _ (T1.setTop (mkF m 6 #[.val (.ref a0'), .val (.int (0 : Int32))] [(.ref y0)]))
  refine endA X1 hx hlk Bd.returns rfl rfl (hb hby d_jdk_38_method_18_code_6) e1 (by decide) (by decide) ?_
  exact ⟨rfl, N0, rfl⟩
theorem d_jdk_38_method_20_code_0 : decode jdk_38_method_20_code 0 = .ok (.iload_n 1, 1) := by decide +kernel
theorem d_jdk_38_method_20_code_1 : decode jdk_38_method_20_code 1 = .ok (.aload_n 0, 1) := by decide +kernel
theorem d_jdk_38_method_20_code_2 : decode jdk_38_method_20_code 2 = .ok (.getfield 48, 3) := by decide +kernel
theorem d_jdk_38_method_20_code_5 : decode jdk_38_method_20_code 5 = .ok (.invokestatic 118, 3) := by decide +kernel
theorem d_jdk_38_method_20_code_8 : decode jdk_38_method_20_code 8 = .ok (.pop, 1) := by decide +kernel
theorem d_jdk_38_method_20_code_9 : decode jdk_38_method_20_code 9 = .ok (.aload_n 0, 1) := by decide +kernel
theorem d_jdk_38_method_20_code_10 : decode jdk_38_method_20_code 10 = .ok (.iload_n 1, 1) := by decide +kernel
theorem d_jdk_38_method_20_code_11 : decode jdk_38_method_20_code 11 = .ok (.invokevirtual 123, 3) := by decide +kernel
theorem pd__I_Ljava_lang_Object_ : parseMethodDescriptor "(I)Ljava/lang/Object;" = some ⟨[.int], some (.object "java/lang/Object")⟩ := by decide +kernel
theorem d_jdk_38_method_20_code_14 : decode jdk_38_method_20_code 14 = .ok (.areturn, 1) := by decide +kernel
theorem ef_rm_get0 (m : MethodId) (y0 : Addr) : entryFrame m #[(.ref y0), (.int (0 : Int32))] 2 = mkF m 0 #[.val (.ref y0), .val (.int (0 : Int32))] [] := by first | (simp [entryFrame, mkF, argsToLocals, Value.category]; done) | rfl
def Q_rm_get0 (Z : State) (a0' : Addr) (gb : Addr) (gk : ClassId) (y0 : Addr) (y1 : Addr) (y2 : Addr) (h0 : Heap) (n0 : Nat) (v : Option Value) (h : Heap) (L : List Loc) : Prop := v = some (.ref y0) ∧ Fr n0 L ∧ h = h0
set_option maxRecDepth 65536 in
set_option maxHeartbeats 40000000 in
theorem rm_get0 (l : Launch) (Z : State) (a0 : Array Value) (hw : ∀ d ∈ tables_1, d.before a0 Z = true) (ws : List Jvm.Cond) (a0' : Addr) (gb : Addr) (gk : ClassId) (y0 : Addr) (y1 : Addr) (y2 : Addr) (h0 : Heap) (n0 : Nat) (EA : Exa Z h0 a0' "java/util/ArrayList") (FE : Fld Z h0 a0' "java/util/ArrayList" "elementData" "[Ljava/lang/Object;" (.ref gb)) (FS : Fld Z h0 a0' "java/util/ArrayList" "size" "I" (.int 3)) (VG : Arv Z h0 gb gk (.object "java/lang/Object") 10 [(.ref y0), (.ref y1), (.ref y2), .null, .null, .null, .null, .null, .null, .null] .null) :
    MetFree l (⟨"java/util/ArrayList", "get", "(I)Ljava/lang/Object;"⟩ : MethodName) (head1 (Jvm.Cond.code (⟨"java/util/ArrayList", "get", "(I)Ljava/lang/Object;"⟩ : MethodName) jdk_38_method_20_code 2 (some (.object "java/lang/Object")) :: ws) ({ frames := 2, cells := 0, slots := 0, locals := 27 } : Room)) (fun a U => a = #[(.ref a0'), (.int (0 : Int32))] ∧ Z.Warmed39 U.vm ∧ U.heap = h0) (fun _ _ _ _ _ => True) (fun _ U o U' => ∃ v L, o = .returned v ∧ Q_rm_get0 Z a0' gb gk y0 y1 y2 h0 n0 v U'.heap L ∧ FrameEnd U o U' L 0 0) := by
  refine MetFree.of_bodySF (plainFor_of_name pn_java_util_ArrayList) hisR ?_
  intro p e s m args below meth c s₁ Bd hml0 hP hK
  obtain ⟨rfl, hZ, hh⟩ := hP
  have hx := Bd.exec
  have hby := Bd.bytes
  have hlk := Bd.notSynchronized
  have hml : c.maxLocals = 2 := hml0
  have hown : s.vm.findClass "java/util/ArrayList" = some m.cls := findClass_of_methodNamed Bd.named
  have hnm := (name_of_methodNamed Bd.named Bd.method).1
  have X0 : Stand p l e ({ frames := 2, cells := 0, slots := 0, locals := 27 } : Room) s m #[(.ref a0'), (.int (0 : Int32))] below meth c s₁ [] 0 0 := Stand.of_body Bd
  have e0 : s₁.heap = h0 := by rw [← hh, Bd.state]; rfl
  have N0 := Fr.nil n0
  show OwnEnd p e below s (Q_rm_get0 Z a0' gb gk y0 y1 y2 h0 n0) 0 0 (s₁.setTop (entryFrame m #[(.ref a0'), (.int (0 : Int32))] 2))
  refine go (fun t k => castTop (ef_rm_get0 m a0') k) ?_
  show OwnEnd _ _ _ _ _ _ _ (s₁.setTop (mkF m 0 #[.val (.ref a0'), .val (.int (0 : Int32))] []))
  refine go (fun _ k => by refine XS.iloadN X0.here hx rfl (hb hby d_jdk_38_method_20_code_0) rfl ?_; exact k) ?_
  refine go (fun _ k => by refine XS.aloadN X0.here hx rfl (hb hby d_jdk_38_method_20_code_1) rfl rfl ?_; exact k) ?_
  show OwnEnd _ _ _ _ _ _ _ (s₁.setTop (mkF m 2 #[.val (.ref a0'), .val (.int (0 : Int32))] [(.ref a0'), (.int (0 : Int32))]))
  obtain ⟨T1, X1, e1, st1⟩ := getF X0 hx hZ hown (host := "") (Or.inl (hw _ (List.mem_of_getElem? (i := 56) rfl))) Via.refl e0 FS (g := (mkF m 2 #[.val (.ref a0'), .val (.int (0 : Int32))] [(.ref a0'), (.int (0 : Int32))])) rfl rfl (hb hby d_jdk_38_method_20_code_2)
  refine go st1 ?_
  show OwnEnd _ _ _ _ _ _ _ (T1.setTop (mkF m 5 #[.val (.ref a0'), .val (.int (0 : Int32))] [(.int (3 : Int32)), (.int (0 : Int32))]))
  obtain ⟨_, T2, L2, X2, hQ2, st2⟩ := callStat X1 hx hZ hown (hw _ (List.mem_of_getElem? (i := 109) rfl)) (hw _ (List.mem_of_getElem? (i := 110) rfl)) (hw _ (List.mem_of_getElem? (i := 111) rfl)) (hw _ (List.mem_of_getElem? (i := 112) rfl)) (by decide) (rm_oci l Z a0 hw [] (0 : Int32) (3 : Int32) h0 n0 (by decide) (by decide)) (W := 0) (by decide) (by decide) e1 (g := (mkF m 5 #[.val (.ref a0'), .val (.int (0 : Int32))] [(.int (3 : Int32)), (.int (0 : Int32))])) rfl (by rw [hml]; rfl) (argsL := [(.int (0 : Int32)), (.int (3 : Int32))]) (rest := []) rfl (lenOf pd__II_I rfl) rfl (by show 2 * 0 + _ ≤ _; exact Nat.le_of_eq rfl) (hb hby d_jdk_38_method_20_code_5) (by decide) (by decide)
  obtain ⟨rfl, Nq2, eq2⟩ := hQ2
  have N2 := Fr.app N0 Nq2
  refine go st2 ?_
  refine go (fun _ k => by refine XS.pop X2.here hx rfl (hb hby d_jdk_38_method_20_code_8) rfl rfl ?_; exact k) ?_
  refine go (fun _ k => by refine XS.aloadN X2.here hx rfl (hb hby d_jdk_38_method_20_code_9) rfl rfl ?_; exact k) ?_
  refine go (fun _ k => by refine XS.iloadN X2.here hx rfl (hb hby d_jdk_38_method_20_code_10) rfl ?_; exact k) ?_
  show OwnEnd _ _ _ _ _ _ _ (T2.setTop (mkF m 11 #[.val (.ref a0'), .val (.int (0 : Int32))] [(.int (0 : Int32)), (.ref a0')]))
  obtain ⟨_, T3, L3, X3, hQ3, st3⟩ := callVirt X2 hx hZ hown (hw _ (List.mem_of_getElem? (i := 117) rfl)) (hw _ (List.mem_of_getElem? (i := 118) rfl)) (notFace_of_selects (args := #[]) (mvT hZ (hw _ (List.mem_of_getElem? (i := 120) rfl)))) (hw _ (List.mem_of_getElem? (i := 120) rfl)) (hw _ (List.mem_of_getElem? (i := 119) rfl)) (hw _ (List.mem_of_getElem? (i := 2) rfl)) (hw _ (List.mem_of_getElem? (i := 121) rfl)) (by decide) (rm_ed0 l Z a0 hw [] a0' gb gk y0 y1 y2 h0 n0 FE VG) (W := 0) (by decide) (by decide) eq2 EA (g := (mkF m 11 #[.val (.ref a0'), .val (.int (0 : Int32))] [(.int (0 : Int32)), (.ref a0')])) rfl (by rw [hml]; rfl) (argsL := [(.int (0 : Int32))]) (rest := []) rfl (lenOf pd__I_Ljava_lang_Object_ rfl) rfl (by show 2 * 0 + _ ≤ _; exact Nat.le_of_eq rfl) (hb hby d_jdk_38_method_20_code_11) (by decide) (by decide)
  obtain ⟨rfl, Nq3, eq3⟩ := hQ3
  have N3 := Fr.app N2 Nq3
  refine go st3 ?_
  show OwnEnd _ _ _ _ _ _ _ (T3.setTop (mkF m 14 #[.val (.ref a0'), .val (.int (0 : Int32))] [(.ref y0)]))
  refine endA X3 hx hlk Bd.returns rfl rfl (hb hby d_jdk_38_method_20_code_14) eq3 (by decide) (by decide) ?_
  exact ⟨rfl, N3, rfl⟩
theorem ef_rm_ed1 (m : MethodId) (y0 : Addr) : entryFrame m #[(.ref y0), (.int (1 : Int32))] 2 = mkF m 0 #[.val (.ref y0), .val (.int (1 : Int32))] [] := by first | (simp [entryFrame, mkF, argsToLocals, Value.category]; done) | rfl
def Q_rm_ed1 (Z : State) (a0' : Addr) (gb : Addr) (gk : ClassId) (y0 : Addr) (y1 : Addr) (y2 : Addr) (h0 : Heap) (n0 : Nat) (v : Option Value) (h : Heap) (L : List Loc) : Prop := v = some (.ref y1) ∧ Fr n0 L ∧ h = h0
set_option maxRecDepth 65536 in
set_option maxHeartbeats 40000000 in
theorem rm_ed1 (l : Launch) (Z : State) (a0 : Array Value) (hw : ∀ d ∈ tables_1, d.before a0 Z = true) (ws : List Jvm.Cond) (a0' : Addr) (gb : Addr) (gk : ClassId) (y0 : Addr) (y1 : Addr) (y2 : Addr) (h0 : Heap) (n0 : Nat) (FE : Fld Z h0 a0' "java/util/ArrayList" "elementData" "[Ljava/lang/Object;" (.ref gb)) (VG : Arv Z h0 gb gk (.object "java/lang/Object") 10 [(.ref y0), (.ref y1), (.ref y2), .null, .null, .null, .null, .null, .null, .null] .null) :
    MetFree l (⟨"java/util/ArrayList", "elementData", "(I)Ljava/lang/Object;"⟩ : MethodName) (head1 (Jvm.Cond.code (⟨"java/util/ArrayList", "elementData", "(I)Ljava/lang/Object;"⟩ : MethodName) jdk_38_method_18_code 2 (some (.object "java/lang/Object")) :: ws) ({ frames := 0, cells := 0, slots := 0, locals := 0 } : Room)) (fun a U => a = #[(.ref a0'), (.int (1 : Int32))] ∧ Z.Warmed39 U.vm ∧ U.heap = h0) (fun _ _ _ _ _ => True) (fun _ U o U' => ∃ v L, o = .returned v ∧ Q_rm_ed1 Z a0' gb gk y0 y1 y2 h0 n0 v U'.heap L ∧ FrameEnd U o U' L 0 0) := by
  refine MetFree.of_bodySF (plainFor_of_name pn_java_util_ArrayList) hisR ?_
  intro p e s m args below meth c s₁ Bd hml0 hP hK
  obtain ⟨rfl, hZ, hh⟩ := hP
  have hx := Bd.exec
  have hby := Bd.bytes
  have hlk := Bd.notSynchronized
  have hml : c.maxLocals = 2 := hml0
  have hown : s.vm.findClass "java/util/ArrayList" = some m.cls := findClass_of_methodNamed Bd.named
  have hnm := (name_of_methodNamed Bd.named Bd.method).1
  have X0 : Stand p l e ({ frames := 0, cells := 0, slots := 0, locals := 0 } : Room) s m #[(.ref a0'), (.int (1 : Int32))] below meth c s₁ [] 0 0 := Stand.of_body Bd
  have e0 : s₁.heap = h0 := by rw [← hh, Bd.state]; rfl
  have N0 := Fr.nil n0
  show OwnEnd p e below s (Q_rm_ed1 Z a0' gb gk y0 y1 y2 h0 n0) 0 0 (s₁.setTop (entryFrame m #[(.ref a0'), (.int (1 : Int32))] 2))
  refine go (fun t k => castTop (ef_rm_ed1 m a0') k) ?_
  show OwnEnd _ _ _ _ _ _ _ (s₁.setTop (mkF m 0 #[.val (.ref a0'), .val (.int (1 : Int32))] []))
  refine go (fun _ k => by refine XS.aloadN X0.here hx rfl (hb hby d_jdk_38_method_18_code_0) rfl rfl ?_; exact k) ?_
  show OwnEnd _ _ _ _ _ _ _ (s₁.setTop (mkF m 1 #[.val (.ref a0'), .val (.int (1 : Int32))] [(.ref a0')]))
  obtain ⟨T1, X1, e1, st1⟩ := getF X0 hx hZ hown (host := "") (Or.inl (hw _ (List.mem_of_getElem? (i := 24) rfl))) Via.refl e0 FE (g := (mkF m 1 #[.val (.ref a0'), .val (.int (1 : Int32))] [(.ref a0')])) rfl rfl (hb hby d_jdk_38_method_18_code_1)
  refine go st1 ?_
  refine go (fun _ k => by refine XS.iloadN X1.here hx rfl (hb hby d_jdk_38_method_18_code_4) rfl ?_; exact k) ?_
  show OwnEnd _ _ _ _ _ _ _ (T1.setTop (mkF m 5 #[.val (.ref a0'), .val (.int (1 : Int32))] [(.int (1 : Int32)), (.ref gb)]))
  refine go (ldRv X1 hx hZ e1 VG (j := (1 : Int32)) (i := 1) (w := (.ref y1)) rfl (by decide) (by decide) (by decide) rfl (g := (mkF m 5 #[.val (.ref a0'), .val (.int (1 : Int32))] [(.int (1 : Int32)), (.ref gb)])) rfl rfl (hb hby d_jdk_38_method_18_code_5)) ?_
  show OwnEnd _ _ _ _ _ _ _ (T1.setTop (mkF m 6 #[.val (.ref a0'), .val (.int (1 : Int32))] [(.ref y1)]))
  refine endA X1 hx hlk Bd.returns rfl rfl (hb hby d_jdk_38_method_18_code_6) e1 (by decide) (by decide) ?_
  exact ⟨rfl, N0, rfl⟩
theorem ef_rm_get1 (m : MethodId) (y0 : Addr) : entryFrame m #[(.ref y0), (.int (1 : Int32))] 2 = mkF m 0 #[.val (.ref y0), .val (.int (1 : Int32))] [] := by first | (simp [entryFrame, mkF, argsToLocals, Value.category]; done) | rfl
def Q_rm_get1 (Z : State) (a0' : Addr) (gb : Addr) (gk : ClassId) (y0 : Addr) (y1 : Addr) (y2 : Addr) (h0 : Heap) (n0 : Nat) (v : Option Value) (h : Heap) (L : List Loc) : Prop := v = some (.ref y1) ∧ Fr n0 L ∧ h = h0
set_option maxRecDepth 65536 in
set_option maxHeartbeats 40000000 in
theorem rm_get1 (l : Launch) (Z : State) (a0 : Array Value) (hw : ∀ d ∈ tables_1, d.before a0 Z = true) (ws : List Jvm.Cond) (a0' : Addr) (gb : Addr) (gk : ClassId) (y0 : Addr) (y1 : Addr) (y2 : Addr) (h0 : Heap) (n0 : Nat) (EA : Exa Z h0 a0' "java/util/ArrayList") (FE : Fld Z h0 a0' "java/util/ArrayList" "elementData" "[Ljava/lang/Object;" (.ref gb)) (FS : Fld Z h0 a0' "java/util/ArrayList" "size" "I" (.int 3)) (VG : Arv Z h0 gb gk (.object "java/lang/Object") 10 [(.ref y0), (.ref y1), (.ref y2), .null, .null, .null, .null, .null, .null, .null] .null) :
    MetFree l (⟨"java/util/ArrayList", "get", "(I)Ljava/lang/Object;"⟩ : MethodName) (head1 (Jvm.Cond.code (⟨"java/util/ArrayList", "get", "(I)Ljava/lang/Object;"⟩ : MethodName) jdk_38_method_20_code 2 (some (.object "java/lang/Object")) :: ws) ({ frames := 2, cells := 0, slots := 0, locals := 27 } : Room)) (fun a U => a = #[(.ref a0'), (.int (1 : Int32))] ∧ Z.Warmed39 U.vm ∧ U.heap = h0) (fun _ _ _ _ _ => True) (fun _ U o U' => ∃ v L, o = .returned v ∧ Q_rm_get1 Z a0' gb gk y0 y1 y2 h0 n0 v U'.heap L ∧ FrameEnd U o U' L 0 0) := by
  refine MetFree.of_bodySF (plainFor_of_name pn_java_util_ArrayList) hisR ?_
  intro p e s m args below meth c s₁ Bd hml0 hP hK
  obtain ⟨rfl, hZ, hh⟩ := hP
  have hx := Bd.exec
  have hby := Bd.bytes
  have hlk := Bd.notSynchronized
  have hml : c.maxLocals = 2 := hml0
  have hown : s.vm.findClass "java/util/ArrayList" = some m.cls := findClass_of_methodNamed Bd.named
  have hnm := (name_of_methodNamed Bd.named Bd.method).1
  have X0 : Stand p l e ({ frames := 2, cells := 0, slots := 0, locals := 27 } : Room) s m #[(.ref a0'), (.int (1 : Int32))] below meth c s₁ [] 0 0 := Stand.of_body Bd
  have e0 : s₁.heap = h0 := by rw [← hh, Bd.state]; rfl
  have N0 := Fr.nil n0
  show OwnEnd p e below s (Q_rm_get1 Z a0' gb gk y0 y1 y2 h0 n0) 0 0 (s₁.setTop (entryFrame m #[(.ref a0'), (.int (1 : Int32))] 2))
  refine go (fun t k => castTop (ef_rm_get1 m a0') k) ?_
  show OwnEnd _ _ _ _ _ _ _ (s₁.setTop (mkF m 0 #[.val (.ref a0'), .val (.int (1 : Int32))] []))
  refine go (fun _ k => by refine XS.iloadN X0.here hx rfl (hb hby d_jdk_38_method_20_code_0) rfl ?_; exact k) ?_
  refine go (fun _ k => by refine XS.aloadN X0.here hx rfl (hb hby d_jdk_38_method_20_code_1) rfl rfl ?_; exact k) ?_
  show OwnEnd _ _ _ _ _ _ _ (s₁.setTop (mkF m 2 #[.val (.ref a0'), .val (.int (1 : Int32))] [(.ref a0'), (.int (1 : Int32))]))
  obtain ⟨T1, X1, e1, st1⟩ := getF X0 hx hZ hown (host := "") (Or.inl (hw _ (List.mem_of_getElem? (i := 56) rfl))) Via.refl e0 FS (g := (mkF m 2 #[.val (.ref a0'), .val (.int (1 : Int32))] [(.ref a0'), (.int (1 : Int32))])) rfl rfl (hb hby d_jdk_38_method_20_code_2)
  refine go st1 ?_
  show OwnEnd _ _ _ _ _ _ _ (T1.setTop (mkF m 5 #[.val (.ref a0'), .val (.int (1 : Int32))] [(.int (3 : Int32)), (.int (1 : Int32))]))
  obtain ⟨_, T2, L2, X2, hQ2, st2⟩ := callStat X1 hx hZ hown (hw _ (List.mem_of_getElem? (i := 109) rfl)) (hw _ (List.mem_of_getElem? (i := 110) rfl)) (hw _ (List.mem_of_getElem? (i := 111) rfl)) (hw _ (List.mem_of_getElem? (i := 112) rfl)) (by decide) (rm_oci l Z a0 hw [] (1 : Int32) (3 : Int32) h0 n0 (by decide) (by decide)) (W := 0) (by decide) (by decide) e1 (g := (mkF m 5 #[.val (.ref a0'), .val (.int (1 : Int32))] [(.int (3 : Int32)), (.int (1 : Int32))])) rfl (by rw [hml]; rfl) (argsL := [(.int (1 : Int32)), (.int (3 : Int32))]) (rest := []) rfl (lenOf pd__II_I rfl) rfl (by show 2 * 0 + _ ≤ _; exact Nat.le_of_eq rfl) (hb hby d_jdk_38_method_20_code_5) (by decide) (by decide)
  obtain ⟨rfl, Nq2, eq2⟩ := hQ2
  have N2 := Fr.app N0 Nq2
  refine go st2 ?_
  refine go (fun _ k => by refine XS.pop X2.here hx rfl (hb hby d_jdk_38_method_20_code_8) rfl rfl ?_; exact k) ?_
  refine go (fun _ k => by refine XS.aloadN X2.here hx rfl (hb hby d_jdk_38_method_20_code_9) rfl rfl ?_; exact k) ?_
  refine go (fun _ k => by refine XS.iloadN X2.here hx rfl (hb hby d_jdk_38_method_20_code_10) rfl ?_; exact k) ?_
  show OwnEnd _ _ _ _ _ _ _ (T2.setTop (mkF m 11 #[.val (.ref a0'), .val (.int (1 : Int32))] [(.int (1 : Int32)), (.ref a0')]))
  obtain ⟨_, T3, L3, X3, hQ3, st3⟩ := callVirt X2 hx hZ hown (hw _ (List.mem_of_getElem? (i := 117) rfl)) (hw _ (List.mem_of_getElem? (i := 118) rfl)) (notFace_of_selects (args := #[]) (mvT hZ (hw _ (List.mem_of_getElem? (i := 120) rfl)))) (hw _ (List.mem_of_getElem? (i := 120) rfl)) (hw _ (List.mem_of_getElem? (i := 119) rfl)) (hw _ (List.mem_of_getElem? (i := 2) rfl)) (hw _ (List.mem_of_getElem? (i := 121) rfl)) (by decide) (rm_ed1 l Z a0 hw [] a0' gb gk y0 y1 y2 h0 n0 FE VG) (W := 0) (by decide) (by decide) eq2 EA (g := (mkF m 11 #[.val (.ref a0'), .val (.int (1 : Int32))] [(.int (1 : Int32)), (.ref a0')])) rfl (by rw [hml]; rfl) (argsL := [(.int (1 : Int32))]) (rest := []) rfl (lenOf pd__I_Ljava_lang_Object_ rfl) rfl (by show 2 * 0 + _ ≤ _; exact Nat.le_of_eq rfl) (hb hby d_jdk_38_method_20_code_11) (by decide) (by decide)
  obtain ⟨rfl, Nq3, eq3⟩ := hQ3
  have N3 := Fr.app N2 Nq3
  refine go st3 ?_
  show OwnEnd _ _ _ _ _ _ _ (T3.setTop (mkF m 14 #[.val (.ref a0'), .val (.int (1 : Int32))] [(.ref y1)]))
  refine endA X3 hx hlk Bd.returns rfl rfl (hb hby d_jdk_38_method_20_code_14) eq3 (by decide) (by decide) ?_
  exact ⟨rfl, N3, rfl⟩
theorem ef_rm_ed2 (m : MethodId) (y0 : Addr) : entryFrame m #[(.ref y0), (.int (2 : Int32))] 2 = mkF m 0 #[.val (.ref y0), .val (.int (2 : Int32))] [] := by first | (simp [entryFrame, mkF, argsToLocals, Value.category]; done) | rfl
def Q_rm_ed2 (Z : State) (a0' : Addr) (gb : Addr) (gk : ClassId) (y0 : Addr) (y1 : Addr) (y2 : Addr) (h0 : Heap) (n0 : Nat) (v : Option Value) (h : Heap) (L : List Loc) : Prop := v = some (.ref y2) ∧ Fr n0 L ∧ h = h0
set_option maxRecDepth 65536 in
set_option maxHeartbeats 40000000 in
theorem rm_ed2 (l : Launch) (Z : State) (a0 : Array Value) (hw : ∀ d ∈ tables_1, d.before a0 Z = true) (ws : List Jvm.Cond) (a0' : Addr) (gb : Addr) (gk : ClassId) (y0 : Addr) (y1 : Addr) (y2 : Addr) (h0 : Heap) (n0 : Nat) (FE : Fld Z h0 a0' "java/util/ArrayList" "elementData" "[Ljava/lang/Object;" (.ref gb)) (VG : Arv Z h0 gb gk (.object "java/lang/Object") 10 [(.ref y0), (.ref y1), (.ref y2), .null, .null, .null, .null, .null, .null, .null] .null) :
    MetFree l (⟨"java/util/ArrayList", "elementData", "(I)Ljava/lang/Object;"⟩ : MethodName) (head1 (Jvm.Cond.code (⟨"java/util/ArrayList", "elementData", "(I)Ljava/lang/Object;"⟩ : MethodName) jdk_38_method_18_code 2 (some (.object "java/lang/Object")) :: ws) ({ frames := 0, cells := 0, slots := 0, locals := 0 } : Room)) (fun a U => a = #[(.ref a0'), (.int (2 : Int32))] ∧ Z.Warmed39 U.vm ∧ U.heap = h0) (fun _ _ _ _ _ => True) (fun _ U o U' => ∃ v L, o = .returned v ∧ Q_rm_ed2 Z a0' gb gk y0 y1 y2 h0 n0 v U'.heap L ∧ FrameEnd U o U' L 0 0) := by
  refine MetFree.of_bodySF (plainFor_of_name pn_java_util_ArrayList) hisR ?_
  intro p e s m args below meth c s₁ Bd hml0 hP hK
  obtain ⟨rfl, hZ, hh⟩ := hP
  have hx := Bd.exec
  have hby := Bd.bytes
  have hlk := Bd.notSynchronized
  have hml : c.maxLocals = 2 := hml0
  have hown : s.vm.findClass "java/util/ArrayList" = some m.cls := findClass_of_methodNamed Bd.named
  have hnm := (name_of_methodNamed Bd.named Bd.method).1
  have X0 : Stand p l e ({ frames := 0, cells := 0, slots := 0, locals := 0 } : Room) s m #[(.ref a0'), (.int (2 : Int32))] below meth c s₁ [] 0 0 := Stand.of_body Bd
  have e0 : s₁.heap = h0 := by rw [← hh, Bd.state]; rfl
  have N0 := Fr.nil n0
  show OwnEnd p e below s (Q_rm_ed2 Z a0' gb gk y0 y1 y2 h0 n0) 0 0 (s₁.setTop (entryFrame m #[(.ref a0'), (.int (2 : Int32))] 2))
  refine go (fun t k => castTop (ef_rm_ed2 m a0') k) ?_
  show OwnEnd _ _ _ _ _ _ _ (s₁.setTop (mkF m 0 #[.val (.ref a0'), .val (.int (2 : Int32))] []))
  refine go (fun _ k => by refine XS.aloadN X0.here hx rfl (hb hby d_jdk_38_method_18_code_0) rfl rfl ?_; exact k) ?_
  show OwnEnd _ _ _ _ _ _ _ (s₁.setTop (mkF m 1 #[.val (.ref a0'), .val (.int (2 : Int32))] [(.ref a0')]))
  obtain ⟨T1, X1, e1, st1⟩ := getF X0 hx hZ hown (host := "") (Or.inl (hw _ (List.mem_of_getElem? (i := 24) rfl))) Via.refl e0 FE (g := (mkF m 1 #[.val (.ref a0'), .val (.int (2 : Int32))] [(.ref a0')])) rfl rfl (hb hby d_jdk_38_method_18_code_1)
  refine go st1 ?_
  refine go (fun _ k => by refine XS.iloadN X1.here hx rfl (hb hby d_jdk_38_method_18_code_4) rfl ?_; exact k) ?_
  show OwnEnd _ _ _ _ _ _ _ (T1.setTop (mkF m 5 #[.val (.ref a0'), .val (.int (2 : Int32))] [(.int (2 : Int32)), (.ref gb)]))
  refine go (ldRv X1 hx hZ e1 VG (j := (2 : Int32)) (i := 2) (w := (.ref y2)) rfl (by decide) (by decide) (by decide) rfl (g := (mkF m 5 #[.val (.ref a0'), .val (.int (2 : Int32))] [(.int (2 : Int32)), (.ref gb)])) rfl rfl (hb hby d_jdk_38_method_18_code_5)) ?_
  show OwnEnd _ _ _ _ _ _ _ (T1.setTop (mkF m 6 #[.val (.ref a0'), .val (.int (2 : Int32))] [(.ref y2)]))
  refine endA X1 hx hlk Bd.returns rfl rfl (hb hby d_jdk_38_method_18_code_6) e1 (by decide) (by decide) ?_
  exact ⟨rfl, N0, rfl⟩
theorem ef_rm_get2 (m : MethodId) (y0 : Addr) : entryFrame m #[(.ref y0), (.int (2 : Int32))] 2 = mkF m 0 #[.val (.ref y0), .val (.int (2 : Int32))] [] := by first | (simp [entryFrame, mkF, argsToLocals, Value.category]; done) | rfl
def Q_rm_get2 (Z : State) (a0' : Addr) (gb : Addr) (gk : ClassId) (y0 : Addr) (y1 : Addr) (y2 : Addr) (h0 : Heap) (n0 : Nat) (v : Option Value) (h : Heap) (L : List Loc) : Prop := v = some (.ref y2) ∧ Fr n0 L ∧ h = h0
set_option maxRecDepth 65536 in
set_option maxHeartbeats 40000000 in
theorem rm_get2 (l : Launch) (Z : State) (a0 : Array Value) (hw : ∀ d ∈ tables_1, d.before a0 Z = true) (ws : List Jvm.Cond) (a0' : Addr) (gb : Addr) (gk : ClassId) (y0 : Addr) (y1 : Addr) (y2 : Addr) (h0 : Heap) (n0 : Nat) (EA : Exa Z h0 a0' "java/util/ArrayList") (FE : Fld Z h0 a0' "java/util/ArrayList" "elementData" "[Ljava/lang/Object;" (.ref gb)) (FS : Fld Z h0 a0' "java/util/ArrayList" "size" "I" (.int 3)) (VG : Arv Z h0 gb gk (.object "java/lang/Object") 10 [(.ref y0), (.ref y1), (.ref y2), .null, .null, .null, .null, .null, .null, .null] .null) :
    MetFree l (⟨"java/util/ArrayList", "get", "(I)Ljava/lang/Object;"⟩ : MethodName) (head1 (Jvm.Cond.code (⟨"java/util/ArrayList", "get", "(I)Ljava/lang/Object;"⟩ : MethodName) jdk_38_method_20_code 2 (some (.object "java/lang/Object")) :: ws) ({ frames := 2, cells := 0, slots := 0, locals := 27 } : Room)) (fun a U => a = #[(.ref a0'), (.int (2 : Int32))] ∧ Z.Warmed39 U.vm ∧ U.heap = h0) (fun _ _ _ _ _ => True) (fun _ U o U' => ∃ v L, o = .returned v ∧ Q_rm_get2 Z a0' gb gk y0 y1 y2 h0 n0 v U'.heap L ∧ FrameEnd U o U' L 0 0) := by
  refine MetFree.of_bodySF (plainFor_of_name pn_java_util_ArrayList) hisR ?_
  intro p e s m args below meth c s₁ Bd hml0 hP hK
  obtain ⟨rfl, hZ, hh⟩ := hP
  have hx := Bd.exec
  have hby := Bd.bytes
  have hlk := Bd.notSynchronized
  have hml : c.maxLocals = 2 := hml0
  have hown : s.vm.findClass "java/util/ArrayList" = some m.cls := findClass_of_methodNamed Bd.named
  have hnm := (name_of_methodNamed Bd.named Bd.method).1
  have X0 : Stand p l e ({ frames := 2, cells := 0, slots := 0, locals := 27 } : Room) s m #[(.ref a0'), (.int (2 : Int32))] below meth c s₁ [] 0 0 := Stand.of_body Bd
  have e0 : s₁.heap = h0 := by rw [← hh, Bd.state]; rfl
  have N0 := Fr.nil n0
  show OwnEnd p e below s (Q_rm_get2 Z a0' gb gk y0 y1 y2 h0 n0) 0 0 (s₁.setTop (entryFrame m #[(.ref a0'), (.int (2 : Int32))] 2))
  refine go (fun t k => castTop (ef_rm_get2 m a0') k) ?_
  show OwnEnd _ _ _ _ _ _ _ (s₁.setTop (mkF m 0 #[.val (.ref a0'), .val (.int (2 : Int32))] []))
  refine go (fun _ k => by refine XS.iloadN X0.here hx rfl (hb hby d_jdk_38_method_20_code_0) rfl ?_; exact k) ?_
  refine go (fun _ k => by refine XS.aloadN X0.here hx rfl (hb hby d_jdk_38_method_20_code_1) rfl rfl ?_; exact k) ?_
  show OwnEnd _ _ _ _ _ _ _ (s₁.setTop (mkF m 2 #[.val (.ref a0'), .val (.int (2 : Int32))] [(.ref a0'), (.int (2 : Int32))]))
  obtain ⟨T1, X1, e1, st1⟩ := getF X0 hx hZ hown (host := "") (Or.inl (hw _ (List.mem_of_getElem? (i := 56) rfl))) Via.refl e0 FS (g := (mkF m 2 #[.val (.ref a0'), .val (.int (2 : Int32))] [(.ref a0'), (.int (2 : Int32))])) rfl rfl (hb hby d_jdk_38_method_20_code_2)
  refine go st1 ?_
  show OwnEnd _ _ _ _ _ _ _ (T1.setTop (mkF m 5 #[.val (.ref a0'), .val (.int (2 : Int32))] [(.int (3 : Int32)), (.int (2 : Int32))]))
  obtain ⟨_, T2, L2, X2, hQ2, st2⟩ := callStat X1 hx hZ hown (hw _ (List.mem_of_getElem? (i := 109) rfl)) (hw _ (List.mem_of_getElem? (i := 110) rfl)) (hw _ (List.mem_of_getElem? (i := 111) rfl)) (hw _ (List.mem_of_getElem? (i := 112) rfl)) (by decide) (rm_oci l Z a0 hw [] (2 : Int32) (3 : Int32) h0 n0 (by decide) (by decide)) (W := 0) (by decide) (by decide) e1 (g := (mkF m 5 #[.val (.ref a0'), .val (.int (2 : Int32))] [(.int (3 : Int32)), (.int (2 : Int32))])) rfl (by rw [hml]; rfl) (argsL := [(.int (2 : Int32)), (.int (3 : Int32))]) (rest := []) rfl (lenOf pd__II_I rfl) rfl (by show 2 * 0 + _ ≤ _; exact Nat.le_of_eq rfl) (hb hby d_jdk_38_method_20_code_5) (by decide) (by decide)
  obtain ⟨rfl, Nq2, eq2⟩ := hQ2
  have N2 := Fr.app N0 Nq2
  refine go st2 ?_
  refine go (fun _ k => by refine XS.pop X2.here hx rfl (hb hby d_jdk_38_method_20_code_8) rfl rfl ?_; exact k) ?_
  refine go (fun _ k => by refine XS.aloadN X2.here hx rfl (hb hby d_jdk_38_method_20_code_9) rfl rfl ?_; exact k) ?_
  refine go (fun _ k => by refine XS.iloadN X2.here hx rfl (hb hby d_jdk_38_method_20_code_10) rfl ?_; exact k) ?_
  show OwnEnd _ _ _ _ _ _ _ (T2.setTop (mkF m 11 #[.val (.ref a0'), .val (.int (2 : Int32))] [(.int (2 : Int32)), (.ref a0')]))
  obtain ⟨_, T3, L3, X3, hQ3, st3⟩ := callVirt X2 hx hZ hown (hw _ (List.mem_of_getElem? (i := 117) rfl)) (hw _ (List.mem_of_getElem? (i := 118) rfl)) (notFace_of_selects (args := #[]) (mvT hZ (hw _ (List.mem_of_getElem? (i := 120) rfl)))) (hw _ (List.mem_of_getElem? (i := 120) rfl)) (hw _ (List.mem_of_getElem? (i := 119) rfl)) (hw _ (List.mem_of_getElem? (i := 2) rfl)) (hw _ (List.mem_of_getElem? (i := 121) rfl)) (by decide) (rm_ed2 l Z a0 hw [] a0' gb gk y0 y1 y2 h0 n0 FE VG) (W := 0) (by decide) (by decide) eq2 EA (g := (mkF m 11 #[.val (.ref a0'), .val (.int (2 : Int32))] [(.int (2 : Int32)), (.ref a0')])) rfl (by rw [hml]; rfl) (argsL := [(.int (2 : Int32))]) (rest := []) rfl (lenOf pd__I_Ljava_lang_Object_ rfl) rfl (by show 2 * 0 + _ ≤ _; exact Nat.le_of_eq rfl) (hb hby d_jdk_38_method_20_code_11) (by decide) (by decide)
  obtain ⟨rfl, Nq3, eq3⟩ := hQ3
  have N3 := Fr.app N2 Nq3
  refine go st3 ?_
  show OwnEnd _ _ _ _ _ _ _ (T3.setTop (mkF m 14 #[.val (.ref a0'), .val (.int (2 : Int32))] [(.ref y2)]))
  refine endA X3 hx hlk Bd.returns rfl rfl (hb hby d_jdk_38_method_20_code_14) eq3 (by decide) (by decide) ?_
  exact ⟨rfl, N3, rfl⟩
theorem d_jdk_117_method_19_code_0 : decode jdk_117_method_19_code 0 = .ok (.aload_n 0, 1) := by decide +kernel
theorem d_jdk_117_method_19_code_1 : decode jdk_117_method_19_code 1 = .ok (.getfield 118, 3) := by decide +kernel
theorem d_jdk_117_method_19_code_4 : decode jdk_117_method_19_code 4 = .ok (.dreturn, 1) := by decide +kernel
theorem ef_rm_dva (m : MethodId) (y0 : Addr) : entryFrame m #[(.ref y0)] 1 = mkF m 0 #[.val (.ref y0)] [] := by first | (simp [entryFrame, mkF, argsToLocals, Value.category]; done) | rfl
def Q_rm_dva (Z : State) (a0' : Addr) (u : UInt64) (h0 : Heap) (n0 : Nat) (v : Option Value) (h : Heap) (L : List Loc) : Prop := v = some (.double u) ∧ Fr n0 L ∧ h = h0
set_option maxRecDepth 65536 in
set_option maxHeartbeats 40000000 in
theorem rm_dva (l : Launch) (Z : State) (a0 : Array Value) (hw : ∀ d ∈ tables_1, d.before a0 Z = true) (ws : List Jvm.Cond) (a0' : Addr) (u : UInt64) (h0 : Heap) (n0 : Nat) (F0 : Fld Z h0 a0' "java/lang/Double" "value" "D" (.double u)) :
    MetFree l (⟨"java/lang/Double", "doubleValue", "()D"⟩ : MethodName) (head1 (Jvm.Cond.code (⟨"java/lang/Double", "doubleValue", "()D"⟩ : MethodName) jdk_117_method_19_code 1 (some .double) :: ws) ({ frames := 0, cells := 0, slots := 0, locals := 0 } : Room)) (fun a U => a = #[(.ref a0')] ∧ Z.Warmed39 U.vm ∧ U.heap = h0) (fun _ _ _ _ _ => True) (fun _ U o U' => ∃ v L, o = .returned v ∧ Q_rm_dva Z a0' u h0 n0 v U'.heap L ∧ FrameEnd U o U' L 0 0) := by
  refine MetFree.of_bodySF (plainFor_of_name pn_java_lang_Double) hisR ?_
  intro p e s m args below meth c s₁ Bd hml0 hP hK
  obtain ⟨rfl, hZ, hh⟩ := hP
  have hx := Bd.exec
  have hby := Bd.bytes
  have hlk := Bd.notSynchronized
  have hml : c.maxLocals = 1 := hml0
  have hown : s.vm.findClass "java/lang/Double" = some m.cls := findClass_of_methodNamed Bd.named
  have hnm := (name_of_methodNamed Bd.named Bd.method).1
  have X0 : Stand p l e ({ frames := 0, cells := 0, slots := 0, locals := 0 } : Room) s m #[(.ref a0')] below meth c s₁ [] 0 0 := Stand.of_body Bd
  have e0 : s₁.heap = h0 := by rw [← hh, Bd.state]; rfl
  have N0 := Fr.nil n0
  show OwnEnd p e below s (Q_rm_dva Z a0' u h0 n0) 0 0 (s₁.setTop (entryFrame m #[(.ref a0')] 1))
  refine go (fun t k => castTop (ef_rm_dva m a0') k) ?_
  show OwnEnd _ _ _ _ _ _ _ (s₁.setTop (mkF m 0 #[.val (.ref a0')] []))
  refine go (fun _ k => by refine XS.aloadN X0.here hx rfl (hb hby d_jdk_117_method_19_code_0) rfl rfl ?_; exact k) ?_
  show OwnEnd _ _ _ _ _ _ _ (s₁.setTop (mkF m 1 #[.val (.ref a0')] [(.ref a0')]))
  obtain ⟨T1, X1, e1, st1⟩ := getF X0 hx hZ hown (host := "") (Or.inl (hw _ (List.mem_of_getElem? (i := 43) rfl))) Via.refl e0 F0 (g := (mkF m 1 #[.val (.ref a0')] [(.ref a0')])) rfl rfl (hb hby d_jdk_117_method_19_code_1)
  refine go st1 ?_
  show OwnEnd _ _ _ _ _ _ _ (T1.setTop (mkF m 4 #[.val (.ref a0')] [(.double u)]))
  refine endD X1 hx hlk Bd.returns (hb hby d_jdk_117_method_19_code_4) e1 (by decide) (by decide) ?_
  exact ⟨rfl, N0, rfl⟩
theorem d_jdk_35_method_31_code_0 : decode jdk_35_method_31_code 0 = .ok (.aload_n 0, 1) := by decide +kernel
theorem d_jdk_35_method_31_code_1 : decode jdk_35_method_31_code 1 = .ok (.getfield 273, 3) := by decide +kernel
theorem d_jdk_35_method_31_code_4 : decode jdk_35_method_31_code 4 = .ok (.lreturn, 1) := by decide +kernel
theorem pn_java_lang_Long : plainName "java/lang/Long" = true := by first | (simp [plainName, overriddenIn]; done) | decide +kernel
theorem ef_rm_lva (m : MethodId) (y0 : Addr) : entryFrame m #[(.ref y0)] 1 = mkF m 0 #[.val (.ref y0)] [] := by first | (simp [entryFrame, mkF, argsToLocals, Value.category]; done) | rfl
def Q_rm_lva (Z : State) (a0' : Addr) (u : Int64) (h0 : Heap) (n0 : Nat) (v : Option Value) (h : Heap) (L : List Loc) : Prop := v = some (.long u) ∧ Fr n0 L ∧ h = h0
set_option maxRecDepth 65536 in
set_option maxHeartbeats 40000000 in
theorem rm_lva (l : Launch) (Z : State) (a0 : Array Value) (hw : ∀ d ∈ tables_1, d.before a0 Z = true) (ws : List Jvm.Cond) (a0' : Addr) (u : Int64) (h0 : Heap) (n0 : Nat) (F0 : Fld Z h0 a0' "java/lang/Long" "value" "J" (.long u)) :
    MetFree l (⟨"java/lang/Long", "longValue", "()J"⟩ : MethodName) (head1 (Jvm.Cond.code (⟨"java/lang/Long", "longValue", "()J"⟩ : MethodName) jdk_35_method_31_code 1 (some .long) :: ws) ({ frames := 0, cells := 0, slots := 0, locals := 0 } : Room)) (fun a U => a = #[(.ref a0')] ∧ Z.Warmed39 U.vm ∧ U.heap = h0) (fun _ _ _ _ _ => True) (fun _ U o U' => ∃ v L, o = .returned v ∧ Q_rm_lva Z a0' u h0 n0 v U'.heap L ∧ FrameEnd U o U' L 0 0) := by
  refine MetFree.of_bodySF (plainFor_of_name pn_java_lang_Long) hisR ?_
  intro p e s m args below meth c s₁ Bd hml0 hP hK
  obtain ⟨rfl, hZ, hh⟩ := hP
  have hx := Bd.exec
  have hby := Bd.bytes
  have hlk := Bd.notSynchronized
  have hml : c.maxLocals = 1 := hml0
  have hown : s.vm.findClass "java/lang/Long" = some m.cls := findClass_of_methodNamed Bd.named
  have hnm := (name_of_methodNamed Bd.named Bd.method).1
  have X0 : Stand p l e ({ frames := 0, cells := 0, slots := 0, locals := 0 } : Room) s m #[(.ref a0')] below meth c s₁ [] 0 0 := Stand.of_body Bd
  have e0 : s₁.heap = h0 := by rw [← hh, Bd.state]; rfl
  have N0 := Fr.nil n0
  show OwnEnd p e below s (Q_rm_lva Z a0' u h0 n0) 0 0 (s₁.setTop (entryFrame m #[(.ref a0')] 1))
  refine go (fun t k => castTop (ef_rm_lva m a0') k) ?_
  show OwnEnd _ _ _ _ _ _ _ (s₁.setTop (mkF m 0 #[.val (.ref a0')] []))
  refine go (fun _ k => by refine XS.aloadN X0.here hx rfl (hb hby d_jdk_35_method_31_code_0) rfl rfl ?_; exact k) ?_
  show OwnEnd _ _ _ _ _ _ _ (s₁.setTop (mkF m 1 #[.val (.ref a0')] [(.ref a0')]))
  obtain ⟨T1, X1, e1, st1⟩ := getF X0 hx hZ hown (host := "") (Or.inl (hw _ (List.mem_of_getElem? (i := 195) rfl))) Via.refl e0 F0 (g := (mkF m 1 #[.val (.ref a0')] [(.ref a0')])) rfl rfl (hb hby d_jdk_35_method_31_code_1)
  refine go st1 ?_
  show OwnEnd _ _ _ _ _ _ _ (T1.setTop (mkF m 4 #[.val (.ref a0')] [(.long u)]))
  refine endJ X1 hx hlk Bd.returns (hb hby d_jdk_35_method_31_code_4) e1 (by decide) (by decide) ?_
  exact ⟨rfl, N0, rfl⟩
theorem d_prog_19_method_4_code_0 : decode prog_19_method_4_code 0 = .ok (.aload_n 0, 1) := by decide +kernel
theorem d_prog_19_method_4_code_1 : decode prog_19_method_4_code 1 = .ok (.getfield 17, 3) := by decide +kernel
theorem d_prog_19_method_4_code_4 : decode prog_19_method_4_code 4 = .ok (.dreturn, 1) := by decide +kernel
theorem pn_com_example_waitsfor_waitsfor_Histogram : plainName "com/example/waitsfor/waitsfor/Histogram" = true := by first | (simp [plainName, overriddenIn]; done) | decide +kernel
theorem ef_rm_hsu (m : MethodId) (y0 : Addr) : entryFrame m #[(.ref y0)] 1 = mkF m 0 #[.val (.ref y0)] [] := by first | (simp [entryFrame, mkF, argsToLocals, Value.category]; done) | rfl
def Q_rm_hsu (Z : State) (a0' : Addr) (u : UInt64) (h0 : Heap) (n0 : Nat) (v : Option Value) (h : Heap) (L : List Loc) : Prop := v = some (.double u) ∧ Fr n0 L ∧ h = h0
set_option maxRecDepth 65536 in
set_option maxHeartbeats 40000000 in
theorem rm_hsu (l : Launch) (Z : State) (a0 : Array Value) (hw : ∀ d ∈ tables_1, d.before a0 Z = true) (ws : List Jvm.Cond) (a0' : Addr) (u : UInt64) (h0 : Heap) (n0 : Nat) (F0 : Fld Z h0 a0' "com/example/waitsfor/waitsfor/Histogram" "sum" "D" (.double u)) :
    MetFree l (⟨"com/example/waitsfor/waitsfor/Histogram", "sum", "()D"⟩ : MethodName) (head1 (Jvm.Cond.code (⟨"com/example/waitsfor/waitsfor/Histogram", "sum", "()D"⟩ : MethodName) prog_19_method_4_code 1 (some .double) :: ws) ({ frames := 0, cells := 0, slots := 0, locals := 0 } : Room)) (fun a U => a = #[(.ref a0')] ∧ Z.Warmed39 U.vm ∧ U.heap = h0) (fun _ _ _ _ _ => True) (fun _ U o U' => ∃ v L, o = .returned v ∧ Q_rm_hsu Z a0' u h0 n0 v U'.heap L ∧ FrameEnd U o U' L 0 0) := by
  refine MetFree.of_bodySF (plainFor_of_name pn_com_example_waitsfor_waitsfor_Histogram) hisR ?_
  intro p e s m args below meth c s₁ Bd hml0 hP hK
  obtain ⟨rfl, hZ, hh⟩ := hP
  have hx := Bd.exec
  have hby := Bd.bytes
  have hlk := Bd.notSynchronized
  have hml : c.maxLocals = 1 := hml0
  have hown : s.vm.findClass "com/example/waitsfor/waitsfor/Histogram" = some m.cls := findClass_of_methodNamed Bd.named
  have hnm := (name_of_methodNamed Bd.named Bd.method).1
  have X0 : Stand p l e ({ frames := 0, cells := 0, slots := 0, locals := 0 } : Room) s m #[(.ref a0')] below meth c s₁ [] 0 0 := Stand.of_body Bd
  have e0 : s₁.heap = h0 := by rw [← hh, Bd.state]; rfl
  have N0 := Fr.nil n0
  show OwnEnd p e below s (Q_rm_hsu Z a0' u h0 n0) 0 0 (s₁.setTop (entryFrame m #[(.ref a0')] 1))
  refine go (fun t k => castTop (ef_rm_hsu m a0') k) ?_
  show OwnEnd _ _ _ _ _ _ _ (s₁.setTop (mkF m 0 #[.val (.ref a0')] []))
  refine go (fun _ k => by refine XS.aloadN X0.here hx rfl (hb hby d_prog_19_method_4_code_0) rfl rfl ?_; exact k) ?_
  show OwnEnd _ _ _ _ _ _ _ (s₁.setTop (mkF m 1 #[.val (.ref a0')] [(.ref a0')]))
  obtain ⟨T1, X1, e1, st1⟩ := getF X0 hx hZ hown (host := "") (Or.inl (hw _ (List.mem_of_getElem? (i := 163) rfl))) Via.refl e0 F0 (g := (mkF m 1 #[.val (.ref a0')] [(.ref a0')])) rfl rfl (hb hby d_prog_19_method_4_code_1)
  refine go st1 ?_
  show OwnEnd _ _ _ _ _ _ _ (T1.setTop (mkF m 4 #[.val (.ref a0')] [(.double u)]))
  refine endD X1 hx hlk Bd.returns (hb hby d_prog_19_method_4_code_4) e1 (by decide) (by decide) ?_
  exact ⟨rfl, N0, rfl⟩
theorem d_prog_20_method_1_code_0 : decode prog_20_method_1_code 0 = .ok (.aload_n 0, 1) := by decide +kernel
theorem d_prog_20_method_1_code_1 : decode prog_20_method_1_code 1 = .ok (.invokespecial 1, 3) := by decide +kernel
theorem d_prog_20_method_1_code_4 : decode prog_20_method_1_code 4 = .ok (.aload_n 0, 1) := by decide +kernel
theorem d_prog_20_method_1_code_5 : decode prog_20_method_1_code 5 = .ok (.aload_n 1, 1) := by decide +kernel
theorem d_prog_20_method_1_code_6 : decode prog_20_method_1_code 6 = .ok (.putfield 7, 3) := by decide +kernel
theorem d_prog_20_method_1_code_9 : decode prog_20_method_1_code 9 = .ok (.aload_n 0, 1) := by decide +kernel
theorem d_prog_20_method_1_code_10 : decode prog_20_method_1_code 10 = .ok (.aload_n 1, 1) := by decide +kernel
theorem d_prog_20_method_1_code_11 : decode prog_20_method_1_code 11 = .ok (.invokeinterface 13 1, 5) := by decide +kernel
theorem pd___I : parseMethodDescriptor "()I" = some ⟨[], some .int⟩ := by decide +kernel
theorem d_prog_20_method_1_code_16 : decode prog_20_method_1_code 16 = .ok (.newarray .double, 2) := by decide +kernel
theorem d_prog_20_method_1_code_18 : decode prog_20_method_1_code 18 = .ok (.putfield 19, 3) := by decide +kernel
theorem d_prog_20_method_1_code_21 : decode prog_20_method_1_code 21 = .ok (.iconst 0, 1) := by decide +kernel
theorem d_prog_20_method_1_code_22 : decode prog_20_method_1_code 22 = .ok (.istore_n 2, 1) := by decide +kernel
theorem d_prog_20_method_1_code_23 : decode prog_20_method_1_code 23 = .ok (.iload_n 2, 1) := by decide +kernel
theorem d_prog_20_method_1_code_24 : decode prog_20_method_1_code 24 = .ok (.aload_n 0, 1) := by decide +kernel
theorem d_prog_20_method_1_code_25 : decode prog_20_method_1_code 25 = .ok (.getfield 19, 3) := by decide +kernel
theorem d_prog_20_method_1_code_28 : decode prog_20_method_1_code 28 = .ok (.arraylength, 1) := by decide +kernel
theorem d_prog_20_method_1_code_29 : decode prog_20_method_1_code 29 = .ok (.if_icmp .ge 28, 3) := by decide +kernel
theorem d_prog_20_method_1_code_32 : decode prog_20_method_1_code 32 = .ok (.aload_n 0, 1) := by decide +kernel
theorem d_prog_20_method_1_code_33 : decode prog_20_method_1_code 33 = .ok (.getfield 19, 3) := by decide +kernel
theorem d_prog_20_method_1_code_36 : decode prog_20_method_1_code 36 = .ok (.iload_n 2, 1) := by decide +kernel
theorem d_prog_20_method_1_code_37 : decode prog_20_method_1_code 37 = .ok (.aload_n 1, 1) := by decide +kernel
theorem d_prog_20_method_1_code_38 : decode prog_20_method_1_code 38 = .ok (.iload_n 2, 1) := by decide +kernel
theorem d_prog_20_method_1_code_39 : decode prog_20_method_1_code 39 = .ok (.invokeinterface 23 2, 5) := by decide +kernel
theorem d_prog_20_method_1_code_44 : decode prog_20_method_1_code 44 = .ok (.checkcast 27, 3) := by decide +kernel
theorem d_prog_20_method_1_code_47 : decode prog_20_method_1_code 47 = .ok (.invokevirtual 29, 3) := by decide +kernel
theorem pd___D : parseMethodDescriptor "()D" = some ⟨[], some .double⟩ := by decide +kernel
theorem d_prog_20_method_1_code_50 : decode prog_20_method_1_code 50 = .ok (.dastore, 1) := by decide +kernel
theorem d_prog_20_method_1_code_51 : decode prog_20_method_1_code 51 = .ok (.iinc 2 1, 3) := by decide +kernel
theorem d_prog_20_method_1_code_54 : decode prog_20_method_1_code 54 = .ok (.goto (-31), 3) := by decide +kernel
theorem d_prog_20_method_1_code_57 : decode prog_20_method_1_code 57 = .ok (.aload_n 0, 1) := by decide +kernel
theorem d_prog_20_method_1_code_58 : decode prog_20_method_1_code 58 = .ok (.aload_n 1, 1) := by decide +kernel
theorem d_prog_20_method_1_code_59 : decode prog_20_method_1_code 59 = .ok (.invokeinterface 13 1, 5) := by decide +kernel
theorem d_prog_20_method_1_code_64 : decode prog_20_method_1_code 64 = .ok (.newarray .long, 2) := by decide +kernel
theorem d_prog_20_method_1_code_66 : decode prog_20_method_1_code 66 = .ok (.putfield 33, 3) := by decide +kernel
theorem d_prog_20_method_1_code_69 : decode prog_20_method_1_code 69 = .ok (.return_, 1) := by decide +kernel
theorem pn_com_example_waitsfor_waitsfor_Histogram_Recorder : plainName "com/example/waitsfor/waitsfor/Histogram$Recorder" = true := by first | (simp [plainName, overriddenIn]; done) | decide +kernel
theorem ef_rm_rin (m : MethodId) (y0 : Addr) (y1 : Addr) : entryFrame m #[(.ref y0), (.ref y1)] 3 = mkF m 0 #[.val (.ref y0), .val (.ref y1), .unset] [] := by first | (simp [entryFrame, mkF, argsToLocals, Value.category]; done) | rfl
def Q_rm_rin (Z : State) (a0' : Addr) (a1' : Addr) (gb : Addr) (gk : ClassId) (y0 : Addr) (y1 : Addr) (y2 : Addr) (u0 : UInt64) (u1 : UInt64) (u2 : UInt64) (h0 : Heap) (n0 : Nat) (v : Option Value) (h : Heap) (L : List Loc) : Prop := ∃ ba bk ca ck, v = none ∧ Fr n0 L ∧ Keep h0 h [a0'] ∧ n0 ≤ ba ∧ n0 ≤ ca ∧ h0.size ≤ ba ∧ h0.size ≤ ca ∧ ba ≠ ca ∧ Exa Z h a0' "com/example/waitsfor/waitsfor/Histogram$Recorder" ∧ Fld Z h a0' "com/example/waitsfor/waitsfor/Histogram$Recorder" "upperBounds" "Ljava/util/List;" (.ref a1') ∧ Fld Z h a0' "com/example/waitsfor/waitsfor/Histogram$Recorder" "bounds" "[D" (.ref ba) ∧ Fld Z h a0' "com/example/waitsfor/waitsfor/Histogram$Recorder" "counts" "[J" (.ref ca) ∧ Fld Z h a0' "com/example/waitsfor/waitsfor/Histogram$Recorder" "sum" "D" (.double (FP.l2d 0)) ∧ Arv Z h ba bk .double 3 [(.double u0), (.double u1), (.double u2)] (.double 0) ∧ Arv Z h ca ck .long 3 [(.long 0), (.long 0), (.long 0)] (.long 0) ∧ Exa Z h ca "[J"
set_option maxRecDepth 65536 in
set_option maxHeartbeats 40000000 in
theorem rm_rin (l : Launch) (Z : State) (a0 : Array Value) (hw : ∀ d ∈ tables_1, d.before a0 Z = true) (ws : List Jvm.Cond) (a0' : Addr) (a1' : Addr) (gb : Addr) (gk : ClassId) (y0 : Addr) (y1 : Addr) (y2 : Addr) (u0 : UInt64) (u1 : UInt64) (u2 : UInt64) (h0 : Heap) (n0 : Nat) (ga : n0 ≤ a0') (Z0 : n0 ≤ h0.size) (EA : Exa Z h0 a0' "com/example/waitsfor/waitsfor/Histogram$Recorder") (FU : Fld Z h0 a0' "com/example/waitsfor/waitsfor/Histogram$Recorder" "upperBounds" "Ljava/util/List;" .null) (FB : Fld Z h0 a0' "com/example/waitsfor/waitsfor/Histogram$Recorder" "bounds" "[D" .null) (FC : Fld Z h0 a0' "com/example/waitsfor/waitsfor/Histogram$Recorder" "counts" "[J" .null) (FX : Fld Z h0 a0' "com/example/waitsfor/waitsfor/Histogram$Recorder" "sum" "D" (.double 0)) (EL : Exa Z h0 a1' "java/util/ArrayList") (GE : Fld Z h0 a1' "java/util/ArrayList" "elementData" "[Ljava/lang/Object;" (.ref gb)) (GS : Fld Z h0 a1' "java/util/ArrayList" "size" "I" (.int 3)) (VG : Arv Z h0 gb gk (.object "java/lang/Object") 10 [(.ref y0), (.ref y1), (.ref y2), .null, .null, .null, .null, .null, .null, .null] .null) (nga : gb ≠ a0') (EY0 : Exa Z h0 y0 "java/lang/Double") (EY1 : Exa Z h0 y1 "java/lang/Double") (EY2 : Exa Z h0 y2 "java/lang/Double") (FY0 : Fld Z h0 y0 "java/lang/Double" "value" "D" (.double u0)) (FY1 : Fld Z h0 y1 "java/lang/Double" "value" "D" (.double u1)) (FY2 : Fld Z h0 y2 "java/lang/Double" "value" "D" (.double u2)) :
    MetFree l (⟨"com/example/waitsfor/waitsfor/Histogram$Recorder", "<init>", "(Ljava/util/List;)V"⟩ : MethodName) (head1 (Jvm.Cond.code (⟨"com/example/waitsfor/waitsfor/Histogram$Recorder", "<init>", "(Ljava/util/List;)V"⟩ : MethodName) prog_20_method_1_code 3 none :: ws) ({ frames := 3, cells := 2, slots := 6, locals := 42 } : Room)) (fun a U => a = #[(.ref a0'), (.ref a1')] ∧ Z.Warmed39 U.vm ∧ U.heap = h0) (fun _ _ _ _ _ => True) (fun _ U o U' => ∃ v L, o = .returned v ∧ Q_rm_rin Z a0' a1' gb gk y0 y1 y2 u0 u1 u2 h0 n0 v U'.heap L ∧ FrameEnd U o U' L 2 6) := by
  refine MetFree.of_bodySF (plainFor_of_name pn_com_example_waitsfor_waitsfor_Histogram_Recorder) hisR ?_
  intro p e s m args below meth c s₁ Bd hml0 hP hK
  obtain ⟨rfl, hZ, hh⟩ := hP
  have hx := Bd.exec
  have hby := Bd.bytes
  have hlk := Bd.notSynchronized
  have hml : c.maxLocals = 3 := hml0
  have hown : s.vm.findClass "com/example/waitsfor/waitsfor/Histogram$Recorder" = some m.cls := findClass_of_methodNamed Bd.named
  have hnm := (name_of_methodNamed Bd.named Bd.method).1
  have X0 : Stand p l e ({ frames := 3, cells := 2, slots := 6, locals := 42 } : Room) s m #[(.ref a0'), (.ref a1')] below meth c s₁ [] 0 0 := Stand.of_body Bd
  have e0 : s₁.heap = h0 := by rw [← hh, Bd.state]; rfl
  have N0 := Fr.nil n0
  show OwnEnd p e below s (Q_rm_rin Z a0' a1' gb gk y0 y1 y2 u0 u1 u2 h0 n0) 2 6 (s₁.setTop (entryFrame m #[(.ref a0'), (.ref a1')] 3))
  refine go (fun t k => castTop (ef_rm_rin m a0' a1') k) ?_
  have KK := Keep.refl h0 [a0']
  have nla : a1' ≠ a0' := Jvm.RoadKit.ne_exa EL EA (by decide)
  have ny0 : y0 ≠ a0' := Jvm.RoadKit.ne_exa EY0 EA (by decide)
  have ny1 : y1 ≠ a0' := Jvm.RoadKit.ne_exa EY1 EA (by decide)
  have ny2 : y2 ≠ a0' := Jvm.RoadKit.ne_exa EY2 EA (by decide)
  show OwnEnd _ _ _ _ _ _ _ (s₁.setTop (mkF m 0 #[.val (.ref a0'), .val (.ref a1'), .unset] []))
  refine go (fun _ k => by refine XS.aloadN X0.here hx rfl (hb hby d_prog_20_method_1_code_0) rfl rfl ?_; exact k) ?_
  show OwnEnd _ _ _ _ _ _ _ (s₁.setTop (mkF m 1 #[.val (.ref a0'), .val (.ref a1'), .unset] [(.ref a0')]))
  obtain ⟨T1, X1, e1, st1⟩ := initO X0 hx hZ hown (hw _ (List.mem_of_getElem? (i := 87) rfl)) (hw _ (List.mem_of_getElem? (i := 19) rfl)) (hw _ (List.mem_of_getElem? (i := 20) rfl)) e0 (g := (mkF m 1 #[.val (.ref a0'), .val (.ref a1'), .unset] [(.ref a0')])) rfl (by rw [hml]; rfl) rfl (hb hby d_prog_20_method_1_code_1) (by decide) (W := 0) (by show 2 * 0 + _ ≤ _; exact Nat.le_of_eq rfl) (by decide)
  refine go st1 ?_
  refine go (fun _ k => by refine XS.aloadN X1.here hx rfl (hb hby d_prog_20_method_1_code_4) rfl rfl ?_; exact k) ?_
  refine go (fun _ k => by refine XS.aloadN X1.here hx rfl (hb hby d_prog_20_method_1_code_5) rfl rfl ?_; exact k) ?_
  show OwnEnd _ _ _ _ _ _ _ (T1.setTop (mkF m 6 #[.val (.ref a0'), .val (.ref a1'), .unset] [(.ref a1'), (.ref a0')]))
  obtain ⟨T2, h2, X2, e2, W2, st2⟩ := putF X1 hx hZ hown (host := "") (Or.inl (hw _ (List.mem_of_getElem? (i := 88) rfl))) Via.refl e1 FU EA (Or.inr ⟨(hw _ (List.mem_of_getElem? (i := 89) rfl)), rfl, hnm⟩) (hw _ (List.mem_of_getElem? (i := 82) rfl)) (ty := (.object "java/util/List")) (by decide) rfl rfl (g := (mkF m 6 #[.val (.ref a0'), .val (.ref a1'), .unset] [(.ref a1'), (.ref a0')])) rfl rfl (hb hby d_prog_20_method_1_code_6)
  have N2 := Fr.snoc X2 N0 ga
  have EA := EA.wr W2
  have Z0 := Nat.le_trans Z0 (Keep.of_wr W2).1
  have KK := Keep.wr KK W2 (Or.inl (List.mem_of_getElem? (i := 0) rfl))
  have EL := EL.wr W2
  have GE := GE.other W2 (Or.inl nla)
  have GS := GS.other W2 (Or.inl nla)
  have VG := VG.other W2 nga
  have FB := FB.other W2 (Or.inr (slot_ne (Or.inr (hw _ (List.mem_of_getElem? (i := 100) rfl))) (Or.inr (hw _ (List.mem_of_getElem? (i := 89) rfl))) (by decide) (t := (.array .double)) (t' := (.object "java/util/List")) (by decide) (by decide)))
  have FC := FC.other W2 (Or.inr (slot_ne (Or.inr (hw _ (List.mem_of_getElem? (i := 130) rfl))) (Or.inr (hw _ (List.mem_of_getElem? (i := 89) rfl))) (by decide) (t := (.array .long)) (t' := (.object "java/util/List")) (by decide) (by decide)))
  have FX := FX.other W2 (Or.inr (slot_ne (Or.inl (hw _ (List.mem_of_getElem? (i := 137) rfl))) (Or.inr (hw _ (List.mem_of_getElem? (i := 89) rfl))) (by decide) (t := .double) (t' := (.object "java/util/List")) (by decide) (by decide)))
  have EY0 := EY0.wr W2
  have EY1 := EY1.wr W2
  have EY2 := EY2.wr W2
  have FY0 := FY0.other W2 (Or.inl ny0)
  have FY1 := FY1.other W2 (Or.inl ny1)
  have FY2 := FY2.other W2 (Or.inl ny2)
  have FU := FU.same W2
  refine go st2 ?_
  refine go (fun _ k => by refine XS.aloadN X2.here hx rfl (hb hby d_prog_20_method_1_code_9) rfl rfl ?_; exact k) ?_
  refine go (fun _ k => by refine XS.aloadN X2.here hx rfl (hb hby d_prog_20_method_1_code_10) rfl rfl ?_; exact k) ?_
  show OwnEnd _ _ _ _ _ _ _ (T2.setTop (mkF m 11 #[.val (.ref a0'), .val (.ref a1'), .unset] [(.ref a1'), (.ref a0')]))
  obtain ⟨_, T3, L3, X3, hQ3, st3⟩ := callFace X2 hx hZ hown (hw _ (List.mem_of_getElem? (i := 90) rfl)) (hw _ (List.mem_of_getElem? (i := 91) rfl)) (mvT hZ (hw _ (List.mem_of_getElem? (i := 92) rfl))) (hw _ (List.mem_of_getElem? (i := 93) rfl)) (hw _ (List.mem_of_getElem? (i := 94) rfl)) (hw _ (List.mem_of_getElem? (i := 95) rfl)) (hw _ (List.mem_of_getElem? (i := 96) rfl)) (hw _ (List.mem_of_getElem? (i := 52) rfl)) (hw _ (List.mem_of_getElem? (i := 2) rfl)) (hw _ (List.mem_of_getElem? (i := 97) rfl)) (by decide) (rm_siz l Z a0 hw [] a1' (3 : Int32) h2 n0 GS) (W := 1) (by decide) (by decide) e2 EL (g := (mkF m 11 #[.val (.ref a0'), .val (.ref a1'), .unset] [(.ref a1'), (.ref a0')])) rfl (by rw [hml]; rfl) (argsL := []) (rest := [(.ref a0')]) rfl (lenOf pd___I rfl) rfl (by show 2 * 0 + _ ≤ _; exact Nat.le_of_eq rfl) (hb hby d_prog_20_method_1_code_11) (by decide) (by decide)
  obtain ⟨rfl, Nq3, eq3⟩ := hQ3
  have N3 := Fr.app N2 Nq3
  refine go st3 ?_
  show OwnEnd _ _ _ _ _ _ _ (T3.setTop (mkF m 16 #[.val (.ref a0'), .val (.ref a1'), .unset] [(.int (3 : Int32)), (.ref a0')]))
  obtain ⟨T4, h4, k4, X4, e4, E4, A4, st4⟩ := newP X3 hx hZ (hw _ (List.mem_of_getElem? (i := 98) rfl)) eq3 (g := (mkF m 16 #[.val (.ref a0'), .val (.ref a1'), .unset] [(.int (3 : Int32)), (.ref a0')])) rfl (hb hby d_prog_20_method_1_code_16) rfl (by decide) (cap := 3) (by decide) (by decide) (by decide) (by decide)
  obtain ⟨b4, g4⟩ : ∃ z, z = h2.size := ⟨_, rfl⟩
  rw [← g4] at A4 st4
  have ne_a0__b4 : a0' ≠ b4 := fun q => absurd EA.lt (by rw [q, g4]; exact Nat.lt_irrefl _)
  have ne_a1__b4 : a1' ≠ b4 := fun q => absurd EL.lt (by rw [q, g4]; exact Nat.lt_irrefl _)
  have ne_gb_b4 : gb ≠ b4 := fun q => absurd VG.lt (by rw [q, g4]; exact Nat.lt_irrefl _)
  have ne_y0_b4 : y0 ≠ b4 := fun q => absurd EY0.lt (by rw [q, g4]; exact Nat.lt_irrefl _)
  have ne_y1_b4 : y1 ≠ b4 := fun q => absurd EY1.lt (by rw [q, g4]; exact Nat.lt_irrefl _)
  have ne_y2_b4 : y2 ≠ b4 := fun q => absurd EY2.lt (by rw [q, g4]; exact Nat.lt_irrefl _)
  have g_b4 : n0 ≤ b4 := Nat.le_trans Z0 (Nat.le_of_eq g4.symm)
  have sz_b4 : h0.size ≤ b4 := Nat.le_trans KK.1 (Nat.le_of_eq g4.symm)
  have EA := EA.ext E4
  have Z0 := Nat.le_trans Z0 E4.1
  have KK := Keep.ext KK E4
  have EL := EL.ext E4
  have GE := GE.ext E4
  have GS := GS.ext E4
  have VG := VG.ext E4
  have FU := FU.ext E4
  have FB := FB.ext E4
  have FC := FC.ext E4
  have FX := FX.ext E4
  have EY0 := EY0.ext E4
  have EY1 := EY1.ext E4
  have EY2 := EY2.ext E4
  have FY0 := FY0.ext E4
  have FY1 := FY1.ext E4
  have FY2 := FY2.ext E4
  have V_b4 : Arv Z h4 b4 k4 .double (3 : Int32) [(.double (0 : UInt64)), (.double (0 : UInt64)), (.double (0 : UInt64))] (.double (0 : UInt64)) := (Arv.new A4 (by decide)).pad (pad_rep [] (.double (0 : UInt64)) 3)
  refine go st4 ?_
  show OwnEnd _ _ _ _ _ _ _ (T4.setTop (mkF m 18 #[.val (.ref a0'), .val (.ref a1'), .unset] [(.ref b4), (.ref a0')]))
  obtain ⟨T5, h5, X5, e5, W5, st5⟩ := putF X4 hx hZ hown (host := "") (Or.inl (hw _ (List.mem_of_getElem? (i := 99) rfl))) Via.refl e4 FB EA (Or.inr ⟨(hw _ (List.mem_of_getElem? (i := 100) rfl)), rfl, hnm⟩) (hw _ (List.mem_of_getElem? (i := 82) rfl)) (ty := (.array .double)) (by decide) rfl rfl (g := (mkF m 18 #[.val (.ref a0'), .val (.ref a1'), .unset] [(.ref b4), (.ref a0')])) rfl rfl (hb hby d_prog_20_method_1_code_18)
  have N5 := Fr.snoc X5 N3 ga
  have EA := EA.wr W5
  have Z0 := Nat.le_trans Z0 (Keep.of_wr W5).1
  have KK := Keep.wr KK W5 (Or.inl (List.mem_of_getElem? (i := 0) rfl))
  have EL := EL.wr W5
  have GE := GE.other W5 (Or.inl nla)
  have GS := GS.other W5 (Or.inl nla)
  have VG := VG.other W5 nga
  have FU := FU.other W5 (Or.inr (slot_ne (Or.inr (hw _ (List.mem_of_getElem? (i := 89) rfl))) (Or.inr (hw _ (List.mem_of_getElem? (i := 100) rfl))) (by decide) (t := (.object "java/util/List")) (t' := (.array .double)) (by decide) (by decide)))
  have FC := FC.other W5 (Or.inr (slot_ne (Or.inr (hw _ (List.mem_of_getElem? (i := 130) rfl))) (Or.inr (hw _ (List.mem_of_getElem? (i := 100) rfl))) (by decide) (t := (.array .long)) (t' := (.array .double)) (by decide) (by decide)))
  have FX := FX.other W5 (Or.inr (slot_ne (Or.inl (hw _ (List.mem_of_getElem? (i := 137) rfl))) (Or.inr (hw _ (List.mem_of_getElem? (i := 100) rfl))) (by decide) (t := .double) (t' := (.array .double)) (by decide) (by decide)))
  have EY0 := EY0.wr W5
  have EY1 := EY1.wr W5
  have EY2 := EY2.wr W5
  have FY0 := FY0.other W5 (Or.inl ny0)
  have FY1 := FY1.other W5 (Or.inl ny1)
  have FY2 := FY2.other W5 (Or.inl ny2)
  have V_b4 := V_b4.other W5 (Ne.symm ne_a0__b4)
  have FB := FB.same W5
  refine go st5 ?_
  refine go (fun _ k => by refine XS.iconst X5.here hx rfl (hb hby d_prog_20_method_1_code_21) ?_; exact k) ?_
  refine go (fun _ k => by refine XS.istoreN X5.here hx rfl (hb hby d_prog_20_method_1_code_22) rfl (l' := #[.val (.ref a0'), .val (.ref a1'), .val (.int (0 : Int32))]) rfl ?_; exact k) ?_
  refine go (fun _ k => by refine XS.iloadN X5.here hx rfl (hb hby d_prog_20_method_1_code_23) rfl ?_; exact k) ?_
  show OwnEnd _ _ _ _ _ _ _ (T5.setTop (mkF m 24 #[.val (.ref a0'), .val (.ref a1'), .val (.int (0 : Int32))] [(.int (0 : Int32))]))
  refine go (fun _ k => by refine XS.aloadN X5.here hx rfl (hb hby d_prog_20_method_1_code_24) rfl rfl ?_; exact k) ?_
  show OwnEnd _ _ _ _ _ _ _ (T5.setTop (mkF m 25 #[.val (.ref a0'), .val (.ref a1'), .val (.int (0 : Int32))] [(.ref a0'), (.int (0 : Int32))]))
  obtain ⟨T6, X6, e6, st6⟩ := getF X5 hx hZ hown (host := "") (Or.inl (hw _ (List.mem_of_getElem? (i := 99) rfl))) Via.refl e5 FB (g := (mkF m 25 #[.val (.ref a0'), .val (.ref a1'), .val (.int (0 : Int32))] [(.ref a0'), (.int (0 : Int32))])) rfl rfl (hb hby d_prog_20_method_1_code_25)
  refine go st6 ?_
  show OwnEnd _ _ _ _ _ _ _ (T6.setTop (mkF m 28 #[.val (.ref a0'), .val (.ref a1'), .val (.int (0 : Int32))] [(.ref b4), (.int (0 : Int32))]))
  refine go (lenV X6 hx hZ e6 V_b4 (g := (mkF m 28 #[.val (.ref a0'), .val (.ref a1'), .val (.int (0 : Int32))] [(.ref b4), (.int (0 : Int32))])) rfl rfl (hb hby d_prog_20_method_1_code_28)) ?_
  show OwnEnd _ _ _ _ _ _ _ (T6.setTop (mkF m 29 #[.val (.ref a0'), .val (.ref a1'), .val (.int (0 : Int32))] [(.int (3 : Int32)), (.int (0 : Int32))]))
  refine go (fun _ k => by refine XS.icmpNo X6.here hx rfl (hb hby d_prog_20_method_1_code_29) rfl (tlt (by decide)).2.1 ?_; exact k) ?_
  refine go (fun _ k => by refine XS.aloadN X6.here hx rfl (hb hby d_prog_20_method_1_code_32) rfl rfl ?_; exact k) ?_
  show OwnEnd _ _ _ _ _ _ _ (T6.setTop (mkF m 33 #[.val (.ref a0'), .val (.ref a1'), .val (.int (0 : Int32))] [(.ref a0')]))
  obtain ⟨T7, X7, e7, st7⟩ := getF X6 hx hZ hown (host := "") (Or.inl (hw _ (List.mem_of_getElem? (i := 99) rfl))) Via.refl e6 FB (g := (mkF m 33 #[.val (.ref a0'), .val (.ref a1'), .val (.int (0 : Int32))] [(.ref a0')])) rfl rfl (hb hby d_prog_20_method_1_code_33)
  refine go st7 ?_
  refine go (fun _ k => by refine XS.iloadN X7.here hx rfl (hb hby d_prog_20_method_1_code_36) rfl ?_; exact k) ?_
  refine go (fun _ k => by refine XS.aloadN X7.here hx rfl (hb hby d_prog_20_method_1_code_37) rfl rfl ?_; exact k) ?_
  refine go (fun _ k => by refine XS.iloadN X7.here hx rfl (hb hby d_prog_20_method_1_code_38) rfl ?_; exact k) ?_
  show OwnEnd _ _ _ _ _ _ _ (T7.setTop (mkF m 39 #[.val (.ref a0'), .val (.ref a1'), .val (.int (0 : Int32))] [(.int (0 : Int32)), (.ref a1'), (.int (0 : Int32)), (.ref b4)]))
  obtain ⟨_, T8, L8, X8, hQ8, st8⟩ := callFace X7 hx hZ hown (hw _ (List.mem_of_getElem? (i := 101) rfl)) (hw _ (List.mem_of_getElem? (i := 102) rfl)) (mvT hZ (hw _ (List.mem_of_getElem? (i := 103) rfl))) (hw _ (List.mem_of_getElem? (i := 104) rfl)) (hw _ (List.mem_of_getElem? (i := 105) rfl)) (hw _ (List.mem_of_getElem? (i := 106) rfl)) (hw _ (List.mem_of_getElem? (i := 107) rfl)) (hw _ (List.mem_of_getElem? (i := 52) rfl)) (hw _ (List.mem_of_getElem? (i := 2) rfl)) (hw _ (List.mem_of_getElem? (i := 108) rfl)) (by decide) (rm_get0 l Z a0 hw [] a1' gb gk y0 y1 y2 h5 n0 EL GE GS VG) (W := 2) (by decide) (by decide) e7 EL (g := (mkF m 39 #[.val (.ref a0'), .val (.ref a1'), .val (.int (0 : Int32))] [(.int (0 : Int32)), (.ref a1'), (.int (0 : Int32)), (.ref b4)])) rfl (by rw [hml]; rfl) (argsL := [(.int (0 : Int32))]) (rest := [(.int (0 : Int32)), (.ref b4)]) rfl (lenOf pd__I_Ljava_lang_Object_ rfl) rfl (by show 2 * 0 + _ ≤ _; exact Nat.le_of_eq rfl) (hb hby d_prog_20_method_1_code_39) (by decide) (by decide)
  obtain ⟨rfl, Nq8, eq8⟩ := hQ8
  have N8 := Fr.app N5 Nq8
  refine go st8 ?_
  show OwnEnd _ _ _ _ _ _ _ (T8.setTop (mkF m 44 #[.val (.ref a0'), .val (.ref a1'), .val (.int (0 : Int32))] [(.ref y0), (.int (0 : Int32)), (.ref b4)]))
  obtain ⟨T9, X9, e9, st9⟩ := castY X8 hx hZ hown (hw _ (List.mem_of_getElem? (i := 122) rfl)) eq8 (Ins.self EY0) (g := (mkF m 44 #[.val (.ref a0'), .val (.ref a1'), .val (.int (0 : Int32))] [(.ref y0), (.int (0 : Int32)), (.ref b4)])) rfl rfl (hb hby d_prog_20_method_1_code_44)
  refine go st9 ?_
  show OwnEnd _ _ _ _ _ _ _ (T9.setTop (mkF m 47 #[.val (.ref a0'), .val (.ref a1'), .val (.int (0 : Int32))] [(.ref y0), (.int (0 : Int32)), (.ref b4)]))
  obtain ⟨_, T10, L10, X10, hQ10, st10⟩ := callVirt X9 hx hZ hown (hw _ (List.mem_of_getElem? (i := 123) rfl)) (hw _ (List.mem_of_getElem? (i := 124) rfl)) (notFace_of_selects (args := #[]) (mvT hZ (hw _ (List.mem_of_getElem? (i := 126) rfl)))) (hw _ (List.mem_of_getElem? (i := 126) rfl)) (hw _ (List.mem_of_getElem? (i := 125) rfl)) (hw _ (List.mem_of_getElem? (i := 28) rfl)) (hw _ (List.mem_of_getElem? (i := 127) rfl)) (by decide) (rm_dva l Z a0 hw [] y0 u0 h5 n0 FY0) (W := 2) (by decide) (by decide) e9 EY0 (g := (mkF m 47 #[.val (.ref a0'), .val (.ref a1'), .val (.int (0 : Int32))] [(.ref y0), (.int (0 : Int32)), (.ref b4)])) rfl (by rw [hml]; rfl) (argsL := []) (rest := [(.int (0 : Int32)), (.ref b4)]) rfl (lenOf pd___D rfl) rfl (by show 2 * 0 + _ ≤ _; exact Nat.le_of_eq rfl) (hb hby d_prog_20_method_1_code_47) (by decide) (by decide)
  obtain ⟨rfl, Nq10, eq10⟩ := hQ10
  have N10 := Fr.app N8 Nq10
  refine go st10 ?_
  show OwnEnd _ _ _ _ _ _ _ (T10.setTop (mkF m 50 #[.val (.ref a0'), .val (.ref a1'), .val (.int (0 : Int32))] [(.double u0), (.int (0 : Int32)), (.ref b4)]))
  obtain ⟨T11, h11, X11, e11, W11, V_b4', st11⟩ := stDv X10 hx hZ eq10 V_b4 (j := (0 : Int32)) (i := 0) (by decide) (by decide) (by decide) (Nat.le_of_ble_eq_true rfl) (g := (mkF m 50 #[.val (.ref a0'), .val (.ref a1'), .val (.int (0 : Int32))] [(.double u0), (.int (0 : Int32)), (.ref b4)])) rfl rfl (hb hby d_prog_20_method_1_code_50)
  have N11 := Fr.snoc X11 N10 g_b4
  have EA := EA.wr W11
  have Z0 := Nat.le_trans Z0 (Keep.of_wr W11).1
  have KK := Keep.wr KK W11 (Or.inr sz_b4)
  have EL := EL.wr W11
  have GE := GE.other W11 (Or.inl ne_a1__b4)
  have GS := GS.other W11 (Or.inl ne_a1__b4)
  have VG := VG.other W11 ne_gb_b4
  have FU := FU.other W11 (Or.inl ne_a0__b4)
  have FB := FB.other W11 (Or.inl ne_a0__b4)
  have FC := FC.other W11 (Or.inl ne_a0__b4)
  have FX := FX.other W11 (Or.inl ne_a0__b4)
  have EY0 := EY0.wr W11
  have EY1 := EY1.wr W11
  have EY2 := EY2.wr W11
  have FY0 := FY0.other W11 (Or.inl ne_y0_b4)
  have FY1 := FY1.other W11 (Or.inl ne_y1_b4)
  have FY2 := FY2.other W11 (Or.inl ne_y2_b4)
  have V_b4 : Arv Z h11 b4 k4 .double (3 : Int32) [(.double u0), (.double (0 : UInt64)), (.double (0 : UInt64))] (.double (0 : UInt64)) := V_b4'
  refine go st11 ?_
  show OwnEnd _ _ _ _ _ _ _ (T11.setTop (mkF m 51 #[.val (.ref a0'), .val (.ref a1'), .val (.int (0 : Int32))] []))
  refine go (fun _ k => by refine XS.iinc X11.here hx rfl (hb hby d_prog_20_method_1_code_51) rfl (l' := #[.val (.ref a0'), .val (.ref a1'), .val (.int ((0 : Int32) + (1 : Int32)))]) rfl ?_; exact k) ?_
  show OwnEnd _ _ _ _ _ _ _ (T11.setTop (mkF m 54 #[.val (.ref a0'), .val (.ref a1'), .val (.int ((0 : Int32) + (1 : Int32)))] []))
  rw [show ((0 : Int32) + (1 : Int32)) = (1 : Int32) from by decide]
  refine go (fun _ k => by refine XS.goto X11.here hx rfl (pc0 := 54) (pc' := 23) rfl (hb hby d_prog_20_method_1_code_54) (by decide) (by decide) ?_; exact k) ?_
  refine go (fun _ k => by refine XS.iloadN X11.here hx rfl (hb hby d_prog_20_method_1_code_23) rfl ?_; exact k) ?_
  refine go (fun _ k => by refine XS.aloadN X11.here hx rfl (hb hby d_prog_20_method_1_code_24) rfl rfl ?_; exact k) ?_
  show OwnEnd _ _ _ _ _ _ _ (T11.setTop (mkF m 25 #[.val (.ref a0'), .val (.ref a1'), .val (.int (1 : Int32))] [(.ref a0'), (.int (1 : Int32))]))
  obtain ⟨T12, X12, e12, st12⟩ := getF X11 hx hZ hown (host := "") (Or.inl (hw _ (List.mem_of_getElem? (i := 99) rfl))) Via.refl e11 FB (g := (mkF m 25 #[.val (.ref a0'), .val (.ref a1'), .val (.int (1 : Int32))] [(.ref a0'), (.int (1 : Int32))])) rfl rfl (hb hby d_prog_20_method_1_code_25)
  refine go st12 ?_
  show OwnEnd _ _ _ _ _ _ _ (T12.setTop (mkF m 28 #[.val (.ref a0'), .val (.ref a1'), .val (.int (1 : Int32))] [(.ref b4), (.int (1 : Int32))]))
  refine go (lenV X12 hx hZ e12 V_b4 (g := (mkF m 28 #[.val (.ref a0'), .val (.ref a1'), .val (.int (1 : Int32))] [(.ref b4), (.int (1 : Int32))])) rfl rfl (hb hby d_prog_20_method_1_code_28)) ?_
  show OwnEnd _ _ _ _ _ _ _ (T12.setTop (mkF m 29 #[.val (.ref a0'), .val (.ref a1'), .val (.int (1 : Int32))] [(.int (3 : Int32)), (.int (1 : Int32))]))
  refine go (fun _ k => by refine XS.icmpNo X12.here hx rfl (hb hby d_prog_20_method_1_code_29) rfl (tlt (by decide)).2.1 ?_; exact k) ?_
  refine go (fun _ k => by refine XS.aloadN X12.here hx rfl (hb hby d_prog_20_method_1_code_32) rfl rfl ?_; exact k) ?_
  show OwnEnd _ _ _ _ _ _ _ (T12.setTop (mkF m 33 #[.val (.ref a0'), .val (.ref a1'), .val (.int (1 : Int32))] [(.ref a0')]))
  obtain ⟨T13, X13, e13, st13⟩ := getF X12 hx hZ hown (host := "") (Or.inl (hw _ (List.mem_of_getElem? (i := 99) rfl))) Via.refl e12 FB (g := (mkF m 33 #[.val (.ref a0'), .val (.ref a1'), .val (.int (1 : Int32))] [(.ref a0')])) rfl rfl (hb hby d_prog_20_method_1_code_33)
  refine go st13 ?_
  refine go (fun _ k => by refine XS.iloadN X13.here hx rfl (hb hby d_prog_20_method_1_code_36) rfl ?_; exact k) ?_
  refine go (fun _ k => by refine XS.aloadN X13.here hx rfl (hb hby d_prog_20_method_1_code_37) rfl rfl ?_; exact k) ?_
  refine go (fun _ k => by refine XS.iloadN X13.here hx rfl (hb hby d_prog_20_method_1_code_38) rfl ?_; exact k) ?_
  show OwnEnd _ _ _ _ _ _ _ (T13.setTop (mkF m 39 #[.val (.ref a0'), .val (.ref a1'), .val (.int (1 : Int32))] [(.int (1 : Int32)), (.ref a1'), (.int (1 : Int32)), (.ref b4)]))
  obtain ⟨_, T14, L14, X14, hQ14, st14⟩ := callFace X13 hx hZ hown (hw _ (List.mem_of_getElem? (i := 101) rfl)) (hw _ (List.mem_of_getElem? (i := 102) rfl)) (mvT hZ (hw _ (List.mem_of_getElem? (i := 103) rfl))) (hw _ (List.mem_of_getElem? (i := 104) rfl)) (hw _ (List.mem_of_getElem? (i := 105) rfl)) (hw _ (List.mem_of_getElem? (i := 106) rfl)) (hw _ (List.mem_of_getElem? (i := 107) rfl)) (hw _ (List.mem_of_getElem? (i := 52) rfl)) (hw _ (List.mem_of_getElem? (i := 2) rfl)) (hw _ (List.mem_of_getElem? (i := 108) rfl)) (by decide) (rm_get1 l Z a0 hw [] a1' gb gk y0 y1 y2 h11 n0 EL GE GS VG) (W := 2) (by decide) (by decide) e13 EL (g := (mkF m 39 #[.val (.ref a0'), .val (.ref a1'), .val (.int (1 : Int32))] [(.int (1 : Int32)), (.ref a1'), (.int (1 : Int32)), (.ref b4)])) rfl (by rw [hml]; rfl) (argsL := [(.int (1 : Int32))]) (rest := [(.int (1 : Int32)), (.ref b4)]) rfl (lenOf pd__I_Ljava_lang_Object_ rfl) rfl (by show 2 * 0 + _ ≤ _; exact Nat.le_of_eq rfl) (hb hby d_prog_20_method_1_code_39) (by decide) (by decide)
  obtain ⟨rfl, Nq14, eq14⟩ := hQ14
  have N14 := Fr.app N11 Nq14
  refine go st14 ?_
  show OwnEnd _ _ _ _ _ _ _ (T14.setTop (mkF m 44 #[.val (.ref a0'), .val (.ref a1'), .val (.int (1 : Int32))] [(.ref y1), (.int (1 : Int32)), (.ref b4)]))
  obtain ⟨T15, X15, e15, st15⟩ := castY X14 hx hZ hown (hw _ (List.mem_of_getElem? (i := 122) rfl)) eq14 (Ins.self EY1) (g := (mkF m 44 #[.val (.ref a0'), .val (.ref a1'), .val (.int (1 : Int32))] [(.ref y1), (.int (1 : Int32)), (.ref b4)])) rfl rfl (hb hby d_prog_20_method_1_code_44)
  refine go st15 ?_
  show OwnEnd _ _ _ _ _ _ _ (T15.setTop (mkF m 47 #[.val (.ref a0'), .val (.ref a1'), .val (.int (1 : Int32))] [(.ref y1), (.int (1 : Int32)), (.ref b4)]))
  obtain ⟨_, T16, L16, X16, hQ16, st16⟩ := callVirt X15 hx hZ hown (hw _ (List.mem_of_getElem? (i := 123) rfl)) (hw _ (List.mem_of_getElem? (i := 124) rfl)) (notFace_of_selects (args := #[]) (mvT hZ (hw _ (List.mem_of_getElem? (i := 126) rfl)))) (hw _ (List.mem_of_getElem? (i := 126) rfl)) (hw _ (List.mem_of_getElem? (i := 125) rfl)) (hw _ (List.mem_of_getElem? (i := 28) rfl)) (hw _ (List.mem_of_getElem? (i := 127) rfl)) (by decide) (rm_dva l Z a0 hw [] y1 u1 h11 n0 FY1) (W := 2) (by decide) (by decide) e15 EY1 (g := (mkF m 47 #[.val (.ref a0'), .val (.ref a1'), .val (.int (1 : Int32))] [(.ref y1), (.int (1 : Int32)), (.ref b4)])) rfl (by rw [hml]; rfl) (argsL := []) (rest := [(.int (1 : Int32)), (.ref b4)]) rfl (lenOf pd___D rfl) rfl (by show 2 * 0 + _ ≤ _; exact Nat.le_of_eq rfl) (hb hby d_prog_20_method_1_code_47) (by decide) (by decide)
  obtain ⟨rfl, Nq16, eq16⟩ := hQ16
  have N16 := Fr.app N14 Nq16
  refine go st16 ?_
  show OwnEnd _ _ _ _ _ _ _ (T16.setTop (mkF m 50 #[.val (.ref a0'), .val (.ref a1'), .val (.int (1 : Int32))] [(.double u1), (.int (1 : Int32)), (.ref b4)]))
  obtain ⟨T17, h17, X17, e17, W17, V_b4', st17⟩ := stDv X16 hx hZ eq16 V_b4 (j := (1 : Int32)) (i := 1) (by decide) (by decide) (by decide) (Nat.le_of_ble_eq_true rfl) (g := (mkF m 50 #[.val (.ref a0'), .val (.ref a1'), .val (.int (1 : Int32))] [(.double u1), (.int (1 : Int32)), (.ref b4)])) rfl rfl (hb hby d_prog_20_method_1_code_50)
  have N17 := Fr.snoc X17 N16 g_b4
  have EA := EA.wr W17
  have Z0 := Nat.le_trans Z0 (Keep.of_wr W17).1
  have KK := Keep.wr KK W17 (Or.inr sz_b4)
  have EL := EL.wr W17
  have GE := GE.other W17 (Or.inl ne_a1__b4)
  have GS := GS.other W17 (Or.inl ne_a1__b4)
  have VG := VG.other W17 ne_gb_b4
  have FU := FU.other W17 (Or.inl ne_a0__b4)
  have FB := FB.other W17 (Or.inl ne_a0__b4)
  have FC := FC.other W17 (Or.inl ne_a0__b4)
  have FX := FX.other W17 (Or.inl ne_a0__b4)
  have EY0 := EY0.wr W17
  have EY1 := EY1.wr W17
  have EY2 := EY2.wr W17
  have FY0 := FY0.other W17 (Or.inl ne_y0_b4)
  have FY1 := FY1.other W17 (Or.inl ne_y1_b4)
  have FY2 := FY2.other W17 (Or.inl ne_y2_b4)
  have V_b4 : Arv Z h17 b4 k4 .double (3 : Int32) [(.double u0), (.double u1), (.double (0 : UInt64))] (.double (0 : UInt64)) := V_b4'
  refine go st17 ?_
  show OwnEnd _ _ _ _ _ _ _ (T17.setTop (mkF m 51 #[.val (.ref a0'), .val (.ref a1'), .val (.int (1 : Int32))] []))
  refine go (fun _ k => by refine XS.iinc X17.here hx rfl (hb hby d_prog_20_method_1_code_51) rfl (l' := #[.val (.ref a0'), .val (.ref a1'), .val (.int ((1 : Int32) + (1 : Int32)))]) rfl ?_; exact k) ?_
  show OwnEnd _ _ _ _ _ _ _ (T17.setTop (mkF m 54 #[.val (.ref a0'), .val (.ref a1'), .val (.int ((1 : Int32) + (1 : Int32)))] []))
  rw [show ((1 : Int32) + (1 : Int32)) = (2 : Int32) from by decide]
  refine go (fun _ k => by refine XS.goto X17.here hx rfl (pc0 := 54) (pc' := 23) rfl (hb hby d_prog_20_method_1_code_54) (by decide) (by decide) ?_; exact k) ?_
  refine go (fun _ k => by refine XS.iloadN X17.here hx rfl (hb hby d_prog_20_method_1_code_23) rfl ?_; exact k) ?_
  refine go (fun _ k => by refine XS.aloadN X17.here hx rfl (hb hby d_prog_20_method_1_code_24) rfl rfl ?_; exact k) ?_
  show OwnEnd _ _ _ _ _ _ _ (T17.setTop (mkF m 25 #[.val (.ref a0'), .val (.ref a1'), .val (.int (2 : Int32))] [(.ref a0'), (.int (2 : Int32))]))
  obtain ⟨T18, X18, e18, st18⟩ := getF X17 hx hZ hown (host := "") (Or.inl (hw _ (List.mem_of_getElem? (i := 99) rfl))) Via.refl e17 FB (g := (mkF m 25 #[.val (.ref a0'), .val (.ref a1'), .val (.int (2 : Int32))] [(.ref a0'), (.int (2 : Int32))])) rfl rfl (hb hby d_prog_20_method_1_code_25)
  refine go st18 ?_
  show OwnEnd _ _ _ _ _ _ _ (T18.setTop (mkF m 28 #[.val (.ref a0'), .val (.ref a1'), .val (.int (2 : Int32))] [(.ref b4), (.int (2 : Int32))]))
  refine go (lenV X18 hx hZ e18 V_b4 (g := (mkF m 28 #[.val (.ref a0'), .val (.ref a1'), .val (.int (2 : Int32))] [(.ref b4), (.int (2 : Int32))])) rfl rfl (hb hby d_prog_20_method_1_code_28)) ?_
  show OwnEnd _ _ _ _ _ _ _ (T18.setTop (mkF m 29 #[.val (.ref a0'), .val (.ref a1'), .val (.int (2 : Int32))] [(.int (3 : Int32)), (.int (2 : Int32))]))
  refine go (fun _ k => by refine XS.icmpNo X18.here hx rfl (hb hby d_prog_20_method_1_code_29) rfl (tlt (by decide)).2.1 ?_; exact k) ?_
  refine go (fun _ k => by refine XS.aloadN X18.here hx rfl (hb hby d_prog_20_method_1_code_32) rfl rfl ?_; exact k) ?_
  show OwnEnd _ _ _ _ _ _ _ (T18.setTop (mkF m 33 #[.val (.ref a0'), .val (.ref a1'), .val (.int (2 : Int32))] [(.ref a0')]))
  obtain ⟨T19, X19, e19, st19⟩ := getF X18 hx hZ hown (host := "") (Or.inl (hw _ (List.mem_of_getElem? (i := 99) rfl))) Via.refl e18 FB (g := (mkF m 33 #[.val (.ref a0'), .val (.ref a1'), .val (.int (2 : Int32))] [(.ref a0')])) rfl rfl (hb hby d_prog_20_method_1_code_33)
  refine go st19 ?_
  refine go (fun _ k => by refine XS.iloadN X19.here hx rfl (hb hby d_prog_20_method_1_code_36) rfl ?_; exact k) ?_
  refine go (fun _ k => by refine XS.aloadN X19.here hx rfl (hb hby d_prog_20_method_1_code_37) rfl rfl ?_; exact k) ?_
  refine go (fun _ k => by refine XS.iloadN X19.here hx rfl (hb hby d_prog_20_method_1_code_38) rfl ?_; exact k) ?_
  show OwnEnd _ _ _ _ _ _ _ (T19.setTop (mkF m 39 #[.val (.ref a0'), .val (.ref a1'), .val (.int (2 : Int32))] [(.int (2 : Int32)), (.ref a1'), (.int (2 : Int32)), (.ref b4)]))
  obtain ⟨_, T20, L20, X20, hQ20, st20⟩ := callFace X19 hx hZ hown (hw _ (List.mem_of_getElem? (i := 101) rfl)) (hw _ (List.mem_of_getElem? (i := 102) rfl)) (mvT hZ (hw _ (List.mem_of_getElem? (i := 103) rfl))) (hw _ (List.mem_of_getElem? (i := 104) rfl)) (hw _ (List.mem_of_getElem? (i := 105) rfl)) (hw _ (List.mem_of_getElem? (i := 106) rfl)) (hw _ (List.mem_of_getElem? (i := 107) rfl)) (hw _ (List.mem_of_getElem? (i := 52) rfl)) (hw _ (List.mem_of_getElem? (i := 2) rfl)) (hw _ (List.mem_of_getElem? (i := 108) rfl)) (by decide) (rm_get2 l Z a0 hw [] a1' gb gk y0 y1 y2 h17 n0 EL GE GS VG) (W := 2) (by decide) (by decide) e19 EL (g := (mkF m 39 #[.val (.ref a0'), .val (.ref a1'), .val (.int (2 : Int32))] [(.int (2 : Int32)), (.ref a1'), (.int (2 : Int32)), (.ref b4)])) rfl (by rw [hml]; rfl) (argsL := [(.int (2 : Int32))]) (rest := [(.int (2 : Int32)), (.ref b4)]) rfl (lenOf pd__I_Ljava_lang_Object_ rfl) rfl (by show 2 * 0 + _ ≤ _; exact Nat.le_of_eq rfl) (hb hby d_prog_20_method_1_code_39) (by decide) (by decide)
  obtain ⟨rfl, Nq20, eq20⟩ := hQ20
  have N20 := Fr.app N17 Nq20
  refine go st20 ?_
  show OwnEnd _ _ _ _ _ _ _ (T20.setTop (mkF m 44 #[.val (.ref a0'), .val (.ref a1'), .val (.int (2 : Int32))] [(.ref y2), (.int (2 : Int32)), (.ref b4)]))
  obtain ⟨T21, X21, e21, st21⟩ := castY X20 hx hZ hown (hw _ (List.mem_of_getElem? (i := 122) rfl)) eq20 (Ins.self EY2) (g := (mkF m 44 #[.val (.ref a0'), .val (.ref a1'), .val (.int (2 : Int32))] [(.ref y2), (.int (2 : Int32)), (.ref b4)])) rfl rfl (hb hby d_prog_20_method_1_code_44)
  refine go st21 ?_
  show OwnEnd _ _ _ _ _ _ _ (T21.setTop (mkF m 47 #[.val (.ref a0'), .val (.ref a1'), .val (.int (2 : Int32))] [(.ref y2), (.int (2 : Int32)), (.ref b4)]))
  obtain ⟨_, T22, L22, X22, hQ22, st22⟩ := callVirt X21 hx hZ hown (hw _ (List.mem_of_getElem? (i := 123) rfl)) (hw _ (List.mem_of_getElem? (i := 124) rfl)) (notFace_of_selects (args := #[]) (mvT hZ (hw _ (List.mem_of_getElem? (i := 126) rfl)))) (hw _ (List.mem_of_getElem? (i := 126) rfl)) (hw _ (List.mem_of_getElem? (i := 125) rfl)) (hw _ (List.mem_of_getElem? (i := 28) rfl)) (hw _ (List.mem_of_getElem? (i := 127) rfl)) (by decide) (rm_dva l Z a0 hw [] y2 u2 h17 n0 FY2) (W := 2) (by decide) (by decide) e21 EY2 (g := (mkF m 47 #[.val (.ref a0'), .val (.ref a1'), .val (.int (2 : Int32))] [(.ref y2), (.int (2 : Int32)), (.ref b4)])) rfl (by rw [hml]; rfl) (argsL := []) (rest := [(.int (2 : Int32)), (.ref b4)]) rfl (lenOf pd___D rfl) rfl (by show 2 * 0 + _ ≤ _; exact Nat.le_of_eq rfl) (hb hby d_prog_20_method_1_code_47) (by decide) (by decide)
  obtain ⟨rfl, Nq22, eq22⟩ := hQ22
  have N22 := Fr.app N20 Nq22
  refine go st22 ?_
  show OwnEnd _ _ _ _ _ _ _ (T22.setTop (mkF m 50 #[.val (.ref a0'), .val (.ref a1'), .val (.int (2 : Int32))] [(.double u2), (.int (2 : Int32)), (.ref b4)]))
  obtain ⟨T23, h23, X23, e23, W23, V_b4', st23⟩ := stDv X22 hx hZ eq22 V_b4 (j := (2 : Int32)) (i := 2) (by decide) (by decide) (by decide) (Nat.le_of_ble_eq_true rfl) (g := (mkF m 50 #[.val (.ref a0'), .val (.ref a1'), .val (.int (2 : Int32))] [(.double u2), (.int (2 : Int32)), (.ref b4)])) rfl rfl (hb hby d_prog_20_method_1_code_50)
  have N23 := Fr.snoc X23 N22 g_b4
  have EA := EA.wr W23
  have Z0 := Nat.le_trans Z0 (Keep.of_wr W23).1
  have KK := Keep.wr KK W23 (Or.inr sz_b4)
  have EL := EL.wr W23
  have GE := GE.other W23 (Or.inl ne_a1__b4)
  have GS := GS.other W23 (Or.inl ne_a1__b4)
  have VG := VG.other W23 ne_gb_b4
  have FU := FU.other W23 (Or.inl ne_a0__b4)
  have FB := FB.other W23 (Or.inl ne_a0__b4)
  have FC := FC.other W23 (Or.inl ne_a0__b4)
  have FX := FX.other W23 (Or.inl ne_a0__b4)
  have EY0 := EY0.wr W23
  have EY1 := EY1.wr W23
  have EY2 := EY2.wr W23
  have FY0 := FY0.other W23 (Or.inl ne_y0_b4)
  have FY1 := FY1.other W23 (Or.inl ne_y1_b4)
  have FY2 := FY2.other W23 (Or.inl ne_y2_b4)
  have V_b4 : Arv Z h23 b4 k4 .double (3 : Int32) [(.double u0), (.double u1), (.double u2)] (.double (0 : UInt64)) := V_b4'
  refine go st23 ?_
  show OwnEnd _ _ _ _ _ _ _ (T23.setTop (mkF m 51 #[.val (.ref a0'), .val (.ref a1'), .val (.int (2 : Int32))] []))
  refine go (fun _ k => by refine XS.iinc X23.here hx rfl (hb hby d_prog_20_method_1_code_51) rfl (l' := #[.val (.ref a0'), .val (.ref a1'), .val (.int ((2 : Int32) + (1 : Int32)))]) rfl ?_; exact k) ?_
  show OwnEnd _ _ _ _ _ _ _ (T23.setTop (mkF m 54 #[.val (.ref a0'), .val (.ref a1'), .val (.int ((2 : Int32) + (1 : Int32)))] []))
  rw [show ((2 : Int32) + (1 : Int32)) = (3 : Int32) from by decide]
  refine go (fun _ k => by refine XS.goto X23.here hx rfl (pc0 := 54) (pc' := 23) rfl (hb hby d_prog_20_method_1_code_54) (by decide) (by decide) ?_; exact k) ?_
  refine go (fun _ k => by refine XS.iloadN X23.here hx rfl (hb hby d_prog_20_method_1_code_23) rfl ?_; exact k) ?_
  refine go (fun _ k => by refine XS.aloadN X23.here hx rfl (hb hby d_prog_20_method_1_code_24) rfl rfl ?_; exact k) ?_
  show OwnEnd _ _ _ _ _ _ _ (T23.setTop (mkF m 25 #[.val (.ref a0'), .val (.ref a1'), .val (.int (3 : Int32))] [(.ref a0'), (.int (3 : Int32))]))
  obtain ⟨T24, X24, e24, st24⟩ := getF X23 hx hZ hown (host := "") (Or.inl (hw _ (List.mem_of_getElem? (i := 99) rfl))) Via.refl e23 FB (g := (mkF m 25 #[.val (.ref a0'), .val (.ref a1'), .val (.int (3 : Int32))] [(.ref a0'), (.int (3 : Int32))])) rfl rfl (hb hby d_prog_20_method_1_code_25)
  refine go st24 ?_
  show OwnEnd _ _ _ _ _ _ _ (T24.setTop (mkF m 28 #[.val (.ref a0'), .val (.ref a1'), .val (.int (3 : Int32))] [(.ref b4), (.int (3 : Int32))]))
  refine go (lenV X24 hx hZ e24 V_b4 (g := (mkF m 28 #[.val (.ref a0'), .val (.ref a1'), .val (.int (3 : Int32))] [(.ref b4), (.int (3 : Int32))])) rfl rfl (hb hby d_prog_20_method_1_code_28)) ?_
  show OwnEnd _ _ _ _ _ _ _ (T24.setTop (mkF m 29 #[.val (.ref a0'), .val (.ref a1'), .val (.int (3 : Int32))] [(.int (3 : Int32)), (.int (3 : Int32))]))
  refine go (fun _ k => by refine XS.icmpYes X24.here hx rfl (pc0 := 29) (pc' := 57) rfl (hb hby d_prog_20_method_1_code_29) rfl (flt (by decide)).2.1 (by decide) (by decide) ?_; exact k) ?_
  refine go (fun _ k => by refine XS.aloadN X24.here hx rfl (hb hby d_prog_20_method_1_code_57) rfl rfl ?_; exact k) ?_
  refine go (fun _ k => by refine XS.aloadN X24.here hx rfl (hb hby d_prog_20_method_1_code_58) rfl rfl ?_; exact k) ?_
  show OwnEnd _ _ _ _ _ _ _ (T24.setTop (mkF m 59 #[.val (.ref a0'), .val (.ref a1'), .val (.int (3 : Int32))] [(.ref a1'), (.ref a0')]))
  obtain ⟨_, T25, L25, X25, hQ25, st25⟩ := callFace X24 hx hZ hown (hw _ (List.mem_of_getElem? (i := 90) rfl)) (hw _ (List.mem_of_getElem? (i := 91) rfl)) (mvT hZ (hw _ (List.mem_of_getElem? (i := 92) rfl))) (hw _ (List.mem_of_getElem? (i := 93) rfl)) (hw _ (List.mem_of_getElem? (i := 94) rfl)) (hw _ (List.mem_of_getElem? (i := 95) rfl)) (hw _ (List.mem_of_getElem? (i := 96) rfl)) (hw _ (List.mem_of_getElem? (i := 52) rfl)) (hw _ (List.mem_of_getElem? (i := 2) rfl)) (hw _ (List.mem_of_getElem? (i := 97) rfl)) (by decide) (rm_siz l Z a0 hw [] a1' (3 : Int32) h23 n0 GS) (W := 1) (by decide) (by decide) e24 EL (g := (mkF m 59 #[.val (.ref a0'), .val (.ref a1'), .val (.int (3 : Int32))] [(.ref a1'), (.ref a0')])) rfl (by rw [hml]; rfl) (argsL := []) (rest := [(.ref a0')]) rfl (lenOf pd___I rfl) rfl (by show 2 * 0 + _ ≤ _; exact Nat.le_of_eq rfl) (hb hby d_prog_20_method_1_code_59) (by decide) (by decide)
  obtain ⟨rfl, Nq25, eq25⟩ := hQ25
  have N25 := Fr.app N23 Nq25
  refine go st25 ?_
  show OwnEnd _ _ _ _ _ _ _ (T25.setTop (mkF m 64 #[.val (.ref a0'), .val (.ref a1'), .val (.int (3 : Int32))] [(.int (3 : Int32)), (.ref a0')]))
  obtain ⟨T26, h26, k26, X26, e26, E26, A26, XA26, st26⟩ := newPE X25 hx hZ (hw _ (List.mem_of_getElem? (i := 128) rfl)) eq25 (g := (mkF m 64 #[.val (.ref a0'), .val (.ref a1'), .val (.int (3 : Int32))] [(.int (3 : Int32)), (.ref a0')])) rfl (hb hby d_prog_20_method_1_code_64) rfl (by decide) (cap := 3) (by decide) (by decide) (by decide) (by decide) (ad := "[J") rfl
  obtain ⟨b26, g26⟩ : ∃ z, z = h23.size := ⟨_, rfl⟩
  rw [← g26] at A26 XA26 st26
  have ne_a0__b26 : a0' ≠ b26 := fun q => absurd EA.lt (by rw [q, g26]; exact Nat.lt_irrefl _)
  have ne_a1__b26 : a1' ≠ b26 := fun q => absurd EL.lt (by rw [q, g26]; exact Nat.lt_irrefl _)
  have ne_gb_b26 : gb ≠ b26 := fun q => absurd VG.lt (by rw [q, g26]; exact Nat.lt_irrefl _)
  have ne_y0_b26 : y0 ≠ b26 := fun q => absurd EY0.lt (by rw [q, g26]; exact Nat.lt_irrefl _)
  have ne_y1_b26 : y1 ≠ b26 := fun q => absurd EY1.lt (by rw [q, g26]; exact Nat.lt_irrefl _)
  have ne_y2_b26 : y2 ≠ b26 := fun q => absurd EY2.lt (by rw [q, g26]; exact Nat.lt_irrefl _)
  have ne_b4_b26 : b4 ≠ b26 := fun q => absurd V_b4.lt (by rw [q, g26]; exact Nat.lt_irrefl _)
  have g_b26 : n0 ≤ b26 := Nat.le_trans Z0 (Nat.le_of_eq g26.symm)
  have sz_b26 : h0.size ≤ b26 := Nat.le_trans KK.1 (Nat.le_of_eq g26.symm)
  have EA := EA.ext E26
  have Z0 := Nat.le_trans Z0 E26.1
  have KK := Keep.ext KK E26
  have EL := EL.ext E26
  have GE := GE.ext E26
  have GS := GS.ext E26
  have VG := VG.ext E26
  have FU := FU.ext E26
  have FB := FB.ext E26
  have FC := FC.ext E26
  have FX := FX.ext E26
  have EY0 := EY0.ext E26
  have EY1 := EY1.ext E26
  have EY2 := EY2.ext E26
  have FY0 := FY0.ext E26
  have FY1 := FY1.ext E26
  have FY2 := FY2.ext E26
  have V_b4 := V_b4.ext E26
  have E_b26 := XA26
  have V_b26 : Arv Z h26 b26 k26 .long (3 : Int32) [(.long (0 : Int64)), (.long (0 : Int64)), (.long (0 : Int64))] (.long (0 : Int64)) := (Arv.new A26 (by decide)).pad (pad_rep [] (.long (0 : Int64)) 3)
  refine go st26 ?_
  show OwnEnd _ _ _ _ _ _ _ (T26.setTop (mkF m 66 #[.val (.ref a0'), .val (.ref a1'), .val (.int (3 : Int32))] [(.ref b26), (.ref a0')]))
  obtain ⟨T27, h27, X27, e27, W27, st27⟩ := putF X26 hx hZ hown (host := "") (Or.inl (hw _ (List.mem_of_getElem? (i := 129) rfl))) Via.refl e26 FC EA (Or.inr ⟨(hw _ (List.mem_of_getElem? (i := 130) rfl)), rfl, hnm⟩) (hw _ (List.mem_of_getElem? (i := 82) rfl)) (ty := (.array .long)) (by decide) rfl rfl (g := (mkF m 66 #[.val (.ref a0'), .val (.ref a1'), .val (.int (3 : Int32))] [(.ref b26), (.ref a0')])) rfl rfl (hb hby d_prog_20_method_1_code_66)
  have N27 := Fr.snoc X27 N25 ga
  have EA := EA.wr W27
  have Z0 := Nat.le_trans Z0 (Keep.of_wr W27).1
  have KK := Keep.wr KK W27 (Or.inl (List.mem_of_getElem? (i := 0) rfl))
  have EL := EL.wr W27
  have GE := GE.other W27 (Or.inl nla)
  have GS := GS.other W27 (Or.inl nla)
  have VG := VG.other W27 nga
  have FU := FU.other W27 (Or.inr (slot_ne (Or.inr (hw _ (List.mem_of_getElem? (i := 89) rfl))) (Or.inr (hw _ (List.mem_of_getElem? (i := 130) rfl))) (by decide) (t := (.object "java/util/List")) (t' := (.array .long)) (by decide) (by decide)))
  have FB := FB.other W27 (Or.inr (slot_ne (Or.inr (hw _ (List.mem_of_getElem? (i := 100) rfl))) (Or.inr (hw _ (List.mem_of_getElem? (i := 130) rfl))) (by decide) (t := (.array .double)) (t' := (.array .long)) (by decide) (by decide)))
  have FX := FX.other W27 (Or.inr (slot_ne (Or.inl (hw _ (List.mem_of_getElem? (i := 137) rfl))) (Or.inr (hw _ (List.mem_of_getElem? (i := 130) rfl))) (by decide) (t := .double) (t' := (.array .long)) (by decide) (by decide)))
  have EY0 := EY0.wr W27
  have EY1 := EY1.wr W27
  have EY2 := EY2.wr W27
  have FY0 := FY0.other W27 (Or.inl ny0)
  have FY1 := FY1.other W27 (Or.inl ny1)
  have FY2 := FY2.other W27 (Or.inl ny2)
  have V_b4 := V_b4.other W27 (Ne.symm ne_a0__b4)
  have E_b26 := E_b26.wr W27
  have V_b26 := V_b26.other W27 (Ne.symm ne_a0__b26)
  have FC := FC.same W27
  refine go st27 ?_
  show OwnEnd _ _ _ _ _ _ _ (T27.setTop (mkF m 69 #[.val (.ref a0'), .val (.ref a1'), .val (.int (3 : Int32))] []))
  refine endV X27 hx hlk Bd.returns (hb hby d_prog_20_method_1_code_69) e27 (by decide) (by decide) ?_
  exact ⟨b4, _, b26, _, rfl, N27, KK, g_b4, g_b26, sz_b4, sz_b26, ne_b4_b26, EA, FU, FB, FC, FX.zeroD, V_b4, V_b26, E_b26⟩
theorem d_prog_20_method_2_code_0 : decode prog_20_method_2_code 0 = .ok (.iconst 0, 1) := by decide +kernel
theorem d_prog_20_method_2_code_1 : decode prog_20_method_2_code 1 = .ok (.istore_n 3, 1) := by decide +kernel
theorem d_prog_20_method_2_code_2 : decode prog_20_method_2_code 2 = .ok (.dload_n 1, 1) := by decide +kernel
theorem d_prog_20_method_2_code_3 : decode prog_20_method_2_code 3 = .ok (.aload_n 0, 1) := by decide +kernel
theorem d_prog_20_method_2_code_4 : decode prog_20_method_2_code 4 = .ok (.getfield 19, 3) := by decide +kernel
theorem d_prog_20_method_2_code_7 : decode prog_20_method_2_code 7 = .ok (.iload_n 3, 1) := by decide +kernel
theorem d_prog_20_method_2_code_8 : decode prog_20_method_2_code 8 = .ok (.daload, 1) := by decide +kernel
theorem d_prog_20_method_2_code_9 : decode prog_20_method_2_code 9 = .ok (.dcmp .l, 1) := by decide +kernel
theorem d_prog_20_method_2_code_10 : decode prog_20_method_2_code 10 = .ok (.ifCond .le 9, 3) := by decide +kernel
theorem d_prog_20_method_2_code_13 : decode prog_20_method_2_code 13 = .ok (.iinc 3 1, 3) := by decide +kernel
theorem d_prog_20_method_2_code_16 : decode prog_20_method_2_code 16 = .ok (.goto (-14), 3) := by decide +kernel
theorem d_prog_20_method_2_code_19 : decode prog_20_method_2_code 19 = .ok (.aload_n 0, 1) := by decide +kernel
theorem d_prog_20_method_2_code_20 : decode prog_20_method_2_code 20 = .ok (.getfield 33, 3) := by decide +kernel
theorem d_prog_20_method_2_code_23 : decode prog_20_method_2_code 23 = .ok (.iload_n 3, 1) := by decide +kernel
theorem d_prog_20_method_2_code_24 : decode prog_20_method_2_code 24 = .ok (.dup2, 1) := by decide +kernel
theorem d_prog_20_method_2_code_25 : decode prog_20_method_2_code 25 = .ok (.laload, 1) := by decide +kernel
theorem d_prog_20_method_2_code_26 : decode prog_20_method_2_code 26 = .ok (.lconst 1, 1) := by decide +kernel
theorem d_prog_20_method_2_code_27 : decode prog_20_method_2_code 27 = .ok (.ladd, 1) := by decide +kernel
theorem d_prog_20_method_2_code_28 : decode prog_20_method_2_code 28 = .ok (.lastore, 1) := by decide +kernel
theorem d_prog_20_method_2_code_29 : decode prog_20_method_2_code 29 = .ok (.aload_n 0, 1) := by decide +kernel
theorem d_prog_20_method_2_code_30 : decode prog_20_method_2_code 30 = .ok (.dup, 1) := by decide +kernel
theorem d_prog_20_method_2_code_31 : decode prog_20_method_2_code 31 = .ok (.getfield 37, 3) := by decide +kernel
theorem d_prog_20_method_2_code_34 : decode prog_20_method_2_code 34 = .ok (.dload_n 1, 1) := by decide +kernel
theorem d_prog_20_method_2_code_35 : decode prog_20_method_2_code 35 = .ok (.dadd, 1) := by decide +kernel
theorem d_prog_20_method_2_code_36 : decode prog_20_method_2_code 36 = .ok (.putfield 37, 3) := by decide +kernel
theorem d_prog_20_method_2_code_39 : decode prog_20_method_2_code 39 = .ok (.return_, 1) := by decide +kernel
theorem ef_rm_obs (m : MethodId) (y0 : Addr) (y1 : UInt64) : entryFrame m #[(.ref y0), (.double y1)] 4 = mkF m 0 #[.val (.ref y0), .val (.double y1), .second, .unset] [] := by first | (simp [entryFrame, mkF, argsToLocals, Value.category]; done) | rfl
def Q_rm_obs (Z : State) (a0' : Addr) (w : Int64) (ul : Addr) (ba : Addr) (bk : ClassId) (ca : Addr) (ck : ClassId) (b0 : Int64) (b1 : Int64) (c0 : Int64) (c1 : Int64) (c2 : Int64) (sm : Int64) (h0 : Heap) (n0 : Nat) (v : Option Value) (h : Heap) (L : List Loc) : Prop := v = none ∧ Fr n0 L ∧ Keep h0 h [a0', ca] ∧ Exa Z h a0' "com/example/waitsfor/waitsfor/Histogram$Recorder" ∧ Fld Z h a0' "com/example/waitsfor/waitsfor/Histogram$Recorder" "upperBounds" "Ljava/util/List;" (.ref ul) ∧ Fld Z h a0' "com/example/waitsfor/waitsfor/Histogram$Recorder" "bounds" "[D" (.ref ba) ∧ Fld Z h a0' "com/example/waitsfor/waitsfor/Histogram$Recorder" "counts" "[J" (.ref ca) ∧ Fld Z h a0' "com/example/waitsfor/waitsfor/Histogram$Recorder" "sum" "D" (.double (FP.l2d (sm + w))) ∧ Arv Z h ca ck .long 3 [(.long (c0 + own_k0 w b0 b1)), (.long (c1 + own_k1 w b0 b1)), (.long (c2 + own_k2 w b0 b1))] (.long 0)
set_option maxRecDepth 65536 in
set_option maxHeartbeats 40000000 in
theorem rm_obs (l : Launch) (Z : State) (a0 : Array Value) (hw : ∀ d ∈ tables_1, d.before a0 Z = true) (ws : List Jvm.Cond) (a0' : Addr) (w : Int64) (ul : Addr) (ba : Addr) (bk : ClassId) (ca : Addr) (ck : ClassId) (b0 : Int64) (b1 : Int64) (c0 : Int64) (c1 : Int64) (c2 : Int64) (sm : Int64) (h0 : Heap) (n0 : Nat) (ga : n0 ≤ a0') (gc : n0 ≤ ca) (nac : a0' ≠ ca) (nab : a0' ≠ ba) (nbc : ba ≠ ca) (hsw : own_sm w 2147483648) (hs0 : own_sm b0 4294967297) (hs1 : own_sm b1 4294967297) (hss : own_sm sm 4294967296) (EA : Exa Z h0 a0' "com/example/waitsfor/waitsfor/Histogram$Recorder") (FU : Fld Z h0 a0' "com/example/waitsfor/waitsfor/Histogram$Recorder" "upperBounds" "Ljava/util/List;" (.ref ul)) (FB : Fld Z h0 a0' "com/example/waitsfor/waitsfor/Histogram$Recorder" "bounds" "[D" (.ref ba)) (FC : Fld Z h0 a0' "com/example/waitsfor/waitsfor/Histogram$Recorder" "counts" "[J" (.ref ca)) (FX : Fld Z h0 a0' "com/example/waitsfor/waitsfor/Histogram$Recorder" "sum" "D" (.double (FP.l2d sm))) (VB : Arv Z h0 ba bk .double 3 [(.double (FP.l2d b0)), (.double (FP.l2d b1)), (.double (9218868437227405312 : UInt64))] (.double 0)) (VC : Arv Z h0 ca ck .long 3 [(.long c0), (.long c1), (.long c2)] (.long 0)) :
    MetFree l (⟨"com/example/waitsfor/waitsfor/Histogram$Recorder", "observe", "(D)V"⟩ : MethodName) (head1 (Jvm.Cond.code (⟨"com/example/waitsfor/waitsfor/Histogram$Recorder", "observe", "(D)V"⟩ : MethodName) prog_20_method_2_code 4 none :: ws) ({ frames := 0, cells := 0, slots := 0, locals := 0 } : Room)) (fun a U => a = #[(.ref a0'), (.double (FP.l2d w))] ∧ Z.Warmed39 U.vm ∧ U.heap = h0) (fun _ _ _ _ _ => True) (fun _ U o U' => ∃ v L, o = .returned v ∧ Q_rm_obs Z a0' w ul ba bk ca ck b0 b1 c0 c1 c2 sm h0 n0 v U'.heap L ∧ FrameEnd U o U' L 0 0) := by
  refine MetFree.of_bodySF (plainFor_of_name pn_com_example_waitsfor_waitsfor_Histogram_Recorder) hisR ?_
  intro p e s m args below meth c s₁ Bd hml0 hP hK
  obtain ⟨rfl, hZ, hh⟩ := hP
  have hx := Bd.exec
  have hby := Bd.bytes
  have hlk := Bd.notSynchronized
  have hml : c.maxLocals = 4 := hml0
  have hown : s.vm.findClass "com/example/waitsfor/waitsfor/Histogram$Recorder" = some m.cls := findClass_of_methodNamed Bd.named
  have hnm := (name_of_methodNamed Bd.named Bd.method).1
  have X0 : Stand p l e ({ frames := 0, cells := 0, slots := 0, locals := 0 } : Room) s m #[(.ref a0'), (.double (FP.l2d w))] below meth c s₁ [] 0 0 := Stand.of_body Bd
  have e0 : s₁.heap = h0 := by rw [← hh, Bd.state]; rfl
  have N0 := Fr.nil n0
  show OwnEnd p e below s (Q_rm_obs Z a0' w ul ba bk ca ck b0 b1 c0 c1 c2 sm h0 n0) 0 0 (s₁.setTop (entryFrame m #[(.ref a0'), (.double (FP.l2d w))] 4))
  refine go (fun t k => castTop (ef_rm_obs m a0' (FP.l2d w)) k) ?_
  have KK := Keep.refl h0 [a0', ca]
  show OwnEnd _ _ _ _ _ _ _ (s₁.setTop (mkF m 0 #[.val (.ref a0'), .val (.double (FP.l2d w)), .second, .unset] []))
  refine go (fun _ k => by refine XS.iconst X0.here hx rfl (hb hby d_prog_20_method_2_code_0) ?_; exact k) ?_
  refine go (fun _ k => by refine XS.istoreN X0.here hx rfl (hb hby d_prog_20_method_2_code_1) rfl (l' := #[.val (.ref a0'), .val (.double (FP.l2d w)), .second, .val (.int (0 : Int32))]) rfl ?_; exact k) ?_
  refine go (fun _ k => by refine XS.dloadN X0.here hx rfl (hb hby d_prog_20_method_2_code_2) rfl ?_; exact k) ?_
  refine go (fun _ k => by refine XS.aloadN X0.here hx rfl (hb hby d_prog_20_method_2_code_3) rfl rfl ?_; exact k) ?_
  show OwnEnd _ _ _ _ _ _ _ (s₁.setTop (mkF m 4 #[.val (.ref a0'), .val (.double (FP.l2d w)), .second, .val (.int (0 : Int32))] [(.ref a0'), (.double (FP.l2d w))]))
  obtain ⟨T1, X1, e1, st1⟩ := getF X0 hx hZ hown (host := "") (Or.inl (hw _ (List.mem_of_getElem? (i := 99) rfl))) Via.refl e0 FB (g := (mkF m 4 #[.val (.ref a0'), .val (.double (FP.l2d w)), .second, .val (.int (0 : Int32))] [(.ref a0'), (.double (FP.l2d w))])) rfl rfl (hb hby d_prog_20_method_2_code_4)
  refine go st1 ?_
  refine go (fun _ k => by refine XS.iloadN X1.here hx rfl (hb hby d_prog_20_method_2_code_7) rfl ?_; exact k) ?_
  show OwnEnd _ _ _ _ _ _ _ (T1.setTop (mkF m 8 #[.val (.ref a0'), .val (.double (FP.l2d w)), .second, .val (.int (0 : Int32))] [(.int (0 : Int32)), (.ref ba), (.double (FP.l2d w))]))
  refine go (ldDv X1 hx hZ e1 VB (j := (0 : Int32)) (i := 0) (w := (FP.l2d b0)) (by decide) (by decide) (by decide) rfl (g := (mkF m 8 #[.val (.ref a0'), .val (.double (FP.l2d w)), .second, .val (.int (0 : Int32))] [(.int (0 : Int32)), (.ref ba), (.double (FP.l2d w))])) rfl rfl (hb hby d_prog_20_method_2_code_8)) ?_
  show OwnEnd _ _ _ _ _ _ _ (T1.setTop (mkF m 9 #[.val (.ref a0'), .val (.double (FP.l2d w)), .second, .val (.int (0 : Int32))] [(.double (FP.l2d b0)), (.double (FP.l2d w))]))
  refine go (fun _ k => by refine XS.dcmpS X1.here hx rfl (hb hby d_prog_20_method_2_code_9) rfl (dcmpV_w (own_smb hsw (by decide)) (own_smb hs0 (by decide)) _) ?_; exact k) ?_
  show OwnEnd _ _ _ _ _ _ _ (T1.setTop (mkF m 10 #[.val (.ref a0'), .val (.double (FP.l2d w)), .second, .val (.int (0 : Int32))] [(.int (lcmpW w b0))]))
  by_cases hc10_2 : b0 < w
  · refine go (fun _ k => by refine XS.ifNo X1.here hx rfl (hb hby d_prog_20_method_2_code_10) rfl ((if0 _ _).trans (tlt ((lw_gt _ _).mpr hc10_2)).2.2.2) ?_; exact k) ?_
    show OwnEnd _ _ _ _ _ _ _ (T1.setTop (mkF m 13 #[.val (.ref a0'), .val (.double (FP.l2d w)), .second, .val (.int (0 : Int32))] []))
    refine go (fun _ k => by refine XS.iinc X1.here hx rfl (hb hby d_prog_20_method_2_code_13) rfl (l' := #[.val (.ref a0'), .val (.double (FP.l2d w)), .second, .val (.int ((0 : Int32) + (1 : Int32)))]) rfl ?_; exact k) ?_
    show OwnEnd _ _ _ _ _ _ _ (T1.setTop (mkF m 16 #[.val (.ref a0'), .val (.double (FP.l2d w)), .second, .val (.int ((0 : Int32) + (1 : Int32)))] []))
    rw [show ((0 : Int32) + (1 : Int32)) = (1 : Int32) from by decide]
    refine go (fun _ k => by refine XS.goto X1.here hx rfl (pc0 := 16) (pc' := 2) rfl (hb hby d_prog_20_method_2_code_16) (by decide) (by decide) ?_; exact k) ?_
    refine go (fun _ k => by refine XS.dloadN X1.here hx rfl (hb hby d_prog_20_method_2_code_2) rfl ?_; exact k) ?_
    refine go (fun _ k => by refine XS.aloadN X1.here hx rfl (hb hby d_prog_20_method_2_code_3) rfl rfl ?_; exact k) ?_
    show OwnEnd _ _ _ _ _ _ _ (T1.setTop (mkF m 4 #[.val (.ref a0'), .val (.double (FP.l2d w)), .second, .val (.int (1 : Int32))] [(.ref a0'), (.double (FP.l2d w))]))
    obtain ⟨T3, X3, e3, st3⟩ := getF X1 hx hZ hown (host := "") (Or.inl (hw _ (List.mem_of_getElem? (i := 99) rfl))) Via.refl e1 FB (g := (mkF m 4 #[.val (.ref a0'), .val (.double (FP.l2d w)), .second, .val (.int (1 : Int32))] [(.ref a0'), (.double (FP.l2d w))])) rfl rfl (hb hby d_prog_20_method_2_code_4)
    refine go st3 ?_
    refine go (fun _ k => by refine XS.iloadN X3.here hx rfl (hb hby d_prog_20_method_2_code_7) rfl ?_; exact k) ?_
    show OwnEnd _ _ _ _ _ _ _ (T3.setTop (mkF m 8 #[.val (.ref a0'), .val (.double (FP.l2d w)), .second, .val (.int (1 : Int32))] [(.int (1 : Int32)), (.ref ba), (.double (FP.l2d w))]))
    refine go (ldDv X3 hx hZ e3 VB (j := (1 : Int32)) (i := 1) (w := (FP.l2d b1)) (by decide) (by decide) (by decide) rfl (g := (mkF m 8 #[.val (.ref a0'), .val (.double (FP.l2d w)), .second, .val (.int (1 : Int32))] [(.int (1 : Int32)), (.ref ba), (.double (FP.l2d w))])) rfl rfl (hb hby d_prog_20_method_2_code_8)) ?_
    show OwnEnd _ _ _ _ _ _ _ (T3.setTop (mkF m 9 #[.val (.ref a0'), .val (.double (FP.l2d w)), .second, .val (.int (1 : Int32))] [(.double (FP.l2d b1)), (.double (FP.l2d w))]))
    refine go (fun _ k => by refine XS.dcmpS X3.here hx rfl (hb hby d_prog_20_method_2_code_9) rfl (dcmpV_w (own_smb hsw (by decide)) (own_smb hs1 (by decide)) _) ?_; exact k) ?_
    show OwnEnd _ _ _ _ _ _ _ (T3.setTop (mkF m 10 #[.val (.ref a0'), .val (.double (FP.l2d w)), .second, .val (.int (1 : Int32))] [(.int (lcmpW w b1))]))
    by_cases hc10_4 : b1 < w
    · refine go (fun _ k => by refine XS.ifNo X3.here hx rfl (hb hby d_prog_20_method_2_code_10) rfl ((if0 _ _).trans (tlt ((lw_gt _ _).mpr hc10_4)).2.2.2) ?_; exact k) ?_
      show OwnEnd _ _ _ _ _ _ _ (T3.setTop (mkF m 13 #[.val (.ref a0'), .val (.double (FP.l2d w)), .second, .val (.int (1 : Int32))] []))
      refine go (fun _ k => by refine XS.iinc X3.here hx rfl (hb hby d_prog_20_method_2_code_13) rfl (l' := #[.val (.ref a0'), .val (.double (FP.l2d w)), .second, .val (.int ((1 : Int32) + (1 : Int32)))]) rfl ?_; exact k) ?_
      show OwnEnd _ _ _ _ _ _ _ (T3.setTop (mkF m 16 #[.val (.ref a0'), .val (.double (FP.l2d w)), .second, .val (.int ((1 : Int32) + (1 : Int32)))] []))
      rw [show ((1 : Int32) + (1 : Int32)) = (2 : Int32) from by decide]
      refine go (fun _ k => by refine XS.goto X3.here hx rfl (pc0 := 16) (pc' := 2) rfl (hb hby d_prog_20_method_2_code_16) (by decide) (by decide) ?_; exact k) ?_
      refine go (fun _ k => by refine XS.dloadN X3.here hx rfl (hb hby d_prog_20_method_2_code_2) rfl ?_; exact k) ?_
      refine go (fun _ k => by refine XS.aloadN X3.here hx rfl (hb hby d_prog_20_method_2_code_3) rfl rfl ?_; exact k) ?_
      show OwnEnd _ _ _ _ _ _ _ (T3.setTop (mkF m 4 #[.val (.ref a0'), .val (.double (FP.l2d w)), .second, .val (.int (2 : Int32))] [(.ref a0'), (.double (FP.l2d w))]))
      obtain ⟨T5, X5, e5, st5⟩ := getF X3 hx hZ hown (host := "") (Or.inl (hw _ (List.mem_of_getElem? (i := 99) rfl))) Via.refl e3 FB (g := (mkF m 4 #[.val (.ref a0'), .val (.double (FP.l2d w)), .second, .val (.int (2 : Int32))] [(.ref a0'), (.double (FP.l2d w))])) rfl rfl (hb hby d_prog_20_method_2_code_4)
      refine go st5 ?_
      refine go (fun _ k => by refine XS.iloadN X5.here hx rfl (hb hby d_prog_20_method_2_code_7) rfl ?_; exact k) ?_
      show OwnEnd _ _ _ _ _ _ _ (T5.setTop (mkF m 8 #[.val (.ref a0'), .val (.double (FP.l2d w)), .second, .val (.int (2 : Int32))] [(.int (2 : Int32)), (.ref ba), (.double (FP.l2d w))]))
      refine go (ldDv X5 hx hZ e5 VB (j := (2 : Int32)) (i := 2) (w := (9218868437227405312 : UInt64)) (by decide) (by decide) (by decide) rfl (g := (mkF m 8 #[.val (.ref a0'), .val (.double (FP.l2d w)), .second, .val (.int (2 : Int32))] [(.int (2 : Int32)), (.ref ba), (.double (FP.l2d w))])) rfl rfl (hb hby d_prog_20_method_2_code_8)) ?_
      show OwnEnd _ _ _ _ _ _ _ (T5.setTop (mkF m 9 #[.val (.ref a0'), .val (.double (FP.l2d w)), .second, .val (.int (2 : Int32))] [(.double (9218868437227405312 : UInt64)), (.double (FP.l2d w))]))
      refine go (fun _ k => by refine XS.dcmpS X5.here hx rfl (hb hby d_prog_20_method_2_code_9) rfl (dcmp_pinf (Jvm.Free.Fl.l2d_fin w) _) ?_; exact k) ?_
      show OwnEnd _ _ _ _ _ _ _ (T5.setTop (mkF m 10 #[.val (.ref a0'), .val (.double (FP.l2d w)), .second, .val (.int (2 : Int32))] [(.int (-1 : Int32))]))
      refine go (fun _ k => by refine XS.ifYes X5.here hx rfl (pc0 := 10) (pc' := 19) rfl (hb hby d_prog_20_method_2_code_10) rfl ((if0 _ _).trans (flt (by decide)).2.2.2) (by decide) (by decide) ?_; exact k) ?_
      refine go (fun _ k => by refine XS.aloadN X5.here hx rfl (hb hby d_prog_20_method_2_code_19) rfl rfl ?_; exact k) ?_
      show OwnEnd _ _ _ _ _ _ _ (T5.setTop (mkF m 20 #[.val (.ref a0'), .val (.double (FP.l2d w)), .second, .val (.int (2 : Int32))] [(.ref a0')]))
      obtain ⟨T6, X6, e6, st6⟩ := getF X5 hx hZ hown (host := "") (Or.inl (hw _ (List.mem_of_getElem? (i := 129) rfl))) Via.refl e5 FC (g := (mkF m 20 #[.val (.ref a0'), .val (.double (FP.l2d w)), .second, .val (.int (2 : Int32))] [(.ref a0')])) rfl rfl (hb hby d_prog_20_method_2_code_20)
      refine go st6 ?_
      refine go (fun _ k => by refine XS.iloadN X6.here hx rfl (hb hby d_prog_20_method_2_code_23) rfl ?_; exact k) ?_
      show OwnEnd _ _ _ _ _ _ _ (T6.setTop (mkF m 24 #[.val (.ref a0'), .val (.double (FP.l2d w)), .second, .val (.int (2 : Int32))] [(.int (2 : Int32)), (.ref ca)]))
      refine go (fun _ k => by refine Jvm.Free.XT.dup2 X6.here hx rfl (hb hby d_prog_20_method_2_code_24) rfl rfl rfl ?_; exact k) ?_
      show OwnEnd _ _ _ _ _ _ _ (T6.setTop (mkF m 25 #[.val (.ref a0'), .val (.double (FP.l2d w)), .second, .val (.int (2 : Int32))] [(.int (2 : Int32)), (.ref ca), (.int (2 : Int32)), (.ref ca)]))
      refine go (ldJv X6 hx hZ e6 VC (j := (2 : Int32)) (i := 2) (w := c2) (by decide) (by decide) (by decide) rfl (g := (mkF m 25 #[.val (.ref a0'), .val (.double (FP.l2d w)), .second, .val (.int (2 : Int32))] [(.int (2 : Int32)), (.ref ca), (.int (2 : Int32)), (.ref ca)])) rfl rfl (hb hby d_prog_20_method_2_code_25)) ?_
      refine go (fun _ k => by refine XS.lconst X6.here hx rfl (hb hby d_prog_20_method_2_code_26) ?_; exact k) ?_
      refine go (fun _ k => by refine XS.ladd X6.here hx rfl (hb hby d_prog_20_method_2_code_27) rfl ?_; exact k) ?_
      show OwnEnd _ _ _ _ _ _ _ (T6.setTop (mkF m 28 #[.val (.ref a0'), .val (.double (FP.l2d w)), .second, .val (.int (2 : Int32))] [(.long (c2 + (1 : Int64))), (.int (2 : Int32)), (.ref ca)]))
      obtain ⟨T7, h7, X7, e7, W7, VC', st7⟩ := stJv X6 hx hZ e6 VC (j := (2 : Int32)) (i := 2) (by decide) (by decide) (by decide) (Nat.le_of_ble_eq_true rfl) (g := (mkF m 28 #[.val (.ref a0'), .val (.double (FP.l2d w)), .second, .val (.int (2 : Int32))] [(.long (c2 + (1 : Int64))), (.int (2 : Int32)), (.ref ca)])) rfl rfl (hb hby d_prog_20_method_2_code_28)
      have N7 := Fr.snoc X7 N0 gc
      have EA := EA.wr W7
      have KK := Keep.wr KK W7 (Or.inl (List.mem_of_getElem? (i := 1) rfl))
      have VB := VB.other W7 nbc
      have FU := FU.other W7 (Or.inl nac)
      have FB := FB.other W7 (Or.inl nac)
      have FC := FC.other W7 (Or.inl nac)
      have FX := FX.other W7 (Or.inl nac)
      have VC : Arv Z h7 ca ck .long (3 : Int32) [(.long c0), (.long c1), (.long (c2 + (1 : Int64)))] (.long (0 : Int64)) := VC'
      refine go st7 ?_
      refine go (fun _ k => by refine XS.aloadN X7.here hx rfl (hb hby d_prog_20_method_2_code_29) rfl rfl ?_; exact k) ?_
      refine go (fun _ k => by refine XS.dup X7.here hx rfl (hb hby d_prog_20_method_2_code_30) rfl rfl ?_; exact k) ?_
      show OwnEnd _ _ _ _ _ _ _ (T7.setTop (mkF m 31 #[.val (.ref a0'), .val (.double (FP.l2d w)), .second, .val (.int (2 : Int32))] [(.ref a0'), (.ref a0')]))
      obtain ⟨T8, X8, e8, st8⟩ := getF X7 hx hZ hown (host := "") (Or.inl (hw _ (List.mem_of_getElem? (i := 136) rfl))) Via.refl e7 FX (g := (mkF m 31 #[.val (.ref a0'), .val (.double (FP.l2d w)), .second, .val (.int (2 : Int32))] [(.ref a0'), (.ref a0')])) rfl rfl (hb hby d_prog_20_method_2_code_31)
      refine go st8 ?_
      refine go (fun _ k => by refine XS.dloadN X8.here hx rfl (hb hby d_prog_20_method_2_code_34) rfl ?_; exact k) ?_
      show OwnEnd _ _ _ _ _ _ _ (T8.setTop (mkF m 35 #[.val (.ref a0'), .val (.double (FP.l2d w)), .second, .val (.int (2 : Int32))] [(.double (FP.l2d w)), (.double (FP.l2d sm)), (.ref a0')]))
      refine go (fun _ k => by refine XS.daddS X8.here hx rfl (hb hby d_prog_20_method_2_code_35) rfl (nn_w (dadd_w (own_smb hss (by decide)) (own_smb hsw (by decide)))) (dadd_w (own_smb hss (by decide)) (own_smb hsw (by decide))) ?_; exact k) ?_
      show OwnEnd _ _ _ _ _ _ _ (T8.setTop (mkF m 36 #[.val (.ref a0'), .val (.double (FP.l2d w)), .second, .val (.int (2 : Int32))] [(.double (FP.l2d (sm + w))), (.ref a0')]))
      obtain ⟨T9, h9, X9, e9, W9, st9⟩ := putF X8 hx hZ hown (host := "") (Or.inl (hw _ (List.mem_of_getElem? (i := 136) rfl))) Via.refl e8 FX EA (Or.inl (hw _ (List.mem_of_getElem? (i := 137) rfl))) (hw _ (List.mem_of_getElem? (i := 82) rfl)) (ty := .double) (by decide) rfl rfl (g := (mkF m 36 #[.val (.ref a0'), .val (.double (FP.l2d w)), .second, .val (.int (2 : Int32))] [(.double (FP.l2d (sm + w))), (.ref a0')])) rfl rfl (hb hby d_prog_20_method_2_code_36)
      have N9 := Fr.snoc X9 N7 ga
      have EA := EA.wr W9
      have KK := Keep.wr KK W9 (Or.inl (List.mem_of_getElem? (i := 0) rfl))
      have VB := VB.other W9 (Ne.symm nab)
      have VC := VC.other W9 (Ne.symm nac)
      have FU := FU.other W9 (Or.inr (slot_ne (Or.inr (hw _ (List.mem_of_getElem? (i := 89) rfl))) (Or.inl (hw _ (List.mem_of_getElem? (i := 137) rfl))) (by decide) (t := (.object "java/util/List")) (t' := .double) (by decide) (by decide)))
      have FB := FB.other W9 (Or.inr (slot_ne (Or.inr (hw _ (List.mem_of_getElem? (i := 100) rfl))) (Or.inl (hw _ (List.mem_of_getElem? (i := 137) rfl))) (by decide) (t := (.array .double)) (t' := .double) (by decide) (by decide)))
      have FC := FC.other W9 (Or.inr (slot_ne (Or.inr (hw _ (List.mem_of_getElem? (i := 130) rfl))) (Or.inl (hw _ (List.mem_of_getElem? (i := 137) rfl))) (by decide) (t := (.array .long)) (t' := .double) (by decide) (by decide)))
      have FX := FX.same W9
      refine go st9 ?_
      show OwnEnd _ _ _ _ _ _ _ (T9.setTop (mkF m 39 #[.val (.ref a0'), .val (.double (FP.l2d w)), .second, .val (.int (2 : Int32))] []))
      refine endV X9 hx hlk Bd.returns (hb hby d_prog_20_method_2_code_39) e9 (by decide) (by decide) ?_
      exact ⟨rfl, N9, KK, EA, FU, FB, FC, FX, by obtain ⟨e1, e2, e3⟩ := own_kC hc10_2 hc10_4; rw [e1, e2, e3]; simp only [Int64.add_zero]; exact VC⟩
    · refine go (fun _ k => by refine XS.ifYes X3.here hx rfl (pc0 := 10) (pc' := 19) rfl (hb hby d_prog_20_method_2_code_10) rfl ((if0 _ _).trans (flt (fun q => hc10_4 ((lw_gt _ _).mp q))).2.2.2) (by decide) (by decide) ?_; exact k) ?_
      show OwnEnd _ _ _ _ _ _ _ (T3.setTop (mkF m 19 #[.val (.ref a0'), .val (.double (FP.l2d w)), .second, .val (.int (1 : Int32))] []))
      refine go (fun _ k => by refine XS.aloadN X3.here hx rfl (hb hby d_prog_20_method_2_code_19) rfl rfl ?_; exact k) ?_
      show OwnEnd _ _ _ _ _ _ _ (T3.setTop (mkF m 20 #[.val (.ref a0'), .val (.double (FP.l2d w)), .second, .val (.int (1 : Int32))] [(.ref a0')]))
      obtain ⟨T10, X10, e10, st10⟩ := getF X3 hx hZ hown (host := "") (Or.inl (hw _ (List.mem_of_getElem? (i := 129) rfl))) Via.refl e3 FC (g := (mkF m 20 #[.val (.ref a0'), .val (.double (FP.l2d w)), .second, .val (.int (1 : Int32))] [(.ref a0')])) rfl rfl (hb hby d_prog_20_method_2_code_20)
      refine go st10 ?_
      refine go (fun _ k => by refine XS.iloadN X10.here hx rfl (hb hby d_prog_20_method_2_code_23) rfl ?_; exact k) ?_
      show OwnEnd _ _ _ _ _ _ _ (T10.setTop (mkF m 24 #[.val (.ref a0'), .val (.double (FP.l2d w)), .second, .val (.int (1 : Int32))] [(.int (1 : Int32)), (.ref ca)]))
      refine go (fun _ k => by refine Jvm.Free.XT.dup2 X10.here hx rfl (hb hby d_prog_20_method_2_code_24) rfl rfl rfl ?_; exact k) ?_
      show OwnEnd _ _ _ _ _ _ _ (T10.setTop (mkF m 25 #[.val (.ref a0'), .val (.double (FP.l2d w)), .second, .val (.int (1 : Int32))] [(.int (1 : Int32)), (.ref ca), (.int (1 : Int32)), (.ref ca)]))
      refine go (ldJv X10 hx hZ e10 VC (j := (1 : Int32)) (i := 1) (w := c1) (by decide) (by decide) (by decide) rfl (g := (mkF m 25 #[.val (.ref a0'), .val (.double (FP.l2d w)), .second, .val (.int (1 : Int32))] [(.int (1 : Int32)), (.ref ca), (.int (1 : Int32)), (.ref ca)])) rfl rfl (hb hby d_prog_20_method_2_code_25)) ?_
      refine go (fun _ k => by refine XS.lconst X10.here hx rfl (hb hby d_prog_20_method_2_code_26) ?_; exact k) ?_
      refine go (fun _ k => by refine XS.ladd X10.here hx rfl (hb hby d_prog_20_method_2_code_27) rfl ?_; exact k) ?_
      show OwnEnd _ _ _ _ _ _ _ (T10.setTop (mkF m 28 #[.val (.ref a0'), .val (.double (FP.l2d w)), .second, .val (.int (1 : Int32))] [(.long (c1 + (1 : Int64))), (.int (1 : Int32)), (.ref ca)]))
      obtain ⟨T11, h11, X11, e11, W11, VC', st11⟩ := stJv X10 hx hZ e10 VC (j := (1 : Int32)) (i := 1) (by decide) (by decide) (by decide) (Nat.le_of_ble_eq_true rfl) (g := (mkF m 28 #[.val (.ref a0'), .val (.double (FP.l2d w)), .second, .val (.int (1 : Int32))] [(.long (c1 + (1 : Int64))), (.int (1 : Int32)), (.ref ca)])) rfl rfl (hb hby d_prog_20_method_2_code_28)
      have N11 := Fr.snoc X11 N0 gc
      have EA := EA.wr W11
      have KK := Keep.wr KK W11 (Or.inl (List.mem_of_getElem? (i := 1) rfl))
      have VB := VB.other W11 nbc
      have FU := FU.other W11 (Or.inl nac)
      have FB := FB.other W11 (Or.inl nac)
      have FC := FC.other W11 (Or.inl nac)
      have FX := FX.other W11 (Or.inl nac)
      have VC : Arv Z h11 ca ck .long (3 : Int32) [(.long c0), (.long (c1 + (1 : Int64))), (.long c2)] (.long (0 : Int64)) := VC'
      refine go st11 ?_
      refine go (fun _ k => by refine XS.aloadN X11.here hx rfl (hb hby d_prog_20_method_2_code_29) rfl rfl ?_; exact k) ?_
      refine go (fun _ k => by refine XS.dup X11.here hx rfl (hb hby d_prog_20_method_2_code_30) rfl rfl ?_; exact k) ?_
      show OwnEnd _ _ _ _ _ _ _ (T11.setTop (mkF m 31 #[.val (.ref a0'), .val (.double (FP.l2d w)), .second, .val (.int (1 : Int32))] [(.ref a0'), (.ref a0')]))
      obtain ⟨T12, X12, e12, st12⟩ := getF X11 hx hZ hown (host := "") (Or.inl (hw _ (List.mem_of_getElem? (i := 136) rfl))) Via.refl e11 FX (g := (mkF m 31 #[.val (.ref a0'), .val (.double (FP.l2d w)), .second, .val (.int (1 : Int32))] [(.ref a0'), (.ref a0')])) rfl rfl (hb hby d_prog_20_method_2_code_31)
      refine go st12 ?_
      refine go (fun _ k => by refine XS.dloadN X12.here hx rfl (hb hby d_prog_20_method_2_code_34) rfl ?_; exact k) ?_
      show OwnEnd _ _ _ _ _ _ _ (T12.setTop (mkF m 35 #[.val (.ref a0'), .val (.double (FP.l2d w)), .second, .val (.int (1 : Int32))] [(.double (FP.l2d w)), (.double (FP.l2d sm)), (.ref a0')]))
      refine go (fun _ k => by refine XS.daddS X12.here hx rfl (hb hby d_prog_20_method_2_code_35) rfl (nn_w (dadd_w (own_smb hss (by decide)) (own_smb hsw (by decide)))) (dadd_w (own_smb hss (by decide)) (own_smb hsw (by decide))) ?_; exact k) ?_
      show OwnEnd _ _ _ _ _ _ _ (T12.setTop (mkF m 36 #[.val (.ref a0'), .val (.double (FP.l2d w)), .second, .val (.int (1 : Int32))] [(.double (FP.l2d (sm + w))), (.ref a0')]))
      obtain ⟨T13, h13, X13, e13, W13, st13⟩ := putF X12 hx hZ hown (host := "") (Or.inl (hw _ (List.mem_of_getElem? (i := 136) rfl))) Via.refl e12 FX EA (Or.inl (hw _ (List.mem_of_getElem? (i := 137) rfl))) (hw _ (List.mem_of_getElem? (i := 82) rfl)) (ty := .double) (by decide) rfl rfl (g := (mkF m 36 #[.val (.ref a0'), .val (.double (FP.l2d w)), .second, .val (.int (1 : Int32))] [(.double (FP.l2d (sm + w))), (.ref a0')])) rfl rfl (hb hby d_prog_20_method_2_code_36)
      have N13 := Fr.snoc X13 N11 ga
      have EA := EA.wr W13
      have KK := Keep.wr KK W13 (Or.inl (List.mem_of_getElem? (i := 0) rfl))
      have VB := VB.other W13 (Ne.symm nab)
      have VC := VC.other W13 (Ne.symm nac)
      have FU := FU.other W13 (Or.inr (slot_ne (Or.inr (hw _ (List.mem_of_getElem? (i := 89) rfl))) (Or.inl (hw _ (List.mem_of_getElem? (i := 137) rfl))) (by decide) (t := (.object "java/util/List")) (t' := .double) (by decide) (by decide)))
      have FB := FB.other W13 (Or.inr (slot_ne (Or.inr (hw _ (List.mem_of_getElem? (i := 100) rfl))) (Or.inl (hw _ (List.mem_of_getElem? (i := 137) rfl))) (by decide) (t := (.array .double)) (t' := .double) (by decide) (by decide)))
      have FC := FC.other W13 (Or.inr (slot_ne (Or.inr (hw _ (List.mem_of_getElem? (i := 130) rfl))) (Or.inl (hw _ (List.mem_of_getElem? (i := 137) rfl))) (by decide) (t := (.array .long)) (t' := .double) (by decide) (by decide)))
      have FX := FX.same W13
      refine go st13 ?_
      show OwnEnd _ _ _ _ _ _ _ (T13.setTop (mkF m 39 #[.val (.ref a0'), .val (.double (FP.l2d w)), .second, .val (.int (1 : Int32))] []))
      refine endV X13 hx hlk Bd.returns (hb hby d_prog_20_method_2_code_39) e13 (by decide) (by decide) ?_
      exact ⟨rfl, N13, KK, EA, FU, FB, FC, FX, by obtain ⟨e1, e2, e3⟩ := own_kB hc10_2 hc10_4; rw [e1, e2, e3]; simp only [Int64.add_zero]; exact VC⟩
  · refine go (fun _ k => by refine XS.ifYes X1.here hx rfl (pc0 := 10) (pc' := 19) rfl (hb hby d_prog_20_method_2_code_10) rfl ((if0 _ _).trans (flt (fun q => hc10_2 ((lw_gt _ _).mp q))).2.2.2) (by decide) (by decide) ?_; exact k) ?_
    show OwnEnd _ _ _ _ _ _ _ (T1.setTop (mkF m 19 #[.val (.ref a0'), .val (.double (FP.l2d w)), .second, .val (.int (0 : Int32))] []))
    refine go (fun _ k => by refine XS.aloadN X1.here hx rfl (hb hby d_prog_20_method_2_code_19) rfl rfl ?_; exact k) ?_
    show OwnEnd _ _ _ _ _ _ _ (T1.setTop (mkF m 20 #[.val (.ref a0'), .val (.double (FP.l2d w)), .second, .val (.int (0 : Int32))] [(.ref a0')]))
    obtain ⟨T14, X14, e14, st14⟩ := getF X1 hx hZ hown (host := "") (Or.inl (hw _ (List.mem_of_getElem? (i := 129) rfl))) Via.refl e1 FC (g := (mkF m 20 #[.val (.ref a0'), .val (.double (FP.l2d w)), .second, .val (.int (0 : Int32))] [(.ref a0')])) rfl rfl (hb hby d_prog_20_method_2_code_20)
    refine go st14 ?_
    refine go (fun _ k => by refine XS.iloadN X14.here hx rfl (hb hby d_prog_20_method_2_code_23) rfl ?_; exact k) ?_
    show OwnEnd _ _ _ _ _ _ _ (T14.setTop (mkF m 24 #[.val (.ref a0'), .val (.double (FP.l2d w)), .second, .val (.int (0 : Int32))] [(.int (0 : Int32)), (.ref ca)]))
    refine go (fun _ k => by refine Jvm.Free.XT.dup2 X14.here hx rfl (hb hby d_prog_20_method_2_code_24) rfl rfl rfl ?_; exact k) ?_
    show OwnEnd _ _ _ _ _ _ _ (T14.setTop (mkF m 25 #[.val (.ref a0'), .val (.double (FP.l2d w)), .second, .val (.int (0 : Int32))] [(.int (0 : Int32)), (.ref ca), (.int (0 : Int32)), (.ref ca)]))
    refine go (ldJv X14 hx hZ e14 VC (j := (0 : Int32)) (i := 0) (w := c0) (by decide) (by decide) (by decide) rfl (g := (mkF m 25 #[.val (.ref a0'), .val (.double (FP.l2d w)), .second, .val (.int (0 : Int32))] [(.int (0 : Int32)), (.ref ca), (.int (0 : Int32)), (.ref ca)])) rfl rfl (hb hby d_prog_20_method_2_code_25)) ?_
    refine go (fun _ k => by refine XS.lconst X14.here hx rfl (hb hby d_prog_20_method_2_code_26) ?_; exact k) ?_
    refine go (fun _ k => by refine XS.ladd X14.here hx rfl (hb hby d_prog_20_method_2_code_27) rfl ?_; exact k) ?_
    show OwnEnd _ _ _ _ _ _ _ (T14.setTop (mkF m 28 #[.val (.ref a0'), .val (.double (FP.l2d w)), .second, .val (.int (0 : Int32))] [(.long (c0 + (1 : Int64))), (.int (0 : Int32)), (.ref ca)]))
    obtain ⟨T15, h15, X15, e15, W15, VC', st15⟩ := stJv X14 hx hZ e14 VC (j := (0 : Int32)) (i := 0) (by decide) (by decide) (by decide) (Nat.le_of_ble_eq_true rfl) (g := (mkF m 28 #[.val (.ref a0'), .val (.double (FP.l2d w)), .second, .val (.int (0 : Int32))] [(.long (c0 + (1 : Int64))), (.int (0 : Int32)), (.ref ca)])) rfl rfl (hb hby d_prog_20_method_2_code_28)
    have N15 := Fr.snoc X15 N0 gc
    have EA := EA.wr W15
    have KK := Keep.wr KK W15 (Or.inl (List.mem_of_getElem? (i := 1) rfl))
    have VB := VB.other W15 nbc
    have FU := FU.other W15 (Or.inl nac)
    have FB := FB.other W15 (Or.inl nac)
    have FC := FC.other W15 (Or.inl nac)
    have FX := FX.other W15 (Or.inl nac)
    have VC : Arv Z h15 ca ck .long (3 : Int32) [(.long (c0 + (1 : Int64))), (.long c1), (.long c2)] (.long (0 : Int64)) := VC'
    refine go st15 ?_
    refine go (fun _ k => by refine XS.aloadN X15.here hx rfl (hb hby d_prog_20_method_2_code_29) rfl rfl ?_; exact k) ?_
    refine go (fun _ k => by refine XS.dup X15.here hx rfl (hb hby d_prog_20_method_2_code_30) rfl rfl ?_; exact k) ?_
    show OwnEnd _ _ _ _ _ _ _ (T15.setTop (mkF m 31 #[.val (.ref a0'), .val (.double (FP.l2d w)), .second, .val (.int (0 : Int32))] [(.ref a0'), (.ref a0')]))
    obtain ⟨T16, X16, e16, st16⟩ := getF X15 hx hZ hown (host := "") (Or.inl (hw _ (List.mem_of_getElem? (i := 136) rfl))) Via.refl e15 FX (g := (mkF m 31 #[.val (.ref a0'), .val (.double (FP.l2d w)), .second, .val (.int (0 : Int32))] [(.ref a0'), (.ref a0')])) rfl rfl (hb hby d_prog_20_method_2_code_31)
    refine go st16 ?_
    refine go (fun _ k => by refine XS.dloadN X16.here hx rfl (hb hby d_prog_20_method_2_code_34) rfl ?_; exact k) ?_
    show OwnEnd _ _ _ _ _ _ _ (T16.setTop (mkF m 35 #[.val (.ref a0'), .val (.double (FP.l2d w)), .second, .val (.int (0 : Int32))] [(.double (FP.l2d w)), (.double (FP.l2d sm)), (.ref a0')]))
    refine go (fun _ k => by refine XS.daddS X16.here hx rfl (hb hby d_prog_20_method_2_code_35) rfl (nn_w (dadd_w (own_smb hss (by decide)) (own_smb hsw (by decide)))) (dadd_w (own_smb hss (by decide)) (own_smb hsw (by decide))) ?_; exact k) ?_
    show OwnEnd _ _ _ _ _ _ _ (T16.setTop (mkF m 36 #[.val (.ref a0'), .val (.double (FP.l2d w)), .second, .val (.int (0 : Int32))] [(.double (FP.l2d (sm + w))), (.ref a0')]))
    obtain ⟨T17, h17, X17, e17, W17, st17⟩ := putF X16 hx hZ hown (host := "") (Or.inl (hw _ (List.mem_of_getElem? (i := 136) rfl))) Via.refl e16 FX EA (Or.inl (hw _ (List.mem_of_getElem? (i := 137) rfl))) (hw _ (List.mem_of_getElem? (i := 82) rfl)) (ty := .double) (by decide) rfl rfl (g := (mkF m 36 #[.val (.ref a0'), .val (.double (FP.l2d w)), .second, .val (.int (0 : Int32))] [(.double (FP.l2d (sm + w))), (.ref a0')])) rfl rfl (hb hby d_prog_20_method_2_code_36)
    have N17 := Fr.snoc X17 N15 ga
    have EA := EA.wr W17
    have KK := Keep.wr KK W17 (Or.inl (List.mem_of_getElem? (i := 0) rfl))
    have VB := VB.other W17 (Ne.symm nab)
    have VC := VC.other W17 (Ne.symm nac)
    have FU := FU.other W17 (Or.inr (slot_ne (Or.inr (hw _ (List.mem_of_getElem? (i := 89) rfl))) (Or.inl (hw _ (List.mem_of_getElem? (i := 137) rfl))) (by decide) (t := (.object "java/util/List")) (t' := .double) (by decide) (by decide)))
    have FB := FB.other W17 (Or.inr (slot_ne (Or.inr (hw _ (List.mem_of_getElem? (i := 100) rfl))) (Or.inl (hw _ (List.mem_of_getElem? (i := 137) rfl))) (by decide) (t := (.array .double)) (t' := .double) (by decide) (by decide)))
    have FC := FC.other W17 (Or.inr (slot_ne (Or.inr (hw _ (List.mem_of_getElem? (i := 130) rfl))) (Or.inl (hw _ (List.mem_of_getElem? (i := 137) rfl))) (by decide) (t := (.array .long)) (t' := .double) (by decide) (by decide)))
    have FX := FX.same W17
    refine go st17 ?_
    show OwnEnd _ _ _ _ _ _ _ (T17.setTop (mkF m 39 #[.val (.ref a0'), .val (.double (FP.l2d w)), .second, .val (.int (0 : Int32))] []))
    refine endV X17 hx hlk Bd.returns (hb hby d_prog_20_method_2_code_39) e17 (by decide) (by decide) ?_
    exact ⟨rfl, N17, KK, EA, FU, FB, FC, FX, by obtain ⟨e1, e2, e3⟩ := own_kA hc10_2; rw [e1, e2, e3]; simp only [Int64.add_zero]; exact VC⟩
theorem d_prog_19_method_1_code_0 : decode prog_19_method_1_code 0 = .ok (.aload_n 0, 1) := by decide +kernel
theorem d_prog_19_method_1_code_1 : decode prog_19_method_1_code 1 = .ok (.invokespecial 1, 3) := by decide +kernel
theorem d_prog_19_method_1_code_4 : decode prog_19_method_1_code 4 = .ok (.aload_n 0, 1) := by decide +kernel
theorem d_prog_19_method_1_code_5 : decode prog_19_method_1_code 5 = .ok (.aload_n 1, 1) := by decide +kernel
theorem d_prog_19_method_1_code_6 : decode prog_19_method_1_code 6 = .ok (.putfield 7, 3) := by decide +kernel
theorem d_prog_19_method_1_code_9 : decode prog_19_method_1_code 9 = .ok (.aload_n 0, 1) := by decide +kernel
theorem d_prog_19_method_1_code_10 : decode prog_19_method_1_code 10 = .ok (.aload_n 2, 1) := by decide +kernel
theorem d_prog_19_method_1_code_11 : decode prog_19_method_1_code 11 = .ok (.putfield 13, 3) := by decide +kernel
theorem d_prog_19_method_1_code_14 : decode prog_19_method_1_code 14 = .ok (.aload_n 0, 1) := by decide +kernel
theorem d_prog_19_method_1_code_15 : decode prog_19_method_1_code 15 = .ok (.dload_n 3, 1) := by decide +kernel
theorem d_prog_19_method_1_code_16 : decode prog_19_method_1_code 16 = .ok (.putfield 17, 3) := by decide +kernel
theorem d_prog_19_method_1_code_19 : decode prog_19_method_1_code 19 = .ok (.return_, 1) := by decide +kernel
theorem ef_rm_hii (m : MethodId) (y0 : Addr) (y1 : Addr) (y2 : Addr) (y3 : UInt64) : entryFrame m #[(.ref y0), (.ref y1), (.ref y2), (.double y3)] 5 = mkF m 0 #[.val (.ref y0), .val (.ref y1), .val (.ref y2), .val (.double y3), .second] [] := by first | (simp [entryFrame, mkF, argsToLocals, Value.category]; done) | rfl
def Q_rm_hii (Z : State) (a0' : Addr) (a1 : Addr) (a2 : Addr) (d3 : UInt64) (h0 : Heap) (n0 : Nat) (v : Option Value) (h : Heap) (L : List Loc) : Prop := v = none ∧ Fr n0 L ∧ Keep h0 h [a0'] ∧ Exa Z h a0' "com/example/waitsfor/waitsfor/Histogram" ∧ Fld Z h a0' "com/example/waitsfor/waitsfor/Histogram" "upperBounds" "Ljava/util/List;" (.ref a1) ∧ Fld Z h a0' "com/example/waitsfor/waitsfor/Histogram" "counts" "[J" (.ref a2) ∧ Fld Z h a0' "com/example/waitsfor/waitsfor/Histogram" "sum" "D" (.double d3)
set_option maxRecDepth 65536 in
set_option maxHeartbeats 40000000 in
theorem rm_hii (l : Launch) (Z : State) (a0 : Array Value) (hw : ∀ d ∈ tables_1, d.before a0 Z = true) (ws : List Jvm.Cond) (a0' : Addr) (a1 : Addr) (a2 : Addr) (d3 : UInt64) (h0 : Heap) (n0 : Nat) (ga : n0 ≤ a0') (EA : Exa Z h0 a0' "com/example/waitsfor/waitsfor/Histogram") (F_upperBounds : Fld Z h0 a0' "com/example/waitsfor/waitsfor/Histogram" "upperBounds" "Ljava/util/List;" .null) (F_counts : Fld Z h0 a0' "com/example/waitsfor/waitsfor/Histogram" "counts" "[J" .null) (F_sum : Fld Z h0 a0' "com/example/waitsfor/waitsfor/Histogram" "sum" "D" (.double (0 : UInt64))) :
    MetFree l (⟨"com/example/waitsfor/waitsfor/Histogram", "<init>", "(Ljava/util/List;[JD)V"⟩ : MethodName) (head1 (Jvm.Cond.code (⟨"com/example/waitsfor/waitsfor/Histogram", "<init>", "(Ljava/util/List;[JD)V"⟩ : MethodName) prog_19_method_1_code 5 none :: ws) ({ frames := 1, cells := 0, slots := 0, locals := 12 } : Room)) (fun a U => a = #[(.ref a0'), (.ref a1), (.ref a2), (.double d3)] ∧ Z.Warmed39 U.vm ∧ U.heap = h0) (fun _ _ _ _ _ => True) (fun _ U o U' => ∃ v L, o = .returned v ∧ Q_rm_hii Z a0' a1 a2 d3 h0 n0 v U'.heap L ∧ FrameEnd U o U' L 0 0) := by
  refine MetFree.of_bodySF (plainFor_of_name pn_com_example_waitsfor_waitsfor_Histogram) hisR ?_
  intro p e s m args below meth c s₁ Bd hml0 hP hK
  obtain ⟨rfl, hZ, hh⟩ := hP
  have hx := Bd.exec
  have hby := Bd.bytes
  have hlk := Bd.notSynchronized
  have hml : c.maxLocals = 5 := hml0
  have hown : s.vm.findClass "com/example/waitsfor/waitsfor/Histogram" = some m.cls := findClass_of_methodNamed Bd.named
  have hnm := (name_of_methodNamed Bd.named Bd.method).1
  have X0 : Stand p l e ({ frames := 1, cells := 0, slots := 0, locals := 12 } : Room) s m #[(.ref a0'), (.ref a1), (.ref a2), (.double d3)] below meth c s₁ [] 0 0 := Stand.of_body Bd
  have e0 : s₁.heap = h0 := by rw [← hh, Bd.state]; rfl
  have N0 := Fr.nil n0
  show OwnEnd p e below s (Q_rm_hii Z a0' a1 a2 d3 h0 n0) 0 0 (s₁.setTop (entryFrame m #[(.ref a0'), (.ref a1), (.ref a2), (.double d3)] 5))
  refine go (fun t k => castTop (ef_rm_hii m a0' a1 a2 d3) k) ?_
  have KK := Keep.refl h0 [a0']
  show OwnEnd _ _ _ _ _ _ _ (s₁.setTop (mkF m 0 (fL0 a0' a1 a2 d3) []))
  refine go (fun _ k => by refine XS.aloadN X0.here hx rfl (hb hby d_prog_19_method_1_code_0) rfl rfl ?_; exact k) ?_
  show OwnEnd _ _ _ _ _ _ _ (s₁.setTop (mkF m 1 (fL0 a0' a1 a2 d3) [(.ref a0')]))
  obtain ⟨T1, X1, e1, st1⟩ := initO X0 hx hZ hown (hw _ (List.mem_of_getElem? (i := 158) rfl)) (hw _ (List.mem_of_getElem? (i := 19) rfl)) (hw _ (List.mem_of_getElem? (i := 20) rfl)) e0 (g := (mkF m 1 (fL0 a0' a1 a2 d3) [(.ref a0')])) rfl (by rw [hml]; rfl) rfl (hb hby d_prog_19_method_1_code_1) (by decide) (W := 0) (by show 2 * 0 + _ ≤ _; exact Nat.le_of_eq rfl) (by decide)
  refine go st1 ?_
  refine go (fun _ k => by refine XS.aloadN X1.here hx rfl (hb hby d_prog_19_method_1_code_4) rfl rfl ?_; exact k) ?_
  refine go (fun _ k => by refine XS.aloadN X1.here hx rfl (hb hby d_prog_19_method_1_code_5) rfl rfl ?_; exact k) ?_
  show OwnEnd _ _ _ _ _ _ _ (T1.setTop (mkF m 6 (fL0 a0' a1 a2 d3) [(.ref a1), (.ref a0')]))
  obtain ⟨T2, h2, X2, e2, W2, st2⟩ := putF X1 hx hZ hown (host := "") (Or.inl (hw _ (List.mem_of_getElem? (i := 159) rfl))) Via.refl e1 F_upperBounds EA (Or.inr ⟨(hw _ (List.mem_of_getElem? (i := 160) rfl)), rfl, hnm⟩) (hw _ (List.mem_of_getElem? (i := 144) rfl)) (ty := (.object "java/util/List")) (by decide) rfl rfl (g := (mkF m 6 (fL0 a0' a1 a2 d3) [(.ref a1), (.ref a0')])) rfl rfl (hb hby d_prog_19_method_1_code_6)
  have N2 := Fr.snoc X2 N0 ga
  have EA := EA.wr W2
  have KK := Keep.wr KK W2 (Or.inl (List.mem_of_getElem? (i := 0) rfl))
  have F_counts := F_counts.other W2 (Or.inr (slot_ne (Or.inr (hw _ (List.mem_of_getElem? (i := 162) rfl))) (Or.inr (hw _ (List.mem_of_getElem? (i := 160) rfl))) (by decide) (t := (.array .long)) (t' := (.object "java/util/List")) (by decide) (by decide)))
  have F_sum := F_sum.other W2 (Or.inr (slot_ne (Or.inr (hw _ (List.mem_of_getElem? (i := 164) rfl))) (Or.inr (hw _ (List.mem_of_getElem? (i := 160) rfl))) (by decide) (t := .double) (t' := (.object "java/util/List")) (by decide) (by decide)))
  have F_upperBounds := F_upperBounds.same W2
  refine go st2 ?_
  refine go (fun _ k => by refine XS.aloadN X2.here hx rfl (hb hby d_prog_19_method_1_code_9) rfl rfl ?_; exact k) ?_
  refine go (fun _ k => by refine XS.aloadN X2.here hx rfl (hb hby d_prog_19_method_1_code_10) rfl rfl ?_; exact k) ?_
  show OwnEnd _ _ _ _ _ _ _ (T2.setTop (mkF m 11 (fL0 a0' a1 a2 d3) [(.ref a2), (.ref a0')]))
  obtain ⟨T3, h3, X3, e3, W3, st3⟩ := putF X2 hx hZ hown (host := "") (Or.inl (hw _ (List.mem_of_getElem? (i := 161) rfl))) Via.refl e2 F_counts EA (Or.inr ⟨(hw _ (List.mem_of_getElem? (i := 162) rfl)), rfl, hnm⟩) (hw _ (List.mem_of_getElem? (i := 144) rfl)) (ty := (.array .long)) (by decide) rfl rfl (g := (mkF m 11 (fL0 a0' a1 a2 d3) [(.ref a2), (.ref a0')])) rfl rfl (hb hby d_prog_19_method_1_code_11)
  have N3 := Fr.snoc X3 N2 ga
  have EA := EA.wr W3
  have KK := Keep.wr KK W3 (Or.inl (List.mem_of_getElem? (i := 0) rfl))
  have F_upperBounds := F_upperBounds.other W3 (Or.inr (slot_ne (Or.inr (hw _ (List.mem_of_getElem? (i := 160) rfl))) (Or.inr (hw _ (List.mem_of_getElem? (i := 162) rfl))) (by decide) (t := (.object "java/util/List")) (t' := (.array .long)) (by decide) (by decide)))
  have F_sum := F_sum.other W3 (Or.inr (slot_ne (Or.inr (hw _ (List.mem_of_getElem? (i := 164) rfl))) (Or.inr (hw _ (List.mem_of_getElem? (i := 162) rfl))) (by decide) (t := .double) (t' := (.array .long)) (by decide) (by decide)))
  have F_counts := F_counts.same W3
  refine go st3 ?_
  refine go (fun _ k => by refine XS.aloadN X3.here hx rfl (hb hby d_prog_19_method_1_code_14) rfl rfl ?_; exact k) ?_
  refine go (fun _ k => by refine XS.dloadN X3.here hx rfl (hb hby d_prog_19_method_1_code_15) rfl ?_; exact k) ?_
  show OwnEnd _ _ _ _ _ _ _ (T3.setTop (mkF m 16 (fL0 a0' a1 a2 d3) [(.double d3), (.ref a0')]))
  obtain ⟨T4, h4, X4, e4, W4, st4⟩ := putF X3 hx hZ hown (host := "") (Or.inl (hw _ (List.mem_of_getElem? (i := 163) rfl))) Via.refl e3 F_sum EA (Or.inr ⟨(hw _ (List.mem_of_getElem? (i := 164) rfl)), rfl, hnm⟩) (hw _ (List.mem_of_getElem? (i := 144) rfl)) (ty := .double) (by decide) rfl rfl (g := (mkF m 16 (fL0 a0' a1 a2 d3) [(.double d3), (.ref a0')])) rfl rfl (hb hby d_prog_19_method_1_code_16)
  have N4 := Fr.snoc X4 N3 ga
  have EA := EA.wr W4
  have KK := Keep.wr KK W4 (Or.inl (List.mem_of_getElem? (i := 0) rfl))
  have F_upperBounds := F_upperBounds.other W4 (Or.inr (slot_ne (Or.inr (hw _ (List.mem_of_getElem? (i := 160) rfl))) (Or.inr (hw _ (List.mem_of_getElem? (i := 164) rfl))) (by decide) (t := (.object "java/util/List")) (t' := .double) (by decide) (by decide)))
  have F_counts := F_counts.other W4 (Or.inr (slot_ne (Or.inr (hw _ (List.mem_of_getElem? (i := 162) rfl))) (Or.inr (hw _ (List.mem_of_getElem? (i := 164) rfl))) (by decide) (t := (.array .long)) (t' := .double) (by decide) (by decide)))
  have F_sum := F_sum.same W4
  refine go st4 ?_
  show OwnEnd _ _ _ _ _ _ _ (T4.setTop (mkF m 19 (fL0 a0' a1 a2 d3) []))
  refine endV X4 hx hlk Bd.returns (hb hby d_prog_19_method_1_code_19) e4 (by decide) (by decide) ?_
  exact ⟨rfl, N4, KK, EA, F_upperBounds, F_counts, F_sum⟩
theorem d_prog_20_method_3_code_0 : decode prog_20_method_3_code 0 = .ok (.new 41, 3) := by decide +kernel
theorem d_prog_20_method_3_code_3 : decode prog_20_method_3_code 3 = .ok (.dup, 1) := by decide +kernel
theorem d_prog_20_method_3_code_4 : decode prog_20_method_3_code 4 = .ok (.aload_n 0, 1) := by decide +kernel
theorem d_prog_20_method_3_code_5 : decode prog_20_method_3_code 5 = .ok (.getfield 7, 3) := by decide +kernel
theorem d_prog_20_method_3_code_8 : decode prog_20_method_3_code 8 = .ok (.aload_n 0, 1) := by decide +kernel
theorem d_prog_20_method_3_code_9 : decode prog_20_method_3_code 9 = .ok (.getfield 33, 3) := by decide +kernel
theorem d_prog_20_method_3_code_12 : decode prog_20_method_3_code 12 = .ok (.invokevirtual 43, 3) := by decide +kernel
theorem d_prog_20_method_3_code_15 : decode prog_20_method_3_code 15 = .ok (.checkcast 44, 3) := by decide +kernel
theorem d_prog_20_method_3_code_18 : decode prog_20_method_3_code 18 = .ok (.aload_n 0, 1) := by decide +kernel
theorem d_prog_20_method_3_code_19 : decode prog_20_method_3_code 19 = .ok (.getfield 37, 3) := by decide +kernel
theorem d_prog_20_method_3_code_22 : decode prog_20_method_3_code 22 = .ok (.invokespecial 48, 3) := by decide +kernel
theorem pd__Ljava_util_List__JD_V : parseMethodDescriptor "(Ljava/util/List;[JD)V" = some ⟨[(.object "java/util/List"), (.array .long), .double], none⟩ := by decide +kernel
theorem d_prog_20_method_3_code_25 : decode prog_20_method_3_code 25 = .ok (.areturn, 1) := by decide +kernel
theorem ef_rm_snp (m : MethodId) (y0 : Addr) : entryFrame m #[(.ref y0)] 1 = mkF m 0 #[.val (.ref y0)] [] := by first | (simp [entryFrame, mkF, argsToLocals, Value.category]; done) | rfl
def Q_rm_snp (Z : State) (a0' : Addr) (ul : Addr) (ca : Addr) (ck : ClassId) (c0 : Int64) (c1 : Int64) (c2 : Int64) (sm : UInt64) (h0 : Heap) (n0 : Nat) (v : Option Value) (h : Heap) (L : List Loc) : Prop := ∃ hb cb k, v = some (.ref hb) ∧ Fr n0 L ∧ Keep h0 h [] ∧ Exa Z h hb "com/example/waitsfor/waitsfor/Histogram" ∧ Fld Z h hb "com/example/waitsfor/waitsfor/Histogram" "counts" "[J" (.ref cb) ∧ Fld Z h hb "com/example/waitsfor/waitsfor/Histogram" "sum" "D" (.double sm) ∧ Arv Z h cb k .long 3 [(.long c0), (.long c1), (.long c2)] (.long 0)
set_option maxRecDepth 65536 in
set_option maxHeartbeats 40000000 in
theorem rm_snp (l : Launch) (Z : State) (a0 : Array Value) (hw : ∀ d ∈ tables_1, d.before a0 Z = true) (ws : List Jvm.Cond) (a0' : Addr) (ul : Addr) (ca : Addr) (ck : ClassId) (c0 : Int64) (c1 : Int64) (c2 : Int64) (sm : UInt64) (h0 : Heap) (n0 : Nat) (Z0 : n0 ≤ h0.size) (EA : Exa Z h0 a0' "com/example/waitsfor/waitsfor/Histogram$Recorder") (FU : Fld Z h0 a0' "com/example/waitsfor/waitsfor/Histogram$Recorder" "upperBounds" "Ljava/util/List;" (.ref ul)) (FC : Fld Z h0 a0' "com/example/waitsfor/waitsfor/Histogram$Recorder" "counts" "[J" (.ref ca)) (FX : Fld Z h0 a0' "com/example/waitsfor/waitsfor/Histogram$Recorder" "sum" "D" (.double sm)) (VC : Arv Z h0 ca ck .long 3 [(.long c0), (.long c1), (.long c2)] (.long 0)) (EC : Exa Z h0 ca "[J") :
    MetFree l (⟨"com/example/waitsfor/waitsfor/Histogram$Recorder", "snapshot", "()Lcom/example/waitsfor/waitsfor/Histogram;"⟩ : MethodName) (head1 (Jvm.Cond.code (⟨"com/example/waitsfor/waitsfor/Histogram$Recorder", "snapshot", "()Lcom/example/waitsfor/waitsfor/Histogram;"⟩ : MethodName) prog_20_method_3_code 1 (some (.object "com/example/waitsfor/waitsfor/Histogram")) :: ws) ({ frames := 2, cells := 2, slots := 6, locals := 29 } : Room)) (fun a U => a = #[(.ref a0')] ∧ Z.Warmed39 U.vm ∧ U.heap = h0) (fun _ _ _ _ _ => True) (fun _ U o U' => ∃ v L, o = .returned v ∧ Q_rm_snp Z a0' ul ca ck c0 c1 c2 sm h0 n0 v U'.heap L ∧ FrameEnd U o U' L 2 6) := by
  refine MetFree.of_bodySF (plainFor_of_name pn_com_example_waitsfor_waitsfor_Histogram_Recorder) hisR ?_
  intro p e s m args below meth c s₁ Bd hml0 hP hK
  obtain ⟨rfl, hZ, hh⟩ := hP
  have hx := Bd.exec
  have hby := Bd.bytes
  have hlk := Bd.notSynchronized
  have hml : c.maxLocals = 1 := hml0
  have hown : s.vm.findClass "com/example/waitsfor/waitsfor/Histogram$Recorder" = some m.cls := findClass_of_methodNamed Bd.named
  have hnm := (name_of_methodNamed Bd.named Bd.method).1
  have X0 : Stand p l e ({ frames := 2, cells := 2, slots := 6, locals := 29 } : Room) s m #[(.ref a0')] below meth c s₁ [] 0 0 := Stand.of_body Bd
  have e0 : s₁.heap = h0 := by rw [← hh, Bd.state]; rfl
  have N0 := Fr.nil n0
  show OwnEnd p e below s (Q_rm_snp Z a0' ul ca ck c0 c1 c2 sm h0 n0) 2 6 (s₁.setTop (entryFrame m #[(.ref a0')] 1))
  refine go (fun t k => castTop (ef_rm_snp m a0') k) ?_
  have KK := Keep.refl h0 []
  show OwnEnd _ _ _ _ _ _ _ (s₁.setTop (mkF m 0 #[.val (.ref a0')] []))
  obtain ⟨T1, h1, X1, e1, E1, A1, D1, -, st1⟩ := newO X0 hx hZ hown (hw _ (List.mem_of_getElem? (i := 143) rfl)) (hw _ (List.mem_of_getElem? (i := 144) rfl)) (hw _ (List.mem_of_getElem? (i := 145) rfl)) e0 (g := (mkF m 0 #[.val (.ref a0')] [])) rfl (hb hby d_prog_20_method_3_code_0) (by decide) (by decide)
  obtain ⟨b1, g1⟩ : ∃ z, z = h0.size := ⟨_, rfl⟩
  rw [← g1] at A1 D1 st1
  have ne_a0__b1 : a0' ≠ b1 := fun q => absurd EA.lt (by rw [q, g1]; exact Nat.lt_irrefl _)
  have ne_ca_b1 : ca ≠ b1 := fun q => absurd VC.lt (by rw [q, g1]; exact Nat.lt_irrefl _)
  have g_b1 : n0 ≤ b1 := Nat.le_trans Z0 (Nat.le_of_eq g1.symm)
  have sz_b1 : h0.size ≤ b1 := Nat.le_trans KK.1 (Nat.le_of_eq g1.symm)
  have Z0 := Nat.le_trans Z0 E1.1
  have KK := Keep.ext KK E1
  have EA := EA.ext E1
  have FU := FU.ext E1
  have FC := FC.ext E1
  have FX := FX.ext E1
  have VC := VC.ext E1
  have EC := EC.ext E1
  have F_upperBounds_b1 : Fld Z h1 b1 "com/example/waitsfor/waitsfor/Histogram" "upperBounds" "Ljava/util/List;" .null := D1 (Or.inr (hw _ (List.mem_of_getElem? (i := 160) rfl))) (ty := (.object "java/util/List")) (by decide)
  have F_counts_b1 : Fld Z h1 b1 "com/example/waitsfor/waitsfor/Histogram" "counts" "[J" .null := D1 (Or.inr (hw _ (List.mem_of_getElem? (i := 162) rfl))) (ty := (.array .long)) (by decide)
  have F_sum_b1 : Fld Z h1 b1 "com/example/waitsfor/waitsfor/Histogram" "sum" "D" (.double (0 : UInt64)) := D1 (Or.inr (hw _ (List.mem_of_getElem? (i := 164) rfl))) (ty := .double) (by decide)
  have E_b1 := A1
  refine go st1 ?_
  refine go (fun _ k => by refine XS.dup X1.here hx rfl (hb hby d_prog_20_method_3_code_3) rfl rfl ?_; exact k) ?_
  refine go (fun _ k => by refine XS.aloadN X1.here hx rfl (hb hby d_prog_20_method_3_code_4) rfl rfl ?_; exact k) ?_
  show OwnEnd _ _ _ _ _ _ _ (T1.setTop (mkF m 5 #[.val (.ref a0')] [(.ref a0'), (.ref b1), (.ref b1)]))
  obtain ⟨T2, X2, e2, st2⟩ := getF X1 hx hZ hown (host := "") (Or.inl (hw _ (List.mem_of_getElem? (i := 88) rfl))) Via.refl e1 FU (g := (mkF m 5 #[.val (.ref a0')] [(.ref a0'), (.ref b1), (.ref b1)])) rfl rfl (hb hby d_prog_20_method_3_code_5)
  refine go st2 ?_
  refine go (fun _ k => by refine XS.aloadN X2.here hx rfl (hb hby d_prog_20_method_3_code_8) rfl rfl ?_; exact k) ?_
  show OwnEnd _ _ _ _ _ _ _ (T2.setTop (mkF m 9 #[.val (.ref a0')] [(.ref a0'), (.ref ul), (.ref b1), (.ref b1)]))
  obtain ⟨T3, X3, e3, st3⟩ := getF X2 hx hZ hown (host := "") (Or.inl (hw _ (List.mem_of_getElem? (i := 129) rfl))) Via.refl e2 FC (g := (mkF m 9 #[.val (.ref a0')] [(.ref a0'), (.ref ul), (.ref b1), (.ref b1)])) rfl rfl (hb hby d_prog_20_method_3_code_9)
  refine go st3 ?_
  show OwnEnd _ _ _ _ _ _ _ (T3.setTop (mkF m 12 #[.val (.ref a0')] [(.ref ca), (.ref ul), (.ref b1), (.ref b1)]))
  obtain ⟨T4, h4, X4, e4, E4, A4, XA4, st4⟩ := cloneV X3 hx hZ hown (hw _ (List.mem_of_getElem? (i := 146) rfl)) (hw _ (List.mem_of_getElem? (i := 147) rfl)) (hw _ (List.mem_of_getElem? (i := 151) rfl)) (hw _ (List.mem_of_getElem? (i := 149) rfl)) (hw _ (List.mem_of_getElem? (i := 150) rfl)) (hw _ (List.mem_of_getElem? (i := 152) rfl)) e3 VC EC (g := (mkF m 12 #[.val (.ref a0')] [(.ref ca), (.ref ul), (.ref b1), (.ref b1)])) rfl (by rw [hml]; rfl) rfl (hb hby d_prog_20_method_3_code_12) (by decide) (W := 3) (cap := 3) (by show 2 * 0 + _ ≤ _; exact Nat.le_of_eq rfl) (by decide) (by decide) (by decide) (by decide)
  obtain ⟨b4, g4⟩ : ∃ z, z = h1.size := ⟨_, rfl⟩
  rw [← g4] at A4 XA4 st4
  have ne_a0__b4 : a0' ≠ b4 := fun q => absurd EA.lt (by rw [q, g4]; exact Nat.lt_irrefl _)
  have ne_ca_b4 : ca ≠ b4 := fun q => absurd VC.lt (by rw [q, g4]; exact Nat.lt_irrefl _)
  have ne_b1_b4 : b1 ≠ b4 := fun q => absurd F_upperBounds_b1.lt (by rw [q, g4]; exact Nat.lt_irrefl _)
  have g_b4 : n0 ≤ b4 := Nat.le_trans Z0 (Nat.le_of_eq g4.symm)
  have sz_b4 : h0.size ≤ b4 := Nat.le_trans KK.1 (Nat.le_of_eq g4.symm)
  have Z0 := Nat.le_trans Z0 E4.1
  have KK := Keep.ext KK E4
  have EA := EA.ext E4
  have FU := FU.ext E4
  have FC := FC.ext E4
  have FX := FX.ext E4
  have VC := VC.ext E4
  have EC := EC.ext E4
  have F_upperBounds_b1 := F_upperBounds_b1.ext E4
  have F_counts_b1 := F_counts_b1.ext E4
  have F_sum_b1 := F_sum_b1.ext E4
  have E_b1 := E_b1.ext E4
  have V_b4 := A4
  have E_b4 := XA4
  refine go st4 ?_
  show OwnEnd _ _ _ _ _ _ _ (T4.setTop (mkF m 15 #[.val (.ref a0')] [(.ref b4), (.ref ul), (.ref b1), (.ref b1)]))
  obtain ⟨T5, X5, e5, st5⟩ := castY X4 hx hZ hown (hw _ (List.mem_of_getElem? (i := 153) rfl)) e4 (Ins.self E_b4) (g := (mkF m 15 #[.val (.ref a0')] [(.ref b4), (.ref ul), (.ref b1), (.ref b1)])) rfl rfl (hb hby d_prog_20_method_3_code_15)
  refine go st5 ?_
  refine go (fun _ k => by refine XS.aloadN X5.here hx rfl (hb hby d_prog_20_method_3_code_18) rfl rfl ?_; exact k) ?_
  show OwnEnd _ _ _ _ _ _ _ (T5.setTop (mkF m 19 #[.val (.ref a0')] [(.ref a0'), (.ref b4), (.ref ul), (.ref b1), (.ref b1)]))
  obtain ⟨T6, X6, e6, st6⟩ := getF X5 hx hZ hown (host := "") (Or.inl (hw _ (List.mem_of_getElem? (i := 136) rfl))) Via.refl e5 FX (g := (mkF m 19 #[.val (.ref a0')] [(.ref a0'), (.ref b4), (.ref ul), (.ref b1), (.ref b1)])) rfl rfl (hb hby d_prog_20_method_3_code_19)
  refine go st6 ?_
  show OwnEnd _ _ _ _ _ _ _ (T6.setTop (mkF m 22 #[.val (.ref a0')] [(.double sm), (.ref b4), (.ref ul), (.ref b1), (.ref b1)]))
  obtain ⟨_, T7, L7, X7, hQ7, st7⟩ := callInitN X6 hx hZ hown rfl (hw _ (List.mem_of_getElem? (i := 155) rfl)) (hw _ (List.mem_of_getElem? (i := 156) rfl)) (hw _ (List.mem_of_getElem? (i := 145) rfl)) (hw _ (List.mem_of_getElem? (i := 157) rfl)) (by decide) (rm_hii l Z a0 hw [] b1 ul b4 sm h4 n0 g_b1 E_b1 F_upperBounds_b1 F_counts_b1 F_sum_b1) (W := 1) (by decide) (by decide) e6 (g := (mkF m 22 #[.val (.ref a0')] [(.double sm), (.ref b4), (.ref ul), (.ref b1), (.ref b1)])) rfl (by rw [hml]; rfl) (argsL := [(.ref ul), (.ref b4), (.double sm)]) (rest := [(.ref b1)]) rfl (lenOf pd__Ljava_util_List__JD_V rfl) rfl (by show 2 * 0 + _ ≤ _; exact Nat.le_of_eq rfl) (hb hby d_prog_20_method_3_code_22) (by decide) (by decide)
  obtain ⟨rfl, Nq7, K7, E_b1, F_upperBounds_b1, F_counts_b1, F_sum_b1⟩ := hQ7
  have N7 := Fr.app N0 Nq7
  have Z0 := Nat.le_trans Z0 K7.1
  have KK := Keep.trans KK K7 (allS (Or.inr sz_b1) all0)
  have EA := EA.keep K7
  have FU := FU.keep K7 (ninS ne_a0__b1 nin0)
  have FC := FC.keep K7 (ninS ne_a0__b1 nin0)
  have FX := FX.keep K7 (ninS ne_a0__b1 nin0)
  have VC := VC.keep K7 (ninS ne_ca_b1 nin0)
  have EC := EC.keep K7
  have V_b4 := V_b4.keep K7 (ninS (Ne.symm ne_b1_b4) nin0)
  have E_b4 := E_b4.keep K7
  refine go st7 ?_
  show OwnEnd _ _ _ _ _ _ _ (T7.setTop (mkF m 25 #[.val (.ref a0')] [(.ref b1)]))
  refine endA X7 hx hlk Bd.returns rfl rfl (hb hby d_prog_20_method_3_code_25) rfl (by decide) (by decide) ?_
  exact ⟨b1, _, _, rfl, N7, KK, E_b1, F_counts_b1, F_sum_b1, V_b4⟩
theorem d_jdk_35_method_24_code_0 : decode jdk_35_method_24_code 0 = .ok (.sipush 128, 3) := by decide +kernel
theorem d_jdk_35_method_24_code_3 : decode jdk_35_method_24_code 3 = .ok (.istore_n 2, 1) := by decide +kernel
theorem d_jdk_35_method_24_code_4 : decode jdk_35_method_24_code 4 = .ok (.lload_n 0, 1) := by decide +kernel
theorem d_jdk_35_method_24_code_5 : decode jdk_35_method_24_code 5 = .ok (.ldc2_w 230, 3) := by decide +kernel
theorem d_jdk_35_method_24_code_8 : decode jdk_35_method_24_code 8 = .ok (.lcmp, 1) := by decide +kernel
theorem d_jdk_35_method_24_code_9 : decode jdk_35_method_24_code 9 = .ok (.ifCond .lt 22, 3) := by decide +kernel
theorem d_jdk_35_method_24_code_12 : decode jdk_35_method_24_code 12 = .ok (.lload_n 0, 1) := by decide +kernel
theorem d_jdk_35_method_24_code_13 : decode jdk_35_method_24_code 13 = .ok (.ldc2_w 232, 3) := by decide +kernel
theorem d_jdk_35_method_24_code_16 : decode jdk_35_method_24_code 16 = .ok (.lcmp, 1) := by decide +kernel
theorem d_jdk_35_method_24_code_17 : decode jdk_35_method_24_code 17 = .ok (.ifCond .gt 14, 3) := by decide +kernel
theorem d_jdk_35_method_24_code_20 : decode jdk_35_method_24_code 20 = .ok (.getstatic 234, 3) := by decide +kernel
theorem d_jdk_35_method_24_code_23 : decode jdk_35_method_24_code 23 = .ok (.lload_n 0, 1) := by decide +kernel
theorem d_jdk_35_method_24_code_24 : decode jdk_35_method_24_code 24 = .ok (.l2i, 1) := by decide +kernel
theorem d_jdk_35_method_24_code_25 : decode jdk_35_method_24_code 25 = .ok (.sipush 128, 3) := by decide +kernel
theorem d_jdk_35_method_24_code_28 : decode jdk_35_method_24_code 28 = .ok (.iadd, 1) := by decide +kernel
theorem d_jdk_35_method_24_code_29 : decode jdk_35_method_24_code 29 = .ok (.aaload, 1) := by decide +kernel
theorem d_jdk_35_method_24_code_30 : decode jdk_35_method_24_code 30 = .ok (.areturn, 1) := by decide +kernel
theorem ef_rm_box (m : MethodId) (y0 : Int64) : entryFrame m #[(.long y0)] 3 = mkF m 0 #[.val (.long y0), .second, .unset] [] := by first | (simp [entryFrame, mkF, argsToLocals, Value.category]; done) | rfl
def Q_rm_box (Z : State) (q0 : Int64) (ca : Addr) (cc : Cell) (h0 : Heap) (n0 : Nat) (v : Option Value) (h : Heap) (L : List Loc) : Prop := ∃ b, v = some (.ref b) ∧ Fr n0 L ∧ Keep h0 h [] ∧ Exa Z h b "java/lang/Long" ∧ Fld Z h b "java/lang/Long" "value" "J" (.long q0) ∧ (b < n0 ∨ h0.size ≤ b)
set_option maxRecDepth 65536 in
set_option maxHeartbeats 40000000 in
theorem rm_box (l : Launch) (Z : State) (a0 : Array Value) (hw : ∀ d ∈ tables_1, d.before a0 Z = true) (ws : List Jvm.Cond) (q0 : Int64) (ca : Addr) (cc : Cell) (h0 : Heap) (n0 : Nat) (O : Old Z n0 h0) (SC : Sta Z Z.heap "java/lang/Long$LongCache" "cache" "[Ljava/lang/Long;" (.ref ca)) (AC : Arr Z Z.heap ca cc (.object "java/lang/Long")) (NC : cc.slots.size = 256) (EC : ∀ i, i < 256 → ∃ b, cc.slots[i]? = some (.ref b) ∧ Exa Z Z.heap b "java/lang/Long" ∧ Fld Z Z.heap b "java/lang/Long" "value" "J" (.long ((i.toInt32 - 128).toInt64))) (h1 : ¬ q0 < (-128 : Int64)) (h2 : ¬ (127 : Int64) < q0) :
    MetFree l (⟨"java/lang/Long", "valueOf", "(J)Ljava/lang/Long;"⟩ : MethodName) (head1 (Jvm.Cond.code (⟨"java/lang/Long", "valueOf", "(J)Ljava/lang/Long;"⟩ : MethodName) jdk_35_method_24_code 3 (some (.object "java/lang/Long")) :: ws) ({ frames := 0, cells := 0, slots := 0, locals := 0 } : Room)) (fun a U => a = #[(.long q0)] ∧ Z.Warmed39 U.vm ∧ U.heap = h0) (fun _ _ _ _ _ => True) (fun _ U o U' => ∃ v L, o = .returned v ∧ Q_rm_box Z q0 ca cc h0 n0 v U'.heap L ∧ FrameEnd U o U' L 0 0) := by
  refine MetFree.of_bodySF (plainFor_of_name pn_java_lang_Long) hisR ?_
  intro p e s m args below meth c s₁ Bd hml0 hP hK
  obtain ⟨rfl, hZ, hh⟩ := hP
  have hx := Bd.exec
  have hby := Bd.bytes
  have hlk := Bd.notSynchronized
  have hml : c.maxLocals = 3 := hml0
  have hown : s.vm.findClass "java/lang/Long" = some m.cls := findClass_of_methodNamed Bd.named
  have hnm := (name_of_methodNamed Bd.named Bd.method).1
  have X0 : Stand p l e ({ frames := 0, cells := 0, slots := 0, locals := 0 } : Room) s m #[(.long q0)] below meth c s₁ [] 0 0 := Stand.of_body Bd
  have e0 : s₁.heap = h0 := by rw [← hh, Bd.state]; rfl
  have N0 := Fr.nil n0
  show OwnEnd p e below s (Q_rm_box Z q0 ca cc h0 n0) 0 0 (s₁.setTop (entryFrame m #[(.long q0)] 3))
  refine go (fun t k => castTop (ef_rm_box m q0) k) ?_
  have S1 := SC.ext O.2
  have A1 := AC.ext O.2
  have Z0 : n0 ≤ h0.size := by rw [← O.1]; exact O.2.1
  have KK := Keep.refl h0 []
  show OwnEnd _ _ _ _ _ _ _ (s₁.setTop (mkF m 0 #[.val (.long q0), .second, .unset] []))
  refine go (fun _ k => by refine XS.sipush X0.here hx rfl (hb hby d_jdk_35_method_24_code_0) ?_; exact k) ?_
  refine go (fun _ k => by refine XS.istoreN X0.here hx rfl (hb hby d_jdk_35_method_24_code_3) rfl (l' := #[.val (.long q0), .second, .val (.int (128 : Int32))]) rfl ?_; exact k) ?_
  refine go (fun _ k => by refine XS.lloadN X0.here hx rfl (hb hby d_jdk_35_method_24_code_4) rfl ?_; exact k) ?_
  show OwnEnd _ _ _ _ _ _ _ (s₁.setTop (mkF m 5 #[.val (.long q0), .second, .val (.int (128 : Int32))] [(.long q0)]))
  refine go (X0.ldc2Long hx hown (mvT hZ (hw _ (List.mem_of_getElem? (i := 176) rfl))) (g := (mkF m 5 #[.val (.long q0), .second, .val (.int (128 : Int32))] [(.long q0)])) rfl (hb hby d_jdk_35_method_24_code_5)) ?_
  refine go (fun _ k => by refine XS.lcmp X0.here hx rfl (hb hby d_jdk_35_method_24_code_8) rfl ?_; exact k) ?_
  show OwnEnd _ _ _ _ _ _ _ (s₁.setTop (mkF m 9 #[.val (.long q0), .second, .val (.int (128 : Int32))] [(.int (lcmpW q0 (-128 : Int64)))]))
  refine go (fun _ k => by refine XS.ifNo X0.here hx rfl (hb hby d_jdk_35_method_24_code_9) rfl ((if0 _ _).trans (flt (fun q => h1 ((lw_lt _ _).mp q))).1) ?_; exact k) ?_
  refine go (fun _ k => by refine XS.lloadN X0.here hx rfl (hb hby d_jdk_35_method_24_code_12) rfl ?_; exact k) ?_
  show OwnEnd _ _ _ _ _ _ _ (s₁.setTop (mkF m 13 #[.val (.long q0), .second, .val (.int (128 : Int32))] [(.long q0)]))
  refine go (X0.ldc2Long hx hown (mvT hZ (hw _ (List.mem_of_getElem? (i := 177) rfl))) (g := (mkF m 13 #[.val (.long q0), .second, .val (.int (128 : Int32))] [(.long q0)])) rfl (hb hby d_jdk_35_method_24_code_13)) ?_
  refine go (fun _ k => by refine XS.lcmp X0.here hx rfl (hb hby d_jdk_35_method_24_code_16) rfl ?_; exact k) ?_
  show OwnEnd _ _ _ _ _ _ _ (s₁.setTop (mkF m 17 #[.val (.long q0), .second, .val (.int (128 : Int32))] [(.int (lcmpW q0 (127 : Int64)))]))
  refine go (fun _ k => by refine XS.ifNo X0.here hx rfl (hb hby d_jdk_35_method_24_code_17) rfl ((if0 _ _).trans (flt (fun q => h2 ((lw_gt _ _).mp q))).2.2.1) ?_; exact k) ?_
  show OwnEnd _ _ _ _ _ _ _ (s₁.setTop (mkF m 20 #[.val (.long q0), .second, .val (.int (128 : Int32))] []))
  obtain ⟨T1, X1, e1, st1⟩ := getS2 X0 hx hZ hown (host := "") (Or.inl (hw _ (List.mem_of_getElem? (i := 178) rfl))) Via.refl e0 S1 (g := (mkF m 20 #[.val (.long q0), .second, .val (.int (128 : Int32))] [])) rfl (hb hby d_jdk_35_method_24_code_20)
  refine go st1 ?_
  refine go (fun _ k => by refine XS.lloadN X1.here hx rfl (hb hby d_jdk_35_method_24_code_23) rfl ?_; exact k) ?_
  refine go (fun _ k => by refine XS.l2i X1.here hx rfl (hb hby d_jdk_35_method_24_code_24) rfl ?_; exact k) ?_
  refine go (fun _ k => by refine XS.sipush X1.here hx rfl (hb hby d_jdk_35_method_24_code_25) ?_; exact k) ?_
  show OwnEnd _ _ _ _ _ _ _ (T1.setTop (mkF m 28 #[.val (.long q0), .second, .val (.int (128 : Int32))] [(.int (128 : Int32)), (.int (q0.toInt32)), (.ref ca)]))
  refine go (fun _ k => by refine XS.iadd X1.here hx rfl (hb hby d_jdk_35_method_24_code_28) rfl ?_; exact k) ?_
  show OwnEnd _ _ _ _ _ _ _ (T1.setTop (mkF m 29 #[.val (.long q0), .second, .val (.int (128 : Int32))] [(.int ((q0.toInt32) + (128 : Int32))), (.ref ca)]))
  obtain ⟨hj1, hj2⟩ := own_bxL q0 h1 h2
  obtain ⟨bb, hat, EB, FB⟩ := EC _ hj2
  rw [own_bxLv q0 h1 h2] at FB
  refine go (X1.aaload hx (j := ((q0.toInt32) + (128 : Int32))) (v := (.ref bb)) (by rw [e1]; exact A1.1) (State.isArrayOf_alike hZ.alike A1.2.1) rfl A1.2.2 (fun z => z.elim hj1 fun z => Nat.not_le_of_lt hj2 (NC ▸ z)) hat (g := (mkF m 29 #[.val (.long q0), .second, .val (.int (128 : Int32))] [(.int ((q0.toInt32) + (128 : Int32))), (.ref ca)])) rfl rfl (hb hby d_jdk_35_method_24_code_29)) ?_
  show OwnEnd _ _ _ _ _ _ _ (T1.setTop (mkF m 30 #[.val (.long q0), .second, .val (.int (128 : Int32))] [(.ref bb)]))
  refine endA X1 hx hlk Bd.returns rfl rfl (hb hby d_jdk_35_method_24_code_30) e1 (by decide) (by decide) ?_
  exact ⟨bb, rfl, N0, KK, EB.ext O.2, FB.ext O.2, Or.inl (by rw [← O.1]; exact EB.lt)⟩
theorem d_prog_19_method_6_code_0 : decode prog_19_method_6_code 0 = .ok (.new 47, 3) := by decide +kernel
theorem d_prog_19_method_6_code_3 : decode prog_19_method_6_code 3 = .ok (.dup, 1) := by decide +kernel
theorem d_prog_19_method_6_code_4 : decode prog_19_method_6_code 4 = .ok (.invokespecial 49, 3) := by decide +kernel
theorem d_prog_19_method_6_code_7 : decode prog_19_method_6_code 7 = .ok (.astore_n 1, 1) := by decide +kernel
theorem d_prog_19_method_6_code_8 : decode prog_19_method_6_code 8 = .ok (.aload_n 0, 1) := by decide +kernel
theorem d_prog_19_method_6_code_9 : decode prog_19_method_6_code 9 = .ok (.getfield 13, 3) := by decide +kernel
theorem d_prog_19_method_6_code_12 : decode prog_19_method_6_code 12 = .ok (.astore_n 2, 1) := by decide +kernel
theorem d_prog_19_method_6_code_13 : decode prog_19_method_6_code 13 = .ok (.aload_n 2, 1) := by decide +kernel
theorem d_prog_19_method_6_code_14 : decode prog_19_method_6_code 14 = .ok (.arraylength, 1) := by decide +kernel
theorem d_prog_19_method_6_code_15 : decode prog_19_method_6_code 15 = .ok (.istore_n 3, 1) := by decide +kernel
theorem d_prog_19_method_6_code_16 : decode prog_19_method_6_code 16 = .ok (.iconst 0, 1) := by decide +kernel
theorem d_prog_19_method_6_code_17 : decode prog_19_method_6_code 17 = .ok (.istore 4, 2) := by decide +kernel
theorem d_prog_19_method_6_code_19 : decode prog_19_method_6_code 19 = .ok (.iload 4, 2) := by decide +kernel
theorem d_prog_19_method_6_code_21 : decode prog_19_method_6_code 21 = .ok (.iload_n 3, 1) := by decide +kernel
theorem d_prog_19_method_6_code_22 : decode prog_19_method_6_code 22 = .ok (.if_icmp .ge 27, 3) := by decide +kernel
theorem d_prog_19_method_6_code_25 : decode prog_19_method_6_code 25 = .ok (.aload_n 2, 1) := by decide +kernel
theorem d_prog_19_method_6_code_26 : decode prog_19_method_6_code 26 = .ok (.iload 4, 2) := by decide +kernel
theorem d_prog_19_method_6_code_28 : decode prog_19_method_6_code 28 = .ok (.laload, 1) := by decide +kernel
theorem d_prog_19_method_6_code_29 : decode prog_19_method_6_code 29 = .ok (.lstore 5, 2) := by decide +kernel
theorem d_prog_19_method_6_code_31 : decode prog_19_method_6_code 31 = .ok (.aload_n 1, 1) := by decide +kernel
theorem d_prog_19_method_6_code_32 : decode prog_19_method_6_code 32 = .ok (.lload 5, 2) := by decide +kernel
theorem d_prog_19_method_6_code_34 : decode prog_19_method_6_code 34 = .ok (.invokestatic 50, 3) := by decide +kernel
theorem pd__J_Ljava_lang_Long_ : parseMethodDescriptor "(J)Ljava/lang/Long;" = some ⟨[.long], some (.object "java/lang/Long")⟩ := by decide +kernel
theorem d_prog_19_method_6_code_37 : decode prog_19_method_6_code 37 = .ok (.invokeinterface 55 2, 5) := by decide +kernel
theorem pd__Ljava_lang_Object__Z : parseMethodDescriptor "(Ljava/lang/Object;)Z" = some ⟨[(.object "java/lang/Object")], some .boolean⟩ := by decide +kernel
theorem d_prog_19_method_6_code_42 : decode prog_19_method_6_code 42 = .ok (.pop, 1) := by decide +kernel
theorem d_prog_19_method_6_code_43 : decode prog_19_method_6_code 43 = .ok (.iinc 4 1, 3) := by decide +kernel
theorem d_prog_19_method_6_code_46 : decode prog_19_method_6_code 46 = .ok (.goto (-27), 3) := by decide +kernel
theorem d_prog_19_method_6_code_49 : decode prog_19_method_6_code 49 = .ok (.aload_n 1, 1) := by decide +kernel
theorem d_prog_19_method_6_code_50 : decode prog_19_method_6_code 50 = .ok (.areturn, 1) := by decide +kernel
theorem ef_rm_buc (m : MethodId) (y0 : Addr) : entryFrame m #[(.ref y0)] 7 = mkF m 0 #[.val (.ref y0), .unset, .unset, .unset, .unset, .unset, .unset] [] := by first | (simp [entryFrame, mkF, argsToLocals, Value.category]; done) | rfl
def Q_rm_buc (Z : State) (a0' : Addr) (cb : Addr) (ck : ClassId) (c0 : Int64) (c1 : Int64) (c2 : Int64) (da : Addr) (dk : ClassId) (caJ : Addr) (ccJ : Cell) (h0 : Heap) (n0 : Nat) (v : Option Value) (h : Heap) (L : List Loc) : Prop := ∃ lb gb gk z0 z1 z2, v = some (.ref lb) ∧ Fr n0 L ∧ Keep h0 h [] ∧ Exa Z h lb "java/util/ArrayList" ∧ Fld Z h lb "java/util/ArrayList" "elementData" "[Ljava/lang/Object;" (.ref gb) ∧ Fld Z h lb "java/util/ArrayList" "size" "I" (.int 3) ∧ Arv Z h gb gk (.object "java/lang/Object") 10 [(.ref z0), (.ref z1), (.ref z2), .null, .null, .null, .null, .null, .null, .null] .null ∧ Exa Z h z0 "java/lang/Long" ∧ Exa Z h z1 "java/lang/Long" ∧ Exa Z h z2 "java/lang/Long" ∧ Fld Z h z0 "java/lang/Long" "value" "J" (.long c0) ∧ Fld Z h z1 "java/lang/Long" "value" "J" (.long c1) ∧ Fld Z h z2 "java/lang/Long" "value" "J" (.long c2)
set_option maxRecDepth 65536 in
set_option maxHeartbeats 40000000 in
theorem rm_buc (l : Launch) (Z : State) (a0 : Array Value) (hw : ∀ d ∈ tables_1, d.before a0 Z = true) (ws : List Jvm.Cond) (a0' : Addr) (cb : Addr) (ck : ClassId) (c0 : Int64) (c1 : Int64) (c2 : Int64) (da : Addr) (dk : ClassId) (caJ : Addr) (ccJ : Cell) (h0 : Heap) (n0 : Nat) (Z0 : n0 ≤ h0.size) (O : Old Z n0 h0) (EA : Exa Z h0 a0' "com/example/waitsfor/waitsfor/Histogram") (FC : Fld Z h0 a0' "com/example/waitsfor/waitsfor/Histogram" "counts" "[J" (.ref cb)) (VC : Arv Z h0 cb ck .long 3 [(.long c0), (.long c1), (.long c2)] (.long 0)) (SD : Sta Z Z.heap "java/util/ArrayList" "DEFAULTCAPACITY_EMPTY_ELEMENTDATA" "[Ljava/lang/Object;" (.ref da)) (VD : Arv Z Z.heap da dk (.object "java/lang/Object") 0 [] .null) (SCJ : Sta Z Z.heap "java/lang/Long$LongCache" "cache" "[Ljava/lang/Long;" (.ref caJ)) (ACJ : Arr Z Z.heap caJ ccJ (.object "java/lang/Long")) (NCJ : ccJ.slots.size = 256) (ECJ : ∀ i, i < 256 → ∃ b, ccJ.slots[i]? = some (.ref b) ∧ Exa Z Z.heap b "java/lang/Long" ∧ Fld Z Z.heap b "java/lang/Long" "value" "J" (.long ((i.toInt32 - 128).toInt64))) (r0 : own_in c0) (r1 : own_in c1) (r2 : own_in c2) :
    MetFree l (⟨"com/example/waitsfor/waitsfor/Histogram", "bucketCounts", "()Ljava/util/List;"⟩ : MethodName) (head1 (Jvm.Cond.code (⟨"com/example/waitsfor/waitsfor/Histogram", "bucketCounts", "()Ljava/util/List;"⟩ : MethodName) prog_19_method_6_code 7 (some (.object "java/util/List")) :: ws) ({ frames := 5, cells := 3, slots := 23, locals := 69 } : Room)) (fun a U => a = #[(.ref a0')] ∧ Z.Warmed39 U.vm ∧ U.heap = h0) (fun _ _ _ _ _ => True) (fun _ U o U' => ∃ v L, o = .returned v ∧ Q_rm_buc Z a0' cb ck c0 c1 c2 da dk caJ ccJ h0 n0 v U'.heap L ∧ FrameEnd U o U' L 3 23) := by
  refine MetFree.of_bodySF (plainFor_of_name pn_com_example_waitsfor_waitsfor_Histogram) hisR ?_
  intro p e s m args below meth c s₁ Bd hml0 hP hK
  obtain ⟨rfl, hZ, hh⟩ := hP
  have hx := Bd.exec
  have hby := Bd.bytes
  have hlk := Bd.notSynchronized
  have hml : c.maxLocals = 7 := hml0
  have hown : s.vm.findClass "com/example/waitsfor/waitsfor/Histogram" = some m.cls := findClass_of_methodNamed Bd.named
  have hnm := (name_of_methodNamed Bd.named Bd.method).1
  have X0 : Stand p l e ({ frames := 5, cells := 3, slots := 23, locals := 69 } : Room) s m #[(.ref a0')] below meth c s₁ [] 0 0 := Stand.of_body Bd
  have e0 : s₁.heap = h0 := by rw [← hh, Bd.state]; rfl
  have N0 := Fr.nil n0
  show OwnEnd p e below s (Q_rm_buc Z a0' cb ck c0 c1 c2 da dk caJ ccJ h0 n0) 3 23 (s₁.setTop (entryFrame m #[(.ref a0')] 7))
  refine go (fun t k => castTop (ef_rm_buc m a0') k) ?_
  have KK := Keep.refl h0 []
  show OwnEnd _ _ _ _ _ _ _ (s₁.setTop (mkF m 0 (fL1 a0') []))
  obtain ⟨T1, h1, X1, e1, E1, A1, D1, -, st1⟩ := newO X0 hx hZ hown (hw _ (List.mem_of_getElem? (i := 170) rfl)) (hw _ (List.mem_of_getElem? (i := 1) rfl)) (hw _ (List.mem_of_getElem? (i := 2) rfl)) e0 (g := (mkF m 0 (fL1 a0') [])) rfl (hb hby d_prog_19_method_6_code_0) (by decide) (by decide)
  obtain ⟨b1, g1⟩ : ∃ z, z = h0.size := ⟨_, rfl⟩
  rw [← g1] at A1 D1 st1
  have ne_a0__b1 : a0' ≠ b1 := fun q => absurd EA.lt (by rw [q, g1]; exact Nat.lt_irrefl _)
  have ne_cb_b1 : cb ≠ b1 := fun q => absurd VC.lt (by rw [q, g1]; exact Nat.lt_irrefl _)
  have g_b1 : n0 ≤ b1 := Nat.le_trans Z0 (Nat.le_of_eq g1.symm)
  have sz_b1 : h0.size ≤ b1 := Nat.le_trans KK.1 (Nat.le_of_eq g1.symm)
  have Z0 := Nat.le_trans Z0 E1.1
  have O := O.ext E1
  have KK := Keep.ext KK E1
  have EA := EA.ext E1
  have FC := FC.ext E1
  have VC := VC.ext E1
  have F_modCount_b1 : Fld Z h1 b1 "java/util/AbstractList" "modCount" "I" (.int (0 : Int32)) := D1 (Or.inl (hw _ (List.mem_of_getElem? (i := 22) rfl))) (ty := .int) (by decide)
  have F_elementData_b1 : Fld Z h1 b1 "java/util/ArrayList" "elementData" "[Ljava/lang/Object;" .null := D1 (Or.inl (hw _ (List.mem_of_getElem? (i := 25) rfl))) (ty := (.array (.object "java/lang/Object"))) (by decide)
  have F_size_b1 : Fld Z h1 b1 "java/util/ArrayList" "size" "I" (.int (0 : Int32)) := D1 (Or.inl (hw _ (List.mem_of_getElem? (i := 57) rfl))) (ty := .int) (by decide)
  have E_b1 := A1
  refine go st1 ?_
  refine go (fun _ k => by refine XS.dup X1.here hx rfl (hb hby d_prog_19_method_6_code_3) rfl rfl ?_; exact k) ?_
  show OwnEnd _ _ _ _ _ _ _ (T1.setTop (mkF m 4 (fL1 a0') [(.ref b1), (.ref b1)]))
  obtain ⟨_, T2, L2, X2, hQ2, st2⟩ := callInit X1 hx hZ hown rfl (hw _ (List.mem_of_getElem? (i := 171) rfl)) (hw _ (List.mem_of_getElem? (i := 4) rfl)) (hw _ (List.mem_of_getElem? (i := 2) rfl)) (hw _ (List.mem_of_getElem? (i := 5) rfl)) (by decide) (rm_ali l Z a0 hw [] b1 da h1 n0 g_b1 E_b1 F_modCount_b1 F_elementData_b1 F_size_b1 O SD) (W := 1) (by decide) (by decide) e1 (g := (mkF m 4 (fL1 a0') [(.ref b1), (.ref b1)])) rfl (by rw [hml]; rfl) (argsL := []) (rest := [(.ref b1)]) rfl (lenOf pd___V rfl) rfl (by show 2 * 0 + _ ≤ _; exact Nat.le_of_eq rfl) (hb hby d_prog_19_method_6_code_4) (by decide) (by decide)
  obtain ⟨rfl, Nq2, K2, E_b1, F_modCount_b1, F_elementData_b1, F_size_b1⟩ := hQ2
  have N2 := Fr.app N0 Nq2
  have Z0 := Nat.le_trans Z0 K2.1
  have O := O.keep K2 (allS g_b1 all0)
  have KK := Keep.trans KK K2 (allS (Or.inr sz_b1) all0)
  have EA := EA.keep K2
  have FC := FC.keep K2 (ninS ne_a0__b1 nin0)
  have VC := VC.keep K2 (ninS ne_cb_b1 nin0)
  refine go st2 ?_
  refine go (fun _ k => by refine XS.astoreN X2.here hx rfl (hb hby d_prog_19_method_6_code_7) rfl rfl (l' := (fL2 a0' b1)) rfl ?_; exact k) ?_
  refine go (fun _ k => by refine XS.aloadN X2.here hx rfl (hb hby d_prog_19_method_6_code_8) rfl rfl ?_; exact k) ?_
  show OwnEnd _ _ _ _ _ _ _ (T2.setTop (mkF m 9 (fL2 a0' b1) [(.ref a0')]))
  obtain ⟨T3, X3, e3, st3⟩ := getF X2 hx hZ hown (host := "") (Or.inl (hw _ (List.mem_of_getElem? (i := 161) rfl))) Via.refl rfl FC (g := (mkF m 9 (fL2 a0' b1) [(.ref a0')])) rfl rfl (hb hby d_prog_19_method_6_code_9)
  refine go st3 ?_
  refine go (fun _ k => by refine XS.astoreN X3.here hx rfl (hb hby d_prog_19_method_6_code_12) rfl rfl (l' := (fL3 a0' b1 cb)) rfl ?_; exact k) ?_
  refine go (fun _ k => by refine XS.aloadN X3.here hx rfl (hb hby d_prog_19_method_6_code_13) rfl rfl ?_; exact k) ?_
  show OwnEnd _ _ _ _ _ _ _ (T3.setTop (mkF m 14 (fL3 a0' b1 cb) [(.ref cb)]))
  refine go (lenV X3 hx hZ e3 VC (g := (mkF m 14 (fL3 a0' b1 cb) [(.ref cb)])) rfl rfl (hb hby d_prog_19_method_6_code_14)) ?_
  refine go (fun _ k => by refine XS.istoreN X3.here hx rfl (hb hby d_prog_19_method_6_code_15) rfl (l' := (fL4 a0' b1 cb (3 : Int32))) rfl ?_; exact k) ?_
  refine go (fun _ k => by refine XS.iconst X3.here hx rfl (hb hby d_prog_19_method_6_code_16) ?_; exact k) ?_
  refine go (fun _ k => by refine XS.istore X3.here hx rfl (hb hby d_prog_19_method_6_code_17) rfl (l' := (fL5 a0' b1 cb (3 : Int32) (0 : Int32))) rfl ?_; exact k) ?_
  show OwnEnd _ _ _ _ _ _ _ (T3.setTop (mkF m 19 (fL5 a0' b1 cb (3 : Int32) (0 : Int32)) []))
  refine go (fun _ k => by refine XS.iload X3.here hx rfl (hb hby d_prog_19_method_6_code_19) rfl ?_; exact k) ?_
  refine go (fun _ k => by refine XS.iloadN X3.here hx rfl (hb hby d_prog_19_method_6_code_21) rfl ?_; exact k) ?_
  show OwnEnd _ _ _ _ _ _ _ (T3.setTop (mkF m 22 (fL5 a0' b1 cb (3 : Int32) (0 : Int32)) [(.int (3 : Int32)), (.int (0 : Int32))]))
  refine go (fun _ k => by refine XS.icmpNo X3.here hx rfl (hb hby d_prog_19_method_6_code_22) rfl (tlt (by decide)).2.1 ?_; exact k) ?_
  refine go (fun _ k => by refine XS.aloadN X3.here hx rfl (hb hby d_prog_19_method_6_code_25) rfl rfl ?_; exact k) ?_
  refine go (fun _ k => by refine XS.iload X3.here hx rfl (hb hby d_prog_19_method_6_code_26) rfl ?_; exact k) ?_
  show OwnEnd _ _ _ _ _ _ _ (T3.setTop (mkF m 28 (fL5 a0' b1 cb (3 : Int32) (0 : Int32)) [(.int (0 : Int32)), (.ref cb)]))
  refine go (ldJv X3 hx hZ e3 VC (j := (0 : Int32)) (i := 0) (w := c0) (by decide) (by decide) (by decide) rfl (g := (mkF m 28 (fL5 a0' b1 cb (3 : Int32) (0 : Int32)) [(.int (0 : Int32)), (.ref cb)])) rfl rfl (hb hby d_prog_19_method_6_code_28)) ?_
  refine go (fun _ k => by refine XS.lstore X3.here hx rfl (hb hby d_prog_19_method_6_code_29) rfl (l' := (fL6 a0' b1 cb (3 : Int32) (0 : Int32) c0)) rfl ?_; exact k) ?_
  refine go (fun _ k => by refine XS.aloadN X3.here hx rfl (hb hby d_prog_19_method_6_code_31) rfl rfl ?_; exact k) ?_
  refine go (fun _ k => by refine XS.lload X3.here hx rfl (hb hby d_prog_19_method_6_code_32) rfl ?_; exact k) ?_
  show OwnEnd _ _ _ _ _ _ _ (T3.setTop (mkF m 34 (fL6 a0' b1 cb (3 : Int32) (0 : Int32) c0) [(.long c0), (.ref b1)]))
  obtain ⟨_, T4, L4, X4, hQ4, st4⟩ := callStat X3 hx hZ hown (hw _ (List.mem_of_getElem? (i := 172) rfl)) (hw _ (List.mem_of_getElem? (i := 173) rfl)) (hw _ (List.mem_of_getElem? (i := 174) rfl)) (hw _ (List.mem_of_getElem? (i := 175) rfl)) (by decide) (rm_box l Z a0 hw [] c0 caJ ccJ T2.heap n0 O SCJ ACJ NCJ ECJ r0.1 r0.2) (W := 1) (by decide) (by decide) e3 (g := (mkF m 34 (fL6 a0' b1 cb (3 : Int32) (0 : Int32) c0) [(.long c0), (.ref b1)])) rfl (by rw [hml]; rfl) (argsL := [(.long c0)]) (rest := [(.ref b1)]) rfl (lenOf pd__J_Ljava_lang_Long_ rfl) rfl (by show 2 * 0 + _ ≤ _; exact Nat.le_of_eq rfl) (hb hby d_prog_19_method_6_code_34) (by decide) (by decide)
  have lb4_0 := E_b1.lt
  obtain ⟨bx4, rfl, Nq4, K4, E_bx4, F_bx4, hb4⟩ := hQ4
  have N4 := Fr.app N2 Nq4
  have ne_b1_bx4 : b1 ≠ bx4 := fun q => hb4.elim (fun u => absurd g_b1 (by rw [q]; exact Nat.not_le.mpr u)) (fun u => absurd lb4_0 (by rw [q]; exact Nat.not_lt.mpr u))
  have Z0 := Nat.le_trans Z0 K4.1
  have O := O.keep K4 all0
  have KK := Keep.trans KK K4 all0
  have EA := EA.keep K4
  have FC := FC.keep K4 nin0
  have VC := VC.keep K4 nin0
  have E_b1 := E_b1.keep K4
  have F_modCount_b1 := F_modCount_b1.keep K4 nin0
  have F_elementData_b1 := F_elementData_b1.keep K4 nin0
  have F_size_b1 := F_size_b1.keep K4 nin0
  refine go st4 ?_
  show OwnEnd _ _ _ _ _ _ _ (T4.setTop (mkF m 37 (fL6 a0' b1 cb (3 : Int32) (0 : Int32) c0) [(.ref bx4), (.ref b1)]))
  obtain ⟨_, T5, L5, X5, hQ5, st5⟩ := callFace X4 hx hZ hown (hw _ (List.mem_of_getElem? (i := 180) rfl)) (hw _ (List.mem_of_getElem? (i := 46) rfl)) (mvT hZ (hw _ (List.mem_of_getElem? (i := 47) rfl))) (hw _ (List.mem_of_getElem? (i := 48) rfl)) (hw _ (List.mem_of_getElem? (i := 49) rfl)) (hw _ (List.mem_of_getElem? (i := 50) rfl)) (hw _ (List.mem_of_getElem? (i := 51) rfl)) (hw _ (List.mem_of_getElem? (i := 52) rfl)) (hw _ (List.mem_of_getElem? (i := 2) rfl)) (hw _ (List.mem_of_getElem? (i := 53) rfl)) (by decide) (rm_a1_L0 l Z a0 hw [] b1 bx4 da dk T4.heap n0 g_b1 E_b1 F_modCount_b1 F_elementData_b1 F_size_b1 O SD VD E_bx4) (W := 0) (by decide) (by decide) rfl E_b1 (g := (mkF m 37 (fL6 a0' b1 cb (3 : Int32) (0 : Int32) c0) [(.ref bx4), (.ref b1)])) rfl (by rw [hml]; rfl) (argsL := [(.ref bx4)]) (rest := []) rfl (lenOf pd__Ljava_lang_Object__Z rfl) rfl (by show 2 * 0 + _ ≤ _; exact Nat.le_of_eq rfl) (hb hby d_prog_19_method_6_code_37) (by decide) (by decide)
  have lto5 := E_b1.lt
  have ltz5_0 := EA.lt
  have ltz5_1 := VC.lt
  have ltz5_2 := E_bx4.lt
  obtain ⟨gb5, k5, rfl, Nq5, K5, g_gb5, sq5, E_b1, F_modCount_b1, F_elementData_b1, F_size_b1, V_gb5, O5⟩ := hQ5
  have sz_gb5 : h0.size ≤ gb5 := Nat.le_trans KK.1 sq5
  have N5 := Fr.app N4 Nq5
  have Z0 := Nat.le_trans Z0 K5.1
  have O := O.keep K5 (allS g_b1 all0)
  have KK := Keep.trans KK K5 (allS (Or.inr sz_b1) all0)
  have EA := EA.keep K5
  have FC := FC.keep K5 (ninS ne_a0__b1 nin0)
  have VC := VC.keep K5 (ninS ne_cb_b1 nin0)
  have E_bx4 := E_bx4.keep K5
  have F_bx4 := F_bx4.keep K5 (ninS (Ne.symm ne_b1_bx4) nin0)
  have ne_gb5 : b1 ≠ gb5 := fun q => absurd lto5 (by rw [q]; exact Nat.not_lt.mpr sq5)
  have nz_gb5_0 : a0' ≠ gb5 := fun q => absurd ltz5_0 (by rw [q]; exact Nat.not_lt.mpr sq5)
  have nz_gb5_1 : cb ≠ gb5 := fun q => absurd ltz5_1 (by rw [q]; exact Nat.not_lt.mpr sq5)
  have nz_gb5_2 : bx4 ≠ gb5 := fun q => absurd ltz5_2 (by rw [q]; exact Nat.not_lt.mpr sq5)
  refine go st5 ?_
  refine go (fun _ k => by refine XS.pop X5.here hx rfl (hb hby d_prog_19_method_6_code_42) rfl rfl ?_; exact k) ?_
  show OwnEnd _ _ _ _ _ _ _ (T5.setTop (mkF m 43 (fL6 a0' b1 cb (3 : Int32) (0 : Int32) c0) []))
  refine go (fun _ k => by refine XS.iinc X5.here hx rfl (hb hby d_prog_19_method_6_code_43) rfl (l' := (fL6 a0' b1 cb (3 : Int32) ((0 : Int32) + (1 : Int32)) c0)) rfl ?_; exact k) ?_
  show OwnEnd _ _ _ _ _ _ _ (T5.setTop (mkF m 46 (fL6 a0' b1 cb (3 : Int32) ((0 : Int32) + (1 : Int32)) c0) []))
  rw [show ((0 : Int32) + (1 : Int32)) = (1 : Int32) from by decide]
  refine go (fun _ k => by refine XS.goto X5.here hx rfl (pc0 := 46) (pc' := 19) rfl (hb hby d_prog_19_method_6_code_46) (by decide) (by decide) ?_; exact k) ?_
  refine go (fun _ k => by refine XS.iload X5.here hx rfl (hb hby d_prog_19_method_6_code_19) rfl ?_; exact k) ?_
  refine go (fun _ k => by refine XS.iloadN X5.here hx rfl (hb hby d_prog_19_method_6_code_21) rfl ?_; exact k) ?_
  show OwnEnd _ _ _ _ _ _ _ (T5.setTop (mkF m 22 (fL6 a0' b1 cb (3 : Int32) (1 : Int32) c0) [(.int (3 : Int32)), (.int (1 : Int32))]))
  refine go (fun _ k => by refine XS.icmpNo X5.here hx rfl (hb hby d_prog_19_method_6_code_22) rfl (tlt (by decide)).2.1 ?_; exact k) ?_
  refine go (fun _ k => by refine XS.aloadN X5.here hx rfl (hb hby d_prog_19_method_6_code_25) rfl rfl ?_; exact k) ?_
  refine go (fun _ k => by refine XS.iload X5.here hx rfl (hb hby d_prog_19_method_6_code_26) rfl ?_; exact k) ?_
  show OwnEnd _ _ _ _ _ _ _ (T5.setTop (mkF m 28 (fL6 a0' b1 cb (3 : Int32) (1 : Int32) c0) [(.int (1 : Int32)), (.ref cb)]))
  refine go (ldJv X5 hx hZ rfl VC (j := (1 : Int32)) (i := 1) (w := c1) (by decide) (by decide) (by decide) rfl (g := (mkF m 28 (fL6 a0' b1 cb (3 : Int32) (1 : Int32) c0) [(.int (1 : Int32)), (.ref cb)])) rfl rfl (hb hby d_prog_19_method_6_code_28)) ?_
  refine go (fun _ k => by refine XS.lstore X5.here hx rfl (hb hby d_prog_19_method_6_code_29) rfl (l' := (fL6 a0' b1 cb (3 : Int32) (1 : Int32) c1)) rfl ?_; exact k) ?_
  refine go (fun _ k => by refine XS.aloadN X5.here hx rfl (hb hby d_prog_19_method_6_code_31) rfl rfl ?_; exact k) ?_
  refine go (fun _ k => by refine XS.lload X5.here hx rfl (hb hby d_prog_19_method_6_code_32) rfl ?_; exact k) ?_
  show OwnEnd _ _ _ _ _ _ _ (T5.setTop (mkF m 34 (fL6 a0' b1 cb (3 : Int32) (1 : Int32) c1) [(.long c1), (.ref b1)]))
  obtain ⟨_, T6, L6, X6, hQ6, st6⟩ := callStat X5 hx hZ hown (hw _ (List.mem_of_getElem? (i := 172) rfl)) (hw _ (List.mem_of_getElem? (i := 173) rfl)) (hw _ (List.mem_of_getElem? (i := 174) rfl)) (hw _ (List.mem_of_getElem? (i := 175) rfl)) (by decide) (rm_box l Z a0 hw [] c1 caJ ccJ T5.heap n0 O SCJ ACJ NCJ ECJ r1.1 r1.2) (W := 1) (by decide) (by decide) rfl (g := (mkF m 34 (fL6 a0' b1 cb (3 : Int32) (1 : Int32) c1) [(.long c1), (.ref b1)])) rfl (by rw [hml]; rfl) (argsL := [(.long c1)]) (rest := [(.ref b1)]) rfl (lenOf pd__J_Ljava_lang_Long_ rfl) rfl (by show 2 * 0 + _ ≤ _; exact Nat.le_of_eq rfl) (hb hby d_prog_19_method_6_code_34) (by decide) (by decide)
  have lb6_0 := E_b1.lt
  have lb6_1 := V_gb5.lt
  obtain ⟨bx6, rfl, Nq6, K6, E_bx6, F_bx6, hb6⟩ := hQ6
  have N6 := Fr.app N5 Nq6
  have ne_b1_bx6 : b1 ≠ bx6 := fun q => hb6.elim (fun u => absurd g_b1 (by rw [q]; exact Nat.not_le.mpr u)) (fun u => absurd lb6_0 (by rw [q]; exact Nat.not_lt.mpr u))
  have ne_gb5_bx6 : gb5 ≠ bx6 := fun q => hb6.elim (fun u => absurd g_gb5 (by rw [q]; exact Nat.not_le.mpr u)) (fun u => absurd lb6_1 (by rw [q]; exact Nat.not_lt.mpr u))
  have Z0 := Nat.le_trans Z0 K6.1
  have O := O.keep K6 all0
  have KK := Keep.trans KK K6 all0
  have EA := EA.keep K6
  have FC := FC.keep K6 nin0
  have VC := VC.keep K6 nin0
  have E_bx4 := E_bx4.keep K6
  have F_bx4 := F_bx4.keep K6 nin0
  have E_b1 := E_b1.keep K6
  have F_modCount_b1 := F_modCount_b1.keep K6 nin0
  have F_elementData_b1 := F_elementData_b1.keep K6 nin0
  have F_size_b1 := F_size_b1.keep K6 nin0
  have V_gb5 := V_gb5.keep K6 nin0
  refine go st6 ?_
  show OwnEnd _ _ _ _ _ _ _ (T6.setTop (mkF m 37 (fL6 a0' b1 cb (3 : Int32) (1 : Int32) c1) [(.ref bx6), (.ref b1)]))
  obtain ⟨_, T7, L7, X7, hQ7, st7⟩ := callFace X6 hx hZ hown (hw _ (List.mem_of_getElem? (i := 180) rfl)) (hw _ (List.mem_of_getElem? (i := 46) rfl)) (mvT hZ (hw _ (List.mem_of_getElem? (i := 47) rfl))) (hw _ (List.mem_of_getElem? (i := 48) rfl)) (hw _ (List.mem_of_getElem? (i := 49) rfl)) (hw _ (List.mem_of_getElem? (i := 50) rfl)) (hw _ (List.mem_of_getElem? (i := 51) rfl)) (hw _ (List.mem_of_getElem? (i := 52) rfl)) (hw _ (List.mem_of_getElem? (i := 2) rfl)) (hw _ (List.mem_of_getElem? (i := 53) rfl)) (by decide) (rm_a1_L1 l Z a0 hw [] b1 bx6 gb5 k5 bx4 T6.heap n0 g_b1 g_gb5 ne_gb5 E_b1 F_modCount_b1 F_elementData_b1 F_size_b1 V_gb5 O5 E_bx6) (W := 0) (by decide) (by decide) rfl E_b1 (g := (mkF m 37 (fL6 a0' b1 cb (3 : Int32) (1 : Int32) c1) [(.ref bx6), (.ref b1)])) rfl (by rw [hml]; rfl) (argsL := [(.ref bx6)]) (rest := []) rfl (lenOf pd__Ljava_lang_Object__Z rfl) rfl (by show 2 * 0 + _ ≤ _; exact Nat.le_of_eq rfl) (hb hby d_prog_19_method_6_code_37) (by decide) (by decide)
  obtain ⟨rfl, Nq7, K7, E_b1, F_modCount_b1, F_elementData_b1, F_size_b1, V_gb5⟩ := hQ7
  have N7 := Fr.app N6 Nq7
  have Z0 := Nat.le_trans Z0 K7.1
  have O := O.keep K7 (allS g_b1 (allS g_gb5 all0))
  have KK := Keep.trans KK K7 (allS (Or.inr sz_b1) (allS (Or.inr sz_gb5) all0))
  have EA := EA.keep K7
  have FC := FC.keep K7 (ninS ne_a0__b1 (ninS nz_gb5_0 nin0))
  have VC := VC.keep K7 (ninS ne_cb_b1 (ninS nz_gb5_1 nin0))
  have E_bx4 := E_bx4.keep K7
  have F_bx4 := F_bx4.keep K7 (ninS (Ne.symm ne_b1_bx4) (ninS nz_gb5_2 nin0))
  have E_bx6 := E_bx6.keep K7
  have F_bx6 := F_bx6.keep K7 (ninS (Ne.symm ne_b1_bx6) (ninS (Ne.symm ne_gb5_bx6) nin0))
  refine go st7 ?_
  refine go (fun _ k => by refine XS.pop X7.here hx rfl (hb hby d_prog_19_method_6_code_42) rfl rfl ?_; exact k) ?_
  show OwnEnd _ _ _ _ _ _ _ (T7.setTop (mkF m 43 (fL6 a0' b1 cb (3 : Int32) (1 : Int32) c1) []))
  refine go (fun _ k => by refine XS.iinc X7.here hx rfl (hb hby d_prog_19_method_6_code_43) rfl (l' := (fL6 a0' b1 cb (3 : Int32) ((1 : Int32) + (1 : Int32)) c1)) rfl ?_; exact k) ?_
  show OwnEnd _ _ _ _ _ _ _ (T7.setTop (mkF m 46 (fL6 a0' b1 cb (3 : Int32) ((1 : Int32) + (1 : Int32)) c1) []))
  rw [show ((1 : Int32) + (1 : Int32)) = (2 : Int32) from by decide]
  refine go (fun _ k => by refine XS.goto X7.here hx rfl (pc0 := 46) (pc' := 19) rfl (hb hby d_prog_19_method_6_code_46) (by decide) (by decide) ?_; exact k) ?_
  refine go (fun _ k => by refine XS.iload X7.here hx rfl (hb hby d_prog_19_method_6_code_19) rfl ?_; exact k) ?_
  refine go (fun _ k => by refine XS.iloadN X7.here hx rfl (hb hby d_prog_19_method_6_code_21) rfl ?_; exact k) ?_
  show OwnEnd _ _ _ _ _ _ _ (T7.setTop (mkF m 22 (fL6 a0' b1 cb (3 : Int32) (2 : Int32) c1) [(.int (3 : Int32)), (.int (2 : Int32))]))
  refine go (fun _ k => by refine XS.icmpNo X7.here hx rfl (hb hby d_prog_19_method_6_code_22) rfl (tlt (by decide)).2.1 ?_; exact k) ?_
  refine go (fun _ k => by refine XS.aloadN X7.here hx rfl (hb hby d_prog_19_method_6_code_25) rfl rfl ?_; exact k) ?_
  refine go (fun _ k => by refine XS.iload X7.here hx rfl (hb hby d_prog_19_method_6_code_26) rfl ?_; exact k) ?_
  show OwnEnd _ _ _ _ _ _ _ (T7.setTop (mkF m 28 (fL6 a0' b1 cb (3 : Int32) (2 : Int32) c1) [(.int (2 : Int32)), (.ref cb)]))
  refine go (ldJv X7 hx hZ rfl VC (j := (2 : Int32)) (i := 2) (w := c2) (by decide) (by decide) (by decide) rfl (g := (mkF m 28 (fL6 a0' b1 cb (3 : Int32) (2 : Int32) c1) [(.int (2 : Int32)), (.ref cb)])) rfl rfl (hb hby d_prog_19_method_6_code_28)) ?_
  refine go (fun _ k => by refine XS.lstore X7.here hx rfl (hb hby d_prog_19_method_6_code_29) rfl (l' := (fL6 a0' b1 cb (3 : Int32) (2 : Int32) c2)) rfl ?_; exact k) ?_
  refine go (fun _ k => by refine XS.aloadN X7.here hx rfl (hb hby d_prog_19_method_6_code_31) rfl rfl ?_; exact k) ?_
  refine go (fun _ k => by refine XS.lload X7.here hx rfl (hb hby d_prog_19_method_6_code_32) rfl ?_; exact k) ?_
  show OwnEnd _ _ _ _ _ _ _ (T7.setTop (mkF m 34 (fL6 a0' b1 cb (3 : Int32) (2 : Int32) c2) [(.long c2), (.ref b1)]))
  obtain ⟨_, T8, L8, X8, hQ8, st8⟩ := callStat X7 hx hZ hown (hw _ (List.mem_of_getElem? (i := 172) rfl)) (hw _ (List.mem_of_getElem? (i := 173) rfl)) (hw _ (List.mem_of_getElem? (i := 174) rfl)) (hw _ (List.mem_of_getElem? (i := 175) rfl)) (by decide) (rm_box l Z a0 hw [] c2 caJ ccJ T7.heap n0 O SCJ ACJ NCJ ECJ r2.1 r2.2) (W := 1) (by decide) (by decide) rfl (g := (mkF m 34 (fL6 a0' b1 cb (3 : Int32) (2 : Int32) c2) [(.long c2), (.ref b1)])) rfl (by rw [hml]; rfl) (argsL := [(.long c2)]) (rest := [(.ref b1)]) rfl (lenOf pd__J_Ljava_lang_Long_ rfl) rfl (by show 2 * 0 + _ ≤ _; exact Nat.le_of_eq rfl) (hb hby d_prog_19_method_6_code_34) (by decide) (by decide)
  have lb8_0 := E_b1.lt
  have lb8_1 := V_gb5.lt
  obtain ⟨bx8, rfl, Nq8, K8, E_bx8, F_bx8, hb8⟩ := hQ8
  have N8 := Fr.app N7 Nq8
  have ne_b1_bx8 : b1 ≠ bx8 := fun q => hb8.elim (fun u => absurd g_b1 (by rw [q]; exact Nat.not_le.mpr u)) (fun u => absurd lb8_0 (by rw [q]; exact Nat.not_lt.mpr u))
  have ne_gb5_bx8 : gb5 ≠ bx8 := fun q => hb8.elim (fun u => absurd g_gb5 (by rw [q]; exact Nat.not_le.mpr u)) (fun u => absurd lb8_1 (by rw [q]; exact Nat.not_lt.mpr u))
  have Z0 := Nat.le_trans Z0 K8.1
  have O := O.keep K8 all0
  have KK := Keep.trans KK K8 all0
  have EA := EA.keep K8
  have FC := FC.keep K8 nin0
  have VC := VC.keep K8 nin0
  have E_bx4 := E_bx4.keep K8
  have F_bx4 := F_bx4.keep K8 nin0
  have E_bx6 := E_bx6.keep K8
  have F_bx6 := F_bx6.keep K8 nin0
  have E_b1 := E_b1.keep K8
  have F_modCount_b1 := F_modCount_b1.keep K8 nin0
  have F_elementData_b1 := F_elementData_b1.keep K8 nin0
  have F_size_b1 := F_size_b1.keep K8 nin0
  have V_gb5 := V_gb5.keep K8 nin0
  refine go st8 ?_
  show OwnEnd _ _ _ _ _ _ _ (T8.setTop (mkF m 37 (fL6 a0' b1 cb (3 : Int32) (2 : Int32) c2) [(.ref bx8), (.ref b1)]))
  obtain ⟨_, T9, L9, X9, hQ9, st9⟩ := callFace X8 hx hZ hown (hw _ (List.mem_of_getElem? (i := 180) rfl)) (hw _ (List.mem_of_getElem? (i := 46) rfl)) (mvT hZ (hw _ (List.mem_of_getElem? (i := 47) rfl))) (hw _ (List.mem_of_getElem? (i := 48) rfl)) (hw _ (List.mem_of_getElem? (i := 49) rfl)) (hw _ (List.mem_of_getElem? (i := 50) rfl)) (hw _ (List.mem_of_getElem? (i := 51) rfl)) (hw _ (List.mem_of_getElem? (i := 52) rfl)) (hw _ (List.mem_of_getElem? (i := 2) rfl)) (hw _ (List.mem_of_getElem? (i := 53) rfl)) (by decide) (rm_a1_L2 l Z a0 hw [] b1 bx8 gb5 k5 bx4 bx6 T8.heap n0 g_b1 g_gb5 ne_gb5 E_b1 F_modCount_b1 F_elementData_b1 F_size_b1 V_gb5 O5 E_bx8) (W := 0) (by decide) (by decide) rfl E_b1 (g := (mkF m 37 (fL6 a0' b1 cb (3 : Int32) (2 : Int32) c2) [(.ref bx8), (.ref b1)])) rfl (by rw [hml]; rfl) (argsL := [(.ref bx8)]) (rest := []) rfl (lenOf pd__Ljava_lang_Object__Z rfl) rfl (by show 2 * 0 + _ ≤ _; exact Nat.le_of_eq rfl) (hb hby d_prog_19_method_6_code_37) (by decide) (by decide)
  obtain ⟨rfl, Nq9, K9, E_b1, F_modCount_b1, F_elementData_b1, F_size_b1, V_gb5⟩ := hQ9
  have N9 := Fr.app N8 Nq9
  have Z0 := Nat.le_trans Z0 K9.1
  have O := O.keep K9 (allS g_b1 (allS g_gb5 all0))
  have KK := Keep.trans KK K9 (allS (Or.inr sz_b1) (allS (Or.inr sz_gb5) all0))
  have EA := EA.keep K9
  have FC := FC.keep K9 (ninS ne_a0__b1 (ninS nz_gb5_0 nin0))
  have VC := VC.keep K9 (ninS ne_cb_b1 (ninS nz_gb5_1 nin0))
  have E_bx4 := E_bx4.keep K9
  have F_bx4 := F_bx4.keep K9 (ninS (Ne.symm ne_b1_bx4) (ninS nz_gb5_2 nin0))
  have E_bx6 := E_bx6.keep K9
  have F_bx6 := F_bx6.keep K9 (ninS (Ne.symm ne_b1_bx6) (ninS (Ne.symm ne_gb5_bx6) nin0))
  have E_bx8 := E_bx8.keep K9
  have F_bx8 := F_bx8.keep K9 (ninS (Ne.symm ne_b1_bx8) (ninS (Ne.symm ne_gb5_bx8) nin0))
  refine go st9 ?_
  refine go (fun _ k => by refine XS.pop X9.here hx rfl (hb hby d_prog_19_method_6_code_42) rfl rfl ?_; exact k) ?_
  show OwnEnd _ _ _ _ _ _ _ (T9.setTop (mkF m 43 (fL6 a0' b1 cb (3 : Int32) (2 : Int32) c2) []))
  refine go (fun _ k => by refine XS.iinc X9.here hx rfl (hb hby d_prog_19_method_6_code_43) rfl (l' := (fL6 a0' b1 cb (3 : Int32) ((2 : Int32) + (1 : Int32)) c2)) rfl ?_; exact k) ?_
  show OwnEnd _ _ _ _ _ _ _ (T9.setTop (mkF m 46 (fL6 a0' b1 cb (3 : Int32) ((2 : Int32) + (1 : Int32)) c2) []))
  rw [show ((2 : Int32) + (1 : Int32)) = (3 : Int32) from by decide]
  refine go (fun _ k => by refine XS.goto X9.here hx rfl (pc0 := 46) (pc' := 19) rfl (hb hby d_prog_19_method_6_code_46) (by decide) (by decide) ?_; exact k) ?_
  refine go (fun _ k => by refine XS.iload X9.here hx rfl (hb hby d_prog_19_method_6_code_19) rfl ?_; exact k) ?_
  refine go (fun _ k => by refine XS.iloadN X9.here hx rfl (hb hby d_prog_19_method_6_code_21) rfl ?_; exact k) ?_
  show OwnEnd _ _ _ _ _ _ _ (T9.setTop (mkF m 22 (fL6 a0' b1 cb (3 : Int32) (3 : Int32) c2) [(.int (3 : Int32)), (.int (3 : Int32))]))
  refine go (fun _ k => by refine XS.icmpYes X9.here hx rfl (pc0 := 22) (pc' := 49) rfl (hb hby d_prog_19_method_6_code_22) rfl (flt (by decide)).2.1 (by decide) (by decide) ?_; exact k) ?_
  refine go (fun _ k => by refine XS.aloadN X9.here hx rfl (hb hby d_prog_19_method_6_code_49) rfl rfl ?_; exact k) ?_
  show OwnEnd _ _ _ _ _ _ _ (T9.setTop (mkF m 50 (fL6 a0' b1 cb (3 : Int32) (3 : Int32) c2) [(.ref b1)]))
  refine endA X9 hx hlk Bd.returns rfl rfl (hb hby d_prog_19_method_6_code_50) rfl (by decide) (by decide) ?_
  exact ⟨b1, gb5, _, bx4, bx6, bx8, rfl, N9, KK, E_b1, F_elementData_b1, F_size_b1, V_gb5, E_bx4, E_bx6, E_bx8, F_bx4, F_bx6, F_bx8⟩
theorem d_method_2_code_0 : decode method_2_code 0 = .ok (.dload_n 0, 1) := by decide +kernel
theorem d_method_2_code_1 : decode method_2_code 1 = .ok (.dload_n 2, 1) := by decide +kernel
theorem d_method_2_code_2 : decode method_2_code 2 = .ok (.dcmp .g, 1) := by decide +kernel
theorem d_method_2_code_3 : decode method_2_code 3 = .ok (.ifCond .gt 5, 3) := by decide +kernel
theorem d_method_2_code_8 : decode method_2_code 8 = .ok (.dload_n 0, 1) := by decide +kernel
theorem d_method_2_code_9 : decode method_2_code 9 = .ok (.dload 4, 2) := by decide +kernel
theorem d_method_2_code_11 : decode method_2_code 11 = .ok (.dcmp .g, 1) := by decide +kernel
theorem d_method_2_code_12 : decode method_2_code 12 = .ok (.ifCond .gt 5, 3) := by decide +kernel
theorem d_method_2_code_17 : decode method_2_code 17 = .ok (.iconst 2, 1) := by decide +kernel
theorem d_method_2_code_18 : decode method_2_code 18 = .ok (.ireturn, 1) := by decide +kernel
theorem d_method_2_code_15 : decode method_2_code 15 = .ok (.iconst 1, 1) := by decide +kernel
theorem d_method_2_code_16 : decode method_2_code 16 = .ok (.ireturn, 1) := by decide +kernel
theorem d_method_2_code_6 : decode method_2_code 6 = .ok (.iconst 0, 1) := by decide +kernel
theorem d_method_2_code_7 : decode method_2_code 7 = .ok (.ireturn, 1) := by decide +kernel
theorem pn_com_example_waitsfor_waitsfor_RecorderObservePinLaw : plainName "com/example/waitsfor/waitsfor/RecorderObservePinLaw" = true := by first | (simp [plainName, overriddenIn]; done) | decide +kernel
theorem ef_rm_bof (m : MethodId) (y0 : UInt64) (y1 : UInt64) (y2 : UInt64) : entryFrame m #[(.double y0), (.double y1), (.double y2)] 6 = mkF m 0 #[.val (.double y0), .second, .val (.double y1), .second, .val (.double y2), .second] [] := by first | (simp [entryFrame, mkF, argsToLocals, Value.category]; done) | rfl
def Q_rm_bof (Z : State) (w : Int64) (b0 : Int64) (b1 : Int64) (h0 : Heap) (n0 : Nat) (v : Option Value) (h : Heap) (L : List Loc) : Prop := v = some (.int (own_b w b0 b1)) ∧ Fr n0 L ∧ h = h0
set_option maxRecDepth 65536 in
set_option maxHeartbeats 40000000 in
theorem rm_bof (l : Launch) (Z : State) (a0 : Array Value) (hw : ∀ d ∈ tables_1, d.before a0 Z = true) (ws : List Jvm.Cond) (w : Int64) (b0 : Int64) (b1 : Int64) (h0 : Heap) (n0 : Nat) (hsw : own_sm w 2147483648) (hs0 : own_sm b0 4294967297) (hs1 : own_sm b1 4294967297) :
    MetFree l (⟨"com/example/waitsfor/waitsfor/RecorderObservePinLaw", "bucketOf", "(DDD)I"⟩ : MethodName) (head1 (Jvm.Cond.code (⟨"com/example/waitsfor/waitsfor/RecorderObservePinLaw", "bucketOf", "(DDD)I"⟩ : MethodName) method_2_code 6 (some .int) :: ws) ({ frames := 0, cells := 0, slots := 0, locals := 0 } : Room)) (fun a U => a = #[(.double (FP.l2d w)), (.double (FP.l2d b0)), (.double (FP.l2d b1))] ∧ Z.Warmed39 U.vm ∧ U.heap = h0) (fun _ _ _ _ _ => True) (fun _ U o U' => ∃ v L, o = .returned v ∧ Q_rm_bof Z w b0 b1 h0 n0 v U'.heap L ∧ FrameEnd U o U' L 0 0) := by
  refine MetFree.of_bodySF (plainFor_of_name pn_com_example_waitsfor_waitsfor_RecorderObservePinLaw) hisR ?_
  intro p e s m args below meth c s₁ Bd hml0 hP hK
  obtain ⟨rfl, hZ, hh⟩ := hP
  have hx := Bd.exec
  have hby := Bd.bytes
  have hlk := Bd.notSynchronized
  have hml : c.maxLocals = 6 := hml0
  have hown : s.vm.findClass "com/example/waitsfor/waitsfor/RecorderObservePinLaw" = some m.cls := findClass_of_methodNamed Bd.named
  have hnm := (name_of_methodNamed Bd.named Bd.method).1
  have X0 : Stand p l e ({ frames := 0, cells := 0, slots := 0, locals := 0 } : Room) s m #[(.double (FP.l2d w)), (.double (FP.l2d b0)), (.double (FP.l2d b1))] below meth c s₁ [] 0 0 := Stand.of_body Bd
  have e0 : s₁.heap = h0 := by rw [← hh, Bd.state]; rfl
  have N0 := Fr.nil n0
  show OwnEnd p e below s (Q_rm_bof Z w b0 b1 h0 n0) 0 0 (s₁.setTop (entryFrame m #[(.double (FP.l2d w)), (.double (FP.l2d b0)), (.double (FP.l2d b1))] 6))
  refine go (fun t k => castTop (ef_rm_bof m (FP.l2d w) (FP.l2d b0) (FP.l2d b1)) k) ?_
  show OwnEnd _ _ _ _ _ _ _ (s₁.setTop (mkF m 0 (fL7 (FP.l2d w) (FP.l2d b0) (FP.l2d b1)) []))
  refine go (fun _ k => by refine XS.dloadN X0.here hx rfl (hb hby d_method_2_code_0) rfl ?_; exact k) ?_
  refine go (fun _ k => by refine XS.dloadN X0.here hx rfl (hb hby d_method_2_code_1) rfl ?_; exact k) ?_
  show OwnEnd _ _ _ _ _ _ _ (s₁.setTop (mkF m 2 (fL7 (FP.l2d w) (FP.l2d b0) (FP.l2d b1)) [(.double (FP.l2d b0)), (.double (FP.l2d w))]))
  refine go (fun _ k => by refine XS.dcmpS X0.here hx rfl (hb hby d_method_2_code_2) rfl (dcmpV_w (own_smb hsw (by decide)) (own_smb hs0 (by decide)) _) ?_; exact k) ?_
  show OwnEnd _ _ _ _ _ _ _ (s₁.setTop (mkF m 3 (fL7 (FP.l2d w) (FP.l2d b0) (FP.l2d b1)) [(.int (lcmpW w b0))]))
  by_cases hc3_1 : b0 < w
  · refine go (fun _ k => by refine XS.ifYes X0.here hx rfl (pc0 := 3) (pc' := 8) rfl (hb hby d_method_2_code_3) rfl ((if0 _ _).trans (tlt ((lw_gt _ _).mpr hc3_1)).2.2.1) (by decide) (by decide) ?_; exact k) ?_
    show OwnEnd _ _ _ _ _ _ _ (s₁.setTop (mkF m 8 (fL7 (FP.l2d w) (FP.l2d b0) (FP.l2d b1)) []))
    refine go (fun _ k => by refine XS.dloadN X0.here hx rfl (hb hby d_method_2_code_8) rfl ?_; exact k) ?_
    refine go (fun _ k => by refine XS.dload X0.here hx rfl (hb hby d_method_2_code_9) rfl ?_; exact k) ?_
    show OwnEnd _ _ _ _ _ _ _ (s₁.setTop (mkF m 11 (fL7 (FP.l2d w) (FP.l2d b0) (FP.l2d b1)) [(.double (FP.l2d b1)), (.double (FP.l2d w))]))
    refine go (fun _ k => by refine XS.dcmpS X0.here hx rfl (hb hby d_method_2_code_11) rfl (dcmpV_w (own_smb hsw (by decide)) (own_smb hs1 (by decide)) _) ?_; exact k) ?_
    show OwnEnd _ _ _ _ _ _ _ (s₁.setTop (mkF m 12 (fL7 (FP.l2d w) (FP.l2d b0) (FP.l2d b1)) [(.int (lcmpW w b1))]))
    by_cases hc12_2 : b1 < w
    · refine go (fun _ k => by refine XS.ifYes X0.here hx rfl (pc0 := 12) (pc' := 17) rfl (hb hby d_method_2_code_12) rfl ((if0 _ _).trans (tlt ((lw_gt _ _).mpr hc12_2)).2.2.1) (by decide) (by decide) ?_; exact k) ?_
      show OwnEnd _ _ _ _ _ _ _ (s₁.setTop (mkF m 17 (fL7 (FP.l2d w) (FP.l2d b0) (FP.l2d b1)) []))
      refine go (fun _ k => by refine XS.iconst X0.here hx rfl (hb hby d_method_2_code_17) ?_; exact k) ?_
      show OwnEnd _ _ _ _ _ _ _ (s₁.setTop (mkF m 18 (fL7 (FP.l2d w) (FP.l2d b0) (FP.l2d b1)) [(.int (2 : Int32))]))
      refine endI X0 hx hlk Bd.returns (hb hby d_method_2_code_18) e0 (by decide) (by decide) ?_
      exact ⟨by unfold own_b; rw [if_pos hc3_1, if_pos hc12_2], N0, rfl⟩
    · refine go (fun _ k => by refine XS.ifNo X0.here hx rfl (hb hby d_method_2_code_12) rfl ((if0 _ _).trans (flt (fun q => hc12_2 ((lw_gt _ _).mp q))).2.2.1) ?_; exact k) ?_
      show OwnEnd _ _ _ _ _ _ _ (s₁.setTop (mkF m 15 (fL7 (FP.l2d w) (FP.l2d b0) (FP.l2d b1)) []))
      refine go (fun _ k => by refine XS.iconst X0.here hx rfl (hb hby d_method_2_code_15) ?_; exact k) ?_
      show OwnEnd _ _ _ _ _ _ _ (s₁.setTop (mkF m 16 (fL7 (FP.l2d w) (FP.l2d b0) (FP.l2d b1)) [(.int (1 : Int32))]))
      refine endI X0 hx hlk Bd.returns (hb hby d_method_2_code_16) e0 (by decide) (by decide) ?_
      exact ⟨by unfold own_b; rw [if_pos hc3_1, if_neg hc12_2], N0, rfl⟩
  · refine go (fun _ k => by refine XS.ifNo X0.here hx rfl (hb hby d_method_2_code_3) rfl ((if0 _ _).trans (flt (fun q => hc3_1 ((lw_gt _ _).mp q))).2.2.1) ?_; exact k) ?_
    show OwnEnd _ _ _ _ _ _ _ (s₁.setTop (mkF m 6 (fL7 (FP.l2d w) (FP.l2d b0) (FP.l2d b1)) []))
    refine go (fun _ k => by refine XS.iconst X0.here hx rfl (hb hby d_method_2_code_6) ?_; exact k) ?_
    show OwnEnd _ _ _ _ _ _ _ (s₁.setTop (mkF m 7 (fL7 (FP.l2d w) (FP.l2d b0) (FP.l2d b1)) [(.int (0 : Int32))]))
    refine endI X0 hx hlk Bd.returns (hb hby d_method_2_code_7) e0 (by decide) (by decide) ?_
    exact ⟨by unfold own_b; rw [if_neg hc3_1], N0, rfl⟩
theorem pd__D_Ljava_lang_Double_ : parseMethodDescriptor "(D)Ljava/lang/Double;" = some ⟨[.double], some (.object "java/lang/Double")⟩ := by decide +kernel
theorem pd__Ljava_util_List__V : parseMethodDescriptor "(Ljava/util/List;)V" = some ⟨[(.object "java/util/List")], none⟩ := by decide +kernel
theorem pd___Lcom_example_waitsfor_waitsfor_Histogram_ : parseMethodDescriptor "()Lcom/example/waitsfor/waitsfor/Histogram;" = some ⟨[], some (.object "com/example/waitsfor/waitsfor/Histogram")⟩ := by decide +kernel
theorem pd___Ljava_util_List_ : parseMethodDescriptor "()Ljava/util/List;" = some ⟨[], some (.object "java/util/List")⟩ := by decide +kernel
theorem pd__DDD_I : parseMethodDescriptor "(DDD)I" = some ⟨[.double, .double, .double], some .int⟩ := by decide +kernel
theorem pd___J : parseMethodDescriptor "()J" = some ⟨[], some .long⟩ := by decide +kernel
theorem ef_rm_law (m : MethodId) (y0 : Int32) (y1 : Int32) (y2 : Int32) (y3 : Int32) : entryFrame m #[(.int y0), (.int y1), (.int y2), (.int y3)] maxLocals = mkF m 0 #[.val (.int y0), .val (.int y1), .val (.int y2), .val (.int y3), .unset, .unset, .unset, .unset, .unset, .unset, .unset, .unset, .unset, .unset, .unset, .unset, .unset] [] := by first | (simp [entryFrame, mkF, argsToLocals, Value.category, maxLocals]; done) | rfl
def Q_rm_law (Z : State) (p0 : Int32) (p1 : Int32) (p2 : Int32) (p3 : Int32) (da : Addr) (dk : ClassId) (caJ : Addr) (ccJ : Cell) (h0 : Heap) (n0 : Nat) (v : Option Value) (h : Heap) (L : List Loc) : Prop := v = some (.int 1) ∧ Fr n0 L
set_option maxRecDepth 65536 in
set_option maxHeartbeats 40000000 in
theorem rm_law (l : Launch) (Z : State) (a0 : Array Value) (hw : ∀ d ∈ tables_1, d.before a0 Z = true) (ws : List Jvm.Cond) (p0 : Int32) (p1 : Int32) (p2 : Int32) (p3 : Int32) (da : Addr) (dk : ClassId) (caJ : Addr) (ccJ : Cell) (h0 : Heap) (n0 : Nat) (Z0 : n0 ≤ h0.size) (O : Old Z n0 h0) (SD : Sta Z Z.heap "java/util/ArrayList" "DEFAULTCAPACITY_EMPTY_ELEMENTDATA" "[Ljava/lang/Object;" (.ref da)) (VD : Arv Z Z.heap da dk (.object "java/lang/Object") 0 [] .null) (SCJ : Sta Z Z.heap "java/lang/Long$LongCache" "cache" "[Ljava/lang/Long;" (.ref caJ)) (ACJ : Arr Z Z.heap caJ ccJ (.object "java/lang/Long")) (NCJ : ccJ.slots.size = 256) (ECJ : ∀ i, i < 256 → ∃ b, ccJ.slots[i]? = some (.ref b) ∧ Exa Z Z.heap b "java/lang/Long" ∧ Fld Z Z.heap b "java/lang/Long" "value" "J" (.long ((i.toInt32 - 128).toInt64))) :
    MetFree l x (head1 (Jvm.Cond.code x code maxLocals ret :: ws) room_1) (fun a U => a = #[(.int p0), (.int p1), (.int p2), (.int p3)] ∧ Z.Warmed39 U.vm ∧ U.heap = h0) (fun _ _ _ _ _ => True) (fun _ U o U' => ∃ v L, o = .returned v ∧ Q_rm_law Z p0 p1 p2 p3 da dk caJ ccJ h0 n0 v U'.heap L ∧ FrameEnd U o U' L 40 192) := by
  refine MetFree.of_bodySF (plainFor_of_name pn_com_example_waitsfor_waitsfor_RecorderObservePinLaw) hisR ?_
  intro p e s m args below meth c s₁ Bd hml0 hP hK
  obtain ⟨rfl, hZ, hh⟩ := hP
  have hx := Bd.exec
  have hby := Bd.bytes
  have hlk := Bd.notSynchronized
  have hml : c.maxLocals = 17 := hml0
  have hown : s.vm.findClass "com/example/waitsfor/waitsfor/RecorderObservePinLaw" = some m.cls := findClass_of_methodNamed Bd.named
  have hnm := (name_of_methodNamed Bd.named Bd.method).1
  have X0 : Stand p l e room_1 s m #[(.int p0), (.int p1), (.int p2), (.int p3)] below meth c s₁ [] 0 0 := Stand.of_body Bd
  have e0 : s₁.heap = h0 := by rw [← hh, Bd.state]; rfl
  have N0 := Fr.nil n0
  show OwnEnd p e below s (Q_rm_law Z p0 p1 p2 p3 da dk caJ ccJ h0 n0) 40 192 (s₁.setTop (entryFrame m #[(.int p0), (.int p1), (.int p2), (.int p3)] maxLocals))
  refine go (fun t k => castTop (ef_rm_law m p0 p1 p2 p3) k) ?_
  show OwnEnd _ _ _ _ _ _ _ (s₁.setTop (mkF m 0 (fL8 p0 p1 p2 p3) []))
  refine go (fun _ k => by refine XS.iloadN X0.here hx rfl (hb hby at_0) rfl ?_; exact k) ?_
  refine go (fun _ k => by refine XS.sipush X0.here hx rfl (hb hby at_1) ?_; exact k) ?_
  show OwnEnd _ _ _ _ _ _ _ (s₁.setTop (mkF m 4 (fL8 p0 p1 p2 p3) [(.int (1000 : Int32)), (.int p0)]))
  refine go (fun t k => iremM (g := (mkF m 4 (fL8 p0 p1 p2 p3) [(.int (1000 : Int32)), (.int p0)])) X0 hx rfl (hb hby at_4) rfl (by decide) k) ?_
  show OwnEnd _ _ _ _ _ _ _ (s₁.setTop (mkF m 5 (fL8 p0 p1 p2 p3) [(.int (p0 % (1000 : Int32)))]))
  refine go (fun _ k => by refine XS.i2dS X0.here hx rfl (hb hby at_5) rfl (i2d_w _) ?_; exact k) ?_
  show OwnEnd _ _ _ _ _ _ _ (s₁.setTop (mkF m 6 (fL8 p0 p1 p2 p3) [(.double (FP.l2d (p0 % (1000 : Int32)).toInt64))]))
  refine go (fun _ k => by refine XS.dstore X0.here hx rfl (hb hby at_6) rfl (l' := (fL9 p0 p1 p2 p3 (FP.l2d (p0 % (1000 : Int32)).toInt64))) rfl ?_; exact k) ?_
  show OwnEnd _ _ _ _ _ _ _ (s₁.setTop (mkF m 8 (fL9 p0 p1 p2 p3 (FP.l2d (p0 % (1000 : Int32)).toInt64)) []))
  obtain ⟨wb0, qwb0, sm_wb0⟩ : ∃ z : Int64, z = (p0 % (1000 : Int32)).toInt64 ∧ own_sm z 2147483648 := ⟨_, rfl, (own_smi (p0 % (1000 : Int32)))⟩
  rw [← qwb0]
  show OwnEnd _ _ _ _ _ _ _ (s₁.setTop (mkF m 8 (fL9 p0 p1 p2 p3 (FP.l2d wb0)) []))
  refine go (fun _ k => by refine XS.dload X0.here hx rfl (hb hby at_8) rfl ?_; exact k) ?_
  show OwnEnd _ _ _ _ _ _ _ (s₁.setTop (mkF m 10 (fL9 p0 p1 p2 p3 (FP.l2d wb0)) [(.double (FP.l2d wb0))]))
  refine go (fun _ k => by refine XS.dconst1 X0.here hx rfl (hb hby at_10) (v := FP.l2d 1) (by decide +kernel) ?_; exact k) ?_
  show OwnEnd _ _ _ _ _ _ _ (s₁.setTop (mkF m 11 (fL9 p0 p1 p2 p3 (FP.l2d wb0)) [(.double (FP.l2d 1)), (.double (FP.l2d wb0))]))
  refine go (fun _ k => by refine XS.daddS X0.here hx rfl (hb hby at_11) rfl (nn_w (dadd_w (own_smb sm_wb0 (by decide)) (own_smb (own_smc1) (by decide)))) (dadd_w (own_smb sm_wb0 (by decide)) (own_smb (own_smc1) (by decide))) ?_; exact k) ?_
  refine go (fun _ k => by refine XS.iloadN X0.here hx rfl (hb hby at_12) rfl ?_; exact k) ?_
  refine go (fun _ k => by refine XS.sipush X0.here hx rfl (hb hby at_13) ?_; exact k) ?_
  refine go (fun _ k => by refine XS.iand X0.here hx rfl (hb hby at_16) rfl ?_; exact k) ?_
  show OwnEnd _ _ _ _ _ _ _ (s₁.setTop (mkF m 17 (fL9 p0 p1 p2 p3 (FP.l2d wb0)) [(.int (p1 &&& (1023 : Int32))), (.double (FP.l2d (wb0 + (1 : Int64))))]))
  refine go (fun _ k => by refine XS.i2dS X0.here hx rfl (hb hby at_17) rfl (i2d_w _) ?_; exact k) ?_
  show OwnEnd _ _ _ _ _ _ _ (s₁.setTop (mkF m 18 (fL9 p0 p1 p2 p3 (FP.l2d wb0)) [(.double (FP.l2d (p1 &&& (1023 : Int32)).toInt64)), (.double (FP.l2d (wb0 + (1 : Int64))))]))
  refine go (fun _ k => by refine XS.daddS X0.here hx rfl (hb hby at_18) rfl (nn_w (dadd_w (own_smb (own_sma sm_wb0 (own_smc1) (K := 2147483649) (by decide)) (by decide)) (own_smb (own_smi (p1 &&& (1023 : Int32))) (by decide)))) (dadd_w (own_smb (own_sma sm_wb0 (own_smc1) (K := 2147483649) (by decide)) (by decide)) (own_smb (own_smi (p1 &&& (1023 : Int32))) (by decide))) ?_; exact k) ?_
  show OwnEnd _ _ _ _ _ _ _ (s₁.setTop (mkF m 19 (fL9 p0 p1 p2 p3 (FP.l2d wb0)) [(.double (FP.l2d ((wb0 + (1 : Int64)) + (p1 &&& (1023 : Int32)).toInt64)))]))
  refine go (fun _ k => by refine XS.dstore X0.here hx rfl (hb hby at_19) rfl (l' := (fL10 p0 p1 p2 p3 (FP.l2d wb0) (FP.l2d ((wb0 + (1 : Int64)) + (p1 &&& (1023 : Int32)).toInt64)))) rfl ?_; exact k) ?_
  show OwnEnd _ _ _ _ _ _ _ (s₁.setTop (mkF m 21 (fL10 p0 p1 p2 p3 (FP.l2d wb0) (FP.l2d ((wb0 + (1 : Int64)) + (p1 &&& (1023 : Int32)).toInt64))) []))
  obtain ⟨wb1, qwb1, sm_wb1⟩ : ∃ z : Int64, z = ((wb0 + (1 : Int64)) + (p1 &&& (1023 : Int32)).toInt64) ∧ own_sm z 4294967297 := ⟨_, rfl, (own_sma (own_sma sm_wb0 (own_smc1) (K := 2147483649) (by decide)) (own_smi (p1 &&& (1023 : Int32))) (K := 4294967297) (by decide))⟩
  rw [← qwb1]
  show OwnEnd _ _ _ _ _ _ _ (s₁.setTop (mkF m 21 (fL10 p0 p1 p2 p3 (FP.l2d wb0) (FP.l2d wb1)) []))
  refine go (fun _ k => by refine XS.iloadN X0.here hx rfl (hb hby at_21) rfl ?_; exact k) ?_
  refine go (fun _ k => by refine XS.sipush X0.here hx rfl (hb hby at_22) ?_; exact k) ?_
  show OwnEnd _ _ _ _ _ _ _ (s₁.setTop (mkF m 25 (fL10 p0 p1 p2 p3 (FP.l2d wb0) (FP.l2d wb1)) [(.int (3000 : Int32)), (.int p2)]))
  refine go (fun t k => iremM (g := (mkF m 25 (fL10 p0 p1 p2 p3 (FP.l2d wb0) (FP.l2d wb1)) [(.int (3000 : Int32)), (.int p2)])) X0 hx rfl (hb hby at_25) rfl (by decide) k) ?_
  show OwnEnd _ _ _ _ _ _ _ (s₁.setTop (mkF m 26 (fL10 p0 p1 p2 p3 (FP.l2d wb0) (FP.l2d wb1)) [(.int (p2 % (3000 : Int32)))]))
  refine go (fun _ k => by refine XS.i2dS X0.here hx rfl (hb hby at_26) rfl (i2d_w _) ?_; exact k) ?_
  show OwnEnd _ _ _ _ _ _ _ (s₁.setTop (mkF m 27 (fL10 p0 p1 p2 p3 (FP.l2d wb0) (FP.l2d wb1)) [(.double (FP.l2d (p2 % (3000 : Int32)).toInt64))]))
  refine go (fun _ k => by refine XS.dstore X0.here hx rfl (hb hby at_27) rfl (l' := (fL11 p0 p1 p2 p3 (FP.l2d wb0) (FP.l2d wb1) (FP.l2d (p2 % (3000 : Int32)).toInt64))) rfl ?_; exact k) ?_
  show OwnEnd _ _ _ _ _ _ _ (s₁.setTop (mkF m 29 (fL11 p0 p1 p2 p3 (FP.l2d wb0) (FP.l2d wb1) (FP.l2d (p2 % (3000 : Int32)).toInt64)) []))
  obtain ⟨wv1, qwv1, sm_wv1⟩ : ∃ z : Int64, z = (p2 % (3000 : Int32)).toInt64 ∧ own_sm z 2147483648 := ⟨_, rfl, (own_smi (p2 % (3000 : Int32)))⟩
  rw [← qwv1]
  show OwnEnd _ _ _ _ _ _ _ (s₁.setTop (mkF m 29 (fL11 p0 p1 p2 p3 (FP.l2d wb0) (FP.l2d wb1) (FP.l2d wv1)) []))
  refine go (fun _ k => by refine XS.iloadN X0.here hx rfl (hb hby at_29) rfl ?_; exact k) ?_
  refine go (fun _ k => by refine XS.sipush X0.here hx rfl (hb hby at_30) ?_; exact k) ?_
  show OwnEnd _ _ _ _ _ _ _ (s₁.setTop (mkF m 33 (fL11 p0 p1 p2 p3 (FP.l2d wb0) (FP.l2d wb1) (FP.l2d wv1)) [(.int (3000 : Int32)), (.int p3)]))
  refine go (fun t k => iremM (g := (mkF m 33 (fL11 p0 p1 p2 p3 (FP.l2d wb0) (FP.l2d wb1) (FP.l2d wv1)) [(.int (3000 : Int32)), (.int p3)])) X0 hx rfl (hb hby at_33) rfl (by decide) k) ?_
  show OwnEnd _ _ _ _ _ _ _ (s₁.setTop (mkF m 34 (fL11 p0 p1 p2 p3 (FP.l2d wb0) (FP.l2d wb1) (FP.l2d wv1)) [(.int (p3 % (3000 : Int32)))]))
  refine go (fun _ k => by refine XS.i2dS X0.here hx rfl (hb hby at_34) rfl (i2d_w _) ?_; exact k) ?_
  show OwnEnd _ _ _ _ _ _ _ (s₁.setTop (mkF m 35 (fL11 p0 p1 p2 p3 (FP.l2d wb0) (FP.l2d wb1) (FP.l2d wv1)) [(.double (FP.l2d (p3 % (3000 : Int32)).toInt64))]))
  refine go (fun _ k => by refine XS.dstore X0.here hx rfl (hb hby at_35) rfl (l' := (fL12 p0 p1 p2 p3 (FP.l2d wb0) (FP.l2d wb1) (FP.l2d wv1) (FP.l2d (p3 % (3000 : Int32)).toInt64))) rfl ?_; exact k) ?_
  show OwnEnd _ _ _ _ _ _ _ (s₁.setTop (mkF m 37 (fL12 p0 p1 p2 p3 (FP.l2d wb0) (FP.l2d wb1) (FP.l2d wv1) (FP.l2d (p3 % (3000 : Int32)).toInt64)) []))
  obtain ⟨wv2, qwv2, sm_wv2⟩ : ∃ z : Int64, z = (p3 % (3000 : Int32)).toInt64 ∧ own_sm z 2147483648 := ⟨_, rfl, (own_smi (p3 % (3000 : Int32)))⟩
  rw [← qwv2]
  show OwnEnd _ _ _ _ _ _ _ (s₁.setTop (mkF m 37 (fL12 p0 p1 p2 p3 (FP.l2d wb0) (FP.l2d wb1) (FP.l2d wv1) (FP.l2d wv2)) []))
  obtain ⟨T1, h1, X1, e1, E1, A1, D1, -, st1⟩ := newO X0 hx hZ hown (hw _ (List.mem_of_getElem? (i := 0) rfl)) (hw _ (List.mem_of_getElem? (i := 1) rfl)) (hw _ (List.mem_of_getElem? (i := 2) rfl)) e0 (g := (mkF m 37 (fL12 p0 p1 p2 p3 (FP.l2d wb0) (FP.l2d wb1) (FP.l2d wv1) (FP.l2d wv2)) [])) rfl (hb hby at_37) (by decide) (by decide)
  obtain ⟨b1, g1⟩ : ∃ z, z = h0.size := ⟨_, rfl⟩
  rw [← g1] at A1 D1 st1
  have g_b1 : n0 ≤ b1 := Nat.le_trans Z0 (Nat.le_of_eq g1.symm)
  have Z0 := Nat.le_trans Z0 E1.1
  have O := O.ext E1
  have F_modCount_b1 : Fld Z h1 b1 "java/util/AbstractList" "modCount" "I" (.int (0 : Int32)) := D1 (Or.inl (hw _ (List.mem_of_getElem? (i := 22) rfl))) (ty := .int) (by decide)
  have F_elementData_b1 : Fld Z h1 b1 "java/util/ArrayList" "elementData" "[Ljava/lang/Object;" .null := D1 (Or.inl (hw _ (List.mem_of_getElem? (i := 25) rfl))) (ty := (.array (.object "java/lang/Object"))) (by decide)
  have F_size_b1 : Fld Z h1 b1 "java/util/ArrayList" "size" "I" (.int (0 : Int32)) := D1 (Or.inl (hw _ (List.mem_of_getElem? (i := 57) rfl))) (ty := .int) (by decide)
  have E_b1 := A1
  refine go st1 ?_
  refine go (fun _ k => by refine XS.dup X1.here hx rfl (hb hby at_40) rfl rfl ?_; exact k) ?_
  show OwnEnd _ _ _ _ _ _ _ (T1.setTop (mkF m 41 (fL12 p0 p1 p2 p3 (FP.l2d wb0) (FP.l2d wb1) (FP.l2d wv1) (FP.l2d wv2)) [(.ref b1), (.ref b1)]))
  obtain ⟨_, T2, L2, X2, hQ2, st2⟩ := callInit X1 hx hZ hown rfl (hw _ (List.mem_of_getElem? (i := 3) rfl)) (hw _ (List.mem_of_getElem? (i := 4) rfl)) (hw _ (List.mem_of_getElem? (i := 2) rfl)) (hw _ (List.mem_of_getElem? (i := 5) rfl)) (by decide) (rm_ali l Z a0 hw [] b1 da h1 n0 g_b1 E_b1 F_modCount_b1 F_elementData_b1 F_size_b1 O SD) (W := 1) (by decide) (by decide) e1 (g := (mkF m 41 (fL12 p0 p1 p2 p3 (FP.l2d wb0) (FP.l2d wb1) (FP.l2d wv1) (FP.l2d wv2)) [(.ref b1), (.ref b1)])) rfl (by rw [hml]; rfl) (argsL := []) (rest := [(.ref b1)]) rfl (lenOf pd___V rfl) rfl (by show 2 * 0 + _ ≤ _; exact Nat.le_of_eq rfl) (hb hby at_41) (by decide) (by decide)
  obtain ⟨rfl, Nq2, K2, E_b1, F_modCount_b1, F_elementData_b1, F_size_b1⟩ := hQ2
  have N2 := Fr.app N0 Nq2
  have Z0 := Nat.le_trans Z0 K2.1
  have O := O.keep K2 (allS g_b1 all0)
  refine go st2 ?_
  refine go (fun _ k => by refine XS.astore X2.here hx rfl (hb hby at_44) rfl rfl (l' := (fL13 p0 p1 p2 p3 (FP.l2d wb0) (FP.l2d wb1) (FP.l2d wv1) (FP.l2d wv2) b1)) rfl ?_; exact k) ?_
  refine go (fun _ k => by refine XS.aload X2.here hx rfl (hb hby at_46) rfl rfl ?_; exact k) ?_
  refine go (fun _ k => by refine XS.dload X2.here hx rfl (hb hby at_48) rfl ?_; exact k) ?_
  show OwnEnd _ _ _ _ _ _ _ (T2.setTop (mkF m 50 (fL13 p0 p1 p2 p3 (FP.l2d wb0) (FP.l2d wb1) (FP.l2d wv1) (FP.l2d wv2) b1) [(.double (FP.l2d wb0)), (.ref b1)]))
  obtain ⟨_, T3, L3, X3, hQ3, st3⟩ := callStat X2 hx hZ hown (hw _ (List.mem_of_getElem? (i := 26) rfl)) (hw _ (List.mem_of_getElem? (i := 27) rfl)) (hw _ (List.mem_of_getElem? (i := 28) rfl)) (hw _ (List.mem_of_getElem? (i := 29) rfl)) (by decide) (rm_dvo l Z a0 hw [] (FP.l2d wb0) T2.heap n0 Z0) (W := 1) (by decide) (by decide) rfl (g := (mkF m 50 (fL13 p0 p1 p2 p3 (FP.l2d wb0) (FP.l2d wb1) (FP.l2d wv1) (FP.l2d wv2) b1) [(.double (FP.l2d wb0)), (.ref b1)])) rfl (by rw [hml]; rfl) (argsL := [(.double (FP.l2d wb0))]) (rest := [(.ref b1)]) rfl (lenOf pd__D_Ljava_lang_Double_ rfl) rfl (by show 2 * 0 + _ ≤ _; exact Nat.le_of_eq rfl) (hb hby at_50) (by decide) (by decide)
  have lo3_0 := E_b1.lt
  obtain ⟨bd3, rfl, Nq3, K3, g_bd3, sq3, E_bd3, F_bd3⟩ := hQ3
  have N3 := Fr.app N2 Nq3
  have Z0 := Nat.le_trans Z0 K3.1
  have O := O.keep K3 all0
  have E_b1 := E_b1.keep K3
  have F_modCount_b1 := F_modCount_b1.keep K3 nin0
  have F_elementData_b1 := F_elementData_b1.keep K3 nin0
  have F_size_b1 := F_size_b1.keep K3 nin0
  have ne_b1_bd3 : b1 ≠ bd3 := fun q => absurd lo3_0 (by rw [q]; exact Nat.not_lt.mpr sq3)
  refine go st3 ?_
  show OwnEnd _ _ _ _ _ _ _ (T3.setTop (mkF m 53 (fL13 p0 p1 p2 p3 (FP.l2d wb0) (FP.l2d wb1) (FP.l2d wv1) (FP.l2d wv2) b1) [(.ref bd3), (.ref b1)]))
  obtain ⟨_, T4, L4, X4, hQ4, st4⟩ := callFace X3 hx hZ hown (hw _ (List.mem_of_getElem? (i := 45) rfl)) (hw _ (List.mem_of_getElem? (i := 46) rfl)) (mvT hZ (hw _ (List.mem_of_getElem? (i := 47) rfl))) (hw _ (List.mem_of_getElem? (i := 48) rfl)) (hw _ (List.mem_of_getElem? (i := 49) rfl)) (hw _ (List.mem_of_getElem? (i := 50) rfl)) (hw _ (List.mem_of_getElem? (i := 51) rfl)) (hw _ (List.mem_of_getElem? (i := 52) rfl)) (hw _ (List.mem_of_getElem? (i := 2) rfl)) (hw _ (List.mem_of_getElem? (i := 53) rfl)) (by decide) (rm_a1_D0 l Z a0 hw [] b1 bd3 da dk T3.heap n0 g_b1 E_b1 F_modCount_b1 F_elementData_b1 F_size_b1 O SD VD E_bd3) (W := 0) (by decide) (by decide) rfl E_b1 (g := (mkF m 53 (fL13 p0 p1 p2 p3 (FP.l2d wb0) (FP.l2d wb1) (FP.l2d wv1) (FP.l2d wv2) b1) [(.ref bd3), (.ref b1)])) rfl (by rw [hml]; rfl) (argsL := [(.ref bd3)]) (rest := []) rfl (lenOf pd__Ljava_lang_Object__Z rfl) rfl (by show 2 * 0 + _ ≤ _; exact Nat.le_of_eq rfl) (hb hby at_53) (by decide) (by decide)
  have lto4 := E_b1.lt
  have ltz4_0 := E_bd3.lt
  obtain ⟨gb4, k4, rfl, Nq4, K4, g_gb4, sq4, E_b1, F_modCount_b1, F_elementData_b1, F_size_b1, V_gb4, O4⟩ := hQ4
  have N4 := Fr.app N3 Nq4
  have Z0 := Nat.le_trans Z0 K4.1
  have O := O.keep K4 (allS g_b1 all0)
  have E_bd3 := E_bd3.keep K4
  have F_bd3 := F_bd3.keep K4 (ninS (Ne.symm ne_b1_bd3) nin0)
  have ne_gb4 : b1 ≠ gb4 := fun q => absurd lto4 (by rw [q]; exact Nat.not_lt.mpr sq4)
  have nz_gb4_0 : bd3 ≠ gb4 := fun q => absurd ltz4_0 (by rw [q]; exact Nat.not_lt.mpr sq4)
  refine go st4 ?_
  refine go (fun _ k => by refine XS.pop X4.here hx rfl (hb hby at_58) rfl rfl ?_; exact k) ?_
  refine go (fun _ k => by refine XS.aload X4.here hx rfl (hb hby at_59) rfl rfl ?_; exact k) ?_
  refine go (fun _ k => by refine XS.dload X4.here hx rfl (hb hby at_61) rfl ?_; exact k) ?_
  show OwnEnd _ _ _ _ _ _ _ (T4.setTop (mkF m 63 (fL13 p0 p1 p2 p3 (FP.l2d wb0) (FP.l2d wb1) (FP.l2d wv1) (FP.l2d wv2) b1) [(.double (FP.l2d wb1)), (.ref b1)]))
  obtain ⟨_, T5, L5, X5, hQ5, st5⟩ := callStat X4 hx hZ hown (hw _ (List.mem_of_getElem? (i := 26) rfl)) (hw _ (List.mem_of_getElem? (i := 27) rfl)) (hw _ (List.mem_of_getElem? (i := 28) rfl)) (hw _ (List.mem_of_getElem? (i := 29) rfl)) (by decide) (rm_dvo l Z a0 hw [] (FP.l2d wb1) T4.heap n0 Z0) (W := 1) (by decide) (by decide) rfl (g := (mkF m 63 (fL13 p0 p1 p2 p3 (FP.l2d wb0) (FP.l2d wb1) (FP.l2d wv1) (FP.l2d wv2) b1) [(.double (FP.l2d wb1)), (.ref b1)])) rfl (by rw [hml]; rfl) (argsL := [(.double (FP.l2d wb1))]) (rest := [(.ref b1)]) rfl (lenOf pd__D_Ljava_lang_Double_ rfl) rfl (by show 2 * 0 + _ ≤ _; exact Nat.le_of_eq rfl) (hb hby at_63) (by decide) (by decide)
  have lo5_0 := E_bd3.lt
  have lo5_1 := E_b1.lt
  have lo5_2 := V_gb4.lt
  obtain ⟨bd5, rfl, Nq5, K5, g_bd5, sq5, E_bd5, F_bd5⟩ := hQ5
  have N5 := Fr.app N4 Nq5
  have Z0 := Nat.le_trans Z0 K5.1
  have O := O.keep K5 all0
  have E_bd3 := E_bd3.keep K5
  have F_bd3 := F_bd3.keep K5 nin0
  have E_b1 := E_b1.keep K5
  have F_modCount_b1 := F_modCount_b1.keep K5 nin0
  have F_elementData_b1 := F_elementData_b1.keep K5 nin0
  have F_size_b1 := F_size_b1.keep K5 nin0
  have V_gb4 := V_gb4.keep K5 nin0
  have ne_bd3_bd5 : bd3 ≠ bd5 := fun q => absurd lo5_0 (by rw [q]; exact Nat.not_lt.mpr sq5)
  have ne_b1_bd5 : b1 ≠ bd5 := fun q => absurd lo5_1 (by rw [q]; exact Nat.not_lt.mpr sq5)
  have ne_gb4_bd5 : gb4 ≠ bd5 := fun q => absurd lo5_2 (by rw [q]; exact Nat.not_lt.mpr sq5)
  refine go st5 ?_
  show OwnEnd _ _ _ _ _ _ _ (T5.setTop (mkF m 66 (fL13 p0 p1 p2 p3 (FP.l2d wb0) (FP.l2d wb1) (FP.l2d wv1) (FP.l2d wv2) b1) [(.ref bd5), (.ref b1)]))
  obtain ⟨_, T6, L6, X6, hQ6, st6⟩ := callFace X5 hx hZ hown (hw _ (List.mem_of_getElem? (i := 45) rfl)) (hw _ (List.mem_of_getElem? (i := 46) rfl)) (mvT hZ (hw _ (List.mem_of_getElem? (i := 47) rfl))) (hw _ (List.mem_of_getElem? (i := 48) rfl)) (hw _ (List.mem_of_getElem? (i := 49) rfl)) (hw _ (List.mem_of_getElem? (i := 50) rfl)) (hw _ (List.mem_of_getElem? (i := 51) rfl)) (hw _ (List.mem_of_getElem? (i := 52) rfl)) (hw _ (List.mem_of_getElem? (i := 2) rfl)) (hw _ (List.mem_of_getElem? (i := 53) rfl)) (by decide) (rm_a1_D1 l Z a0 hw [] b1 bd5 gb4 k4 bd3 T5.heap n0 g_b1 g_gb4 ne_gb4 E_b1 F_modCount_b1 F_elementData_b1 F_size_b1 V_gb4 O4 E_bd5) (W := 0) (by decide) (by decide) rfl E_b1 (g := (mkF m 66 (fL13 p0 p1 p2 p3 (FP.l2d wb0) (FP.l2d wb1) (FP.l2d wv1) (FP.l2d wv2) b1) [(.ref bd5), (.ref b1)])) rfl (by rw [hml]; rfl) (argsL := [(.ref bd5)]) (rest := []) rfl (lenOf pd__Ljava_lang_Object__Z rfl) rfl (by show 2 * 0 + _ ≤ _; exact Nat.le_of_eq rfl) (hb hby at_66) (by decide) (by decide)
  obtain ⟨rfl, Nq6, K6, E_b1, F_modCount_b1, F_elementData_b1, F_size_b1, V_gb4⟩ := hQ6
  have N6 := Fr.app N5 Nq6
  have Z0 := Nat.le_trans Z0 K6.1
  have O := O.keep K6 (allS g_b1 (allS g_gb4 all0))
  have E_bd3 := E_bd3.keep K6
  have F_bd3 := F_bd3.keep K6 (ninS (Ne.symm ne_b1_bd3) (ninS nz_gb4_0 nin0))
  have E_bd5 := E_bd5.keep K6
  have F_bd5 := F_bd5.keep K6 (ninS (Ne.symm ne_b1_bd5) (ninS (Ne.symm ne_gb4_bd5) nin0))
  refine go st6 ?_
  refine go (fun _ k => by refine XS.pop X6.here hx rfl (hb hby at_71) rfl rfl ?_; exact k) ?_
  refine go (fun _ k => by refine XS.aload X6.here hx rfl (hb hby at_72) rfl rfl ?_; exact k) ?_
  show OwnEnd _ _ _ _ _ _ _ (T6.setTop (mkF m 74 (fL13 p0 p1 p2 p3 (FP.l2d wb0) (FP.l2d wb1) (FP.l2d wv1) (FP.l2d wv2) b1) [(.ref b1)]))
  refine go (X6.ldc2DoubleC hx hown (mvT hZ (hw _ (List.mem_of_getElem? (i := 80) rfl))) (g := (mkF m 74 (fL13 p0 p1 p2 p3 (FP.l2d wb0) (FP.l2d wb1) (FP.l2d wv1) (FP.l2d wv2) b1) [(.ref b1)])) rfl (hb hby at_74)) ?_
  show OwnEnd _ _ _ _ _ _ _ (T6.setTop (mkF m 77 (fL13 p0 p1 p2 p3 (FP.l2d wb0) (FP.l2d wb1) (FP.l2d wv1) (FP.l2d wv2) b1) [(.double (9218868437227405312 : UInt64)), (.ref b1)]))
  obtain ⟨_, T7, L7, X7, hQ7, st7⟩ := callStat X6 hx hZ hown (hw _ (List.mem_of_getElem? (i := 26) rfl)) (hw _ (List.mem_of_getElem? (i := 27) rfl)) (hw _ (List.mem_of_getElem? (i := 28) rfl)) (hw _ (List.mem_of_getElem? (i := 29) rfl)) (by decide) (rm_dvo l Z a0 hw [] (9218868437227405312 : UInt64) T6.heap n0 Z0) (W := 1) (by decide) (by decide) rfl (g := (mkF m 77 (fL13 p0 p1 p2 p3 (FP.l2d wb0) (FP.l2d wb1) (FP.l2d wv1) (FP.l2d wv2) b1) [(.double (9218868437227405312 : UInt64)), (.ref b1)])) rfl (by rw [hml]; rfl) (argsL := [(.double (9218868437227405312 : UInt64))]) (rest := [(.ref b1)]) rfl (lenOf pd__D_Ljava_lang_Double_ rfl) rfl (by show 2 * 0 + _ ≤ _; exact Nat.le_of_eq rfl) (hb hby at_77) (by decide) (by decide)
  have lo7_0 := E_bd3.lt
  have lo7_1 := E_bd5.lt
  have lo7_2 := E_b1.lt
  have lo7_3 := V_gb4.lt
  obtain ⟨bd7, rfl, Nq7, K7, g_bd7, sq7, E_bd7, F_bd7⟩ := hQ7
  have N7 := Fr.app N6 Nq7
  have Z0 := Nat.le_trans Z0 K7.1
  have O := O.keep K7 all0
  have E_bd3 := E_bd3.keep K7
  have F_bd3 := F_bd3.keep K7 nin0
  have E_bd5 := E_bd5.keep K7
  have F_bd5 := F_bd5.keep K7 nin0
  have E_b1 := E_b1.keep K7
  have F_modCount_b1 := F_modCount_b1.keep K7 nin0
  have F_elementData_b1 := F_elementData_b1.keep K7 nin0
  have F_size_b1 := F_size_b1.keep K7 nin0
  have V_gb4 := V_gb4.keep K7 nin0
  have ne_bd3_bd7 : bd3 ≠ bd7 := fun q => absurd lo7_0 (by rw [q]; exact Nat.not_lt.mpr sq7)
  have ne_bd5_bd7 : bd5 ≠ bd7 := fun q => absurd lo7_1 (by rw [q]; exact Nat.not_lt.mpr sq7)
  have ne_b1_bd7 : b1 ≠ bd7 := fun q => absurd lo7_2 (by rw [q]; exact Nat.not_lt.mpr sq7)
  have ne_gb4_bd7 : gb4 ≠ bd7 := fun q => absurd lo7_3 (by rw [q]; exact Nat.not_lt.mpr sq7)
  refine go st7 ?_
  show OwnEnd _ _ _ _ _ _ _ (T7.setTop (mkF m 80 (fL13 p0 p1 p2 p3 (FP.l2d wb0) (FP.l2d wb1) (FP.l2d wv1) (FP.l2d wv2) b1) [(.ref bd7), (.ref b1)]))
  obtain ⟨_, T8, L8, X8, hQ8, st8⟩ := callFace X7 hx hZ hown (hw _ (List.mem_of_getElem? (i := 45) rfl)) (hw _ (List.mem_of_getElem? (i := 46) rfl)) (mvT hZ (hw _ (List.mem_of_getElem? (i := 47) rfl))) (hw _ (List.mem_of_getElem? (i := 48) rfl)) (hw _ (List.mem_of_getElem? (i := 49) rfl)) (hw _ (List.mem_of_getElem? (i := 50) rfl)) (hw _ (List.mem_of_getElem? (i := 51) rfl)) (hw _ (List.mem_of_getElem? (i := 52) rfl)) (hw _ (List.mem_of_getElem? (i := 2) rfl)) (hw _ (List.mem_of_getElem? (i := 53) rfl)) (by decide) (rm_a1_D2 l Z a0 hw [] b1 bd7 gb4 k4 bd3 bd5 T7.heap n0 g_b1 g_gb4 ne_gb4 E_b1 F_modCount_b1 F_elementData_b1 F_size_b1 V_gb4 O4 E_bd7) (W := 0) (by decide) (by decide) rfl E_b1 (g := (mkF m 80 (fL13 p0 p1 p2 p3 (FP.l2d wb0) (FP.l2d wb1) (FP.l2d wv1) (FP.l2d wv2) b1) [(.ref bd7), (.ref b1)])) rfl (by rw [hml]; rfl) (argsL := [(.ref bd7)]) (rest := []) rfl (lenOf pd__Ljava_lang_Object__Z rfl) rfl (by show 2 * 0 + _ ≤ _; exact Nat.le_of_eq rfl) (hb hby at_80) (by decide) (by decide)
  obtain ⟨rfl, Nq8, K8, E_b1, F_modCount_b1, F_elementData_b1, F_size_b1, V_gb4⟩ := hQ8
  have N8 := Fr.app N7 Nq8
  have Z0 := Nat.le_trans Z0 K8.1
  have O := O.keep K8 (allS g_b1 (allS g_gb4 all0))
  have E_bd3 := E_bd3.keep K8
  have F_bd3 := F_bd3.keep K8 (ninS (Ne.symm ne_b1_bd3) (ninS nz_gb4_0 nin0))
  have E_bd5 := E_bd5.keep K8
  have F_bd5 := F_bd5.keep K8 (ninS (Ne.symm ne_b1_bd5) (ninS (Ne.symm ne_gb4_bd5) nin0))
  have E_bd7 := E_bd7.keep K8
  have F_bd7 := F_bd7.keep K8 (ninS (Ne.symm ne_b1_bd7) (ninS (Ne.symm ne_gb4_bd7) nin0))
  refine go st8 ?_
  refine go (fun _ k => by refine XS.pop X8.here hx rfl (hb hby at_85) rfl rfl ?_; exact k) ?_
  show OwnEnd _ _ _ _ _ _ _ (T8.setTop (mkF m 86 (fL13 p0 p1 p2 p3 (FP.l2d wb0) (FP.l2d wb1) (FP.l2d wv1) (FP.l2d wv2) b1) []))
  obtain ⟨T9, h9, X9, e9, E9, A9, D9, -, st9⟩ := newO X8 hx hZ hown (hw _ (List.mem_of_getElem? (i := 81) rfl)) (hw _ (List.mem_of_getElem? (i := 82) rfl)) (hw _ (List.mem_of_getElem? (i := 83) rfl)) rfl (g := (mkF m 86 (fL13 p0 p1 p2 p3 (FP.l2d wb0) (FP.l2d wb1) (FP.l2d wv1) (FP.l2d wv2) b1) [])) rfl (hb hby at_86) (by decide) (by decide)
  obtain ⟨b9, g9⟩ : ∃ z, z = T8.heap.size := ⟨_, rfl⟩
  rw [← g9] at A9 D9 st9
  have ne_bd3_b9 : bd3 ≠ b9 := fun q => absurd E_bd3.lt (by rw [q, g9]; exact Nat.lt_irrefl _)
  have ne_bd5_b9 : bd5 ≠ b9 := fun q => absurd E_bd5.lt (by rw [q, g9]; exact Nat.lt_irrefl _)
  have ne_bd7_b9 : bd7 ≠ b9 := fun q => absurd E_bd7.lt (by rw [q, g9]; exact Nat.lt_irrefl _)
  have ne_b1_b9 : b1 ≠ b9 := fun q => absurd E_b1.lt (by rw [q, g9]; exact Nat.lt_irrefl _)
  have ne_gb4_b9 : gb4 ≠ b9 := fun q => absurd V_gb4.lt (by rw [q, g9]; exact Nat.lt_irrefl _)
  have g_b9 : n0 ≤ b9 := Nat.le_trans Z0 (Nat.le_of_eq g9.symm)
  have Z0 := Nat.le_trans Z0 E9.1
  have O := O.ext E9
  have E_bd3 := E_bd3.ext E9
  have F_bd3 := F_bd3.ext E9
  have E_bd5 := E_bd5.ext E9
  have F_bd5 := F_bd5.ext E9
  have E_bd7 := E_bd7.ext E9
  have F_bd7 := F_bd7.ext E9
  have E_b1 := E_b1.ext E9
  have F_modCount_b1 := F_modCount_b1.ext E9
  have F_elementData_b1 := F_elementData_b1.ext E9
  have F_size_b1 := F_size_b1.ext E9
  have V_gb4 := V_gb4.ext E9
  have F_upperBounds_b9 : Fld Z h9 b9 "com/example/waitsfor/waitsfor/Histogram$Recorder" "upperBounds" "Ljava/util/List;" .null := D9 (Or.inr (hw _ (List.mem_of_getElem? (i := 89) rfl))) (ty := (.object "java/util/List")) (by decide)
  have F_bounds_b9 : Fld Z h9 b9 "com/example/waitsfor/waitsfor/Histogram$Recorder" "bounds" "[D" .null := D9 (Or.inr (hw _ (List.mem_of_getElem? (i := 100) rfl))) (ty := (.array .double)) (by decide)
  have F_counts_b9 : Fld Z h9 b9 "com/example/waitsfor/waitsfor/Histogram$Recorder" "counts" "[J" .null := D9 (Or.inr (hw _ (List.mem_of_getElem? (i := 130) rfl))) (ty := (.array .long)) (by decide)
  have F_sum_b9 : Fld Z h9 b9 "com/example/waitsfor/waitsfor/Histogram$Recorder" "sum" "D" (.double (0 : UInt64)) := D9 (Or.inl (hw _ (List.mem_of_getElem? (i := 137) rfl))) (ty := .double) (by decide)
  have E_b9 := A9
  refine go st9 ?_
  refine go (fun _ k => by refine XS.dup X9.here hx rfl (hb hby at_89) rfl rfl ?_; exact k) ?_
  refine go (fun _ k => by refine XS.aload X9.here hx rfl (hb hby at_90) rfl rfl ?_; exact k) ?_
  show OwnEnd _ _ _ _ _ _ _ (T9.setTop (mkF m 92 (fL13 p0 p1 p2 p3 (FP.l2d wb0) (FP.l2d wb1) (FP.l2d wv1) (FP.l2d wv2) b1) [(.ref b1), (.ref b9), (.ref b9)]))
  obtain ⟨_, T10, L10, X10, hQ10, st10⟩ := callInit X9 hx hZ hown rfl (hw _ (List.mem_of_getElem? (i := 84) rfl)) (hw _ (List.mem_of_getElem? (i := 85) rfl)) (hw _ (List.mem_of_getElem? (i := 83) rfl)) (hw _ (List.mem_of_getElem? (i := 86) rfl)) (by decide) (rm_rin l Z a0 hw [] b9 b1 gb4 k4 bd3 bd5 bd7 (FP.l2d wb0) (FP.l2d wb1) (9218868437227405312 : UInt64) h9 n0 g_b9 Z0 E_b9 F_upperBounds_b9 F_bounds_b9 F_counts_b9 F_sum_b9 E_b1 F_elementData_b1 F_size_b1 V_gb4 ne_gb4_b9 E_bd3 E_bd5 E_bd7 F_bd3 F_bd5 F_bd7) (W := 1) (by decide) (by decide) e9 (g := (mkF m 92 (fL13 p0 p1 p2 p3 (FP.l2d wb0) (FP.l2d wb1) (FP.l2d wv1) (FP.l2d wv2) b1) [(.ref b1), (.ref b9), (.ref b9)])) rfl (by rw [hml]; rfl) (argsL := [(.ref b1)]) (rest := [(.ref b9)]) rfl (lenOf pd__Ljava_util_List__V rfl) rfl (by show 2 * 0 + _ ≤ _; exact Nat.le_of_eq rfl) (hb hby at_92) (by decide) (by decide)
  have lo10_0 := F_upperBounds_b9.lt
  obtain ⟨ba10, bk10, ca10, ck10, rfl, Nq10, K10, g_ba10, g_ca10, sb10, sc10, nbc10, E_b9, F_upperBounds_b9, F_bounds_b9, F_counts_b9, F_sum_b9, V_ba10, V_ca10, E_ca10⟩ := hQ10
  have N10 := Fr.app N8 Nq10
  have Z0 := Nat.le_trans Z0 K10.1
  have O := O.keep K10 (allS g_b9 all0)
  have ne_b9_ba10 : b9 ≠ ba10 := fun q => absurd lo10_0 (by rw [q]; exact Nat.not_lt.mpr sb10)
  have ne_b9_ca10 : b9 ≠ ca10 := fun q => absurd lo10_0 (by rw [q]; exact Nat.not_lt.mpr sc10)
  refine go st10 ?_
  refine go (fun _ k => by refine XS.astore X10.here hx rfl (hb hby at_95) rfl rfl (l' := (fL14 p0 p1 p2 p3 (FP.l2d wb0) (FP.l2d wb1) (FP.l2d wv1) (FP.l2d wv2) b1 b9)) rfl ?_; exact k) ?_
  refine go (fun _ k => by refine XS.aload X10.here hx rfl (hb hby at_97) rfl rfl ?_; exact k) ?_
  refine go (fun _ k => by refine XS.dload X10.here hx rfl (hb hby at_99) rfl ?_; exact k) ?_
  show OwnEnd _ _ _ _ _ _ _ (T10.setTop (mkF m 101 (fL14 p0 p1 p2 p3 (FP.l2d wb0) (FP.l2d wb1) (FP.l2d wv1) (FP.l2d wv2) b1 b9) [(.double (FP.l2d wv1)), (.ref b9)]))
  obtain ⟨_, T11, L11, X11, hQ11, st11⟩ := callVirt X10 hx hZ hown (hw _ (List.mem_of_getElem? (i := 131) rfl)) (hw _ (List.mem_of_getElem? (i := 132) rfl)) (notFace_of_selects (args := #[]) (mvT hZ (hw _ (List.mem_of_getElem? (i := 134) rfl)))) (hw _ (List.mem_of_getElem? (i := 134) rfl)) (hw _ (List.mem_of_getElem? (i := 133) rfl)) (hw _ (List.mem_of_getElem? (i := 83) rfl)) (hw _ (List.mem_of_getElem? (i := 135) rfl)) (by decide) (rm_obs l Z a0 hw [] b9 wv1 b1 ba10 bk10 ca10 ck10 wb0 wb1 (0 : Int64) (0 : Int64) (0 : Int64) (0 : Int64) T10.heap n0 g_b9 g_ca10 ne_b9_ca10 ne_b9_ba10 nbc10 (own_smw sm_wv1 (by decide) : own_sm wv1 2147483648) (own_smw sm_wb0 (by decide) : own_sm wb0 4294967297) (own_smw sm_wb1 (by decide) : own_sm wb1 4294967297) (own_smw own_smc0 (by decide) : own_sm (0 : Int64) 4294967296) E_b9 F_upperBounds_b9 F_bounds_b9 F_counts_b9 F_sum_b9 V_ba10 V_ca10) (W := 0) (by decide) (by decide) rfl E_b9 (g := (mkF m 101 (fL14 p0 p1 p2 p3 (FP.l2d wb0) (FP.l2d wb1) (FP.l2d wv1) (FP.l2d wv2) b1 b9) [(.double (FP.l2d wv1)), (.ref b9)])) rfl (by rw [hml]; rfl) (argsL := [(.double (FP.l2d wv1))]) (rest := []) rfl (lenOf pd__D_V rfl) rfl (by show 2 * 0 + _ ≤ _; exact Nat.le_of_eq rfl) (hb hby at_101) (by decide) (by decide)
  obtain ⟨rfl, Nq11, K11, E_b9, F_upperBounds_b9, F_bounds_b9, F_counts_b9, F_sum_b9, V_ca10⟩ := hQ11
  have N11 := Fr.app N10 Nq11
  have Z0 := Nat.le_trans Z0 K11.1
  have O := O.keep K11 (allS g_b9 (allS g_ca10 all0))
  have V_ba10 := V_ba10.keep K11 (ninS (Ne.symm ne_b9_ba10) (ninS nbc10 nin0))
  have E_ca10 := E_ca10.keep K11
  refine go st11 ?_
  refine go (fun _ k => by refine XS.aload X11.here hx rfl (hb hby at_104) rfl rfl ?_; exact k) ?_
  refine go (fun _ k => by refine XS.dload X11.here hx rfl (hb hby at_106) rfl ?_; exact k) ?_
  show OwnEnd _ _ _ _ _ _ _ (T11.setTop (mkF m 108 (fL14 p0 p1 p2 p3 (FP.l2d wb0) (FP.l2d wb1) (FP.l2d wv1) (FP.l2d wv2) b1 b9) [(.double (FP.l2d wv2)), (.ref b9)]))
  obtain ⟨_, T12, L12, X12, hQ12, st12⟩ := callVirt X11 hx hZ hown (hw _ (List.mem_of_getElem? (i := 131) rfl)) (hw _ (List.mem_of_getElem? (i := 132) rfl)) (notFace_of_selects (args := #[]) (mvT hZ (hw _ (List.mem_of_getElem? (i := 134) rfl)))) (hw _ (List.mem_of_getElem? (i := 134) rfl)) (hw _ (List.mem_of_getElem? (i := 133) rfl)) (hw _ (List.mem_of_getElem? (i := 83) rfl)) (hw _ (List.mem_of_getElem? (i := 135) rfl)) (by decide) (rm_obs l Z a0 hw [] b9 wv2 b1 ba10 bk10 ca10 ck10 wb0 wb1 ((0 : Int64) + own_k0 wv1 wb0 wb1) ((0 : Int64) + own_k1 wv1 wb0 wb1) ((0 : Int64) + own_k2 wv1 wb0 wb1) ((0 : Int64) + wv1) T11.heap n0 g_b9 g_ca10 ne_b9_ca10 ne_b9_ba10 nbc10 (own_smw sm_wv2 (by decide) : own_sm wv2 2147483648) (own_smw sm_wb0 (by decide) : own_sm wb0 4294967297) (own_smw sm_wb1 (by decide) : own_sm wb1 4294967297) (own_smw (own_sma own_smc0 sm_wv1 (K := 2147483648) (by decide)) (by decide) : own_sm ((0 : Int64) + wv1) 4294967296) E_b9 F_upperBounds_b9 F_bounds_b9 F_counts_b9 F_sum_b9 V_ba10 V_ca10) (W := 0) (by decide) (by decide) rfl E_b9 (g := (mkF m 108 (fL14 p0 p1 p2 p3 (FP.l2d wb0) (FP.l2d wb1) (FP.l2d wv1) (FP.l2d wv2) b1 b9) [(.double (FP.l2d wv2)), (.ref b9)])) rfl (by rw [hml]; rfl) (argsL := [(.double (FP.l2d wv2))]) (rest := []) rfl (lenOf pd__D_V rfl) rfl (by show 2 * 0 + _ ≤ _; exact Nat.le_of_eq rfl) (hb hby at_108) (by decide) (by decide)
  obtain ⟨rfl, Nq12, K12, E_b9, F_upperBounds_b9, F_bounds_b9, F_counts_b9, F_sum_b9, V_ca10⟩ := hQ12
  have N12 := Fr.app N11 Nq12
  have Z0 := Nat.le_trans Z0 K12.1
  have O := O.keep K12 (allS g_b9 (allS g_ca10 all0))
  have V_ba10 := V_ba10.keep K12 (ninS (Ne.symm ne_b9_ba10) (ninS nbc10 nin0))
  have E_ca10 := E_ca10.keep K12
  refine go st12 ?_
  refine go (fun _ k => by refine XS.aload X12.here hx rfl (hb hby at_111) rfl rfl ?_; exact k) ?_
  show OwnEnd _ _ _ _ _ _ _ (T12.setTop (mkF m 113 (fL14 p0 p1 p2 p3 (FP.l2d wb0) (FP.l2d wb1) (FP.l2d wv1) (FP.l2d wv2) b1 b9) [(.ref b9)]))
  obtain ⟨_, T13, L13, X13, hQ13, st13⟩ := callVirt X12 hx hZ hown (hw _ (List.mem_of_getElem? (i := 138) rfl)) (hw _ (List.mem_of_getElem? (i := 139) rfl)) (notFace_of_selects (args := #[]) (mvT hZ (hw _ (List.mem_of_getElem? (i := 141) rfl)))) (hw _ (List.mem_of_getElem? (i := 141) rfl)) (hw _ (List.mem_of_getElem? (i := 140) rfl)) (hw _ (List.mem_of_getElem? (i := 83) rfl)) (hw _ (List.mem_of_getElem? (i := 142) rfl)) (by decide) (rm_snp l Z a0 hw [] b9 b1 ca10 ck10 (((0 : Int64) + own_k0 wv1 wb0 wb1) + own_k0 wv2 wb0 wb1) (((0 : Int64) + own_k1 wv1 wb0 wb1) + own_k1 wv2 wb0 wb1) (((0 : Int64) + own_k2 wv1 wb0 wb1) + own_k2 wv2 wb0 wb1) (FP.l2d (((0 : Int64) + wv1) + wv2)) T12.heap n0 Z0 E_b9 F_upperBounds_b9 F_counts_b9 F_sum_b9 V_ca10 E_ca10) (W := 0) (by decide) (by decide) rfl E_b9 (g := (mkF m 113 (fL14 p0 p1 p2 p3 (FP.l2d wb0) (FP.l2d wb1) (FP.l2d wv1) (FP.l2d wv2) b1 b9) [(.ref b9)])) rfl (by rw [hml]; rfl) (argsL := []) (rest := []) rfl (lenOf pd___Lcom_example_waitsfor_waitsfor_Histogram_ rfl) rfl (by show 2 * 0 + _ ≤ _; exact Nat.le_of_eq rfl) (hb hby at_113) (by decide) (by decide)
  obtain ⟨hb13, cb13, k13, rfl, Nq13, K13, E_hb13, FC_hb13, FX_hb13, V_cb13⟩ := hQ13
  have N13 := Fr.app N12 Nq13
  have Z0 := Nat.le_trans Z0 K13.1
  have O := O.keep K13 all0
  refine go st13 ?_
  refine go (fun _ k => by refine XS.astore X13.here hx rfl (hb hby at_116) rfl rfl (l' := (fL15 p0 p1 p2 p3 (FP.l2d wb0) (FP.l2d wb1) (FP.l2d wv1) (FP.l2d wv2) b1 b9 hb13)) rfl ?_; exact k) ?_
  refine go (fun _ k => by refine XS.aload X13.here hx rfl (hb hby at_118) rfl rfl ?_; exact k) ?_
  show OwnEnd _ _ _ _ _ _ _ (T13.setTop (mkF m 120 (fL15 p0 p1 p2 p3 (FP.l2d wb0) (FP.l2d wb1) (FP.l2d wv1) (FP.l2d wv2) b1 b9 hb13) [(.ref hb13)]))
  obtain ⟨_, T14, L14, X14, hQ14, st14⟩ := callVirt X13 hx hZ hown (hw _ (List.mem_of_getElem? (i := 165) rfl)) (hw _ (List.mem_of_getElem? (i := 166) rfl)) (notFace_of_selects (args := #[]) (mvT hZ (hw _ (List.mem_of_getElem? (i := 168) rfl)))) (hw _ (List.mem_of_getElem? (i := 168) rfl)) (hw _ (List.mem_of_getElem? (i := 167) rfl)) (hw _ (List.mem_of_getElem? (i := 145) rfl)) (hw _ (List.mem_of_getElem? (i := 169) rfl)) (by decide) (rm_buc l Z a0 hw [] hb13 cb13 k13 (((0 : Int64) + own_k0 wv1 wb0 wb1) + own_k0 wv2 wb0 wb1) (((0 : Int64) + own_k1 wv1 wb0 wb1) + own_k1 wv2 wb0 wb1) (((0 : Int64) + own_k2 wv1 wb0 wb1) + own_k2 wv2 wb0 wb1) da dk caJ ccJ T13.heap n0 Z0 O E_hb13 FC_hb13 V_cb13 SD VD SCJ ACJ NCJ ECJ (own_in0 _ _ _ _) (own_in1 _ _ _ _) (own_in2 _ _ _ _)) (W := 0) (by decide) (by decide) rfl E_hb13 (g := (mkF m 120 (fL15 p0 p1 p2 p3 (FP.l2d wb0) (FP.l2d wb1) (FP.l2d wv1) (FP.l2d wv2) b1 b9 hb13) [(.ref hb13)])) rfl (by rw [hml]; rfl) (argsL := []) (rest := []) rfl (lenOf pd___Ljava_util_List_ rfl) rfl (by show 2 * 0 + _ ≤ _; exact Nat.le_of_eq rfl) (hb hby at_120) (by decide) (by decide)
  obtain ⟨lb14, lg14, gk14, z0_14, z1_14, z2_14, rfl, Nq14, K14, E_lb14, FE_lb14, FS_lb14, V_lg14, E_z0_14, E_z1_14, E_z2_14, F_z0_14, F_z1_14, F_z2_14⟩ := hQ14
  have N14 := Fr.app N13 Nq14
  have Z0 := Nat.le_trans Z0 K14.1
  have O := O.keep K14 all0
  have E_hb13 := E_hb13.keep K14
  have FC_hb13 := FC_hb13.keep K14 nin0
  have FX_hb13 := FX_hb13.keep K14 nin0
  have V_cb13 := V_cb13.keep K14 nin0
  refine go st14 ?_
  refine go (fun _ k => by refine XS.astore X14.here hx rfl (hb hby at_123) rfl rfl (l' := (fL16 p0 p1 p2 p3 (FP.l2d wb0) (FP.l2d wb1) (FP.l2d wv1) (FP.l2d wv2) b1 b9 hb13 lb14)) rfl ?_; exact k) ?_
  refine go (fun _ k => by refine XS.aload X14.here hx rfl (hb hby at_125) rfl rfl ?_; exact k) ?_
  show OwnEnd _ _ _ _ _ _ _ (T14.setTop (mkF m 127 (fL16 p0 p1 p2 p3 (FP.l2d wb0) (FP.l2d wb1) (FP.l2d wv1) (FP.l2d wv2) b1 b9 hb13 lb14) [(.ref lb14)]))
  obtain ⟨_, T15, L15, X15, hQ15, st15⟩ := callFace X14 hx hZ hown (hw _ (List.mem_of_getElem? (i := 182) rfl)) (hw _ (List.mem_of_getElem? (i := 91) rfl)) (mvT hZ (hw _ (List.mem_of_getElem? (i := 92) rfl))) (hw _ (List.mem_of_getElem? (i := 93) rfl)) (hw _ (List.mem_of_getElem? (i := 94) rfl)) (hw _ (List.mem_of_getElem? (i := 95) rfl)) (hw _ (List.mem_of_getElem? (i := 96) rfl)) (hw _ (List.mem_of_getElem? (i := 52) rfl)) (hw _ (List.mem_of_getElem? (i := 2) rfl)) (hw _ (List.mem_of_getElem? (i := 97) rfl)) (by decide) (rm_siz l Z a0 hw [] lb14 (3 : Int32) T14.heap n0 FS_lb14) (W := 0) (by decide) (by decide) rfl E_lb14 (g := (mkF m 127 (fL16 p0 p1 p2 p3 (FP.l2d wb0) (FP.l2d wb1) (FP.l2d wv1) (FP.l2d wv2) b1 b9 hb13 lb14) [(.ref lb14)])) rfl (by rw [hml]; rfl) (argsL := []) (rest := []) rfl (lenOf pd___I rfl) rfl (by show 2 * 0 + _ ≤ _; exact Nat.le_of_eq rfl) (hb hby at_127) (by decide) (by decide)
  obtain ⟨rfl, Nq15, eq15⟩ := hQ15
  have N15 := Fr.app N14 Nq15
  refine go st15 ?_
  refine go (fun _ k => by refine XS.iconst X15.here hx rfl (hb hby at_132) ?_; exact k) ?_
  show OwnEnd _ _ _ _ _ _ _ (T15.setTop (mkF m 133 (fL16 p0 p1 p2 p3 (FP.l2d wb0) (FP.l2d wb1) (FP.l2d wv1) (FP.l2d wv2) b1 b9 hb13 lb14) [(.int (3 : Int32)), (.int (3 : Int32))]))
  refine go (fun _ k => by refine XS.icmpYes X15.here hx rfl (pc0 := 133) (pc' := 138) rfl (hb hby at_133) rfl (teq (by decide)).1 (by decide) (by decide) ?_; exact k) ?_
  refine go (fun _ k => by refine XS.iconst X15.here hx rfl (hb hby at_138) ?_; exact k) ?_
  show OwnEnd _ _ _ _ _ _ _ (T15.setTop (mkF m 139 (fL16 p0 p1 p2 p3 (FP.l2d wb0) (FP.l2d wb1) (FP.l2d wv1) (FP.l2d wv2) b1 b9 hb13 lb14) [(.int (3 : Int32))]))
  obtain ⟨T16, h16, k16, X16, e16, E16, A16, st16⟩ := newP X15 hx hZ (hw _ (List.mem_of_getElem? (i := 128) rfl)) eq15 (g := (mkF m 139 (fL16 p0 p1 p2 p3 (FP.l2d wb0) (FP.l2d wb1) (FP.l2d wv1) (FP.l2d wv2) b1 b9 hb13 lb14) [(.int (3 : Int32))])) rfl (hb hby at_139) rfl (by decide) (cap := 3) (by decide) (by decide) (by decide) (by decide)
  obtain ⟨b16, g16⟩ : ∃ z, z = T14.heap.size := ⟨_, rfl⟩
  rw [← g16] at A16 st16
  have ne_hb13_b16 : hb13 ≠ b16 := fun q => absurd E_hb13.lt (by rw [q, g16]; exact Nat.lt_irrefl _)
  have ne_cb13_b16 : cb13 ≠ b16 := fun q => absurd V_cb13.lt (by rw [q, g16]; exact Nat.lt_irrefl _)
  have ne_lb14_b16 : lb14 ≠ b16 := fun q => absurd E_lb14.lt (by rw [q, g16]; exact Nat.lt_irrefl _)
  have ne_lg14_b16 : lg14 ≠ b16 := fun q => absurd V_lg14.lt (by rw [q, g16]; exact Nat.lt_irrefl _)
  have ne_z0_14_b16 : z0_14 ≠ b16 := fun q => absurd E_z0_14.lt (by rw [q, g16]; exact Nat.lt_irrefl _)
  have ne_z1_14_b16 : z1_14 ≠ b16 := fun q => absurd E_z1_14.lt (by rw [q, g16]; exact Nat.lt_irrefl _)
  have ne_z2_14_b16 : z2_14 ≠ b16 := fun q => absurd E_z2_14.lt (by rw [q, g16]; exact Nat.lt_irrefl _)
  have g_b16 : n0 ≤ b16 := Nat.le_trans Z0 (Nat.le_of_eq g16.symm)
  have Z0 := Nat.le_trans Z0 E16.1
  have O := O.ext E16
  have E_hb13 := E_hb13.ext E16
  have FC_hb13 := FC_hb13.ext E16
  have FX_hb13 := FX_hb13.ext E16
  have V_cb13 := V_cb13.ext E16
  have E_lb14 := E_lb14.ext E16
  have FE_lb14 := FE_lb14.ext E16
  have FS_lb14 := FS_lb14.ext E16
  have V_lg14 := V_lg14.ext E16
  have E_z0_14 := E_z0_14.ext E16
  have F_z0_14 := F_z0_14.ext E16
  have E_z1_14 := E_z1_14.ext E16
  have F_z1_14 := F_z1_14.ext E16
  have E_z2_14 := E_z2_14.ext E16
  have F_z2_14 := F_z2_14.ext E16
  have V_b16 : Arv Z h16 b16 k16 .long (3 : Int32) [(.long (0 : Int64)), (.long (0 : Int64)), (.long (0 : Int64))] (.long (0 : Int64)) := (Arv.new A16 (by decide)).pad (pad_rep [] (.long (0 : Int64)) 3)
  refine go st16 ?_
  refine go (fun _ k => by refine XS.astore X16.here hx rfl (hb hby at_141) rfl rfl (l' := (fL17 p0 p1 p2 p3 (FP.l2d wb0) (FP.l2d wb1) (FP.l2d wv1) (FP.l2d wv2) b1 b9 hb13 lb14 b16)) rfl ?_; exact k) ?_
  refine go (fun _ k => by refine XS.aload X16.here hx rfl (hb hby at_143) rfl rfl ?_; exact k) ?_
  refine go (fun _ k => by refine XS.dload X16.here hx rfl (hb hby at_145) rfl ?_; exact k) ?_
  show OwnEnd _ _ _ _ _ _ _ (T16.setTop (mkF m 147 (fL17 p0 p1 p2 p3 (FP.l2d wb0) (FP.l2d wb1) (FP.l2d wv1) (FP.l2d wv2) b1 b9 hb13 lb14 b16) [(.double (FP.l2d wv1)), (.ref b16)]))
  refine go (fun _ k => by refine XS.dload X16.here hx rfl (hb hby at_147) rfl ?_; exact k) ?_
  refine go (fun _ k => by refine XS.dload X16.here hx rfl (hb hby at_149) rfl ?_; exact k) ?_
  show OwnEnd _ _ _ _ _ _ _ (T16.setTop (mkF m 151 (fL17 p0 p1 p2 p3 (FP.l2d wb0) (FP.l2d wb1) (FP.l2d wv1) (FP.l2d wv2) b1 b9 hb13 lb14 b16) [(.double (FP.l2d wb1)), (.double (FP.l2d wb0)), (.double (FP.l2d wv1)), (.ref b16)]))
  obtain ⟨_, T17, L17, X17, hQ17, st17⟩ := callStat X16 hx hZ hown (hw _ (List.mem_of_getElem? (i := 183) rfl)) (hw _ (List.mem_of_getElem? (i := 184) rfl)) (hw _ (List.mem_of_getElem? (i := 185) rfl)) (hw _ (List.mem_of_getElem? (i := 186) rfl)) (by decide) (rm_bof l Z a0 hw [] wv1 wb0 wb1 h16 n0 (own_smw sm_wv1 (by decide) : own_sm wv1 2147483648) (own_smw sm_wb0 (by decide) : own_sm wb0 4294967297) (own_smw sm_wb1 (by decide) : own_sm wb1 4294967297)) (W := 1) (by decide) (by decide) e16 (g := (mkF m 151 (fL17 p0 p1 p2 p3 (FP.l2d wb0) (FP.l2d wb1) (FP.l2d wv1) (FP.l2d wv2) b1 b9 hb13 lb14 b16) [(.double (FP.l2d wb1)), (.double (FP.l2d wb0)), (.double (FP.l2d wv1)), (.ref b16)])) rfl (by rw [hml]; rfl) (argsL := [(.double (FP.l2d wv1)), (.double (FP.l2d wb0)), (.double (FP.l2d wb1))]) (rest := [(.ref b16)]) rfl (lenOf pd__DDD_I rfl) rfl (by show 2 * 0 + _ ≤ _; exact Nat.le_of_eq rfl) (hb hby at_151) (by decide) (by decide)
  obtain ⟨rfl, Nq17, eq17⟩ := hQ17
  have N17 := Fr.app N15 Nq17
  refine go st17 ?_
  show OwnEnd _ _ _ _ _ _ _ (T17.setTop (mkF m 154 (fL17 p0 p1 p2 p3 (FP.l2d wb0) (FP.l2d wb1) (FP.l2d wv1) (FP.l2d wv2) b1 b9 hb13 lb14 b16) [(.int (own_b wv1 wb0 wb1)), (.ref b16)]))
  refine go (fun _ k => by refine Jvm.Free.XT.dup2 X17.here hx rfl (hb hby at_154) rfl rfl rfl ?_; exact k) ?_
  show OwnEnd _ _ _ _ _ _ _ (T17.setTop (mkF m 155 (fL17 p0 p1 p2 p3 (FP.l2d wb0) (FP.l2d wb1) (FP.l2d wv1) (FP.l2d wv2) b1 b9 hb13 lb14 b16) [(.int (own_b wv1 wb0 wb1)), (.ref b16), (.int (own_b wv1 wb0 wb1)), (.ref b16)]))
  refine go (ldJw X17 hx hZ eq17 V_b16 (own_b3 _ _ _) (g := (mkF m 155 (fL17 p0 p1 p2 p3 (FP.l2d wb0) (FP.l2d wb1) (FP.l2d wv1) (FP.l2d wv2) b1 b9 hb13 lb14 b16) [(.int (own_b wv1 wb0 wb1)), (.ref b16), (.int (own_b wv1 wb0 wb1)), (.ref b16)])) rfl rfl (hb hby at_155)) ?_
  refine go (fun _ k => by refine XS.lconst X17.here hx rfl (hb hby at_156) ?_; exact k) ?_
  refine go (fun _ k => by refine XS.ladd X17.here hx rfl (hb hby at_157) rfl ?_; exact k) ?_
  show OwnEnd _ _ _ _ _ _ _ (T17.setTop (mkF m 158 (fL17 p0 p1 p2 p3 (FP.l2d wb0) (FP.l2d wb1) (FP.l2d wv1) (FP.l2d wv2) b1 b9 hb13 lb14 b16) [(.long ((if (own_b wv1 wb0 wb1) = 0 then (0 : Int64) else if (own_b wv1 wb0 wb1) = 1 then (0 : Int64) else (0 : Int64)) + (1 : Int64))), (.int (own_b wv1 wb0 wb1)), (.ref b16)]))
  obtain ⟨T18, h18, i18, X18, e18, W18, V_b16', st18⟩ := stJw X17 hx hZ eq17 V_b16 (own_b3 _ _ _) (g := (mkF m 158 (fL17 p0 p1 p2 p3 (FP.l2d wb0) (FP.l2d wb1) (FP.l2d wv1) (FP.l2d wv2) b1 b9 hb13 lb14 b16) [(.long ((if (own_b wv1 wb0 wb1) = 0 then (0 : Int64) else if (own_b wv1 wb0 wb1) = 1 then (0 : Int64) else (0 : Int64)) + (1 : Int64))), (.int (own_b wv1 wb0 wb1)), (.ref b16)])) rfl rfl (hb hby at_158)
  have N18 := Fr.snoc X18 N17 g_b16
  have Z0 := Nat.le_trans Z0 (Keep.of_wr W18).1
  have O := O.wr W18 g_b16
  have E_hb13 := E_hb13.wr W18
  have FC_hb13 := FC_hb13.other W18 (Or.inl ne_hb13_b16)
  have FX_hb13 := FX_hb13.other W18 (Or.inl ne_hb13_b16)
  have V_cb13 := V_cb13.other W18 ne_cb13_b16
  have E_lb14 := E_lb14.wr W18
  have FE_lb14 := FE_lb14.other W18 (Or.inl ne_lb14_b16)
  have FS_lb14 := FS_lb14.other W18 (Or.inl ne_lb14_b16)
  have V_lg14 := V_lg14.other W18 ne_lg14_b16
  have E_z0_14 := E_z0_14.wr W18
  have F_z0_14 := F_z0_14.other W18 (Or.inl ne_z0_14_b16)
  have E_z1_14 := E_z1_14.wr W18
  have F_z1_14 := F_z1_14.other W18 (Or.inl ne_z1_14_b16)
  have E_z2_14 := E_z2_14.wr W18
  have F_z2_14 := F_z2_14.other W18 (Or.inl ne_z2_14_b16)
  have V_b16 := V_b16'
  refine go st18 ?_
  obtain ⟨ea0, qea0⟩ : ∃ z : Int64, z = (if (own_b wv1 wb0 wb1) = 0 then ((if (own_b wv1 wb0 wb1) = 0 then (0 : Int64) else if (own_b wv1 wb0 wb1) = 1 then (0 : Int64) else (0 : Int64)) + (1 : Int64)) else (0 : Int64)) := ⟨_, rfl⟩
  obtain ⟨ea1, qea1⟩ : ∃ z : Int64, z = (if (own_b wv1 wb0 wb1) = 1 then ((if (own_b wv1 wb0 wb1) = 0 then (0 : Int64) else if (own_b wv1 wb0 wb1) = 1 then (0 : Int64) else (0 : Int64)) + (1 : Int64)) else (0 : Int64)) := ⟨_, rfl⟩
  obtain ⟨ea2, qea2⟩ : ∃ z : Int64, z = (if (own_b wv1 wb0 wb1) = 2 then ((if (own_b wv1 wb0 wb1) = 0 then (0 : Int64) else if (own_b wv1 wb0 wb1) = 1 then (0 : Int64) else (0 : Int64)) + (1 : Int64)) else (0 : Int64)) := ⟨_, rfl⟩
  have V_b16' : Arv Z h18 b16 k16 .long 3 [(.long ea0), (.long ea1), (.long ea2)] (.long 0) := by rw [qea0, qea1, qea2]; exact V_b16
  have V_b16 := V_b16'
  refine go (fun _ k => by refine XS.aload X18.here hx rfl (hb hby at_159) rfl rfl ?_; exact k) ?_
  refine go (fun _ k => by refine XS.dload X18.here hx rfl (hb hby at_161) rfl ?_; exact k) ?_
  refine go (fun _ k => by refine XS.dload X18.here hx rfl (hb hby at_163) rfl ?_; exact k) ?_
  show OwnEnd _ _ _ _ _ _ _ (T18.setTop (mkF m 165 (fL17 p0 p1 p2 p3 (FP.l2d wb0) (FP.l2d wb1) (FP.l2d wv1) (FP.l2d wv2) b1 b9 hb13 lb14 b16) [(.double (FP.l2d wb0)), (.double (FP.l2d wv2)), (.ref b16)]))
  refine go (fun _ k => by refine XS.dload X18.here hx rfl (hb hby at_165) rfl ?_; exact k) ?_
  show OwnEnd _ _ _ _ _ _ _ (T18.setTop (mkF m 167 (fL17 p0 p1 p2 p3 (FP.l2d wb0) (FP.l2d wb1) (FP.l2d wv1) (FP.l2d wv2) b1 b9 hb13 lb14 b16) [(.double (FP.l2d wb1)), (.double (FP.l2d wb0)), (.double (FP.l2d wv2)), (.ref b16)]))
  obtain ⟨_, T19, L19, X19, hQ19, st19⟩ := callStat X18 hx hZ hown (hw _ (List.mem_of_getElem? (i := 183) rfl)) (hw _ (List.mem_of_getElem? (i := 184) rfl)) (hw _ (List.mem_of_getElem? (i := 185) rfl)) (hw _ (List.mem_of_getElem? (i := 186) rfl)) (by decide) (rm_bof l Z a0 hw [] wv2 wb0 wb1 h18 n0 (own_smw sm_wv2 (by decide) : own_sm wv2 2147483648) (own_smw sm_wb0 (by decide) : own_sm wb0 4294967297) (own_smw sm_wb1 (by decide) : own_sm wb1 4294967297)) (W := 1) (by decide) (by decide) e18 (g := (mkF m 167 (fL17 p0 p1 p2 p3 (FP.l2d wb0) (FP.l2d wb1) (FP.l2d wv1) (FP.l2d wv2) b1 b9 hb13 lb14 b16) [(.double (FP.l2d wb1)), (.double (FP.l2d wb0)), (.double (FP.l2d wv2)), (.ref b16)])) rfl (by rw [hml]; rfl) (argsL := [(.double (FP.l2d wv2)), (.double (FP.l2d wb0)), (.double (FP.l2d wb1))]) (rest := [(.ref b16)]) rfl (lenOf pd__DDD_I rfl) rfl (by show 2 * 0 + _ ≤ _; exact Nat.le_of_eq rfl) (hb hby at_167) (by decide) (by decide)
  obtain ⟨rfl, Nq19, eq19⟩ := hQ19
  have N19 := Fr.app N18 Nq19
  refine go st19 ?_
  show OwnEnd _ _ _ _ _ _ _ (T19.setTop (mkF m 170 (fL17 p0 p1 p2 p3 (FP.l2d wb0) (FP.l2d wb1) (FP.l2d wv1) (FP.l2d wv2) b1 b9 hb13 lb14 b16) [(.int (own_b wv2 wb0 wb1)), (.ref b16)]))
  refine go (fun _ k => by refine Jvm.Free.XT.dup2 X19.here hx rfl (hb hby at_170) rfl rfl rfl ?_; exact k) ?_
  show OwnEnd _ _ _ _ _ _ _ (T19.setTop (mkF m 171 (fL17 p0 p1 p2 p3 (FP.l2d wb0) (FP.l2d wb1) (FP.l2d wv1) (FP.l2d wv2) b1 b9 hb13 lb14 b16) [(.int (own_b wv2 wb0 wb1)), (.ref b16), (.int (own_b wv2 wb0 wb1)), (.ref b16)]))
  refine go (ldJw X19 hx hZ eq19 V_b16 (own_b3 _ _ _) (g := (mkF m 171 (fL17 p0 p1 p2 p3 (FP.l2d wb0) (FP.l2d wb1) (FP.l2d wv1) (FP.l2d wv2) b1 b9 hb13 lb14 b16) [(.int (own_b wv2 wb0 wb1)), (.ref b16), (.int (own_b wv2 wb0 wb1)), (.ref b16)])) rfl rfl (hb hby at_171)) ?_
  refine go (fun _ k => by refine XS.lconst X19.here hx rfl (hb hby at_172) ?_; exact k) ?_
  refine go (fun _ k => by refine XS.ladd X19.here hx rfl (hb hby at_173) rfl ?_; exact k) ?_
  show OwnEnd _ _ _ _ _ _ _ (T19.setTop (mkF m 174 (fL17 p0 p1 p2 p3 (FP.l2d wb0) (FP.l2d wb1) (FP.l2d wv1) (FP.l2d wv2) b1 b9 hb13 lb14 b16) [(.long ((if (own_b wv2 wb0 wb1) = 0 then ea0 else if (own_b wv2 wb0 wb1) = 1 then ea1 else ea2) + (1 : Int64))), (.int (own_b wv2 wb0 wb1)), (.ref b16)]))
  obtain ⟨T20, h20, i20, X20, e20, W20, V_b16', st20⟩ := stJw X19 hx hZ eq19 V_b16 (own_b3 _ _ _) (g := (mkF m 174 (fL17 p0 p1 p2 p3 (FP.l2d wb0) (FP.l2d wb1) (FP.l2d wv1) (FP.l2d wv2) b1 b9 hb13 lb14 b16) [(.long ((if (own_b wv2 wb0 wb1) = 0 then ea0 else if (own_b wv2 wb0 wb1) = 1 then ea1 else ea2) + (1 : Int64))), (.int (own_b wv2 wb0 wb1)), (.ref b16)])) rfl rfl (hb hby at_174)
  have N20 := Fr.snoc X20 N19 g_b16
  have Z0 := Nat.le_trans Z0 (Keep.of_wr W20).1
  have O := O.wr W20 g_b16
  have E_hb13 := E_hb13.wr W20
  have FC_hb13 := FC_hb13.other W20 (Or.inl ne_hb13_b16)
  have FX_hb13 := FX_hb13.other W20 (Or.inl ne_hb13_b16)
  have V_cb13 := V_cb13.other W20 ne_cb13_b16
  have E_lb14 := E_lb14.wr W20
  have FE_lb14 := FE_lb14.other W20 (Or.inl ne_lb14_b16)
  have FS_lb14 := FS_lb14.other W20 (Or.inl ne_lb14_b16)
  have V_lg14 := V_lg14.other W20 ne_lg14_b16
  have E_z0_14 := E_z0_14.wr W20
  have F_z0_14 := F_z0_14.other W20 (Or.inl ne_z0_14_b16)
  have E_z1_14 := E_z1_14.wr W20
  have F_z1_14 := F_z1_14.other W20 (Or.inl ne_z1_14_b16)
  have E_z2_14 := E_z2_14.wr W20
  have F_z2_14 := F_z2_14.other W20 (Or.inl ne_z2_14_b16)
  have V_b16 := V_b16'
  refine go st20 ?_
  obtain ⟨eb0, qeb0⟩ : ∃ z : Int64, z = (if (own_b wv2 wb0 wb1) = 0 then ((if (own_b wv2 wb0 wb1) = 0 then ea0 else if (own_b wv2 wb0 wb1) = 1 then ea1 else ea2) + (1 : Int64)) else ea0) := ⟨_, rfl⟩
  obtain ⟨eb1, qeb1⟩ : ∃ z : Int64, z = (if (own_b wv2 wb0 wb1) = 1 then ((if (own_b wv2 wb0 wb1) = 0 then ea0 else if (own_b wv2 wb0 wb1) = 1 then ea1 else ea2) + (1 : Int64)) else ea1) := ⟨_, rfl⟩
  obtain ⟨eb2, qeb2⟩ : ∃ z : Int64, z = (if (own_b wv2 wb0 wb1) = 2 then ((if (own_b wv2 wb0 wb1) = 0 then ea0 else if (own_b wv2 wb0 wb1) = 1 then ea1 else ea2) + (1 : Int64)) else ea2) := ⟨_, rfl⟩
  have V_b16' : Arv Z h20 b16 k16 .long 3 [(.long eb0), (.long eb1), (.long eb2)] (.long 0) := by rw [qeb0, qeb1, qeb2]; exact V_b16
  have V_b16 := V_b16'
  refine go (fun _ k => by refine XS.aload X20.here hx rfl (hb hby at_175) rfl rfl ?_; exact k) ?_
  refine go (fun _ k => by refine XS.iconst X20.here hx rfl (hb hby at_177) ?_; exact k) ?_
  show OwnEnd _ _ _ _ _ _ _ (T20.setTop (mkF m 178 (fL17 p0 p1 p2 p3 (FP.l2d wb0) (FP.l2d wb1) (FP.l2d wv1) (FP.l2d wv2) b1 b9 hb13 lb14 b16) [(.int (0 : Int32)), (.ref lb14)]))
  obtain ⟨_, T21, L21, X21, hQ21, st21⟩ := callFace X20 hx hZ hown (hw _ (List.mem_of_getElem? (i := 187) rfl)) (hw _ (List.mem_of_getElem? (i := 102) rfl)) (mvT hZ (hw _ (List.mem_of_getElem? (i := 103) rfl))) (hw _ (List.mem_of_getElem? (i := 104) rfl)) (hw _ (List.mem_of_getElem? (i := 105) rfl)) (hw _ (List.mem_of_getElem? (i := 106) rfl)) (hw _ (List.mem_of_getElem? (i := 107) rfl)) (hw _ (List.mem_of_getElem? (i := 52) rfl)) (hw _ (List.mem_of_getElem? (i := 2) rfl)) (hw _ (List.mem_of_getElem? (i := 108) rfl)) (by decide) (rm_get0 l Z a0 hw [] lb14 lg14 gk14 z0_14 z1_14 z2_14 h20 n0 E_lb14 FE_lb14 FS_lb14 V_lg14) (W := 0) (by decide) (by decide) e20 E_lb14 (g := (mkF m 178 (fL17 p0 p1 p2 p3 (FP.l2d wb0) (FP.l2d wb1) (FP.l2d wv1) (FP.l2d wv2) b1 b9 hb13 lb14 b16) [(.int (0 : Int32)), (.ref lb14)])) rfl (by rw [hml]; rfl) (argsL := [(.int (0 : Int32))]) (rest := []) rfl (lenOf pd__I_Ljava_lang_Object_ rfl) rfl (by show 2 * 0 + _ ≤ _; exact Nat.le_of_eq rfl) (hb hby at_178) (by decide) (by decide)
  obtain ⟨rfl, Nq21, eq21⟩ := hQ21
  have N21 := Fr.app N20 Nq21
  refine go st21 ?_
  show OwnEnd _ _ _ _ _ _ _ (T21.setTop (mkF m 183 (fL17 p0 p1 p2 p3 (FP.l2d wb0) (FP.l2d wb1) (FP.l2d wv1) (FP.l2d wv2) b1 b9 hb13 lb14 b16) [(.ref z0_14)]))
  obtain ⟨T22, X22, e22, st22⟩ := castY X21 hx hZ hown (hw _ (List.mem_of_getElem? (i := 188) rfl)) eq21 (Ins.self E_z0_14) (g := (mkF m 183 (fL17 p0 p1 p2 p3 (FP.l2d wb0) (FP.l2d wb1) (FP.l2d wv1) (FP.l2d wv2) b1 b9 hb13 lb14 b16) [(.ref z0_14)])) rfl rfl (hb hby at_183)
  refine go st22 ?_
  show OwnEnd _ _ _ _ _ _ _ (T22.setTop (mkF m 186 (fL17 p0 p1 p2 p3 (FP.l2d wb0) (FP.l2d wb1) (FP.l2d wv1) (FP.l2d wv2) b1 b9 hb13 lb14 b16) [(.ref z0_14)]))
  obtain ⟨_, T23, L23, X23, hQ23, st23⟩ := callVirt X22 hx hZ hown (hw _ (List.mem_of_getElem? (i := 190) rfl)) (hw _ (List.mem_of_getElem? (i := 191) rfl)) (notFace_of_selects (args := #[]) (mvT hZ (hw _ (List.mem_of_getElem? (i := 193) rfl)))) (hw _ (List.mem_of_getElem? (i := 193) rfl)) (hw _ (List.mem_of_getElem? (i := 192) rfl)) (hw _ (List.mem_of_getElem? (i := 174) rfl)) (hw _ (List.mem_of_getElem? (i := 194) rfl)) (by decide) (rm_lva l Z a0 hw [] z0_14 (((0 : Int64) + own_k0 wv1 wb0 wb1) + own_k0 wv2 wb0 wb1) h20 n0 F_z0_14) (W := 0) (by decide) (by decide) e22 E_z0_14 (g := (mkF m 186 (fL17 p0 p1 p2 p3 (FP.l2d wb0) (FP.l2d wb1) (FP.l2d wv1) (FP.l2d wv2) b1 b9 hb13 lb14 b16) [(.ref z0_14)])) rfl (by rw [hml]; rfl) (argsL := []) (rest := []) rfl (lenOf pd___J rfl) rfl (by show 2 * 0 + _ ≤ _; exact Nat.le_of_eq rfl) (hb hby at_186) (by decide) (by decide)
  obtain ⟨rfl, Nq23, eq23⟩ := hQ23
  have N23 := Fr.app N21 Nq23
  refine go st23 ?_
  refine go (fun _ k => by refine XS.aload X23.here hx rfl (hb hby at_189) rfl rfl ?_; exact k) ?_
  refine go (fun _ k => by refine XS.iconst X23.here hx rfl (hb hby at_191) ?_; exact k) ?_
  show OwnEnd _ _ _ _ _ _ _ (T23.setTop (mkF m 192 (fL17 p0 p1 p2 p3 (FP.l2d wb0) (FP.l2d wb1) (FP.l2d wv1) (FP.l2d wv2) b1 b9 hb13 lb14 b16) [(.int (0 : Int32)), (.ref b16), (.long (((0 : Int64) + own_k0 wv1 wb0 wb1) + own_k0 wv2 wb0 wb1))]))
  refine go (ldJv X23 hx hZ eq23 V_b16 (j := (0 : Int32)) (i := 0) (w := eb0) (by decide) (by decide) (by decide) rfl (g := (mkF m 192 (fL17 p0 p1 p2 p3 (FP.l2d wb0) (FP.l2d wb1) (FP.l2d wv1) (FP.l2d wv2) b1 b9 hb13 lb14 b16) [(.int (0 : Int32)), (.ref b16), (.long (((0 : Int64) + own_k0 wv1 wb0 wb1) + own_k0 wv2 wb0 wb1))])) rfl rfl (hb hby at_192)) ?_
  refine go (fun _ k => by refine XS.lcmp X23.here hx rfl (hb hby at_193) rfl ?_; exact k) ?_
  show OwnEnd _ _ _ _ _ _ _ (T23.setTop (mkF m 194 (fL17 p0 p1 p2 p3 (FP.l2d wb0) (FP.l2d wb1) (FP.l2d wv1) (FP.l2d wv2) b1 b9 hb13 lb14 b16) [(.int (lcmpW (((0 : Int64) + own_k0 wv1 wb0 wb1) + own_k0 wv2 wb0 wb1) eb0))]))
  by_cases hc194_24 : (((0 : Int64) + own_k0 wv1 wb0 wb1) + own_k0 wv2 wb0 wb1) = eb0
  · refine go (fun _ k => by refine XS.ifNo X23.here hx rfl (hb hby at_194) rfl ((if0 _ _).trans (teq ((lw_eq _ _).mpr hc194_24)).2) ?_; exact k) ?_
    show OwnEnd _ _ _ _ _ _ _ (T23.setTop (mkF m 197 (fL17 p0 p1 p2 p3 (FP.l2d wb0) (FP.l2d wb1) (FP.l2d wv1) (FP.l2d wv2) b1 b9 hb13 lb14 b16) []))
    refine go (fun _ k => by refine XS.aload X23.here hx rfl (hb hby at_197) rfl rfl ?_; exact k) ?_
    refine go (fun _ k => by refine XS.iconst X23.here hx rfl (hb hby at_199) ?_; exact k) ?_
    show OwnEnd _ _ _ _ _ _ _ (T23.setTop (mkF m 200 (fL17 p0 p1 p2 p3 (FP.l2d wb0) (FP.l2d wb1) (FP.l2d wv1) (FP.l2d wv2) b1 b9 hb13 lb14 b16) [(.int (1 : Int32)), (.ref lb14)]))
    obtain ⟨_, T25, L25, X25, hQ25, st25⟩ := callFace X23 hx hZ hown (hw _ (List.mem_of_getElem? (i := 187) rfl)) (hw _ (List.mem_of_getElem? (i := 102) rfl)) (mvT hZ (hw _ (List.mem_of_getElem? (i := 103) rfl))) (hw _ (List.mem_of_getElem? (i := 104) rfl)) (hw _ (List.mem_of_getElem? (i := 105) rfl)) (hw _ (List.mem_of_getElem? (i := 106) rfl)) (hw _ (List.mem_of_getElem? (i := 107) rfl)) (hw _ (List.mem_of_getElem? (i := 52) rfl)) (hw _ (List.mem_of_getElem? (i := 2) rfl)) (hw _ (List.mem_of_getElem? (i := 108) rfl)) (by decide) (rm_get1 l Z a0 hw [] lb14 lg14 gk14 z0_14 z1_14 z2_14 h20 n0 E_lb14 FE_lb14 FS_lb14 V_lg14) (W := 0) (by decide) (by decide) eq23 E_lb14 (g := (mkF m 200 (fL17 p0 p1 p2 p3 (FP.l2d wb0) (FP.l2d wb1) (FP.l2d wv1) (FP.l2d wv2) b1 b9 hb13 lb14 b16) [(.int (1 : Int32)), (.ref lb14)])) rfl (by rw [hml]; rfl) (argsL := [(.int (1 : Int32))]) (rest := []) rfl (lenOf pd__I_Ljava_lang_Object_ rfl) rfl (by show 2 * 0 + _ ≤ _; exact Nat.le_of_eq rfl) (hb hby at_200) (by decide) (by decide)
    obtain ⟨rfl, Nq25, eq25⟩ := hQ25
    have N25 := Fr.app N23 Nq25
    refine go st25 ?_
    show OwnEnd _ _ _ _ _ _ _ (T25.setTop (mkF m 205 (fL17 p0 p1 p2 p3 (FP.l2d wb0) (FP.l2d wb1) (FP.l2d wv1) (FP.l2d wv2) b1 b9 hb13 lb14 b16) [(.ref z1_14)]))
    obtain ⟨T26, X26, e26, st26⟩ := castY X25 hx hZ hown (hw _ (List.mem_of_getElem? (i := 188) rfl)) eq25 (Ins.self E_z1_14) (g := (mkF m 205 (fL17 p0 p1 p2 p3 (FP.l2d wb0) (FP.l2d wb1) (FP.l2d wv1) (FP.l2d wv2) b1 b9 hb13 lb14 b16) [(.ref z1_14)])) rfl rfl (hb hby at_205)
    refine go st26 ?_
    show OwnEnd _ _ _ _ _ _ _ (T26.setTop (mkF m 208 (fL17 p0 p1 p2 p3 (FP.l2d wb0) (FP.l2d wb1) (FP.l2d wv1) (FP.l2d wv2) b1 b9 hb13 lb14 b16) [(.ref z1_14)]))
    obtain ⟨_, T27, L27, X27, hQ27, st27⟩ := callVirt X26 hx hZ hown (hw _ (List.mem_of_getElem? (i := 190) rfl)) (hw _ (List.mem_of_getElem? (i := 191) rfl)) (notFace_of_selects (args := #[]) (mvT hZ (hw _ (List.mem_of_getElem? (i := 193) rfl)))) (hw _ (List.mem_of_getElem? (i := 193) rfl)) (hw _ (List.mem_of_getElem? (i := 192) rfl)) (hw _ (List.mem_of_getElem? (i := 174) rfl)) (hw _ (List.mem_of_getElem? (i := 194) rfl)) (by decide) (rm_lva l Z a0 hw [] z1_14 (((0 : Int64) + own_k1 wv1 wb0 wb1) + own_k1 wv2 wb0 wb1) h20 n0 F_z1_14) (W := 0) (by decide) (by decide) e26 E_z1_14 (g := (mkF m 208 (fL17 p0 p1 p2 p3 (FP.l2d wb0) (FP.l2d wb1) (FP.l2d wv1) (FP.l2d wv2) b1 b9 hb13 lb14 b16) [(.ref z1_14)])) rfl (by rw [hml]; rfl) (argsL := []) (rest := []) rfl (lenOf pd___J rfl) rfl (by show 2 * 0 + _ ≤ _; exact Nat.le_of_eq rfl) (hb hby at_208) (by decide) (by decide)
    obtain ⟨rfl, Nq27, eq27⟩ := hQ27
    have N27 := Fr.app N25 Nq27
    refine go st27 ?_
    refine go (fun _ k => by refine XS.aload X27.here hx rfl (hb hby at_211) rfl rfl ?_; exact k) ?_
    refine go (fun _ k => by refine XS.iconst X27.here hx rfl (hb hby at_213) ?_; exact k) ?_
    show OwnEnd _ _ _ _ _ _ _ (T27.setTop (mkF m 214 (fL17 p0 p1 p2 p3 (FP.l2d wb0) (FP.l2d wb1) (FP.l2d wv1) (FP.l2d wv2) b1 b9 hb13 lb14 b16) [(.int (1 : Int32)), (.ref b16), (.long (((0 : Int64) + own_k1 wv1 wb0 wb1) + own_k1 wv2 wb0 wb1))]))
    refine go (ldJv X27 hx hZ eq27 V_b16 (j := (1 : Int32)) (i := 1) (w := eb1) (by decide) (by decide) (by decide) rfl (g := (mkF m 214 (fL17 p0 p1 p2 p3 (FP.l2d wb0) (FP.l2d wb1) (FP.l2d wv1) (FP.l2d wv2) b1 b9 hb13 lb14 b16) [(.int (1 : Int32)), (.ref b16), (.long (((0 : Int64) + own_k1 wv1 wb0 wb1) + own_k1 wv2 wb0 wb1))])) rfl rfl (hb hby at_214)) ?_
    refine go (fun _ k => by refine XS.lcmp X27.here hx rfl (hb hby at_215) rfl ?_; exact k) ?_
    show OwnEnd _ _ _ _ _ _ _ (T27.setTop (mkF m 216 (fL17 p0 p1 p2 p3 (FP.l2d wb0) (FP.l2d wb1) (FP.l2d wv1) (FP.l2d wv2) b1 b9 hb13 lb14 b16) [(.int (lcmpW (((0 : Int64) + own_k1 wv1 wb0 wb1) + own_k1 wv2 wb0 wb1) eb1))]))
    by_cases hc216_28 : (((0 : Int64) + own_k1 wv1 wb0 wb1) + own_k1 wv2 wb0 wb1) = eb1
    · refine go (fun _ k => by refine XS.ifNo X27.here hx rfl (hb hby at_216) rfl ((if0 _ _).trans (teq ((lw_eq _ _).mpr hc216_28)).2) ?_; exact k) ?_
      show OwnEnd _ _ _ _ _ _ _ (T27.setTop (mkF m 219 (fL17 p0 p1 p2 p3 (FP.l2d wb0) (FP.l2d wb1) (FP.l2d wv1) (FP.l2d wv2) b1 b9 hb13 lb14 b16) []))
      refine go (fun _ k => by refine XS.aload X27.here hx rfl (hb hby at_219) rfl rfl ?_; exact k) ?_
      refine go (fun _ k => by refine XS.iconst X27.here hx rfl (hb hby at_221) ?_; exact k) ?_
      show OwnEnd _ _ _ _ _ _ _ (T27.setTop (mkF m 222 (fL17 p0 p1 p2 p3 (FP.l2d wb0) (FP.l2d wb1) (FP.l2d wv1) (FP.l2d wv2) b1 b9 hb13 lb14 b16) [(.int (2 : Int32)), (.ref lb14)]))
      obtain ⟨_, T29, L29, X29, hQ29, st29⟩ := callFace X27 hx hZ hown (hw _ (List.mem_of_getElem? (i := 187) rfl)) (hw _ (List.mem_of_getElem? (i := 102) rfl)) (mvT hZ (hw _ (List.mem_of_getElem? (i := 103) rfl))) (hw _ (List.mem_of_getElem? (i := 104) rfl)) (hw _ (List.mem_of_getElem? (i := 105) rfl)) (hw _ (List.mem_of_getElem? (i := 106) rfl)) (hw _ (List.mem_of_getElem? (i := 107) rfl)) (hw _ (List.mem_of_getElem? (i := 52) rfl)) (hw _ (List.mem_of_getElem? (i := 2) rfl)) (hw _ (List.mem_of_getElem? (i := 108) rfl)) (by decide) (rm_get2 l Z a0 hw [] lb14 lg14 gk14 z0_14 z1_14 z2_14 h20 n0 E_lb14 FE_lb14 FS_lb14 V_lg14) (W := 0) (by decide) (by decide) eq27 E_lb14 (g := (mkF m 222 (fL17 p0 p1 p2 p3 (FP.l2d wb0) (FP.l2d wb1) (FP.l2d wv1) (FP.l2d wv2) b1 b9 hb13 lb14 b16) [(.int (2 : Int32)), (.ref lb14)])) rfl (by rw [hml]; rfl) (argsL := [(.int (2 : Int32))]) (rest := []) rfl (lenOf pd__I_Ljava_lang_Object_ rfl) rfl (by show 2 * 0 + _ ≤ _; exact Nat.le_of_eq rfl) (hb hby at_222) (by decide) (by decide)
      obtain ⟨rfl, Nq29, eq29⟩ := hQ29
      have N29 := Fr.app N27 Nq29
      refine go st29 ?_
      show OwnEnd _ _ _ _ _ _ _ (T29.setTop (mkF m 227 (fL17 p0 p1 p2 p3 (FP.l2d wb0) (FP.l2d wb1) (FP.l2d wv1) (FP.l2d wv2) b1 b9 hb13 lb14 b16) [(.ref z2_14)]))
      obtain ⟨T30, X30, e30, st30⟩ := castY X29 hx hZ hown (hw _ (List.mem_of_getElem? (i := 188) rfl)) eq29 (Ins.self E_z2_14) (g := (mkF m 227 (fL17 p0 p1 p2 p3 (FP.l2d wb0) (FP.l2d wb1) (FP.l2d wv1) (FP.l2d wv2) b1 b9 hb13 lb14 b16) [(.ref z2_14)])) rfl rfl (hb hby at_227)
      refine go st30 ?_
      show OwnEnd _ _ _ _ _ _ _ (T30.setTop (mkF m 230 (fL17 p0 p1 p2 p3 (FP.l2d wb0) (FP.l2d wb1) (FP.l2d wv1) (FP.l2d wv2) b1 b9 hb13 lb14 b16) [(.ref z2_14)]))
      obtain ⟨_, T31, L31, X31, hQ31, st31⟩ := callVirt X30 hx hZ hown (hw _ (List.mem_of_getElem? (i := 190) rfl)) (hw _ (List.mem_of_getElem? (i := 191) rfl)) (notFace_of_selects (args := #[]) (mvT hZ (hw _ (List.mem_of_getElem? (i := 193) rfl)))) (hw _ (List.mem_of_getElem? (i := 193) rfl)) (hw _ (List.mem_of_getElem? (i := 192) rfl)) (hw _ (List.mem_of_getElem? (i := 174) rfl)) (hw _ (List.mem_of_getElem? (i := 194) rfl)) (by decide) (rm_lva l Z a0 hw [] z2_14 (((0 : Int64) + own_k2 wv1 wb0 wb1) + own_k2 wv2 wb0 wb1) h20 n0 F_z2_14) (W := 0) (by decide) (by decide) e30 E_z2_14 (g := (mkF m 230 (fL17 p0 p1 p2 p3 (FP.l2d wb0) (FP.l2d wb1) (FP.l2d wv1) (FP.l2d wv2) b1 b9 hb13 lb14 b16) [(.ref z2_14)])) rfl (by rw [hml]; rfl) (argsL := []) (rest := []) rfl (lenOf pd___J rfl) rfl (by show 2 * 0 + _ ≤ _; exact Nat.le_of_eq rfl) (hb hby at_230) (by decide) (by decide)
      obtain ⟨rfl, Nq31, eq31⟩ := hQ31
      have N31 := Fr.app N29 Nq31
      refine go st31 ?_
      refine go (fun _ k => by refine XS.aload X31.here hx rfl (hb hby at_233) rfl rfl ?_; exact k) ?_
      refine go (fun _ k => by refine XS.iconst X31.here hx rfl (hb hby at_235) ?_; exact k) ?_
      show OwnEnd _ _ _ _ _ _ _ (T31.setTop (mkF m 236 (fL17 p0 p1 p2 p3 (FP.l2d wb0) (FP.l2d wb1) (FP.l2d wv1) (FP.l2d wv2) b1 b9 hb13 lb14 b16) [(.int (2 : Int32)), (.ref b16), (.long (((0 : Int64) + own_k2 wv1 wb0 wb1) + own_k2 wv2 wb0 wb1))]))
      refine go (ldJv X31 hx hZ eq31 V_b16 (j := (2 : Int32)) (i := 2) (w := eb2) (by decide) (by decide) (by decide) rfl (g := (mkF m 236 (fL17 p0 p1 p2 p3 (FP.l2d wb0) (FP.l2d wb1) (FP.l2d wv1) (FP.l2d wv2) b1 b9 hb13 lb14 b16) [(.int (2 : Int32)), (.ref b16), (.long (((0 : Int64) + own_k2 wv1 wb0 wb1) + own_k2 wv2 wb0 wb1))])) rfl rfl (hb hby at_236)) ?_
      refine go (fun _ k => by refine XS.lcmp X31.here hx rfl (hb hby at_237) rfl ?_; exact k) ?_
      show OwnEnd _ _ _ _ _ _ _ (T31.setTop (mkF m 238 (fL17 p0 p1 p2 p3 (FP.l2d wb0) (FP.l2d wb1) (FP.l2d wv1) (FP.l2d wv2) b1 b9 hb13 lb14 b16) [(.int (lcmpW (((0 : Int64) + own_k2 wv1 wb0 wb1) + own_k2 wv2 wb0 wb1) eb2))]))
      by_cases hc238_32 : (((0 : Int64) + own_k2 wv1 wb0 wb1) + own_k2 wv2 wb0 wb1) = eb2
      · refine go (fun _ k => by refine XS.ifNo X31.here hx rfl (hb hby at_238) rfl ((if0 _ _).trans (teq ((lw_eq _ _).mpr hc238_32)).2) ?_; exact k) ?_
        show OwnEnd _ _ _ _ _ _ _ (T31.setTop (mkF m 241 (fL17 p0 p1 p2 p3 (FP.l2d wb0) (FP.l2d wb1) (FP.l2d wv1) (FP.l2d wv2) b1 b9 hb13 lb14 b16) []))
        refine go (fun _ k => by refine XS.aload X31.here hx rfl (hb hby at_241) rfl rfl ?_; exact k) ?_
        show OwnEnd _ _ _ _ _ _ _ (T31.setTop (mkF m 243 (fL17 p0 p1 p2 p3 (FP.l2d wb0) (FP.l2d wb1) (FP.l2d wv1) (FP.l2d wv2) b1 b9 hb13 lb14 b16) [(.ref hb13)]))
        obtain ⟨_, T33, L33, X33, hQ33, st33⟩ := callVirt X31 hx hZ hown (hw _ (List.mem_of_getElem? (i := 197) rfl)) (hw _ (List.mem_of_getElem? (i := 198) rfl)) (notFace_of_selects (args := #[]) (mvT hZ (hw _ (List.mem_of_getElem? (i := 200) rfl)))) (hw _ (List.mem_of_getElem? (i := 200) rfl)) (hw _ (List.mem_of_getElem? (i := 199) rfl)) (hw _ (List.mem_of_getElem? (i := 145) rfl)) (hw _ (List.mem_of_getElem? (i := 201) rfl)) (by decide) (rm_hsu l Z a0 hw [] hb13 (FP.l2d (((0 : Int64) + wv1) + wv2)) h20 n0 FX_hb13) (W := 0) (by decide) (by decide) eq31 E_hb13 (g := (mkF m 243 (fL17 p0 p1 p2 p3 (FP.l2d wb0) (FP.l2d wb1) (FP.l2d wv1) (FP.l2d wv2) b1 b9 hb13 lb14 b16) [(.ref hb13)])) rfl (by rw [hml]; rfl) (argsL := []) (rest := []) rfl (lenOf pd___D rfl) rfl (by show 2 * 0 + _ ≤ _; exact Nat.le_of_eq rfl) (hb hby at_243) (by decide) (by decide)
        obtain ⟨rfl, Nq33, eq33⟩ := hQ33
        have N33 := Fr.app N31 Nq33
        refine go st33 ?_
        refine go (fun _ k => by refine XS.dload X33.here hx rfl (hb hby at_246) rfl ?_; exact k) ?_
        refine go (fun _ k => by refine XS.dload X33.here hx rfl (hb hby at_248) rfl ?_; exact k) ?_
        show OwnEnd _ _ _ _ _ _ _ (T33.setTop (mkF m 250 (fL17 p0 p1 p2 p3 (FP.l2d wb0) (FP.l2d wb1) (FP.l2d wv1) (FP.l2d wv2) b1 b9 hb13 lb14 b16) [(.double (FP.l2d wv2)), (.double (FP.l2d wv1)), (.double (FP.l2d (((0 : Int64) + wv1) + wv2)))]))
        refine go (fun _ k => by refine XS.daddS X33.here hx rfl (hb hby at_250) rfl (nn_w (dadd_w (own_smb sm_wv1 (by decide)) (own_smb sm_wv2 (by decide)))) (dadd_w (own_smb sm_wv1 (by decide)) (own_smb sm_wv2 (by decide))) ?_; exact k) ?_
        show OwnEnd _ _ _ _ _ _ _ (T33.setTop (mkF m 251 (fL17 p0 p1 p2 p3 (FP.l2d wb0) (FP.l2d wb1) (FP.l2d wv1) (FP.l2d wv2) b1 b9 hb13 lb14 b16) [(.double (FP.l2d (wv1 + wv2))), (.double (FP.l2d (((0 : Int64) + wv1) + wv2)))]))
        refine go (fun _ k => by refine XS.dcmpS X33.here hx rfl (hb hby at_251) rfl (dcmpV_w (own_smb (own_sma (own_sma own_smc0 sm_wv1 (K := 2147483648) (by decide)) sm_wv2 (K := 4294967296) (by decide)) (by decide)) (own_smb (own_sma sm_wv1 sm_wv2 (K := 4294967296) (by decide)) (by decide)) _) ?_; exact k) ?_
        show OwnEnd _ _ _ _ _ _ _ (T33.setTop (mkF m 252 (fL17 p0 p1 p2 p3 (FP.l2d wb0) (FP.l2d wb1) (FP.l2d wv1) (FP.l2d wv2) b1 b9 hb13 lb14 b16) [(.int (lcmpW (((0 : Int64) + wv1) + wv2) (wv1 + wv2)))]))
        by_cases hc252_34 : (((0 : Int64) + wv1) + wv2) = (wv1 + wv2)
        · refine go (fun _ k => by refine XS.ifNo X33.here hx rfl (hb hby at_252) rfl ((if0 _ _).trans (teq ((lw_eq _ _).mpr hc252_34)).2) ?_; exact k) ?_
          show OwnEnd _ _ _ _ _ _ _ (T33.setTop (mkF m 255 (fL17 p0 p1 p2 p3 (FP.l2d wb0) (FP.l2d wb1) (FP.l2d wv1) (FP.l2d wv2) b1 b9 hb13 lb14 b16) []))
          refine go (fun _ k => by refine XS.iconst X33.here hx rfl (hb hby at_255) ?_; exact k) ?_
          refine go (fun _ k => by refine XS.goto X33.here hx rfl (pc0 := 256) (pc' := 260) rfl (hb hby at_256) (by decide) (by decide) ?_; exact k) ?_
          show OwnEnd _ _ _ _ _ _ _ (T33.setTop (mkF m 260 (fL17 p0 p1 p2 p3 (FP.l2d wb0) (FP.l2d wb1) (FP.l2d wv1) (FP.l2d wv2) b1 b9 hb13 lb14 b16) [(.int (1 : Int32))]))
          refine endN X33 hx hlk (t := .boolean) (by simp) Bd.returns (hb hby at_260) eq33 (by decide) (by decide) ?_
          exact ⟨rfl, N33⟩
        · refine go (fun _ k => by refine XS.ifYes X33.here hx rfl (pc0 := 252) (pc' := 259) rfl (hb hby at_252) rfl ((if0 _ _).trans (feq (fun q => hc252_34 ((lw_eq _ _).mp q))).2) (by decide) (by decide) ?_; exact k) ?_
          show OwnEnd _ _ _ _ _ _ _ (T33.setTop (mkF m 259 (fL17 p0 p1 p2 p3 (FP.l2d wb0) (FP.l2d wb1) (FP.l2d wv1) (FP.l2d wv2) b1 b9 hb13 lb14 b16) []))
          refine go (fun _ k => by refine XS.iconst X33.here hx rfl (hb hby at_259) ?_; exact k) ?_
          show OwnEnd _ _ _ _ _ _ _ (T33.setTop (mkF m 260 (fL17 p0 p1 p2 p3 (FP.l2d wb0) (FP.l2d wb1) (FP.l2d wv1) (FP.l2d wv2) b1 b9 hb13 lb14 b16) [(.int (0 : Int32))]))
          refine endN X33 hx hlk (t := .boolean) (by simp) Bd.returns (hb hby at_260) eq33 (by decide) (by decide) ?_
          exact absurd (by rw [Int64.zero_add]) hc252_34
      · refine go (fun _ k => by refine XS.ifYes X31.here hx rfl (pc0 := 238) (pc' := 259) rfl (hb hby at_238) rfl ((if0 _ _).trans (feq (fun q => hc238_32 ((lw_eq _ _).mp q))).2) (by decide) (by decide) ?_; exact k) ?_
        show OwnEnd _ _ _ _ _ _ _ (T31.setTop (mkF m 259 (fL17 p0 p1 p2 p3 (FP.l2d wb0) (FP.l2d wb1) (FP.l2d wv1) (FP.l2d wv2) b1 b9 hb13 lb14 b16) []))
        refine go (fun _ k => by refine XS.iconst X31.here hx rfl (hb hby at_259) ?_; exact k) ?_
        show OwnEnd _ _ _ _ _ _ _ (T31.setTop (mkF m 260 (fL17 p0 p1 p2 p3 (FP.l2d wb0) (FP.l2d wb1) (FP.l2d wv1) (FP.l2d wv2) b1 b9 hb13 lb14 b16) [(.int (0 : Int32))]))
        refine endN X31 hx hlk (t := .boolean) (by simp) Bd.returns (hb hby at_260) eq31 (by decide) (by decide) ?_
        exact absurd (own_ce2 _ _ _ _ _ _ _ _ qea0 qea1 qea2 qeb2) hc238_32
    · refine go (fun _ k => by refine XS.ifYes X27.here hx rfl (pc0 := 216) (pc' := 259) rfl (hb hby at_216) rfl ((if0 _ _).trans (feq (fun q => hc216_28 ((lw_eq _ _).mp q))).2) (by decide) (by decide) ?_; exact k) ?_
      show OwnEnd _ _ _ _ _ _ _ (T27.setTop (mkF m 259 (fL17 p0 p1 p2 p3 (FP.l2d wb0) (FP.l2d wb1) (FP.l2d wv1) (FP.l2d wv2) b1 b9 hb13 lb14 b16) []))
      refine go (fun _ k => by refine XS.iconst X27.here hx rfl (hb hby at_259) ?_; exact k) ?_
      show OwnEnd _ _ _ _ _ _ _ (T27.setTop (mkF m 260 (fL17 p0 p1 p2 p3 (FP.l2d wb0) (FP.l2d wb1) (FP.l2d wv1) (FP.l2d wv2) b1 b9 hb13 lb14 b16) [(.int (0 : Int32))]))
      refine endN X27 hx hlk (t := .boolean) (by simp) Bd.returns (hb hby at_260) eq27 (by decide) (by decide) ?_
      exact absurd (own_ce1 _ _ _ _ _ _ _ _ qea0 qea1 qea2 qeb1) hc216_28
  · refine go (fun _ k => by refine XS.ifYes X23.here hx rfl (pc0 := 194) (pc' := 259) rfl (hb hby at_194) rfl ((if0 _ _).trans (feq (fun q => hc194_24 ((lw_eq _ _).mp q))).2) (by decide) (by decide) ?_; exact k) ?_
    show OwnEnd _ _ _ _ _ _ _ (T23.setTop (mkF m 259 (fL17 p0 p1 p2 p3 (FP.l2d wb0) (FP.l2d wb1) (FP.l2d wv1) (FP.l2d wv2) b1 b9 hb13 lb14 b16) []))
    refine go (fun _ k => by refine XS.iconst X23.here hx rfl (hb hby at_259) ?_; exact k) ?_
    show OwnEnd _ _ _ _ _ _ _ (T23.setTop (mkF m 260 (fL17 p0 p1 p2 p3 (FP.l2d wb0) (FP.l2d wb1) (FP.l2d wv1) (FP.l2d wv2) b1 b9 hb13 lb14 b16) [(.int (0 : Int32))]))
    refine endN X23 hx hlk (t := .boolean) (by simp) Bd.returns (hb hby at_260) eq23 (by decide) (by decide) ?_
    exact absurd (own_ce0 _ _ _ _ _ _ _ _ qea0 qea1 qea2 qeb0) hc194_24
set_option maxRecDepth 65536 in
set_option maxHeartbeats 40000000 in
theorem comes_1 {Post : Tables → Env → Array Value → State → Outcome → State → Prop} (hpost : ∀ tb e args s v u, (limb_1_1.after args s (.returned v) u = true ∧ limb_1_2.after args s (.returned v) u = true ∧ True) → FrameEnd s (.returned v) u (Jvm.fieldLocs frame_1_writes args s ++ Jvm.arrayLocs frame_1_arrays args s ++ Jvm.staticLocs frame_1_statics s) 40 192 → Post tb e args s (.returned v) u) :
    ArmFor flags0 classFile x code maxLocals ret World_1 tables_1 room_1 Calls_1 rest_1 Pre_1 Post := by
  intro l hfl _ _ p e ha hc hk s m args below hf hA hF happ hP
  obtain ⟨hcalls, hrest, hpre⟩ := hP
  obtain ⟨-, -, -, hnamed, -, -, -, hat⟩ := (Spec.applies_iff hf).mp happ
  obtain ⟨hg, hn⟩ := and_e (Cond.before_iff.mp (show (Jvm.Cond.and given_1 narrow_1).before args s = true from hpre))
  obtain ⟨gv1, gv2⟩ := and_e hg
  obtain ⟨gv3, gv4⟩ := and_e gv2
  obtain ⟨gv5, gv6⟩ := and_e gv4
  obtain ⟨gv7, gv8⟩ := and_e gv6
  obtain ⟨w0, w1, w2, w3, rfl⟩ : ∃ w0 w1 w2 w3 : Value, args = #[w0, w1, w2, w3] := by
    have hs : args.size = 4 := by simpa [Cond.value, given_1] using gv1
    obtain ⟨L⟩ := args
    match L, hs with
    | [w0, w1, w2, w3], _ => exact ⟨w0, w1, w2, w3, rfl⟩
  have hw := fun d (hd : d ∈ tables_1) => atoms_spec (ws := Jvm.Cond.code x code maxLocals ret :: tables_1) hat d (List.mem_cons_of_mem _ hd)
  have hfit : Fit s := fun {y c} hc i hi => by
    obtain ⟨ha, rfl⟩ := Array.getElem?_eq_some_iff.mp hc
    have q := List.all_eq_true.mp ((Array.all_eq_true_iff_forall_mem.mp hF) _ (Array.getElem_mem ha)) i (List.mem_range.mpr hi)
    simpa [Array.getElem?_eq_getElem hi] using q
  obtain ⟨hsets, hown0⟩ := atoms_of _ (rest_1_c_eq ▸ (show rest_1_c.before _ s = true from hrest))
  have hr0 := Cond.before_iff.mp hown0
  obtain ⟨i0, ei0⟩ := is_v gv3
  obtain rfl : w0 = (.int i0) := Option.some.inj ei0
  obtain ⟨i1, ei1⟩ := is_v gv5
  obtain rfl : w1 = (.int i1) := Option.some.inj ei1
  obtain ⟨i2, ei2⟩ := is_v gv7
  obtain rfl : w2 = (.int i2) := Option.some.inj ei2
  obtain ⟨i3, ei3⟩ := is_v gv8
  obtain rfl : w3 = (.int i3) := Option.some.inj ei3
  obtain ⟨caJ, tcJ⟩ := arr_v (Cond.before_iff.mp (hsets _ (List.mem_of_getElem? (i := 11) rfl)))
  obtain ⟨ccJ, ACJ⟩ := Arr.start tcJ (Cond.before_iff.mp (hsets _ (List.mem_of_getElem? (i := 11) rfl)))
  have SCJ := Sta.start tcJ (Or.inl (hsets _ (List.mem_of_getElem? (i := 10) rfl)))
  obtain ⟨lnJ, lmJ⟩ := own_len tcJ ACJ (Cond.before_iff.mp (hsets _ (List.mem_of_getElem? (i := 13) rfl)))
  have NCJ : ccJ.slots.size = 256 := by have q := congrArg Int32.toInt lnJ; rw [len_toInt lmJ] at q; exact Int.ofNat.inj q
  have ECJ := own_allV tcJ ACJ (Cond.before_iff.mp (hsets _ (List.mem_of_getElem? (i := 14) rfl))) lmJ (fun _ => tcJ)
  rw [NCJ] at ECJ
  obtain ⟨da, tda⟩ := arr_v (Cond.before_iff.mp (hsets _ (List.mem_of_getElem? (i := 6) rfl)))
  obtain ⟨dc, AD⟩ := Arr.start tda (Cond.before_iff.mp (hsets _ (List.mem_of_getElem? (i := 6) rfl)))
  have SD := Sta.start tda (Or.inr ⟨hw _ (List.mem_of_getElem? (i := 2) rfl), hsets _ (List.mem_of_getElem? (i := 2) rfl)⟩)
  obtain ⟨lnd, lmd⟩ := own_len tda AD (Cond.before_iff.mp (hsets _ (List.mem_of_getElem? (i := 8) rfl)))
  have VD := Arv.start (z := 0) (vs := []) (dv := .null) hfit AD lmd lnd (by decide) rfl trivial
  obtain ⟨n, o, h1, h2, h3, _, L, rfl, ⟨rfl, N⟩, hq⟩ := rm_law l s _ hw tables_1 i0 i1 i2 i3 da dc.cls caJ ccJ s.heap s.heap.size (Nat.le_refl _) (Old.start s) SD VD SCJ ACJ NCJ ECJ p e ha hc hk s m _ below hf ((Spec.applies_iff_loose hf).mp happ).1 ⟨rfl, State.Warmed39.refl s, rfl⟩ trivial
  refine ⟨n, _, h1, h2, h3, hpost _ _ _ _ _ _ ⟨Cond.after_iff.mpr rfl, Cond.after_iff.mpr (eq_i res_at (Term.int_eval (1)) rfl), trivial⟩ ⟨hq.1, hq.2.1, (hq.2.2.sift fun y hy => Or.inr (N y hy)).mono (by decide) (by decide)⟩⟩
theorem main_1_1 : Claimed_1_1 := comes_1 fun _ _ _ _ _ _ h hF => ⟨h.1, hF⟩
theorem main_1_2 : Claimed_1_2 := comes_1 fun _ _ _ _ _ _ h hF => ⟨h.2.1, hF⟩
end Jvm.Pilot.@@N@@
namespace Jvm.Pilot.@@N@@
open Jvm Jvm.ClassFile Sem Op Lib Jvm.Free Jvm.Stand Jvm.Pilot.@@N@@.Jvm.D
/-! MADE BY PROGRAM (witnessworld.py) out of the Statement's table words and the real class files: 34 classes; the members and pool entries that the words name. The judged class is class 1, her method 2. -/
namespace start1
open Jvm.ClassFile
def u (s : String) : CpInfo := .utf8 (stringToUtf16 s)
/-- a pool by its gaps: so many unusable entries, then the entry; so many at the end -/
def gap : Nat → List CpInfo → List CpInfo
  | 0, r => r
  | n + 1, r => .unusable :: gap n r
def poolList (es : List (Nat × CpInfo)) (last : Nat) : List CpInfo := es.foldr (fun e r => gap e.1 (e.2 :: r)) (gap last [])
def pool (es : List (Nat × CpInfo)) (last : Nat) : Array CpInfo := ⟨poolList es last⟩
def fileOf (pool : Array CpInfo) (this : Nat) (attrs : Array Attribute := #[]) (ms : Array MethodInfo := #[]) (fl : Nat := 33) (sup : Nat := 0) (ifs : Array Nat := #[]) (fds : Array FieldInfo := #[]) : ClassFile where
  minorVersion := 0
  majorVersion := 65
  constantPool := pool
  accessFlags := fl
  thisClass := this
  superClass := sup
  interfaces := ifs
  fields := fds
  methods := ms
  attributes := attrs
def plain (name : String) (sup : Option ClassId) : Class where
  name := name
  kind := .ordinary
  loader := none
  accessFlags := 33
  super := sup
  interfaces := #[]
  cf := none
  fields := #[]
  methods := #[]
  instanceTypes := #[]
  staticTypes := #[]
  resolved := #[]
  callSites := []
  init := .initialized
  statics := none
  mirror := none

def pool0 : Array CpInfo := pool [(5, u "<init>"), (0, u "()V"), (1, .class_ 10), (1, u "java/lang/Object"), (85, u "clone"), (0, u "()Ljava/lang/Object;")] 26

def k0c0 : Code := { maxStack := 0, maxLocals := 1, code := object_method_1_code, exceptionTable := #[], attributes := #[] }
def k0m0 : Method := { name := "<init>", desc := "()V", sig := { parameters := [], returnType := none }, accessFlags := 1, code := some k0c0 }
def k0m1 : Method := { name := "clone", desc := "()Ljava/lang/Object;", sig := { parameters := [], returnType := some (.object "java/lang/Object") }, accessFlags := 260, code := none }
/-- java/lang/Object -/
def k0 : Class := { plain "java/lang/Object" none with
  accessFlags := 33
  interfaces := #[]
  cf := some (fileOf pool0 8 #[] #[{ accessFlags := 1, nameIndex := 5, descriptorIndex := 6, attributes := #[] }, { accessFlags := 260, nameIndex := 96, descriptorIndex := 97, attributes := #[] }] 33 0 #[] #[])
  fields := #[]
  methods := #[k0m0, k0m1]
  instanceTypes := #[]
  staticTypes := #[]
  resolved := Array.replicate 124 none
  statics := none }

def pool1 : Array CpInfo := pool [(2, .class_ 4), (0, .nameAndType 5 6), (0, u "java/lang/Object"), (0, u "<init>"), (0, u "()V"), (0, .class_ 8), (0, u "java/util/ArrayList"), (0, .methodref 7 3), (0, .methodref 11 12), (0, .class_ 13), (0, .nameAndType 14 15), (0, u "java/lang/Double"), (0, u "valueOf"), (0, u "(D)Ljava/lang/Double;"), (0, .interfaceMethodref 17 18), (0, .class_ 19), (0, .nameAndType 20 21), (0, u "java/util/List"), (0, u "add"), (0, u "(Ljava/lang/Object;)Z"), (0, .double 9218868437227405312), (1, .class_ 25), (0, u "com/example/waitsfor/waitsfor/Histogram$Recorder"), (0, .methodref 24 27), (0, .nameAndType 5 28), (0, u "(Ljava/util/List;)V"), (0, .methodref 24 30), (0, .nameAndType 31 32), (0, u "observe"), (0, u "(D)V"), (0, .methodref 24 34), (0, .nameAndType 35 36), (0, u "snapshot"), (0, u "()Lcom/example/waitsfor/waitsfor/Histogram;"), (0, .methodref 38 39), (0, .class_ 40), (0, .nameAndType 41 42), (0, u "com/example/waitsfor/waitsfor/Histogram"), (0, u "bucketCounts"), (0, u "()Ljava/util/List;"), (0, .interfaceMethodref 17 44), (0, .nameAndType 45 46), (0, u "size"), (0, u "()I"), (0, .methodref 48 49), (0, .class_ 50), (0, .nameAndType 51 52), (0, u "com/example/waitsfor/waitsfor/RecorderObservePinLaw"), (0, u "bucketOf"), (0, u "(DDD)I"), (0, .interfaceMethodref 17 54), (0, .nameAndType 55 56), (0, u "get"), (0, u "(I)Ljava/lang/Object;"), (0, .class_ 58), (0, u "java/lang/Long"), (0, .methodref 57 60), (0, .nameAndType 61 62), (0, u "longValue"), (0, u "()J"), (0, .methodref 38 64), (0, .nameAndType 65 66), (0, u "sum"), (0, u "()D"), (3, u "law"), (0, u "(IIII)Z")] 6

def k1m0 : Method := { name := "<init>", desc := "()V", sig := { parameters := [], returnType := none }, accessFlags := 1, code := none }
def k1c1 : Code := { maxStack := 4, maxLocals := 6, code := method_2_code, exceptionTable := #[], attributes := #[] }
def k1m1 : Method := { name := "bucketOf", desc := "(DDD)I", sig := { parameters := [.double, .double, .double], returnType := some .int }, accessFlags := 10, code := some k1c1 }
def k1c2 : Code := { maxStack := 7, maxLocals := 17, code := code, exceptionTable := #[], attributes := #[] }
def k1m2 : Method := { name := "law", desc := "(IIII)Z", sig := { parameters := [.int, .int, .int, .int], returnType := some .boolean }, accessFlags := 9, code := some k1c2 }
/-- com/example/waitsfor/waitsfor/RecorderObservePinLaw -/
def k1 : Class := { plain "com/example/waitsfor/waitsfor/RecorderObservePinLaw" (some 0) with
  accessFlags := 49
  interfaces := #[]
  cf := some (fileOf pool1 48 #[] #[{ accessFlags := 1, nameIndex := 5, descriptorIndex := 6, attributes := #[] }, { accessFlags := 10, nameIndex := 51, descriptorIndex := 52, attributes := #[] }, { accessFlags := 9, nameIndex := 70, descriptorIndex := 71, attributes := #[] }] 49 2 #[] #[])
  fields := #[]
  methods := #[k1m0, k1m1, k1m2]
  instanceTypes := #[]
  staticTypes := #[]
  resolved := Array.replicate 78 none
  statics := none }

def pool2 : Array CpInfo := pool [(8, .class_ 10), (1, u "java/lang/Iterable"), (24, .class_ 36), (0, u "java/lang/Object")] 25

/-- java/lang/Iterable -/
def k2 : Class := { plain "java/lang/Iterable" (some 0) with
  accessFlags := 1537
  interfaces := #[]
  cf := some (fileOf pool2 8 #[] #[] 1537 35 #[] #[])
  fields := #[]
  methods := #[]
  instanceTypes := #[]
  staticTypes := #[]
  resolved := Array.replicate 62 none
  statics := none }

def pool3 : Array CpInfo := pool [(10, .class_ 12), (1, u "java/util/Collection"), (47, .class_ 61), (0, u "java/lang/Object"), (0, .class_ 63), (0, u "java/lang/Iterable")] 51

/-- java/util/Collection -/
def k3 : Class := { plain "java/util/Collection" (some 0) with
  accessFlags := 1537
  interfaces := #[2]
  cf := some (fileOf pool3 10 #[] #[] 1537 60 #[62] #[])
  fields := #[]
  methods := #[]
  instanceTypes := #[]
  staticTypes := #[]
  resolved := Array.replicate 115 none
  statics := none }

def pool4 : Array CpInfo := pool [(1, .methodref 2 3), (0, .class_ 4), (0, .nameAndType 5 6), (0, u "java/lang/Object"), (0, u "<init>"), (0, u "()V"), (1, .class_ 10), (1, u "java/util/AbstractCollection"), (66, .class_ 78), (0, u "java/util/Collection")] 81

def k4c0 : Code := { maxStack := 1, maxLocals := 1, code := jdk_22_method_1_code, exceptionTable := #[], attributes := #[] }
def k4m0 : Method := { name := "<init>", desc := "()V", sig := { parameters := [], returnType := none }, accessFlags := 4, code := some k4c0 }
/-- java/util/AbstractCollection -/
def k4 : Class := { plain "java/util/AbstractCollection" (some 0) with
  accessFlags := 1057
  interfaces := #[3]
  cf := some (fileOf pool4 8 #[] #[{ accessFlags := 4, nameIndex := 5, descriptorIndex := 6, attributes := #[] }] 1057 2 #[77] #[])
  fields := #[]
  methods := #[k4m0]
  instanceTypes := #[]
  staticTypes := #[]
  resolved := Array.replicate 160 none
  statics := none }

def pool5 : Array CpInfo := pool [(8, .class_ 10), (1, u "java/util/SequencedCollection"), (15, .class_ 27), (0, u "java/lang/Object"), (0, .class_ 29), (0, u "java/util/Collection")] 27

/-- java/util/SequencedCollection -/
def k5 : Class := { plain "java/util/SequencedCollection" (some 0) with
  accessFlags := 1537
  interfaces := #[3]
  cf := some (fileOf pool5 8 #[] #[] 1537 26 #[28] #[])
  fields := #[]
  methods := #[]
  instanceTypes := #[]
  staticTypes := #[]
  resolved := Array.replicate 57 none
  statics := none }

def pool6 : Array CpInfo := pool [(8, .class_ 10), (1, u "java/util/List"), (49, u "add"), (3, u "(Ljava/lang/Object;)Z"), (10, u "get"), (0, u "(I)Ljava/lang/Object;"), (2, u "size"), (0, u "()I"), (22, .class_ 104), (0, u "java/lang/Object"), (15, .class_ 121), (0, u "java/util/SequencedCollection")] 129

def k6m0 : Method := { name := "size", desc := "()I", sig := { parameters := [], returnType := some .int }, accessFlags := 1025, code := none }
def k6m1 : Method := { name := "add", desc := "(Ljava/lang/Object;)Z", sig := { parameters := [(.object "java/lang/Object")], returnType := some .boolean }, accessFlags := 1025, code := none }
def k6m2 : Method := { name := "get", desc := "(I)Ljava/lang/Object;", sig := { parameters := [.int], returnType := some (.object "java/lang/Object") }, accessFlags := 1025, code := none }
/-- java/util/List -/
def k6 : Class := { plain "java/util/List" (some 0) with
  accessFlags := 1537
  interfaces := #[5]
  cf := some (fileOf pool6 8 #[] #[{ accessFlags := 1025, nameIndex := 79, descriptorIndex := 80, attributes := #[] }, { accessFlags := 1025, nameIndex := 60, descriptorIndex := 64, attributes := #[] }, { accessFlags := 1025, nameIndex := 75, descriptorIndex := 76, attributes := #[] }] 1537 103 #[120] #[])
  fields := #[]
  methods := #[k6m0, k6m1, k6m2]
  instanceTypes := #[]
  staticTypes := #[]
  resolved := Array.replicate 251 none
  statics := none }

def pool7 : Array CpInfo := pool [(1, .methodref 2 3), (0, .class_ 4), (0, .nameAndType 5 6), (0, u "java/util/AbstractCollection"), (0, u "<init>"), (0, u "()V"), (0, .fieldref 8 9), (0, .class_ 10), (0, .nameAndType 11 12), (0, u "java/util/AbstractList"), (0, u "modCount"), (0, u "I"), (64, .class_ 78), (0, u "java/util/AbstractList$Itr"), (3, .class_ 83), (0, u "java/util/AbstractList$ListItr"), (9, .class_ 94), (0, u "java/util/AbstractList$RandomAccessSubList"), (3, .class_ 99), (0, u "java/util/AbstractList$SubList"), (33, .class_ 134), (0, u "java/util/List"), (73, .class_ 209), (0, u "java/util/AbstractList$SubList$1"), (0, .class_ 211), (0, u "java/util/AbstractList$RandomAccessSpliterator")] 6

def k7c0 : Code := { maxStack := 2, maxLocals := 1, code := jdk_39_method_1_code, exceptionTable := #[], attributes := #[] }
def k7m0 : Method := { name := "<init>", desc := "()V", sig := { parameters := [], returnType := none }, accessFlags := 4, code := some k7c0 }
/-- java/util/AbstractList -/
def k7 : Class := { plain "java/util/AbstractList" (some 4) with
  accessFlags := 1057
  interfaces := #[6]
  cf := some (fileOf pool7 8 #[.nestMembers #[93, 98, 208, 210, 82, 77]] #[{ accessFlags := 4, nameIndex := 5, descriptorIndex := 6, attributes := #[] }] 1057 2 #[133] #[{ accessFlags := 132, nameIndex := 11, descriptorIndex := 12, attributes := #[] }])
  fields := #[{ name := "modCount", type := .int, accessFlags := 132, slot := 0, constantValue := 0 }]
  methods := #[k7m0]
  instanceTypes := #[.int]
  staticTypes := #[]
  resolved := Array.replicate 218 none
  statics := none }

def pool8 : Array CpInfo := pool [(1, .class_ 2), (0, u "java/util/RandomAccess"), (0, .class_ 4), (0, u "java/lang/Object")] 2

/-- java/util/RandomAccess -/
def k8 : Class := { plain "java/util/RandomAccess" (some 0) with
  accessFlags := 1537
  interfaces := #[]
  cf := some (fileOf pool8 1 #[] #[] 1537 3 #[] #[])
  fields := #[]
  methods := #[]
  instanceTypes := #[]
  staticTypes := #[]
  resolved := Array.replicate 7 none
  statics := none }

def pool9 : Array CpInfo := pool [(1, .class_ 2), (0, u "java/lang/Cloneable"), (0, .class_ 4), (0, u "java/lang/Object")] 2

/-- java/lang/Cloneable -/
def k9 : Class := { plain "java/lang/Cloneable" (some 0) with
  accessFlags := 1537
  interfaces := #[]
  cf := some (fileOf pool9 1 #[] #[] 1537 3 #[] #[])
  fields := #[]
  methods := #[]
  instanceTypes := #[]
  staticTypes := #[]
  resolved := Array.replicate 7 none
  statics := none }

def pool10 : Array CpInfo := pool [(1, .class_ 2), (0, u "java/io/Serializable"), (0, .class_ 4), (0, u "java/lang/Object")] 2

/-- java/io/Serializable -/
def k10 : Class := { plain "java/io/Serializable" (some 0) with
  accessFlags := 1537
  interfaces := #[]
  cf := some (fileOf pool10 1 #[] #[] 1537 3 #[] #[])
  fields := #[]
  methods := #[]
  instanceTypes := #[]
  staticTypes := #[]
  resolved := Array.replicate 7 none
  statics := none }

def pool11 : Array CpInfo := pool [(1, .methodref 2 3), (0, .class_ 4), (0, .nameAndType 5 6), (0, u "java/util/AbstractList"), (0, u "<init>"), (0, u "()V"), (0, .class_ 8), (0, u "java/lang/Object"), (0, .fieldref 10 11), (0, .class_ 12), (0, .nameAndType 13 14), (0, u "java/util/ArrayList"), (0, u "elementData"), (0, u "[Ljava/lang/Object;"), (2, u "EMPTY_ELEMENTDATA"), (21, .fieldref 10 40), (0, .nameAndType 41 14), (0, u "DEFAULTCAPACITY_EMPTY_ELEMENTDATA"), (5, u "()[Ljava/lang/Object;"), (0, .fieldref 10 49), (0, .nameAndType 50 51), (0, u "size"), (0, u "I"), (11, .fieldref 10 64), (0, .nameAndType 65 51), (0, u "modCount"), (3, .methodref 10 70), (0, .nameAndType 71 72), (0, u "grow"), (0, u "(I)[Ljava/lang/Object;"), (6, .methodref 80 81), (0, .class_ 82), (0, .nameAndType 83 84), (0, u "java/lang/Math"), (0, u "max"), (0, u "(II)I"), (11, u "(Ljava/lang/Object;)Z"), (21, .methodref 119 120), (0, .class_ 121), (0, .nameAndType 122 84), (0, u "java/util/Objects"), (0, u "checkIndex"), (0, .methodref 10 124), (0, .nameAndType 13 125), (0, u "(I)Ljava/lang/Object;"), (3, .methodref 10 130), (0, .nameAndType 71 47), (0, .methodref 10 132), (0, .nameAndType 133 134), (0, u "add"), (0, u "(Ljava/lang/Object;[Ljava/lang/Object;I)V"), (13, .class_ 149), (0, u "java/util/List"), (36, u "()I"), (75, .class_ 263), (0, u "java/util/ArrayList$ListItr"), (3, .class_ 268), (0, u "java/util/ArrayList$Itr"), (7, .class_ 277), (0, u "java/util/ArrayList$SubList"), (12, .class_ 291), (0, u "java/util/ArrayList$ArrayListSpliterator"), (37, .class_ 330), (0, u "java/util/RandomAccess"), (0, .class_ 332), (0, u "java/lang/Cloneable"), (0, .class_ 334), (0, u "java/io/Serializable"), (0, u "serialVersionUID"), (0, u "J"), (3, u "DEFAULT_CAPACITY"), (40, u "get"), (118, .class_ 501), (0, u "java/util/ArrayList$SubList$2"), (0, .class_ 503), (0, u "java/util/ArrayList$SubList$1")] 5

def k11c0 : Code := { maxStack := 2, maxLocals := 1, code := jdk_38_method_2_code, exceptionTable := #[], attributes := #[] }
def k11m0 : Method := { name := "<init>", desc := "()V", sig := { parameters := [], returnType := none }, accessFlags := 1, code := some k11c0 }
def k11c1 : Code := { maxStack := 4, maxLocals := 4, code := jdk_38_method_6_code, exceptionTable := #[], attributes := #[] }
def k11m1 : Method := { name := "grow", desc := "(I)[Ljava/lang/Object;", sig := { parameters := [.int], returnType := some (.array (.object "java/lang/Object")) }, accessFlags := 2, code := some k11c1 }
def k11c2 : Code := { maxStack := 3, maxLocals := 1, code := jdk_38_method_7_code, exceptionTable := #[], attributes := #[] }
def k11m2 : Method := { name := "grow", desc := "()[Ljava/lang/Object;", sig := { parameters := [], returnType := some (.array (.object "java/lang/Object")) }, accessFlags := 2, code := some k11c2 }
def k11c3 : Code := { maxStack := 1, maxLocals := 1, code := jdk_38_method_8_code, exceptionTable := #[], attributes := #[] }
def k11m3 : Method := { name := "size", desc := "()I", sig := { parameters := [], returnType := some .int }, accessFlags := 1, code := some k11c3 }
def k11c4 : Code := { maxStack := 2, maxLocals := 2, code := jdk_38_method_18_code, exceptionTable := #[], attributes := #[] }
def k11m4 : Method := { name := "elementData", desc := "(I)Ljava/lang/Object;", sig := { parameters := [.int], returnType := some (.object "java/lang/Object") }, accessFlags := 0, code := some k11c4 }
def k11c5 : Code := { maxStack := 2, maxLocals := 2, code := jdk_38_method_20_code, exceptionTable := #[], attributes := #[] }
def k11m5 : Method := { name := "get", desc := "(I)Ljava/lang/Object;", sig := { parameters := [.int], returnType := some (.object "java/lang/Object") }, accessFlags := 1, code := some k11c5 }
def k11c6 : Code := { maxStack := 3, maxLocals := 4, code := jdk_38_method_24_code, exceptionTable := #[], attributes := #[] }
def k11m6 : Method := { name := "add", desc := "(Ljava/lang/Object;[Ljava/lang/Object;I)V", sig := { parameters := [(.object "java/lang/Object"), (.array (.object "java/lang/Object")), .int], returnType := none }, accessFlags := 2, code := some k11c6 }
def k11c7 : Code := { maxStack := 4, maxLocals := 2, code := jdk_38_method_25_code, exceptionTable := #[], attributes := #[] }
def k11m7 : Method := { name := "add", desc := "(Ljava/lang/Object;)Z", sig := { parameters := [(.object "java/lang/Object")], returnType := some .boolean }, accessFlags := 1, code := some k11c7 }
/-- java/util/ArrayList -/
def k11 : Class := { plain "java/util/ArrayList" (some 7) with
  accessFlags := 33
  interfaces := #[6, 8, 9, 10]
  cf := some (fileOf pool11 10 #[.nestMembers #[290, 276, 500, 502, 262, 267]] #[{ accessFlags := 1, nameIndex := 5, descriptorIndex := 6, attributes := #[] }, { accessFlags := 2, nameIndex := 71, descriptorIndex := 72, attributes := #[] }, { accessFlags := 2, nameIndex := 71, descriptorIndex := 47, attributes := #[] }, { accessFlags := 1, nameIndex := 50, descriptorIndex := 186, attributes := #[] }, { accessFlags := 0, nameIndex := 13, descriptorIndex := 125, attributes := #[] }, { accessFlags := 1, nameIndex := 381, descriptorIndex := 125, attributes := #[] }, { accessFlags := 2, nameIndex := 133, descriptorIndex := 134, attributes := #[] }, { accessFlags := 1, nameIndex := 133, descriptorIndex := 96, attributes := #[] }] 33 2 #[148, 329, 331, 333] #[{ accessFlags := 26, nameIndex := 335, descriptorIndex := 336, attributes := #[] }, { accessFlags := 26, nameIndex := 340, descriptorIndex := 51, attributes := #[] }, { accessFlags := 26, nameIndex := 17, descriptorIndex := 14, attributes := #[] }, { accessFlags := 26, nameIndex := 41, descriptorIndex := 14, attributes := #[] }, { accessFlags := 128, nameIndex := 13, descriptorIndex := 14, attributes := #[] }, { accessFlags := 2, nameIndex := 50, descriptorIndex := 51, attributes := #[] }])
  fields := #[{ name := "serialVersionUID", type := .long, accessFlags := 26, slot := 0, constantValue := 0 }, { name := "DEFAULT_CAPACITY", type := .int, accessFlags := 26, slot := 1, constantValue := 0 }, { name := "EMPTY_ELEMENTDATA", type := (.array (.object "java/lang/Object")), accessFlags := 26, slot := 2, constantValue := 0 }, { name := "DEFAULTCAPACITY_EMPTY_ELEMENTDATA", type := (.array (.object "java/lang/Object")), accessFlags := 26, slot := 3, constantValue := 0 }, { name := "elementData", type := (.array (.object "java/lang/Object")), accessFlags := 128, slot := 1, constantValue := 0 }, { name := "size", type := .int, accessFlags := 2, slot := 2, constantValue := 0 }]
  methods := #[k11m0, k11m1, k11m2, k11m3, k11m4, k11m5, k11m6, k11m7]
  instanceTypes := #[.int, (.array (.object "java/lang/Object")), .int]
  staticTypes := #[.long, .int, (.array (.object "java/lang/Object")), (.array (.object "java/lang/Object"))]
  resolved := Array.replicate 509 none
  statics := some 0 }

def pool12 : Array CpInfo := pool [(1, .methodref 2 3), (0, .class_ 4), (0, .nameAndType 5 6), (0, u "java/lang/Object"), (0, u "<init>"), (0, u "()V"), (1, .class_ 10), (1, u "java/lang/Number"), (2, .class_ 14), (0, u "java/io/Serializable"), (0, u "serialVersionUID"), (0, u "J")] 20

def k12c0 : Code := { maxStack := 1, maxLocals := 1, code := jdk_18_method_1_code, exceptionTable := #[], attributes := #[] }
def k12m0 : Method := { name := "<init>", desc := "()V", sig := { parameters := [], returnType := none }, accessFlags := 1, code := some k12c0 }
/-- java/lang/Number -/
def k12 : Class := { plain "java/lang/Number" (some 0) with
  accessFlags := 1057
  interfaces := #[10]
  cf := some (fileOf pool12 8 #[] #[{ accessFlags := 1, nameIndex := 5, descriptorIndex := 6, attributes := #[] }] 1057 2 #[13] #[{ accessFlags := 26, nameIndex := 15, descriptorIndex := 16, attributes := #[] }])
  fields := #[{ name := "serialVersionUID", type := .long, accessFlags := 26, slot := 0, constantValue := 0 }]
  methods := #[k12m0]
  instanceTypes := #[]
  staticTypes := #[.long]
  resolved := Array.replicate 37 none
  statics := none }

def pool13 : Array CpInfo := pool [(1, .class_ 2), (0, u "java/lang/Comparable"), (0, .class_ 4), (0, u "java/lang/Object")] 7

/-- java/lang/Comparable -/
def k13 : Class := { plain "java/lang/Comparable" (some 0) with
  accessFlags := 1537
  interfaces := #[]
  cf := some (fileOf pool13 1 #[] #[] 1537 3 #[] #[])
  fields := #[]
  methods := #[]
  instanceTypes := #[]
  staticTypes := #[]
  resolved := Array.replicate 12 none
  statics := none }

def pool14 : Array CpInfo := pool [(1, .class_ 2), (0, u "java/lang/constant/Constable"), (0, .class_ 4), (0, u "java/lang/Object")] 6

/-- java/lang/constant/Constable -/
def k14 : Class := { plain "java/lang/constant/Constable" (some 0) with
  accessFlags := 1537
  interfaces := #[]
  cf := some (fileOf pool14 1 #[] #[] 1537 3 #[] #[])
  fields := #[]
  methods := #[]
  instanceTypes := #[]
  staticTypes := #[]
  resolved := Array.replicate 11 none
  statics := none }

def pool15 : Array CpInfo := pool [(1, .class_ 2), (0, u "java/lang/constant/ConstantDesc"), (0, .class_ 4), (0, u "java/lang/Object")] 32

/-- java/lang/constant/ConstantDesc -/
def k15 : Class := { plain "java/lang/constant/ConstantDesc" (some 0) with
  accessFlags := 1537
  interfaces := #[]
  cf := some (fileOf pool15 1 #[] #[] 1537 3 #[] #[])
  fields := #[]
  methods := #[]
  instanceTypes := #[]
  staticTypes := #[]
  resolved := Array.replicate 37 none
  statics := none }

def pool16 : Array CpInfo := pool [(1, .class_ 2), (0, u "java/lang/Double"), (17, u "<init>"), (84, .methodref 1 106), (0, .nameAndType 20 107), (0, u "(D)V"), (5, .methodref 114 115), (0, .class_ 116), (0, .nameAndType 20 117), (0, u "java/lang/Number"), (0, u "()V"), (0, .fieldref 1 119), (0, .nameAndType 120 121), (0, u "value"), (0, u "D"), (51, u "TYPE"), (0, u "Ljava/lang/Class;"), (0, .class_ 176), (0, u "java/lang/Comparable"), (0, .class_ 178), (0, u "java/lang/constant/Constable"), (0, .class_ 180), (0, u "java/lang/constant/ConstantDesc"), (0, u "POSITIVE_INFINITY"), (3, u "NEGATIVE_INFINITY"), (2, u "NaN"), (2, u "MAX_VALUE"), (0, u "MIN_NORMAL"), (0, u "MIN_VALUE"), (2, u "SIZE"), (0, u "I"), (1, u "PRECISION"), (1, u "MAX_EXPONENT"), (1, u "MIN_EXPONENT"), (1, u "BYTES"), (3, u "serialVersionUID"), (0, u "J"), (14, u "valueOf"), (5, u "(D)Ljava/lang/Double;"), (23, u "doubleValue"), (0, u "()D")] 33

def k16c0 : Code := { maxStack := 4, maxLocals := 2, code := jdk_117_method_4_code, exceptionTable := #[], attributes := #[] }
def k16m0 : Method := { name := "valueOf", desc := "(D)Ljava/lang/Double;", sig := { parameters := [.double], returnType := some (.object "java/lang/Double") }, accessFlags := 9, code := some k16c0 }
def k16c1 : Code := { maxStack := 3, maxLocals := 3, code := jdk_117_method_9_code, exceptionTable := #[], attributes := #[] }
def k16m1 : Method := { name := "<init>", desc := "(D)V", sig := { parameters := [.double], returnType := none }, accessFlags := 1, code := some k16c1 }
def k16c2 : Code := { maxStack := 2, maxLocals := 1, code := jdk_117_method_19_code, exceptionTable := #[], attributes := #[] }
def k16m2 : Method := { name := "doubleValue", desc := "()D", sig := { parameters := [], returnType := some .double }, accessFlags := 1, code := some k16c2 }
/-- java/lang/Double -/
def k16 : Class := { plain "java/lang/Double" (some 12) with
  accessFlags := 49
  interfaces := #[13, 14, 15]
  cf := some (fileOf pool16 1 #[] #[{ accessFlags := 9, nameIndex := 225, descriptorIndex := 231, attributes := #[] }, { accessFlags := 1, nameIndex := 20, descriptorIndex := 107, attributes := #[] }, { accessFlags := 1, nameIndex := 255, descriptorIndex := 256, attributes := #[] }] 49 114 #[175, 177, 179] #[{ accessFlags := 25, nameIndex := 181, descriptorIndex := 121, attributes := #[] }, { accessFlags := 25, nameIndex := 185, descriptorIndex := 121, attributes := #[] }, { accessFlags := 25, nameIndex := 188, descriptorIndex := 121, attributes := #[] }, { accessFlags := 25, nameIndex := 191, descriptorIndex := 121, attributes := #[] }, { accessFlags := 25, nameIndex := 192, descriptorIndex := 121, attributes := #[] }, { accessFlags := 25, nameIndex := 193, descriptorIndex := 121, attributes := #[] }, { accessFlags := 25, nameIndex := 196, descriptorIndex := 197, attributes := #[] }, { accessFlags := 25, nameIndex := 199, descriptorIndex := 197, attributes := #[] }, { accessFlags := 25, nameIndex := 201, descriptorIndex := 197, attributes := #[] }, { accessFlags := 25, nameIndex := 203, descriptorIndex := 197, attributes := #[] }, { accessFlags := 25, nameIndex := 205, descriptorIndex := 197, attributes := #[] }, { accessFlags := 25, nameIndex := 173, descriptorIndex := 174, attributes := #[] }, { accessFlags := 18, nameIndex := 120, descriptorIndex := 121, attributes := #[] }, { accessFlags := 26, nameIndex := 209, descriptorIndex := 210, attributes := #[] }])
  fields := #[{ name := "POSITIVE_INFINITY", type := .double, accessFlags := 25, slot := 0, constantValue := 0 }, { name := "NEGATIVE_INFINITY", type := .double, accessFlags := 25, slot := 1, constantValue := 0 }, { name := "NaN", type := .double, accessFlags := 25, slot := 2, constantValue := 0 }, { name := "MAX_VALUE", type := .double, accessFlags := 25, slot := 3, constantValue := 0 }, { name := "MIN_NORMAL", type := .double, accessFlags := 25, slot := 4, constantValue := 0 }, { name := "MIN_VALUE", type := .double, accessFlags := 25, slot := 5, constantValue := 0 }, { name := "SIZE", type := .int, accessFlags := 25, slot := 6, constantValue := 0 }, { name := "PRECISION", type := .int, accessFlags := 25, slot := 7, constantValue := 0 }, { name := "MAX_EXPONENT", type := .int, accessFlags := 25, slot := 8, constantValue := 0 }, { name := "MIN_EXPONENT", type := .int, accessFlags := 25, slot := 9, constantValue := 0 }, { name := "BYTES", type := .int, accessFlags := 25, slot := 10, constantValue := 0 }, { name := "TYPE", type := (.object "java/lang/Class"), accessFlags := 25, slot := 11, constantValue := 0 }, { name := "value", type := .double, accessFlags := 18, slot := 0, constantValue := 0 }, { name := "serialVersionUID", type := .long, accessFlags := 26, slot := 12, constantValue := 0 }]
  methods := #[k16m0, k16m1, k16m2]
  instanceTypes := #[.double]
  staticTypes := #[.double, .double, .double, .double, .double, .double, .int, .int, .int, .int, .int, (.object "java/lang/Class"), .long]
  resolved := Array.replicate 290 none
  statics := none }

def pool17 : Array CpInfo := pool [(1, .class_ 2), (0, u "java/lang/Math"), (1, .class_ 6), (1, u "java/lang/Object"), (0, u "<init>"), (0, u "()V"), (89, .class_ 100), (1, u "java/lang/Math$RandomNumberGeneratorHolder"), (71, u "negativeZeroFloatBits"), (0, u "J"), (2, u "negativeZeroDoubleBits"), (21, u "max"), (46, u "$assertionsDisabled"), (0, u "Z"), (88, u "(II)I"), (2, u "twoToTheDoubleScaleDown"), (0, u "D"), (4, u "twoToTheDoubleScaleUp"), (9, u "E"), (3, u "PI"), (2, u "TAU"), (2, u "DEGREES_TO_RADIANS"), (0, u "RADIANS_TO_DEGREES")] 94

def k17m0 : Method := { name := "<init>", desc := "()V", sig := { parameters := [], returnType := none }, accessFlags := 2, code := none }
def k17c1 : Code := { maxStack := 2, maxLocals := 2, code := jdk_29_method_65_code, exceptionTable := #[], attributes := #[] }
def k17m1 : Method := { name := "max", desc := "(II)I", sig := { parameters := [.int, .int], returnType := some .int }, accessFlags := 9, code := some k17c1 }
/-- java/lang/Math -/
def k17 : Class := { plain "java/lang/Math" (some 0) with
  accessFlags := 49
  interfaces := #[]
  cf := some (fileOf pool17 1 #[.nestMembers #[98]] #[{ accessFlags := 2, nameIndex := 7, descriptorIndex := 8, attributes := #[] }, { accessFlags := 9, nameIndex := 198, descriptorIndex := 335, attributes := #[] }] 49 4 #[] #[{ accessFlags := 25, nameIndex := 354, descriptorIndex := 339, attributes := #[] }, { accessFlags := 25, nameIndex := 358, descriptorIndex := 339, attributes := #[] }, { accessFlags := 25, nameIndex := 361, descriptorIndex := 339, attributes := #[] }, { accessFlags := 26, nameIndex := 364, descriptorIndex := 339, attributes := #[] }, { accessFlags := 26, nameIndex := 365, descriptorIndex := 339, attributes := #[] }, { accessFlags := 26, nameIndex := 172, descriptorIndex := 173, attributes := #[] }, { accessFlags := 26, nameIndex := 176, descriptorIndex := 173, attributes := #[] }, { accessFlags := 8, nameIndex := 344, descriptorIndex := 339, attributes := #[] }, { accessFlags := 8, nameIndex := 338, descriptorIndex := 339, attributes := #[] }, { accessFlags := 4120, nameIndex := 245, descriptorIndex := 246, attributes := #[] }])
  fields := #[{ name := "E", type := .double, accessFlags := 25, slot := 0, constantValue := 0 }, { name := "PI", type := .double, accessFlags := 25, slot := 1, constantValue := 0 }, { name := "TAU", type := .double, accessFlags := 25, slot := 2, constantValue := 0 }, { name := "DEGREES_TO_RADIANS", type := .double, accessFlags := 26, slot := 3, constantValue := 0 }, { name := "RADIANS_TO_DEGREES", type := .double, accessFlags := 26, slot := 4, constantValue := 0 }, { name := "negativeZeroFloatBits", type := .long, accessFlags := 26, slot := 5, constantValue := 0 }, { name := "negativeZeroDoubleBits", type := .long, accessFlags := 26, slot := 6, constantValue := 0 }, { name := "twoToTheDoubleScaleUp", type := .double, accessFlags := 8, slot := 7, constantValue := 0 }, { name := "twoToTheDoubleScaleDown", type := .double, accessFlags := 8, slot := 8, constantValue := 0 }, { name := "$assertionsDisabled", type := .boolean, accessFlags := 4120, slot := 9, constantValue := 0 }]
  methods := #[k17m0, k17m1]
  instanceTypes := #[]
  staticTypes := #[.double, .double, .double, .double, .double, .long, .long, .double, .double, .boolean]
  resolved := Array.replicate 460 none
  statics := none }

def pool18 : Array CpInfo := pool [(1, .methodref 2 3), (0, .class_ 4), (0, .nameAndType 5 6), (0, u "java/lang/Object"), (0, u "<init>"), (0, u "()V"), (0, .fieldref 8 9), (0, .class_ 10), (0, .nameAndType 11 12), (0, u "com/example/waitsfor/waitsfor/Histogram$Recorder"), (0, u "upperBounds"), (0, u "Ljava/util/List;"), (0, .interfaceMethodref 14 15), (0, .class_ 16), (0, .nameAndType 17 18), (0, u "java/util/List"), (0, u "size"), (0, u "()I"), (0, .fieldref 8 20), (0, .nameAndType 21 22), (0, u "bounds"), (0, u "[D"), (0, .interfaceMethodref 14 24), (0, .nameAndType 25 26), (0, u "get"), (0, u "(I)Ljava/lang/Object;"), (0, .class_ 28), (0, u "java/lang/Double"), (0, .methodref 27 30), (0, .nameAndType 31 32), (0, u "doubleValue"), (0, u "()D"), (0, .fieldref 8 34), (0, .nameAndType 35 36), (0, u "counts"), (0, u "[J"), (0, .fieldref 8 38), (0, .nameAndType 39 40), (0, u "sum"), (0, u "D"), (0, .class_ 42), (0, u "com/example/waitsfor/waitsfor/Histogram"), (0, .methodref 44 45), (0, .class_ 36), (0, .nameAndType 46 47), (0, u "clone"), (0, u "()Ljava/lang/Object;"), (0, .methodref 41 49), (0, .nameAndType 5 50), (0, u "(Ljava/util/List;[JD)V"), (2, u "(Ljava/util/List;)V"), (4, u "observe"), (0, u "(D)V"), (0, u "snapshot"), (0, u "()Lcom/example/waitsfor/waitsfor/Histogram;")] 5

def k18c0 : Code := { maxStack := 4, maxLocals := 3, code := prog_20_method_1_code, exceptionTable := #[], attributes := #[] }
def k18m0 : Method := { name := "<init>", desc := "(Ljava/util/List;)V", sig := { parameters := [(.object "java/util/List")], returnType := none }, accessFlags := 0, code := some k18c0 }
def k18c1 : Code := { maxStack := 6, maxLocals := 4, code := prog_20_method_2_code, exceptionTable := #[], attributes := #[] }
def k18m1 : Method := { name := "observe", desc := "(D)V", sig := { parameters := [.double], returnType := none }, accessFlags := 0, code := some k18c1 }
def k18c2 : Code := { maxStack := 6, maxLocals := 1, code := prog_20_method_3_code, exceptionTable := #[], attributes := #[] }
def k18m2 : Method := { name := "snapshot", desc := "()Lcom/example/waitsfor/waitsfor/Histogram;", sig := { parameters := [], returnType := some (.object "com/example/waitsfor/waitsfor/Histogram") }, accessFlags := 0, code := some k18c2 }
/-- com/example/waitsfor/waitsfor/Histogram$Recorder -/
def k18 : Class := { plain "com/example/waitsfor/waitsfor/Histogram$Recorder" (some 0) with
  accessFlags := 48
  interfaces := #[]
  cf := some (fileOf pool18 8 #[.nestHost 41] #[{ accessFlags := 0, nameIndex := 5, descriptorIndex := 53, attributes := #[] }, { accessFlags := 0, nameIndex := 58, descriptorIndex := 59, attributes := #[] }, { accessFlags := 0, nameIndex := 60, descriptorIndex := 61, attributes := #[] }] 48 2 #[] #[{ accessFlags := 18, nameIndex := 11, descriptorIndex := 12, attributes := #[] }, { accessFlags := 18, nameIndex := 21, descriptorIndex := 22, attributes := #[] }, { accessFlags := 18, nameIndex := 35, descriptorIndex := 36, attributes := #[] }, { accessFlags := 2, nameIndex := 39, descriptorIndex := 40, attributes := #[] }])
  fields := #[{ name := "upperBounds", type := (.object "java/util/List"), accessFlags := 18, slot := 0, constantValue := 0 }, { name := "bounds", type := (.array .double), accessFlags := 18, slot := 1, constantValue := 0 }, { name := "counts", type := (.array .long), accessFlags := 18, slot := 2, constantValue := 0 }, { name := "sum", type := .double, accessFlags := 2, slot := 3, constantValue := 0 }]
  methods := #[k18m0, k18m1, k18m2]
  instanceTypes := #[(.object "java/util/List"), (.array .double), (.array .long), .double]
  staticTypes := #[]
  resolved := Array.replicate 67 none
  statics := none }

def pool19 : Array CpInfo := pool [(2, .class_ 4), (1, u "java/lang/Object"), (0, u "<init>"), (0, u "()V"), (35, .class_ 44), (1, u "java/util/Objects"), (60, .methodref 106 107), (0, .class_ 108), (0, .nameAndType 109 110), (0, u "jdk/internal/util/Preconditions"), (0, u "checkIndex"), (0, u "(IILjava/util/function/BiFunction;)I"), (60, u "(II)I")] 12

def k19m0 : Method := { name := "<init>", desc := "()V", sig := { parameters := [], returnType := none }, accessFlags := 2, code := none }
def k19c1 : Code := { maxStack := 3, maxLocals := 2, code := jdk_31_method_17_code, exceptionTable := #[], attributes := #[] }
def k19m1 : Method := { name := "checkIndex", desc := "(II)I", sig := { parameters := [.int, .int], returnType := some .int }, accessFlags := 9, code := some k19c1 }
/-- java/util/Objects -/
def k19 : Class := { plain "java/util/Objects" (some 0) with
  accessFlags := 49
  interfaces := #[]
  cf := some (fileOf pool19 42 #[] #[{ accessFlags := 2, nameIndex := 5, descriptorIndex := 6, attributes := #[] }, { accessFlags := 9, nameIndex := 109, descriptorIndex := 171, attributes := #[] }] 49 2 #[] #[])
  fields := #[]
  methods := #[k19m0, k19m1]
  instanceTypes := #[]
  staticTypes := #[]
  resolved := Array.replicate 184 none
  statics := none }

def pool20 : Array CpInfo := pool [(2, .class_ 4), (1, u "java/lang/Object"), (0, u "<init>"), (0, u "()V"), (17, .class_ 26), (1, u "jdk/internal/util/Preconditions"), (6, u "checkIndex"), (21, .class_ 56), (0, u "jdk/internal/util/Preconditions$4"), (57, .class_ 115), (0, u "jdk/internal/util/Preconditions$1"), (7, u "SIOOBE_FORMATTER"), (0, u "Ljava/util/function/BiFunction;"), (0, .class_ 126), (0, u "jdk/internal/util/Preconditions$2"), (3, u "AIOOBE_FORMATTER"), (0, .class_ 132), (0, u "jdk/internal/util/Preconditions$3"), (3, u "IOOBE_FORMATTER"), (41, u "(IILjava/util/function/BiFunction;)I")] 15

def k20m0 : Method := { name := "<init>", desc := "()V", sig := { parameters := [], returnType := none }, accessFlags := 1, code := none }
def k20c1 : Code := { maxStack := 3, maxLocals := 3, code := jdk_41_method_11_code, exceptionTable := #[], attributes := #[] }
def k20m1 : Method := { name := "checkIndex", desc := "(IILjava/util/function/BiFunction;)I", sig := { parameters := [.int, .int, (.object "java/util/function/BiFunction")], returnType := some .int }, accessFlags := 9, code := some k20c1 }
/-- jdk/internal/util/Preconditions -/
def k20 : Class := { plain "jdk/internal/util/Preconditions" (some 0) with
  accessFlags := 33
  interfaces := #[]
  cf := some (fileOf pool20 24 #[.nestMembers #[55, 131, 125, 114]] #[{ accessFlags := 1, nameIndex := 5, descriptorIndex := 6, attributes := #[] }, { accessFlags := 9, nameIndex := 33, descriptorIndex := 178, attributes := #[] }] 33 2 #[] #[{ accessFlags := 25, nameIndex := 123, descriptorIndex := 124, attributes := #[] }, { accessFlags := 25, nameIndex := 130, descriptorIndex := 124, attributes := #[] }, { accessFlags := 25, nameIndex := 136, descriptorIndex := 124, attributes := #[] }])
  fields := #[{ name := "SIOOBE_FORMATTER", type := (.object "java/util/function/BiFunction"), accessFlags := 25, slot := 0, constantValue := 0 }, { name := "AIOOBE_FORMATTER", type := (.object "java/util/function/BiFunction"), accessFlags := 25, slot := 1, constantValue := 0 }, { name := "IOOBE_FORMATTER", type := (.object "java/util/function/BiFunction"), accessFlags := 25, slot := 2, constantValue := 0 }]
  methods := #[k20m0, k20m1]
  instanceTypes := #[]
  staticTypes := #[(.object "java/util/function/BiFunction"), (.object "java/util/function/BiFunction"), (.object "java/util/function/BiFunction")]
  resolved := Array.replicate 194 none
  statics := none }

def pool21 : Array CpInfo := pool [(1, .methodref 2 3), (0, .class_ 4), (0, .nameAndType 5 6), (0, u "java/lang/Object"), (0, u "<init>"), (0, u "()V"), (0, .fieldref 8 9), (0, .class_ 10), (0, .nameAndType 11 12), (0, u "com/example/waitsfor/waitsfor/Histogram"), (0, u "upperBounds"), (0, u "Ljava/util/List;"), (0, .fieldref 8 14), (0, .nameAndType 15 16), (0, u "counts"), (0, u "[J"), (0, .fieldref 8 18), (0, .nameAndType 19 20), (0, u "sum"), (0, u "D"), (4, u "valueOf"), (2, .class_ 30), (1, u "java/util/List"), (16, .class_ 48), (0, u "java/util/ArrayList"), (0, .methodref 47 3), (0, .methodref 51 52), (0, .class_ 53), (0, .nameAndType 25 54), (0, u "java/lang/Long"), (0, u "(J)Ljava/lang/Long;"), (0, .interfaceMethodref 28 56), (0, .nameAndType 57 58), (0, u "add"), (0, u "(Ljava/lang/Object;)Z"), (17, u "()D"), (6, u "(Ljava/util/List;[JD)V"), (5, u "()Ljava/util/List;"), (7, u "bucketCounts"), (6, .class_ 105), (0, u "com/example/waitsfor/waitsfor/Histogram$Recorder")] 16

def k21c0 : Code := { maxStack := 3, maxLocals := 5, code := prog_19_method_1_code, exceptionTable := #[], attributes := #[] }
def k21m0 : Method := { name := "<init>", desc := "(Ljava/util/List;[JD)V", sig := { parameters := [(.object "java/util/List"), (.array .long), .double], returnType := none }, accessFlags := 2, code := some k21c0 }
def k21c1 : Code := { maxStack := 2, maxLocals := 1, code := prog_19_method_4_code, exceptionTable := #[], attributes := #[] }
def k21m1 : Method := { name := "sum", desc := "()D", sig := { parameters := [], returnType := some .double }, accessFlags := 1, code := some k21c1 }
def k21c2 : Code := { maxStack := 3, maxLocals := 7, code := prog_19_method_6_code, exceptionTable := #[], attributes := #[] }
def k21m2 : Method := { name := "bucketCounts", desc := "()Ljava/util/List;", sig := { parameters := [], returnType := some (.object "java/util/List") }, accessFlags := 0, code := some k21c2 }
/-- com/example/waitsfor/waitsfor/Histogram -/
def k21 : Class := { plain "com/example/waitsfor/waitsfor/Histogram" (some 0) with
  accessFlags := 49
  interfaces := #[]
  cf := some (fileOf pool21 8 #[.nestMembers #[104]] #[{ accessFlags := 2, nameIndex := 5, descriptorIndex := 83, attributes := #[] }, { accessFlags := 1, nameIndex := 19, descriptorIndex := 76, attributes := #[] }, { accessFlags := 0, nameIndex := 97, descriptorIndex := 89, attributes := #[] }] 49 2 #[] #[{ accessFlags := 18, nameIndex := 11, descriptorIndex := 12, attributes := #[] }, { accessFlags := 18, nameIndex := 15, descriptorIndex := 16, attributes := #[] }, { accessFlags := 18, nameIndex := 19, descriptorIndex := 20, attributes := #[] }])
  fields := #[{ name := "upperBounds", type := (.object "java/util/List"), accessFlags := 18, slot := 0, constantValue := 0 }, { name := "counts", type := (.array .long), accessFlags := 18, slot := 1, constantValue := 0 }, { name := "sum", type := .double, accessFlags := 18, slot := 2, constantValue := 0 }]
  methods := #[k21m0, k21m1, k21m2]
  instanceTypes := #[(.object "java/util/List"), (.array .long), .double]
  staticTypes := #[]
  resolved := Array.replicate 122 none
  statics := none }

def pool22 : Array CpInfo := pool [(1, .class_ 2), (0, u "java/lang/Long"), (82, u "valueOf"), (143, u "(J)Ljava/lang/Long;"), (0, .long 18446744073709551488), (1, .long 127), (1, .fieldref 235 236), (0, .class_ 237), (0, .nameAndType 238 239), (0, u "java/lang/Long$LongCache"), (0, u "cache"), (0, u "[Ljava/lang/Long;"), (31, .class_ 272), (0, u "java/lang/Number"), (0, .fieldref 1 274), (0, .nameAndType 275 276), (0, u "value"), (0, u "J"), (5, u "longValue"), (0, u "()J"), (77, u "TYPE"), (0, u "Ljava/lang/Class;"), (0, .class_ 364), (0, u "java/lang/Comparable"), (0, .class_ 366), (0, u "java/lang/constant/Constable"), (0, .class_ 368), (0, u "java/lang/constant/ConstantDesc"), (0, u "MIN_VALUE"), (1, u "MAX_VALUE"), (4, u "SIZE"), (0, u "I"), (1, u "BYTES"), (1, u "serialVersionUID")] 142

def k22c0 : Code := { maxStack := 4, maxLocals := 3, code := jdk_35_method_24_code, exceptionTable := #[], attributes := #[] }
def k22m0 : Method := { name := "valueOf", desc := "(J)Ljava/lang/Long;", sig := { parameters := [.long], returnType := some (.object "java/lang/Long") }, accessFlags := 9, code := some k22c0 }
def k22c1 : Code := { maxStack := 2, maxLocals := 1, code := jdk_35_method_31_code, exceptionTable := #[], attributes := #[] }
def k22m1 : Method := { name := "longValue", desc := "()J", sig := { parameters := [], returnType := some .long }, accessFlags := 1, code := some k22c1 }
/-- java/lang/Long -/
def k22 : Class := { plain "java/lang/Long" (some 12) with
  accessFlags := 49
  interfaces := #[13, 14, 15]
  cf := some (fileOf pool22 1 #[.nestMembers #[235]] #[{ accessFlags := 9, nameIndex := 85, descriptorIndex := 229, attributes := #[] }, { accessFlags := 1, nameIndex := 282, descriptorIndex := 283, attributes := #[] }] 49 271 #[363, 365, 367] #[{ accessFlags := 25, nameIndex := 369, descriptorIndex := 276, attributes := #[] }, { accessFlags := 25, nameIndex := 371, descriptorIndex := 276, attributes := #[] }, { accessFlags := 25, nameIndex := 361, descriptorIndex := 362, attributes := #[] }, { accessFlags := 18, nameIndex := 275, descriptorIndex := 276, attributes := #[] }, { accessFlags := 25, nameIndex := 376, descriptorIndex := 377, attributes := #[] }, { accessFlags := 25, nameIndex := 379, descriptorIndex := 377, attributes := #[] }, { accessFlags := 26, nameIndex := 381, descriptorIndex := 276, attributes := #[] }])
  fields := #[{ name := "MIN_VALUE", type := .long, accessFlags := 25, slot := 0, constantValue := 0 }, { name := "MAX_VALUE", type := .long, accessFlags := 25, slot := 1, constantValue := 0 }, { name := "TYPE", type := (.object "java/lang/Class"), accessFlags := 25, slot := 2, constantValue := 0 }, { name := "value", type := .long, accessFlags := 18, slot := 0, constantValue := 0 }, { name := "SIZE", type := .int, accessFlags := 25, slot := 3, constantValue := 0 }, { name := "BYTES", type := .int, accessFlags := 25, slot := 4, constantValue := 0 }, { name := "serialVersionUID", type := .long, accessFlags := 26, slot := 5, constantValue := 0 }]
  methods := #[k22m0, k22m1]
  instanceTypes := #[.long]
  staticTypes := #[.long, .long, (.object "java/lang/Class"), .int, .int, .long]
  resolved := Array.replicate 524 none
  statics := none }

def pool23 : Array CpInfo := pool [(2, .class_ 4), (1, u "java/lang/Object"), (0, u "<init>"), (0, u "()V"), (0, .class_ 8), (0, u "java/lang/Long"), (7, .class_ 18), (1, u "java/lang/Long$LongCache"), (0, u "$assertionsDisabled"), (0, u "Z"), (8, u "archivedCache"), (0, u "[Ljava/lang/Long;"), (7, u "cache")] 24

def k23m0 : Method := { name := "<init>", desc := "()V", sig := { parameters := [], returnType := none }, accessFlags := 2, code := none }
/-- java/lang/Long$LongCache -/
def k23 : Class := { plain "java/lang/Long$LongCache" (some 0) with
  accessFlags := 48
  interfaces := #[]
  cf := some (fileOf pool23 16 #[.nestHost 7] #[{ accessFlags := 2, nameIndex := 5, descriptorIndex := 6, attributes := #[] }] 48 2 #[] #[{ accessFlags := 24, nameIndex := 38, descriptorIndex := 30, attributes := #[] }, { accessFlags := 8, nameIndex := 29, descriptorIndex := 30, attributes := #[] }, { accessFlags := 4120, nameIndex := 19, descriptorIndex := 20, attributes := #[] }])
  fields := #[{ name := "cache", type := (.array (.object "java/lang/Long")), accessFlags := 24, slot := 0, constantValue := 0 }, { name := "archivedCache", type := (.array (.object "java/lang/Long")), accessFlags := 8, slot := 1, constantValue := 0 }, { name := "$assertionsDisabled", type := .boolean, accessFlags := 4120, slot := 2, constantValue := 0 }]
  methods := #[k23m0]
  instanceTypes := #[]
  staticTypes := #[(.array (.object "java/lang/Long")), (.array (.object "java/lang/Long")), .boolean]
  resolved := Array.replicate 63 none
  statics := some 1 }

/-- the primitive byte -/
def k24 : Class := { plain "byte" none with kind := .primitive 'B', accessFlags := 0x411 }
/-- [B -/
def k25 : Class := { plain "[B" (some 0) with kind := .array 24 .byte, interfaces := #[9, 10], accessFlags := 1041 }

/-- the primitive double -/
def k26 : Class := { plain "double" none with kind := .primitive 'D', accessFlags := 0x411 }
/-- [D -/
def k27 : Class := { plain "[D" (some 0) with kind := .array 26 .double, interfaces := #[9, 10], accessFlags := 1041 }

/-- the primitive int -/
def k28 : Class := { plain "int" none with kind := .primitive 'I', accessFlags := 0x411 }
/-- [I -/
def k29 : Class := { plain "[I" (some 0) with kind := .array 28 .int, interfaces := #[9, 10], accessFlags := 1041 }

/-- the primitive long -/
def k30 : Class := { plain "long" none with kind := .primitive 'J', accessFlags := 0x411 }
/-- [J -/
def k31 : Class := { plain "[J" (some 0) with kind := .array 30 .long, interfaces := #[9, 10], accessFlags := 1041 }

/-- [Ljava/lang/Long; -/
def k32 : Class := { plain "[Ljava/lang/Long;" (some 0) with kind := .array 22 (.object "java/lang/Long"), interfaces := #[9, 10], accessFlags := 1041 }

/-- [Ljava/lang/Object; -/
def k33 : Class := { plain "[Ljava/lang/Object;" (some 0) with kind := .array 0 (.object "java/lang/Object"), interfaces := #[9, 10], accessFlags := 1041 }

def heap : Heap := #[{ cls := 11, slots := #[.long 0, .int 0, .ref 259, .ref 260], vm := .statics 11 },
  { cls := 23, slots := #[.ref 2, .null, .int 0], vm := .statics 23 },
  { cls := 32, slots := #[.ref 3, .ref 4, .ref 5, .ref 6, .ref 7, .ref 8, .ref 9, .ref 10, .ref 11, .ref 12, .ref 13, .ref 14, .ref 15, .ref 16, .ref 17, .ref 18, .ref 19, .ref 20, .ref 21, .ref 22, .ref 23, .ref 24, .ref 25, .ref 26, .ref 27, .ref 28, .ref 29, .ref 30, .ref 31, .ref 32, .ref 33, .ref 34, .ref 35, .ref 36, .ref 37, .ref 38, .ref 39, .ref 40, .ref 41, .ref 42, .ref 43, .ref 44, .ref 45, .ref 46, .ref 47, .ref 48, .ref 49, .ref 50, .ref 51, .ref 52, .ref 53, .ref 54, .ref 55, .ref 56, .ref 57, .ref 58, .ref 59, .ref 60, .ref 61, .ref 62, .ref 63, .ref 64, .ref 65, .ref 66, .ref 67, .ref 68, .ref 69, .ref 70, .ref 71, .ref 72, .ref 73, .ref 74, .ref 75, .ref 76, .ref 77, .ref 78, .ref 79, .ref 80, .ref 81, .ref 82, .ref 83, .ref 84, .ref 85, .ref 86, .ref 87, .ref 88, .ref 89, .ref 90, .ref 91, .ref 92, .ref 93, .ref 94, .ref 95, .ref 96, .ref 97, .ref 98, .ref 99, .ref 100, .ref 101, .ref 102, .ref 103, .ref 104, .ref 105, .ref 106, .ref 107, .ref 108, .ref 109, .ref 110, .ref 111, .ref 112, .ref 113, .ref 114, .ref 115, .ref 116, .ref 117, .ref 118, .ref 119, .ref 120, .ref 121, .ref 122, .ref 123, .ref 124, .ref 125, .ref 126, .ref 127, .ref 128, .ref 129, .ref 130, .ref 131, .ref 132, .ref 133, .ref 134, .ref 135, .ref 136, .ref 137, .ref 138, .ref 139, .ref 140, .ref 141, .ref 142, .ref 143, .ref 144, .ref 145, .ref 146, .ref 147, .ref 148, .ref 149, .ref 150, .ref 151, .ref 152, .ref 153, .ref 154, .ref 155, .ref 156, .ref 157, .ref 158, .ref 159, .ref 160, .ref 161, .ref 162, .ref 163, .ref 164, .ref 165, .ref 166, .ref 167, .ref 168, .ref 169, .ref 170, .ref 171, .ref 172, .ref 173, .ref 174, .ref 175, .ref 176, .ref 177, .ref 178, .ref 179, .ref 180, .ref 181, .ref 182, .ref 183, .ref 184, .ref 185, .ref 186, .ref 187, .ref 188, .ref 189, .ref 190, .ref 191, .ref 192, .ref 193, .ref 194, .ref 195, .ref 196, .ref 197, .ref 198, .ref 199, .ref 200, .ref 201, .ref 202, .ref 203, .ref 204, .ref 205, .ref 206, .ref 207, .ref 208, .ref 209, .ref 210, .ref 211, .ref 212, .ref 213, .ref 214, .ref 215, .ref 216, .ref 217, .ref 218, .ref 219, .ref 220, .ref 221, .ref 222, .ref 223, .ref 224, .ref 225, .ref 226, .ref 227, .ref 228, .ref 229, .ref 230, .ref 231, .ref 232, .ref 233, .ref 234, .ref 235, .ref 236, .ref 237, .ref 238, .ref 239, .ref 240, .ref 241, .ref 242, .ref 243, .ref 244, .ref 245, .ref 246, .ref 247, .ref 248, .ref 249, .ref 250, .ref 251, .ref 252, .ref 253, .ref 254, .ref 255, .ref 256, .ref 257, .ref 258], vm := .none },
  { cls := 22, slots := #[.long (-128)], vm := .none },
  { cls := 22, slots := #[.long (-127)], vm := .none },
  { cls := 22, slots := #[.long (-126)], vm := .none },
  { cls := 22, slots := #[.long (-125)], vm := .none },
  { cls := 22, slots := #[.long (-124)], vm := .none },
  { cls := 22, slots := #[.long (-123)], vm := .none },
  { cls := 22, slots := #[.long (-122)], vm := .none },
  { cls := 22, slots := #[.long (-121)], vm := .none },
  { cls := 22, slots := #[.long (-120)], vm := .none },
  { cls := 22, slots := #[.long (-119)], vm := .none },
  { cls := 22, slots := #[.long (-118)], vm := .none },
  { cls := 22, slots := #[.long (-117)], vm := .none },
  { cls := 22, slots := #[.long (-116)], vm := .none },
  { cls := 22, slots := #[.long (-115)], vm := .none },
  { cls := 22, slots := #[.long (-114)], vm := .none },
  { cls := 22, slots := #[.long (-113)], vm := .none },
  { cls := 22, slots := #[.long (-112)], vm := .none },
  { cls := 22, slots := #[.long (-111)], vm := .none },
  { cls := 22, slots := #[.long (-110)], vm := .none },
  { cls := 22, slots := #[.long (-109)], vm := .none },
  { cls := 22, slots := #[.long (-108)], vm := .none },
  { cls := 22, slots := #[.long (-107)], vm := .none },
  { cls := 22, slots := #[.long (-106)], vm := .none },
  { cls := 22, slots := #[.long (-105)], vm := .none },
  { cls := 22, slots := #[.long (-104)], vm := .none },
  { cls := 22, slots := #[.long (-103)], vm := .none },
  { cls := 22, slots := #[.long (-102)], vm := .none },
  { cls := 22, slots := #[.long (-101)], vm := .none },
  { cls := 22, slots := #[.long (-100)], vm := .none },
  { cls := 22, slots := #[.long (-99)], vm := .none },
  { cls := 22, slots := #[.long (-98)], vm := .none },
  { cls := 22, slots := #[.long (-97)], vm := .none },
  { cls := 22, slots := #[.long (-96)], vm := .none },
  { cls := 22, slots := #[.long (-95)], vm := .none },
  { cls := 22, slots := #[.long (-94)], vm := .none },
  { cls := 22, slots := #[.long (-93)], vm := .none },
  { cls := 22, slots := #[.long (-92)], vm := .none },
  { cls := 22, slots := #[.long (-91)], vm := .none },
  { cls := 22, slots := #[.long (-90)], vm := .none },
  { cls := 22, slots := #[.long (-89)], vm := .none },
  { cls := 22, slots := #[.long (-88)], vm := .none },
  { cls := 22, slots := #[.long (-87)], vm := .none },
  { cls := 22, slots := #[.long (-86)], vm := .none },
  { cls := 22, slots := #[.long (-85)], vm := .none },
  { cls := 22, slots := #[.long (-84)], vm := .none },
  { cls := 22, slots := #[.long (-83)], vm := .none },
  { cls := 22, slots := #[.long (-82)], vm := .none },
  { cls := 22, slots := #[.long (-81)], vm := .none },
  { cls := 22, slots := #[.long (-80)], vm := .none },
  { cls := 22, slots := #[.long (-79)], vm := .none },
  { cls := 22, slots := #[.long (-78)], vm := .none },
  { cls := 22, slots := #[.long (-77)], vm := .none },
  { cls := 22, slots := #[.long (-76)], vm := .none },
  { cls := 22, slots := #[.long (-75)], vm := .none },
  { cls := 22, slots := #[.long (-74)], vm := .none },
  { cls := 22, slots := #[.long (-73)], vm := .none },
  { cls := 22, slots := #[.long (-72)], vm := .none },
  { cls := 22, slots := #[.long (-71)], vm := .none },
  { cls := 22, slots := #[.long (-70)], vm := .none },
  { cls := 22, slots := #[.long (-69)], vm := .none },
  { cls := 22, slots := #[.long (-68)], vm := .none },
  { cls := 22, slots := #[.long (-67)], vm := .none },
  { cls := 22, slots := #[.long (-66)], vm := .none },
  { cls := 22, slots := #[.long (-65)], vm := .none },
  { cls := 22, slots := #[.long (-64)], vm := .none },
  { cls := 22, slots := #[.long (-63)], vm := .none },
  { cls := 22, slots := #[.long (-62)], vm := .none },
  { cls := 22, slots := #[.long (-61)], vm := .none },
  { cls := 22, slots := #[.long (-60)], vm := .none },
  { cls := 22, slots := #[.long (-59)], vm := .none },
  { cls := 22, slots := #[.long (-58)], vm := .none },
  { cls := 22, slots := #[.long (-57)], vm := .none },
  { cls := 22, slots := #[.long (-56)], vm := .none },
  { cls := 22, slots := #[.long (-55)], vm := .none },
  { cls := 22, slots := #[.long (-54)], vm := .none },
  { cls := 22, slots := #[.long (-53)], vm := .none },
  { cls := 22, slots := #[.long (-52)], vm := .none },
  { cls := 22, slots := #[.long (-51)], vm := .none },
  { cls := 22, slots := #[.long (-50)], vm := .none },
  { cls := 22, slots := #[.long (-49)], vm := .none },
  { cls := 22, slots := #[.long (-48)], vm := .none },
  { cls := 22, slots := #[.long (-47)], vm := .none },
  { cls := 22, slots := #[.long (-46)], vm := .none },
  { cls := 22, slots := #[.long (-45)], vm := .none },
  { cls := 22, slots := #[.long (-44)], vm := .none },
  { cls := 22, slots := #[.long (-43)], vm := .none },
  { cls := 22, slots := #[.long (-42)], vm := .none },
  { cls := 22, slots := #[.long (-41)], vm := .none },
  { cls := 22, slots := #[.long (-40)], vm := .none },
  { cls := 22, slots := #[.long (-39)], vm := .none },
  { cls := 22, slots := #[.long (-38)], vm := .none },
  { cls := 22, slots := #[.long (-37)], vm := .none },
  { cls := 22, slots := #[.long (-36)], vm := .none },
  { cls := 22, slots := #[.long (-35)], vm := .none },
  { cls := 22, slots := #[.long (-34)], vm := .none },
  { cls := 22, slots := #[.long (-33)], vm := .none },
  { cls := 22, slots := #[.long (-32)], vm := .none },
  { cls := 22, slots := #[.long (-31)], vm := .none },
  { cls := 22, slots := #[.long (-30)], vm := .none },
  { cls := 22, slots := #[.long (-29)], vm := .none },
  { cls := 22, slots := #[.long (-28)], vm := .none },
  { cls := 22, slots := #[.long (-27)], vm := .none },
  { cls := 22, slots := #[.long (-26)], vm := .none },
  { cls := 22, slots := #[.long (-25)], vm := .none },
  { cls := 22, slots := #[.long (-24)], vm := .none },
  { cls := 22, slots := #[.long (-23)], vm := .none },
  { cls := 22, slots := #[.long (-22)], vm := .none },
  { cls := 22, slots := #[.long (-21)], vm := .none },
  { cls := 22, slots := #[.long (-20)], vm := .none },
  { cls := 22, slots := #[.long (-19)], vm := .none },
  { cls := 22, slots := #[.long (-18)], vm := .none },
  { cls := 22, slots := #[.long (-17)], vm := .none },
  { cls := 22, slots := #[.long (-16)], vm := .none },
  { cls := 22, slots := #[.long (-15)], vm := .none },
  { cls := 22, slots := #[.long (-14)], vm := .none },
  { cls := 22, slots := #[.long (-13)], vm := .none },
  { cls := 22, slots := #[.long (-12)], vm := .none },
  { cls := 22, slots := #[.long (-11)], vm := .none },
  { cls := 22, slots := #[.long (-10)], vm := .none },
  { cls := 22, slots := #[.long (-9)], vm := .none },
  { cls := 22, slots := #[.long (-8)], vm := .none },
  { cls := 22, slots := #[.long (-7)], vm := .none },
  { cls := 22, slots := #[.long (-6)], vm := .none },
  { cls := 22, slots := #[.long (-5)], vm := .none },
  { cls := 22, slots := #[.long (-4)], vm := .none },
  { cls := 22, slots := #[.long (-3)], vm := .none },
  { cls := 22, slots := #[.long (-2)], vm := .none },
  { cls := 22, slots := #[.long (-1)], vm := .none },
  { cls := 22, slots := #[.long (0)], vm := .none },
  { cls := 22, slots := #[.long (1)], vm := .none },
  { cls := 22, slots := #[.long (2)], vm := .none },
  { cls := 22, slots := #[.long (3)], vm := .none },
  { cls := 22, slots := #[.long (4)], vm := .none },
  { cls := 22, slots := #[.long (5)], vm := .none },
  { cls := 22, slots := #[.long (6)], vm := .none },
  { cls := 22, slots := #[.long (7)], vm := .none },
  { cls := 22, slots := #[.long (8)], vm := .none },
  { cls := 22, slots := #[.long (9)], vm := .none },
  { cls := 22, slots := #[.long (10)], vm := .none },
  { cls := 22, slots := #[.long (11)], vm := .none },
  { cls := 22, slots := #[.long (12)], vm := .none },
  { cls := 22, slots := #[.long (13)], vm := .none },
  { cls := 22, slots := #[.long (14)], vm := .none },
  { cls := 22, slots := #[.long (15)], vm := .none },
  { cls := 22, slots := #[.long (16)], vm := .none },
  { cls := 22, slots := #[.long (17)], vm := .none },
  { cls := 22, slots := #[.long (18)], vm := .none },
  { cls := 22, slots := #[.long (19)], vm := .none },
  { cls := 22, slots := #[.long (20)], vm := .none },
  { cls := 22, slots := #[.long (21)], vm := .none },
  { cls := 22, slots := #[.long (22)], vm := .none },
  { cls := 22, slots := #[.long (23)], vm := .none },
  { cls := 22, slots := #[.long (24)], vm := .none },
  { cls := 22, slots := #[.long (25)], vm := .none },
  { cls := 22, slots := #[.long (26)], vm := .none },
  { cls := 22, slots := #[.long (27)], vm := .none },
  { cls := 22, slots := #[.long (28)], vm := .none },
  { cls := 22, slots := #[.long (29)], vm := .none },
  { cls := 22, slots := #[.long (30)], vm := .none },
  { cls := 22, slots := #[.long (31)], vm := .none },
  { cls := 22, slots := #[.long (32)], vm := .none },
  { cls := 22, slots := #[.long (33)], vm := .none },
  { cls := 22, slots := #[.long (34)], vm := .none },
  { cls := 22, slots := #[.long (35)], vm := .none },
  { cls := 22, slots := #[.long (36)], vm := .none },
  { cls := 22, slots := #[.long (37)], vm := .none },
  { cls := 22, slots := #[.long (38)], vm := .none },
  { cls := 22, slots := #[.long (39)], vm := .none },
  { cls := 22, slots := #[.long (40)], vm := .none },
  { cls := 22, slots := #[.long (41)], vm := .none },
  { cls := 22, slots := #[.long (42)], vm := .none },
  { cls := 22, slots := #[.long (43)], vm := .none },
  { cls := 22, slots := #[.long (44)], vm := .none },
  { cls := 22, slots := #[.long (45)], vm := .none },
  { cls := 22, slots := #[.long (46)], vm := .none },
  { cls := 22, slots := #[.long (47)], vm := .none },
  { cls := 22, slots := #[.long (48)], vm := .none },
  { cls := 22, slots := #[.long (49)], vm := .none },
  { cls := 22, slots := #[.long (50)], vm := .none },
  { cls := 22, slots := #[.long (51)], vm := .none },
  { cls := 22, slots := #[.long (52)], vm := .none },
  { cls := 22, slots := #[.long (53)], vm := .none },
  { cls := 22, slots := #[.long (54)], vm := .none },
  { cls := 22, slots := #[.long (55)], vm := .none },
  { cls := 22, slots := #[.long (56)], vm := .none },
  { cls := 22, slots := #[.long (57)], vm := .none },
  { cls := 22, slots := #[.long (58)], vm := .none },
  { cls := 22, slots := #[.long (59)], vm := .none },
  { cls := 22, slots := #[.long (60)], vm := .none },
  { cls := 22, slots := #[.long (61)], vm := .none },
  { cls := 22, slots := #[.long (62)], vm := .none },
  { cls := 22, slots := #[.long (63)], vm := .none },
  { cls := 22, slots := #[.long (64)], vm := .none },
  { cls := 22, slots := #[.long (65)], vm := .none },
  { cls := 22, slots := #[.long (66)], vm := .none },
  { cls := 22, slots := #[.long (67)], vm := .none },
  { cls := 22, slots := #[.long (68)], vm := .none },
  { cls := 22, slots := #[.long (69)], vm := .none },
  { cls := 22, slots := #[.long (70)], vm := .none },
  { cls := 22, slots := #[.long (71)], vm := .none },
  { cls := 22, slots := #[.long (72)], vm := .none },
  { cls := 22, slots := #[.long (73)], vm := .none },
  { cls := 22, slots := #[.long (74)], vm := .none },
  { cls := 22, slots := #[.long (75)], vm := .none },
  { cls := 22, slots := #[.long (76)], vm := .none },
  { cls := 22, slots := #[.long (77)], vm := .none },
  { cls := 22, slots := #[.long (78)], vm := .none },
  { cls := 22, slots := #[.long (79)], vm := .none },
  { cls := 22, slots := #[.long (80)], vm := .none },
  { cls := 22, slots := #[.long (81)], vm := .none },
  { cls := 22, slots := #[.long (82)], vm := .none },
  { cls := 22, slots := #[.long (83)], vm := .none },
  { cls := 22, slots := #[.long (84)], vm := .none },
  { cls := 22, slots := #[.long (85)], vm := .none },
  { cls := 22, slots := #[.long (86)], vm := .none },
  { cls := 22, slots := #[.long (87)], vm := .none },
  { cls := 22, slots := #[.long (88)], vm := .none },
  { cls := 22, slots := #[.long (89)], vm := .none },
  { cls := 22, slots := #[.long (90)], vm := .none },
  { cls := 22, slots := #[.long (91)], vm := .none },
  { cls := 22, slots := #[.long (92)], vm := .none },
  { cls := 22, slots := #[.long (93)], vm := .none },
  { cls := 22, slots := #[.long (94)], vm := .none },
  { cls := 22, slots := #[.long (95)], vm := .none },
  { cls := 22, slots := #[.long (96)], vm := .none },
  { cls := 22, slots := #[.long (97)], vm := .none },
  { cls := 22, slots := #[.long (98)], vm := .none },
  { cls := 22, slots := #[.long (99)], vm := .none },
  { cls := 22, slots := #[.long (100)], vm := .none },
  { cls := 22, slots := #[.long (101)], vm := .none },
  { cls := 22, slots := #[.long (102)], vm := .none },
  { cls := 22, slots := #[.long (103)], vm := .none },
  { cls := 22, slots := #[.long (104)], vm := .none },
  { cls := 22, slots := #[.long (105)], vm := .none },
  { cls := 22, slots := #[.long (106)], vm := .none },
  { cls := 22, slots := #[.long (107)], vm := .none },
  { cls := 22, slots := #[.long (108)], vm := .none },
  { cls := 22, slots := #[.long (109)], vm := .none },
  { cls := 22, slots := #[.long (110)], vm := .none },
  { cls := 22, slots := #[.long (111)], vm := .none },
  { cls := 22, slots := #[.long (112)], vm := .none },
  { cls := 22, slots := #[.long (113)], vm := .none },
  { cls := 22, slots := #[.long (114)], vm := .none },
  { cls := 22, slots := #[.long (115)], vm := .none },
  { cls := 22, slots := #[.long (116)], vm := .none },
  { cls := 22, slots := #[.long (117)], vm := .none },
  { cls := 22, slots := #[.long (118)], vm := .none },
  { cls := 22, slots := #[.long (119)], vm := .none },
  { cls := 22, slots := #[.long (120)], vm := .none },
  { cls := 22, slots := #[.long (121)], vm := .none },
  { cls := 22, slots := #[.long (122)], vm := .none },
  { cls := 22, slots := #[.long (123)], vm := .none },
  { cls := 22, slots := #[.long (124)], vm := .none },
  { cls := 22, slots := #[.long (125)], vm := .none },
  { cls := 22, slots := #[.long (126)], vm := .none },
  { cls := 22, slots := #[.long (127)], vm := .none },
  { cls := 33, slots := #[], vm := .none },
  { cls := 33, slots := #[], vm := .none }]
def classes : Array Class := #[k0, k1, k2, k3, k4, k5, k6, k7, k8, k9, k10, k11, k12, k13, k14, k15, k16, k17, k18, k19, k20, k21, k22, k23, k24, k25, k26, k27, k28, k29, k30, k31, k32, k33]
def interned : List (Array UInt16 × Addr) := []
def slotsUsed : Nat := 519
def theMethod : MethodId := ⟨1, 2⟩
def args0 : Array Value := #[.int 5, .int 3, .int 2, .int 7]
def aboutOver (below : List Frame) : State where
  vm := { classes := classes, interned := interned.toArray }
  heap := heap
  slotsUsed := slotsUsed
  threads := #[{ frames := .invoking theMethod args0 :: below }]
def below0 : List Frame := [.native { method := ⟨0, 0⟩, args := #[] }]
def about1 : State := aboutOver below0
def p0 : Program := .bare "" "" ""
def e0 : Env := launch0.env 0 0 0
theorem w_frames : about1.frames = Frame.invoking theMethod args0 :: below0 := rfl
set_option maxRecDepth 65536 in
theorem w_args : argsFit about1.vm theMethod args0 = true := by decide +kernel
set_option maxRecDepth 65536 in
theorem w_heap : heapFits about1 = true := by decide +kernel
set_option maxRecDepth 65536 in
theorem w_runnable : about1.curStatus? = some .runnable := by decide +kernel
set_option maxRecDepth 65536 in
theorem w_alone : about1.alone = true := by decide +kernel
set_option maxRecDepth 65536 in
theorem w_named : about1.methodNamed? x = some theMethod := by decide +kernel
set_option maxRecDepth 65536 in
theorem w_hears : about1.hears theMethod below0 = true := by decide +kernel
set_option maxRecDepth 65536 in
theorem w_ripe : about1.ripe theMethod args0 below0 = true := by decide +kernel
theorem w_running : about1.status = .running := rfl
set_option maxRecDepth 65536 in
theorem w_room : about1.hasRoom e0.platform room_1 = true :=
  launch0.hasRoom_least _ room_1 (by decide +kernel) (by decide +kernel) (by decide +kernel) (by decide +kernel) (by decide +kernel) (by decide +kernel)
theorem allAtoms_all (ts : List Jvm.Cond) (a : Array Jvm.Value) (st : Jvm.State) : (allAtoms ts).before a st = ts.all (fun c => c.before a st) := by
  induction ts with
  | nil => rfl
  | cons c t ih =>
    show (Jvm.Cond.and c (allAtoms t)).before a st = _
    rw [Jvm.Cond.before_and, ih, List.all_cons]
def words1 : List Jvm.Cond := Jvm.Cond.code x code maxLocals ret :: tables_1
/-- a 'code' word, met by the world's own term for the bytes: nothing is compared byte by byte -/
theorem code_word {y : MethodName} {bytes : ByteArray} {mx : Nat} {rt : Option FieldType} {a : Array Value} {s : State} {m : MethodId} {meth : Method} {c : Code} (h1 : s.methodNamed? y = some m) (h2 : s.vm.method? m = some meth) (h3 : meth.code = some c) (h4 : c.code = bytes)
    (h5 : (c.maxLocals == mx && c.exceptionTable.isEmpty && decide (c.maxStack ≤ mostOperands) && decide (meth.sig.returnType = rt) && !meth.locks && decide (parseMethodDescriptor y.desc = some meth.sig)) = true) : (Jvm.Cond.code y bytes mx rt).before a s = true := by
  simp only [Bool.and_eq_true, beq_iff_eq, Bool.not_eq_true', decide_eq_true_eq] at h5
  obtain ⟨⟨⟨⟨⟨g1, g2⟩, g3⟩, g4⟩, g5⟩, g6⟩ := h5
  simp [Cond.before, Cond.holds, Cond.value, h1, h2, h3, h4, g1, g2, g3, g4, g5, g6]
def isCode : Jvm.Cond → Bool
  | .code _ _ _ _ => true
  | _ => false
theorem all_split {L : List Jvm.Cond} {P : Jvm.Cond → Bool} (h1 : L.all (fun c => isCode c || P c) = true) (h2 : ∀ c ∈ L.filter isCode, P c = true) : L.all P = true := by
  refine List.all_eq_true.mpr fun c hc => ?_
  have h := List.all_eq_true.mp h1 c hc
  rcases Bool.eq_false_or_eq_true (isCode c) with hi | hi
  · exact h2 c (List.mem_filter.mpr ⟨hc, hi⟩)
  · simpa [hi] using h
set_option maxRecDepth 65536 in
theorem w_c0 : (Jvm.Cond.code x code maxLocals ret).before args0 about1 = true := code_word (m := ⟨1, 2⟩) (meth := k1m2) (c := k1c2) (by decide +kernel) rfl rfl rfl (by decide +kernel)
set_option maxRecDepth 65536 in
theorem w_c1 : (Jvm.Cond.code ({ cls := "java/util/ArrayList", name := "<init>", desc := "()V" } : Jvm.MethodName) jdk_38_method_2_code (1 : Nat) (Option.none : Option Jvm.ClassFile.FieldType)).before args0 about1 = true := code_word (m := ⟨11, 0⟩) (meth := k11m0) (c := k11c0) (by decide +kernel) rfl rfl rfl (by decide +kernel)
set_option maxRecDepth 65536 in
theorem w_c2 : (Jvm.Cond.code ({ cls := "java/util/AbstractList", name := "<init>", desc := "()V" } : Jvm.MethodName) jdk_39_method_1_code (1 : Nat) (Option.none : Option Jvm.ClassFile.FieldType)).before args0 about1 = true := code_word (m := ⟨7, 0⟩) (meth := k7m0) (c := k7c0) (by decide +kernel) rfl rfl rfl (by decide +kernel)
set_option maxRecDepth 65536 in
theorem w_c3 : (Jvm.Cond.code ({ cls := "java/util/AbstractCollection", name := "<init>", desc := "()V" } : Jvm.MethodName) jdk_22_method_1_code (1 : Nat) (Option.none : Option Jvm.ClassFile.FieldType)).before args0 about1 = true := code_word (m := ⟨4, 0⟩) (meth := k4m0) (c := k4c0) (by decide +kernel) rfl rfl rfl (by decide +kernel)
set_option maxRecDepth 65536 in
theorem w_c4 : (Jvm.Cond.code ({ cls := "java/lang/Object", name := "<init>", desc := "()V" } : Jvm.MethodName) object_method_1_code (1 : Nat) (Option.none : Option Jvm.ClassFile.FieldType)).before args0 about1 = true := code_word (m := ⟨0, 0⟩) (meth := k0m0) (c := k0c0) (by decide +kernel) rfl rfl rfl (by decide +kernel)
set_option maxRecDepth 65536 in
theorem w_c5 : (Jvm.Cond.code ({ cls := "java/lang/Double", name := "valueOf", desc := "(D)Ljava/lang/Double;" } : Jvm.MethodName) jdk_117_method_4_code (2 : Nat) (Option.some (Jvm.ClassFile.FieldType.object "java/lang/Double"))).before args0 about1 = true := code_word (m := ⟨16, 0⟩) (meth := k16m0) (c := k16c0) (by decide +kernel) rfl rfl rfl (by decide +kernel)
set_option maxRecDepth 65536 in
theorem w_c6 : (Jvm.Cond.code ({ cls := "java/lang/Double", name := "<init>", desc := "(D)V" } : Jvm.MethodName) jdk_117_method_9_code (3 : Nat) (Option.none : Option Jvm.ClassFile.FieldType)).before args0 about1 = true := code_word (m := ⟨16, 1⟩) (meth := k16m1) (c := k16c1) (by decide +kernel) rfl rfl rfl (by decide +kernel)
set_option maxRecDepth 65536 in
theorem w_c7 : (Jvm.Cond.code ({ cls := "java/lang/Number", name := "<init>", desc := "()V" } : Jvm.MethodName) jdk_18_method_1_code (1 : Nat) (Option.none : Option Jvm.ClassFile.FieldType)).before args0 about1 = true := code_word (m := ⟨12, 0⟩) (meth := k12m0) (c := k12c0) (by decide +kernel) rfl rfl rfl (by decide +kernel)
set_option maxRecDepth 65536 in
theorem w_c8 : (Jvm.Cond.code ({ cls := "java/util/ArrayList", name := "add", desc := "(Ljava/lang/Object;)Z" } : Jvm.MethodName) jdk_38_method_25_code (2 : Nat) (Option.some Jvm.ClassFile.FieldType.boolean)).before args0 about1 = true := code_word (m := ⟨11, 7⟩) (meth := k11m7) (c := k11c7) (by decide +kernel) rfl rfl rfl (by decide +kernel)
set_option maxRecDepth 65536 in
theorem w_c9 : (Jvm.Cond.code ({ cls := "java/util/ArrayList", name := "add", desc := "(Ljava/lang/Object;[Ljava/lang/Object;I)V" } : Jvm.MethodName) jdk_38_method_24_code (4 : Nat) (Option.none : Option Jvm.ClassFile.FieldType)).before args0 about1 = true := code_word (m := ⟨11, 6⟩) (meth := k11m6) (c := k11c6) (by decide +kernel) rfl rfl rfl (by decide +kernel)
set_option maxRecDepth 65536 in
theorem w_c10 : (Jvm.Cond.code ({ cls := "java/util/ArrayList", name := "grow", desc := "()[Ljava/lang/Object;" } : Jvm.MethodName) jdk_38_method_7_code (1 : Nat) (Option.some (Jvm.ClassFile.FieldType.array (Jvm.ClassFile.FieldType.object "java/lang/Object")))).before args0 about1 = true := code_word (m := ⟨11, 2⟩) (meth := k11m2) (c := k11c2) (by decide +kernel) rfl rfl rfl (by decide +kernel)
set_option maxRecDepth 65536 in
theorem w_c11 : (Jvm.Cond.code ({ cls := "java/util/ArrayList", name := "grow", desc := "(I)[Ljava/lang/Object;" } : Jvm.MethodName) jdk_38_method_6_code (4 : Nat) (Option.some (Jvm.ClassFile.FieldType.array (Jvm.ClassFile.FieldType.object "java/lang/Object")))).before args0 about1 = true := code_word (m := ⟨11, 1⟩) (meth := k11m1) (c := k11c1) (by decide +kernel) rfl rfl rfl (by decide +kernel)
set_option maxRecDepth 65536 in
theorem w_c12 : (Jvm.Cond.code ({ cls := "java/lang/Math", name := "max", desc := "(II)I" } : Jvm.MethodName) jdk_29_method_65_code (2 : Nat) (Option.some Jvm.ClassFile.FieldType.int)).before args0 about1 = true := code_word (m := ⟨17, 1⟩) (meth := k17m1) (c := k17c1) (by decide +kernel) rfl rfl rfl (by decide +kernel)
set_option maxRecDepth 65536 in
theorem w_c13 : (Jvm.Cond.code ({ cls := "com/example/waitsfor/waitsfor/Histogram$Recorder", name := "<init>", desc := "(Ljava/util/List;)V" } : Jvm.MethodName) prog_20_method_1_code (3 : Nat) (Option.none : Option Jvm.ClassFile.FieldType)).before args0 about1 = true := code_word (m := ⟨18, 0⟩) (meth := k18m0) (c := k18c0) (by decide +kernel) rfl rfl rfl (by decide +kernel)
set_option maxRecDepth 65536 in
theorem w_c14 : (Jvm.Cond.code ({ cls := "java/util/ArrayList", name := "size", desc := "()I" } : Jvm.MethodName) jdk_38_method_8_code (1 : Nat) (Option.some Jvm.ClassFile.FieldType.int)).before args0 about1 = true := code_word (m := ⟨11, 3⟩) (meth := k11m3) (c := k11c3) (by decide +kernel) rfl rfl rfl (by decide +kernel)
set_option maxRecDepth 65536 in
theorem w_c15 : (Jvm.Cond.code ({ cls := "java/util/ArrayList", name := "get", desc := "(I)Ljava/lang/Object;" } : Jvm.MethodName) jdk_38_method_20_code (2 : Nat) (Option.some (Jvm.ClassFile.FieldType.object "java/lang/Object"))).before args0 about1 = true := code_word (m := ⟨11, 5⟩) (meth := k11m5) (c := k11c5) (by decide +kernel) rfl rfl rfl (by decide +kernel)
set_option maxRecDepth 65536 in
theorem w_c16 : (Jvm.Cond.code ({ cls := "java/util/Objects", name := "checkIndex", desc := "(II)I" } : Jvm.MethodName) jdk_31_method_17_code (2 : Nat) (Option.some Jvm.ClassFile.FieldType.int)).before args0 about1 = true := code_word (m := ⟨19, 1⟩) (meth := k19m1) (c := k19c1) (by decide +kernel) rfl rfl rfl (by decide +kernel)
set_option maxRecDepth 65536 in
theorem w_c17 : (Jvm.Cond.code ({ cls := "jdk/internal/util/Preconditions", name := "checkIndex", desc := "(IILjava/util/function/BiFunction;)I" } : Jvm.MethodName) jdk_41_method_11_code (3 : Nat) (Option.some Jvm.ClassFile.FieldType.int)).before args0 about1 = true := code_word (m := ⟨20, 1⟩) (meth := k20m1) (c := k20c1) (by decide +kernel) rfl rfl rfl (by decide +kernel)
set_option maxRecDepth 65536 in
theorem w_c18 : (Jvm.Cond.code ({ cls := "java/util/ArrayList", name := "elementData", desc := "(I)Ljava/lang/Object;" } : Jvm.MethodName) jdk_38_method_18_code (2 : Nat) (Option.some (Jvm.ClassFile.FieldType.object "java/lang/Object"))).before args0 about1 = true := code_word (m := ⟨11, 4⟩) (meth := k11m4) (c := k11c4) (by decide +kernel) rfl rfl rfl (by decide +kernel)
set_option maxRecDepth 65536 in
theorem w_c19 : (Jvm.Cond.code ({ cls := "java/lang/Double", name := "doubleValue", desc := "()D" } : Jvm.MethodName) jdk_117_method_19_code (1 : Nat) (Option.some Jvm.ClassFile.FieldType.double)).before args0 about1 = true := code_word (m := ⟨16, 2⟩) (meth := k16m2) (c := k16c2) (by decide +kernel) rfl rfl rfl (by decide +kernel)
set_option maxRecDepth 65536 in
theorem w_c20 : (Jvm.Cond.code ({ cls := "com/example/waitsfor/waitsfor/Histogram$Recorder", name := "observe", desc := "(D)V" } : Jvm.MethodName) prog_20_method_2_code (4 : Nat) (Option.none : Option Jvm.ClassFile.FieldType)).before args0 about1 = true := code_word (m := ⟨18, 1⟩) (meth := k18m1) (c := k18c1) (by decide +kernel) rfl rfl rfl (by decide +kernel)
set_option maxRecDepth 65536 in
theorem w_c21 : (Jvm.Cond.code ({ cls := "com/example/waitsfor/waitsfor/Histogram$Recorder", name := "snapshot", desc := "()Lcom/example/waitsfor/waitsfor/Histogram;" } : Jvm.MethodName) prog_20_method_3_code (1 : Nat) (Option.some (Jvm.ClassFile.FieldType.object "com/example/waitsfor/waitsfor/Histogram"))).before args0 about1 = true := code_word (m := ⟨18, 2⟩) (meth := k18m2) (c := k18c2) (by decide +kernel) rfl rfl rfl (by decide +kernel)
set_option maxRecDepth 65536 in
theorem w_c22 : (Jvm.Cond.code ({ cls := "com/example/waitsfor/waitsfor/Histogram", name := "<init>", desc := "(Ljava/util/List;[JD)V" } : Jvm.MethodName) prog_19_method_1_code (5 : Nat) (Option.none : Option Jvm.ClassFile.FieldType)).before args0 about1 = true := code_word (m := ⟨21, 0⟩) (meth := k21m0) (c := k21c0) (by decide +kernel) rfl rfl rfl (by decide +kernel)
set_option maxRecDepth 65536 in
theorem w_c23 : (Jvm.Cond.code ({ cls := "com/example/waitsfor/waitsfor/Histogram", name := "bucketCounts", desc := "()Ljava/util/List;" } : Jvm.MethodName) prog_19_method_6_code (7 : Nat) (Option.some (Jvm.ClassFile.FieldType.object "java/util/List"))).before args0 about1 = true := code_word (m := ⟨21, 2⟩) (meth := k21m2) (c := k21c2) (by decide +kernel) rfl rfl rfl (by decide +kernel)
set_option maxRecDepth 65536 in
theorem w_c24 : (Jvm.Cond.code ({ cls := "java/lang/Long", name := "valueOf", desc := "(J)Ljava/lang/Long;" } : Jvm.MethodName) jdk_35_method_24_code (3 : Nat) (Option.some (Jvm.ClassFile.FieldType.object "java/lang/Long"))).before args0 about1 = true := code_word (m := ⟨22, 0⟩) (meth := k22m0) (c := k22c0) (by decide +kernel) rfl rfl rfl (by decide +kernel)
set_option maxRecDepth 65536 in
theorem w_c25 : (Jvm.Cond.code ({ cls := "com/example/waitsfor/waitsfor/RecorderObservePinLaw", name := "bucketOf", desc := "(DDD)I" } : Jvm.MethodName) method_2_code (6 : Nat) (Option.some Jvm.ClassFile.FieldType.int)).before args0 about1 = true := code_word (m := ⟨1, 1⟩) (meth := k1m1) (c := k1c1) (by decide +kernel) rfl rfl rfl (by decide +kernel)
set_option maxRecDepth 65536 in
theorem w_c26 : (Jvm.Cond.code ({ cls := "java/lang/Long", name := "longValue", desc := "()J" } : Jvm.MethodName) jdk_35_method_31_code (1 : Nat) (Option.some Jvm.ClassFile.FieldType.long)).before args0 about1 = true := code_word (m := ⟨22, 1⟩) (meth := k22m1) (c := k22c1) (by decide +kernel) rfl rfl rfl (by decide +kernel)
set_option maxRecDepth 65536 in
theorem w_c27 : (Jvm.Cond.code ({ cls := "com/example/waitsfor/waitsfor/Histogram", name := "sum", desc := "()D" } : Jvm.MethodName) prog_19_method_4_code (1 : Nat) (Option.some Jvm.ClassFile.FieldType.double)).before args0 about1 = true := code_word (m := ⟨21, 1⟩) (meth := k21m1) (c := k21c1) (by decide +kernel) rfl rfl rfl (by decide +kernel)
def codes1 : List Jvm.Cond := [Jvm.Cond.code x code maxLocals ret, Jvm.Cond.code ({ cls := "java/util/ArrayList", name := "<init>", desc := "()V" } : Jvm.MethodName) jdk_38_method_2_code (1 : Nat) (Option.none : Option Jvm.ClassFile.FieldType), Jvm.Cond.code ({ cls := "java/util/AbstractList", name := "<init>", desc := "()V" } : Jvm.MethodName) jdk_39_method_1_code (1 : Nat) (Option.none : Option Jvm.ClassFile.FieldType), Jvm.Cond.code ({ cls := "java/util/AbstractCollection", name := "<init>", desc := "()V" } : Jvm.MethodName) jdk_22_method_1_code (1 : Nat) (Option.none : Option Jvm.ClassFile.FieldType), Jvm.Cond.code ({ cls := "java/lang/Object", name := "<init>", desc := "()V" } : Jvm.MethodName) object_method_1_code (1 : Nat) (Option.none : Option Jvm.ClassFile.FieldType), Jvm.Cond.code ({ cls := "java/lang/Double", name := "valueOf", desc := "(D)Ljava/lang/Double;" } : Jvm.MethodName) jdk_117_method_4_code (2 : Nat) (Option.some (Jvm.ClassFile.FieldType.object "java/lang/Double")), Jvm.Cond.code ({ cls := "java/lang/Double", name := "<init>", desc := "(D)V" } : Jvm.MethodName) jdk_117_method_9_code (3 : Nat) (Option.none : Option Jvm.ClassFile.FieldType), Jvm.Cond.code ({ cls := "java/lang/Number", name := "<init>", desc := "()V" } : Jvm.MethodName) jdk_18_method_1_code (1 : Nat) (Option.none : Option Jvm.ClassFile.FieldType), Jvm.Cond.code ({ cls := "java/util/ArrayList", name := "add", desc := "(Ljava/lang/Object;)Z" } : Jvm.MethodName) jdk_38_method_25_code (2 : Nat) (Option.some Jvm.ClassFile.FieldType.boolean), Jvm.Cond.code ({ cls := "java/util/ArrayList", name := "add", desc := "(Ljava/lang/Object;[Ljava/lang/Object;I)V" } : Jvm.MethodName) jdk_38_method_24_code (4 : Nat) (Option.none : Option Jvm.ClassFile.FieldType), Jvm.Cond.code ({ cls := "java/util/ArrayList", name := "grow", desc := "()[Ljava/lang/Object;" } : Jvm.MethodName) jdk_38_method_7_code (1 : Nat) (Option.some (Jvm.ClassFile.FieldType.array (Jvm.ClassFile.FieldType.object "java/lang/Object"))), Jvm.Cond.code ({ cls := "java/util/ArrayList", name := "grow", desc := "(I)[Ljava/lang/Object;" } : Jvm.MethodName) jdk_38_method_6_code (4 : Nat) (Option.some (Jvm.ClassFile.FieldType.array (Jvm.ClassFile.FieldType.object "java/lang/Object"))), Jvm.Cond.code ({ cls := "java/lang/Math", name := "max", desc := "(II)I" } : Jvm.MethodName) jdk_29_method_65_code (2 : Nat) (Option.some Jvm.ClassFile.FieldType.int), Jvm.Cond.code ({ cls := "com/example/waitsfor/waitsfor/Histogram$Recorder", name := "<init>", desc := "(Ljava/util/List;)V" } : Jvm.MethodName) prog_20_method_1_code (3 : Nat) (Option.none : Option Jvm.ClassFile.FieldType), Jvm.Cond.code ({ cls := "java/util/ArrayList", name := "size", desc := "()I" } : Jvm.MethodName) jdk_38_method_8_code (1 : Nat) (Option.some Jvm.ClassFile.FieldType.int), Jvm.Cond.code ({ cls := "java/util/ArrayList", name := "get", desc := "(I)Ljava/lang/Object;" } : Jvm.MethodName) jdk_38_method_20_code (2 : Nat) (Option.some (Jvm.ClassFile.FieldType.object "java/lang/Object")), Jvm.Cond.code ({ cls := "java/util/Objects", name := "checkIndex", desc := "(II)I" } : Jvm.MethodName) jdk_31_method_17_code (2 : Nat) (Option.some Jvm.ClassFile.FieldType.int), Jvm.Cond.code ({ cls := "jdk/internal/util/Preconditions", name := "checkIndex", desc := "(IILjava/util/function/BiFunction;)I" } : Jvm.MethodName) jdk_41_method_11_code (3 : Nat) (Option.some Jvm.ClassFile.FieldType.int), Jvm.Cond.code ({ cls := "java/util/ArrayList", name := "elementData", desc := "(I)Ljava/lang/Object;" } : Jvm.MethodName) jdk_38_method_18_code (2 : Nat) (Option.some (Jvm.ClassFile.FieldType.object "java/lang/Object")), Jvm.Cond.code ({ cls := "java/lang/Double", name := "doubleValue", desc := "()D" } : Jvm.MethodName) jdk_117_method_19_code (1 : Nat) (Option.some Jvm.ClassFile.FieldType.double), Jvm.Cond.code ({ cls := "com/example/waitsfor/waitsfor/Histogram$Recorder", name := "observe", desc := "(D)V" } : Jvm.MethodName) prog_20_method_2_code (4 : Nat) (Option.none : Option Jvm.ClassFile.FieldType), Jvm.Cond.code ({ cls := "com/example/waitsfor/waitsfor/Histogram$Recorder", name := "snapshot", desc := "()Lcom/example/waitsfor/waitsfor/Histogram;" } : Jvm.MethodName) prog_20_method_3_code (1 : Nat) (Option.some (Jvm.ClassFile.FieldType.object "com/example/waitsfor/waitsfor/Histogram")), Jvm.Cond.code ({ cls := "com/example/waitsfor/waitsfor/Histogram", name := "<init>", desc := "(Ljava/util/List;[JD)V" } : Jvm.MethodName) prog_19_method_1_code (5 : Nat) (Option.none : Option Jvm.ClassFile.FieldType), Jvm.Cond.code ({ cls := "com/example/waitsfor/waitsfor/Histogram", name := "bucketCounts", desc := "()Ljava/util/List;" } : Jvm.MethodName) prog_19_method_6_code (7 : Nat) (Option.some (Jvm.ClassFile.FieldType.object "java/util/List")), Jvm.Cond.code ({ cls := "java/lang/Long", name := "valueOf", desc := "(J)Ljava/lang/Long;" } : Jvm.MethodName) jdk_35_method_24_code (3 : Nat) (Option.some (Jvm.ClassFile.FieldType.object "java/lang/Long")), Jvm.Cond.code ({ cls := "com/example/waitsfor/waitsfor/RecorderObservePinLaw", name := "bucketOf", desc := "(DDD)I" } : Jvm.MethodName) method_2_code (6 : Nat) (Option.some Jvm.ClassFile.FieldType.int), Jvm.Cond.code ({ cls := "java/lang/Long", name := "longValue", desc := "()J" } : Jvm.MethodName) jdk_35_method_31_code (1 : Nat) (Option.some Jvm.ClassFile.FieldType.long), Jvm.Cond.code ({ cls := "com/example/waitsfor/waitsfor/Histogram", name := "sum", desc := "()D" } : Jvm.MethodName) prog_19_method_4_code (1 : Nat) (Option.some Jvm.ClassFile.FieldType.double)]
set_option maxRecDepth 65536 in
theorem codes_eq : words1.filter isCode = codes1 := rfl
theorem w_codes : ∀ c ∈ words1.filter isCode, c.before args0 about1 = true := by
  rw [codes_eq]
  intro c hc
  simp only [codes1, List.mem_cons, List.not_mem_nil, or_false] at hc
  rcases hc with rfl | rfl | rfl | rfl | rfl | rfl | rfl | rfl | rfl | rfl | rfl | rfl | rfl | rfl | rfl | rfl | rfl | rfl | rfl | rfl | rfl | rfl | rfl | rfl | rfl | rfl | rfl | rfl
  · exact w_c0
  · exact w_c1
  · exact w_c2
  · exact w_c3
  · exact w_c4
  · exact w_c5
  · exact w_c6
  · exact w_c7
  · exact w_c8
  · exact w_c9
  · exact w_c10
  · exact w_c11
  · exact w_c12
  · exact w_c13
  · exact w_c14
  · exact w_c15
  · exact w_c16
  · exact w_c17
  · exact w_c18
  · exact w_c19
  · exact w_c20
  · exact w_c21
  · exact w_c22
  · exact w_c23
  · exact w_c24
  · exact w_c25
  · exact w_c26
  · exact w_c27
set_option maxRecDepth 65536 in
theorem w_t1 : (words1.take 24).all (fun c => isCode c || c.before args0 about1) = true := by decide +kernel
set_option maxRecDepth 65536 in
theorem w_t2 : ((words1.drop 24).take 24).all (fun c => isCode c || c.before args0 about1) = true := by decide +kernel
set_option maxRecDepth 65536 in
theorem w_t3 : (((words1.drop 24).drop 24).take 24).all (fun c => isCode c || c.before args0 about1) = true := by decide +kernel
set_option maxRecDepth 65536 in
theorem w_t4 : ((((words1.drop 24).drop 24).drop 24).take 24).all (fun c => isCode c || c.before args0 about1) = true := by decide +kernel
set_option maxRecDepth 65536 in
theorem w_t5 : (((((words1.drop 24).drop 24).drop 24).drop 24).take 24).all (fun c => isCode c || c.before args0 about1) = true := by decide +kernel
set_option maxRecDepth 65536 in
theorem w_t6 : ((((((words1.drop 24).drop 24).drop 24).drop 24).drop 24).take 24).all (fun c => isCode c || c.before args0 about1) = true := by decide +kernel
set_option maxRecDepth 65536 in
theorem w_t7 : (((((((words1.drop 24).drop 24).drop 24).drop 24).drop 24).drop 24).take 24).all (fun c => isCode c || c.before args0 about1) = true := by decide +kernel
set_option maxRecDepth 65536 in
theorem w_t8 : ((((((((words1.drop 24).drop 24).drop 24).drop 24).drop 24).drop 24).drop 24).take 24).all (fun c => isCode c || c.before args0 about1) = true := by decide +kernel
set_option maxRecDepth 65536 in
theorem w_t9 : ((((((((words1.drop 24).drop 24).drop 24).drop 24).drop 24).drop 24).drop 24).drop 24).all (fun c => isCode c || c.before args0 about1) = true := by decide +kernel
theorem w_tables : (allAtoms (Jvm.Cond.code x code maxLocals ret :: tables_1)).before args0 about1 = true := by
  rw [allAtoms_all]
  show words1.all (fun c => c.before args0 about1) = true
  refine all_split ?_ w_codes
  rw [← List.take_append_drop 24 words1, List.all_append, w_t1, ← List.take_append_drop 24 (words1.drop 24), List.all_append, w_t2, ← List.take_append_drop 24 ((words1.drop 24).drop 24), List.all_append, w_t3, ← List.take_append_drop 24 (((words1.drop 24).drop 24).drop 24), List.all_append, w_t4, ← List.take_append_drop 24 ((((words1.drop 24).drop 24).drop 24).drop 24), List.all_append, w_t5, ← List.take_append_drop 24 (((((words1.drop 24).drop 24).drop 24).drop 24).drop 24), List.all_append, w_t6, ← List.take_append_drop 24 ((((((words1.drop 24).drop 24).drop 24).drop 24).drop 24).drop 24), List.all_append, w_t7, ← List.take_append_drop 24 (((((((words1.drop 24).drop 24).drop 24).drop 24).drop 24).drop 24).drop 24), List.all_append, w_t8, w_t9]
  rfl
set_option maxRecDepth 65536 in
theorem w_rest : rest_1_c.before args0 about1 = true := by decide +kernel
set_option maxRecDepth 65536 in
theorem w_case : (Jvm.Cond.and given_1 narrow_1).before args0 about1 = true := by decide +kernel
theorem w_applies : (headSpec (Jvm.Cond.code x code maxLocals ret :: tables_1) room_1).applies x e0.platform about1 = true :=
  (Spec.applies_iff w_frames).mpr ⟨w_running, w_runnable, w_alone, w_named, w_hears, w_ripe, w_room, w_tables⟩
theorem atStart : AtStart classFile x code maxLocals ret World_1 tables_1 room_1 Calls_1 rest_1 Pre_1 launch0 p0 e0 about1 theMethod args0 below0 :=
  ⟨lists_1, trivial, launch0.admits_env _ _ _, launch0.least_env, fairChoices_fair.cas, fairChoices_fair.clock, w_frames, w_args, w_heap, w_applies, trivial, w_rest, w_case⟩
end start1
theorem witness_1 : WitnessClaimed_1 := ⟨start1.p0, start1.e0, start1.about1, start1.theMethod, start1.args0, start1.below0, start1.atStart⟩
end Jvm.Pilot.@@N@@
