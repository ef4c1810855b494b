import JvmDerived
import JvmDerived.Pilot.@@N@@Statement
import JvmDerived.Pilot.@@N@@Code
set_option linter.unusedVariables false
set_option linter.unusedSimpArgs false
namespace Jvm.OwnKit
open Sem ClassFile Op Lib Jvm.Stand Jvm.Free Jvm.LawKit Jvm.RoadKit
/-- from the state A the run comes to an end as the contract asks it -/
def OwnEnd (p : Program) (e : Env) (below : List Frame) (s : State) (Q : Option Value → Heap → List Loc → Prop) (kc ks : Nat) (A : State) : Prop :=
  ∃ (s₂ : State) (o : Outcome), Steps p.tables e below A s₂ ∧ s₂.status = .running ∧ Ended s₂ below o ∧ ∃ v L, o = .returned v ∧ Q v s₂.heap L ∧ FrameEnd s o s₂ L kc ks
section Own
variable {p : Program} {l : Launch} {e : Env} {R : Room} {s : State} {m : MethodId} {args : Array Value} {below : List Frame} {meth : Method} {c : Code} {T : State} {locs : List Loc} {cells slots : Nat} {Z : State} {a0 : Array Value} {h : Heap}
variable {Q : Option Value → Heap → List Loc → Prop} {kc ks : Nat}
theorem go {A B : State} (k : ∀ t, Steps p.tables e below B t → Steps p.tables e below A t) (F : OwnEnd p e below s Q kc ks B) : OwnEnd p e below s Q kc ks A := by
  obtain ⟨s₂, o, h1, r⟩ := F; exact ⟨s₂, o, k _ h1, r⟩
theorem up {cells' slots' : Nat} (X : Stand p l e R s m args below meth c T locs cells slots) (h1 : cells ≤ cells') (h2 : slots ≤ slots') : Stand p l e R s m args below meth c T locs cells' slots' :=
  ⟨X.admits, X.cas, X.clock, X.frames, X.room, X.hears, X.method, X.code, X.here, X.tail, X.warmed, X.limits, X.bytes, X.same.mono h1 h2⟩
theorem done (X : Stand p l e R s m args below meth c T locs cells slots) (hlk : meth.locks = false) {v : Option Value} (hv : meth.sig.returnType = none → v = none) {A : State}
    (st : ∀ fs, (∀ (f : JFrame) (acts : List Action), f.method = m → f.locked = none → f.entered = [] → (doReturn e (T.setTop f) acts v).1 = T.setFrames fs) → Steps p.tables e below A (T.setFrames fs))
    (eT : T.heap = h) (hk : cells ≤ kc) (hs : slots ≤ ks) (hQ : Q v h locs) : OwnEnd p e below s Q kc ks A := by
  obtain ⟨fs, hr, hrun, hended, hW, hsame⟩ := X.leave (v := v) hv hlk
  exact ⟨_, _, st fs hr, hrun, hended, _, _, rfl, (by show Q v T.heap locs; rw [eT]; exact hQ), ⟨_, rfl⟩, hW, hsame.mono hk hs⟩
theorem endI (X : Stand p l e R s m args below meth c T locs cells slots) (hx : p.tables.exec = Jvm.exec) (hlk : meth.locks = false) (hret : meth.sig.returnType = some .int) {pc : Nat} {Ls : Array Slot} {z : Int32} {rest : List Value} (hd : decode c.code pc = .ok (.ireturn, 1))
    (eT : T.heap = h) (hk : cells ≤ kc) (hs : slots ≤ ks) (hQ : Q (some (.int z)) h locs) : OwnEnd p e below s Q kc ks (T.setTop (mkF m pc Ls (.int z :: rest))) :=
  done X hlk (fun q => by rw [hret] at q; cases q) (fun fs hr => retOut X hx (w := .int z) hret rfl (Or.inl ⟨rfl, Or.inl rfl, z, rfl⟩) hd hr) eT hk hs hQ
theorem endN (X : Stand p l e R s m args below meth c T locs cells slots) (hx : p.tables.exec = Jvm.exec) (hlk : meth.locks = false) {t : FieldType} (ht : t = .boolean ∨ t = .byte ∨ t = .char ∨ t = .short) (hret : meth.sig.returnType = some t) {pc : Nat} {Ls : Array Slot} {z : Int32} {rest : List Value} (hd : decode c.code pc = .ok (.ireturn, 1))
    (eT : T.heap = h) (hk : cells ≤ kc) (hs : slots ≤ ks) (hQ : Q (some (.int (nar t z))) h locs) : OwnEnd p e below s Q kc ks (T.setTop (mkF m pc Ls (.int z :: rest))) :=
  done X hlk (fun q => by rw [hret] at q; cases q) (fun fs hr => retN X hx hret ht hd hr) eT hk hs hQ
theorem endJ (X : Stand p l e R s m args below meth c T locs cells slots) (hx : p.tables.exec = Jvm.exec) (hlk : meth.locks = false) (hret : meth.sig.returnType = some .long) {pc : Nat} {Ls : Array Slot} {z : Int64} {rest : List Value} (hd : decode c.code pc = .ok (.lreturn, 1))
    (eT : T.heap = h) (hk : cells ≤ kc) (hs : slots ≤ ks) (hQ : Q (some (.long z)) h locs) : OwnEnd p e below s Q kc ks (T.setTop (mkF m pc Ls (.long z :: rest))) :=
  done X hlk (fun q => by rw [hret] at q; cases q) (fun fs hr => retOut X hx (w := .long z) hret rfl (Or.inr (Or.inl ⟨rfl, rfl, z, rfl⟩)) hd hr) eT hk hs hQ
theorem endA (X : Stand p l e R s m args below meth c T locs cells slots) (hx : p.tables.exec = Jvm.exec) (hlk : meth.locks = false) {t : FieldType} (hret : meth.sig.returnType = some t) (ht : t.isReference = true) {pc : Nat} {Ls : Array Slot} {w : Value} (hw : w.isRef = true) {rest : List Value} (hd : decode c.code pc = .ok (.areturn, 1))
    (eT : T.heap = h) (hk : cells ≤ kc) (hs : slots ≤ ks) (hQ : Q (some w) h locs) : OwnEnd p e below s Q kc ks (T.setTop (mkF m pc Ls (w :: rest))) :=
  done X hlk (fun q => by rw [hret] at q; cases q) (fun fs hr => retOut X hx (w := w) hret (by cases t <;> first | rfl | cases ht) (Or.inr (Or.inr (Or.inr (Or.inr ⟨rfl, ht, hw⟩)))) hd hr) eT hk hs hQ
theorem endV (X : Stand p l e R s m args below meth c T locs cells slots) (hx : p.tables.exec = Jvm.exec) (hlk : meth.locks = false) (hret : meth.sig.returnType = none) {pc : Nat} {Ls : Array Slot} (hd : decode c.code pc = .ok (.return_, 1))
    (eT : T.heap = h) (hk : cells ≤ kc) (hs : slots ≤ ks) (hQ : Q none h locs) : OwnEnd p e below s Q kc ks (T.setTop (mkF m pc Ls [])) :=
  done X hlk (fun _ => rfl) (fun fs hr => X.returnOut hx hret hd hr) eT hk hs hQ
theorem nar01 {P : Prop} [Decidable P] : nar .boolean (if P then (1 : Int32) else 0) = if P then (1 : Int32) else 0 := by split <;> rfl
section Call
variable {own : String} {index : Nat} {y z : MethodName} {bytes : ByteArray} {maxL W : Nat} {ret : Option FieldType} {rm : Room} {as' : Array Value} {Qc : Option Value → Heap → List Loc → Prop} {g : JFrame} {argsL rest : List Value}
theorem callStat (X : Stand p l e R s m args below meth c T locs cells slots) (hx : p.tables.exec = Jvm.exec) (hZ : Z.Warmed39 s.vm) (hown : s.vm.findClass own = some m.cls)
    (w1 : (Cond.methodLink own index y).before a0 Z = true) (w2 : (Cond.static y).before a0 Z = true) (w3 : (Cond.initialized y.cls).before a0 Z = true) (w4 : (Cond.code y bytes maxL ret).before a0 Z = true)
    (hy : y.cls ≠ "java/lang/invoke/MethodHandle" ∧ y.cls ≠ "java/lang/invoke/VarHandle")
    (hM : MetFree l y (head1 [Cond.code y bytes maxL ret] rm) (fun a U => a = as' ∧ Z.Warmed39 U.vm ∧ U.heap = h) (fun _ _ _ _ _ => True) (fun _ U o U' => ∃ v L, o = .returned v ∧ Qc v U'.heap L ∧ FrameEnd U o U' L rm.cells rm.slots))
    (hf : rm.frames + 1 ≤ R.frames) (hl : W + (maxL + 11) + rm.locals ≤ R.locals) (eT : T.heap = h) (hg : g.method = m) (hsize : g.locals.size = c.maxLocals) (ha : argsL.toArray = as')
    (hlen : ∀ sig, parseMethodDescriptor y.desc = some sig → argsL.length = sig.parameters.length) (hstack : g.stack = argsL.reverse ++ rest) (hW : 2 * g.monitorRoom + (rest.map fun v => v.category).sum ≤ W) (hdg : decode c.code g.pc = .ok (.invokestatic index, 3))
    (hc : cells + rm.cells ≤ R.cells) (hs : slots + rm.slots ≤ R.slots) :
    ∃ (v : Option Value) (T' : State) (L : List Loc), Stand p l e R s m args below meth c T' (locs ++ L) (cells + rm.cells) (slots + rm.slots) ∧ Qc v T'.heap L ∧ ∀ target, Steps p.tables e below (T'.setTop { g with pc := g.pc + 3, stack := v.toList ++ rest }) target → Steps p.tables e below (T.setTop g) target := by
  obtain ⟨v, _, ⟨T', L', k', n'⟩, -, X', ⟨L, hQ, l1, l2, l3⟩, st⟩ := Jvm.LawKit.callS X hx hown (mvT hZ w1) (mvT hZ w2) (mvT hZ w3) (mvT hZ w4) hy (backOf (W := W) hM hZ w4 w3 hf hl) (g := g) hg hsize (argsL := argsL) (rest := rest) hlen hstack hW hdg (fun _ _ => ⟨ha, eT, hc, hs⟩)
  dsimp only [Pt.U, Pt.locs, Pt.cells, Pt.slots] at X' l1 l2 l3 st hQ
  subst l1 l2 l3
  exact ⟨v, T', L, X', hQ, st⟩
theorem callInit (X : Stand p l e R s m args below meth c T locs cells slots) (hx : p.tables.exec = Jvm.exec) (hZ : Z.Warmed39 s.vm) (hown : s.vm.findClass own = some m.cls) (hy1 : y.name = "<init>")
    (w1 : (Cond.methodLink own index y).before a0 Z = true) (w2 : (Cond.instanceMethod y).before a0 Z = true) (w3 : (Cond.initialized y.cls).before a0 Z = true) (w4 : (Cond.code y bytes maxL none).before a0 Z = true)
    (hy : y.cls ≠ "java/lang/invoke/MethodHandle" ∧ y.cls ≠ "java/lang/invoke/VarHandle")
    (hM : MetFree l y (head1 [Cond.code y bytes maxL none] rm) (fun a U => a = as' ∧ Z.Warmed39 U.vm ∧ U.heap = h) (fun _ _ _ _ _ => True) (fun _ U o U' => ∃ v L, o = .returned v ∧ Qc v U'.heap L ∧ FrameEnd U o U' L rm.cells rm.slots))
    (hf : rm.frames + 1 ≤ R.frames) (hl : W + (maxL + 11) + rm.locals ≤ R.locals) (eT : T.heap = h) (hg : g.method = m) (hsize : g.locals.size = c.maxLocals) {a : Addr} (ha : (Value.ref a :: argsL).toArray = as')
    (hlen : ∀ sig, parseMethodDescriptor y.desc = some sig → argsL.length = sig.parameters.length) (hstack : g.stack = argsL.reverse ++ .ref a :: rest) (hW : 2 * g.monitorRoom + (rest.map fun v => v.category).sum ≤ W) (hdg : decode c.code g.pc = .ok (.invokespecial index, 3))
    (hc : cells + rm.cells ≤ R.cells) (hs : slots + rm.slots ≤ R.slots) :
    ∃ (v : Option Value) (T' : State) (L : List Loc), Stand p l e R s m args below meth c T' (locs ++ L) (cells + rm.cells) (slots + rm.slots) ∧ Qc v T'.heap L ∧ ∀ target, Steps p.tables e below (T'.setTop { g with pc := g.pc + 3, stack := v.toList ++ rest }) target → Steps p.tables e below (T.setTop g) target := by
  obtain ⟨v, _, ⟨T', L', k', n'⟩, -, X', ⟨L, hQ, l1, l2, l3⟩, st⟩ := X.specialBack hx hy1 hown (mvT hZ w1) (mvT hZ w2) (mvT hZ w4) hy (backOf (W := W) hM hZ w4 w3 hf hl) (g := g) hg hsize (Steps.refl _) (a := a) (argsL := argsL) (rest := rest) hlen hstack hW hdg (fun _ _ => ⟨ha, eT, hc, hs⟩)
  dsimp only [Pt.U, Pt.locs, Pt.cells, Pt.slots] at X' l1 l2 l3 st hQ
  subst l1 l2 l3
  exact ⟨v, T', L, X', hQ, fun _ k => st.trans k⟩
theorem callVirt (X : Stand p l e R s m args below meth c T locs cells slots) (hx : p.tables.exec = Jvm.exec) (hZ : Z.Warmed39 s.vm) (hown : s.vm.findClass own = some m.cls) {C : String}
    (w1 : (Cond.methodLink own index y).before a0 Z = true) (w2 : (Cond.declares y).before a0 Z = true) (hnf : NotFace s y) (w3 : (Cond.selects C y z).before a0 Z = true) (w5 : (Cond.instanceMethod z).before a0 Z = true) (w6 : (Cond.initialized z.cls).before a0 Z = true) (w4 : (Cond.code z bytes maxL ret).before a0 Z = true)
    (hy : y.cls ≠ "java/lang/invoke/MethodHandle" ∧ y.cls ≠ "java/lang/invoke/VarHandle")
    (hM : MetFree l z (head1 [Cond.code z bytes maxL ret] rm) (fun a U => a = as' ∧ Z.Warmed39 U.vm ∧ U.heap = h) (fun _ _ _ _ _ => True) (fun _ U o U' => ∃ v L, o = .returned v ∧ Qc v U'.heap L ∧ FrameEnd U o U' L rm.cells rm.slots))
    (hf : rm.frames + 1 ≤ R.frames) (hl : W + (maxL + 11) + rm.locals ≤ R.locals) (eT : T.heap = h) {a : Addr} (E : Exa Z h a C) (hg : g.method = m) (hsize : g.locals.size = c.maxLocals) (ha : (Value.ref a :: argsL).toArray = as')
    (hlen : ∀ sig, parseMethodDescriptor y.desc = some sig → argsL.length = sig.parameters.length) (hstack : g.stack = argsL.reverse ++ .ref a :: rest) (hW : 2 * g.monitorRoom + (rest.map fun v => v.category).sum ≤ W) (hdg : decode c.code g.pc = .ok (.invokevirtual index, 3))
    (hc : cells + rm.cells ≤ R.cells) (hs : slots + rm.slots ≤ R.slots) :
    ∃ (v : Option Value) (T' : State) (L : List Loc), Stand p l e R s m args below meth c T' (locs ++ L) (cells + rm.cells) (slots + rm.slots) ∧ Qc v T'.heap L ∧ ∀ target, Steps p.tables e below (T'.setTop { g with pc := g.pc + 3, stack := v.toList ++ rest }) target → Steps p.tables e below (T.setTop g) target := by
  obtain ⟨cq, kq, q1, q2, q3⟩ := isOf hZ eT E
  obtain ⟨v, _, ⟨T', L', k', n'⟩, -, X', ⟨L, hQ, l1, l2, l3⟩, st⟩ := X.virtualBack hx hown (mvT hZ w1) (mvT hZ w2) hnf (mvT hZ w3) (mvT hZ w5) hy (backOf (W := W) hM hZ w4 w6 hf hl) q1 q3 (g := g) hg hsize (Steps.refl _) (argsL := argsL) (rest := rest) hlen hstack hW hdg (fun _ _ => ⟨ha, eT, hc, hs⟩)
  dsimp only [Pt.U, Pt.locs, Pt.cells, Pt.slots] at X' l1 l2 l3 st hQ
  subst l1 l2 l3
  exact ⟨v, T', L, X', hQ, fun _ k => st.trans k⟩
theorem callUp (X : Stand p l e R s m args below meth c T locs cells slots) (hx : p.tables.exec = Jvm.exec) (hZ : Z.Warmed39 s.vm) (hown : s.vm.findClass own = some m.cls) {C owner : String}
    (w1 : (Cond.methodLink own index y).before a0 Z = true) (w0 : (Cond.sameMethod y.cls owner y.name y.desc).before a0 Z = true) (w2 : (Cond.declares ⟨owner, y.name, y.desc⟩).before a0 Z = true) (ho : owner ≠ "java/lang/invoke/MethodHandle" ∧ owner ≠ "java/lang/invoke/VarHandle")
    (w3 : (Cond.selects C y z).before a0 Z = true) (w5 : (Cond.instanceMethod z).before a0 Z = true) (w6 : (Cond.initialized z.cls).before a0 Z = true) (w4 : (Cond.code z bytes maxL ret).before a0 Z = true)
    (hM : MetFree l z (head1 [Cond.code z bytes maxL ret] rm) (fun a U => a = as' ∧ Z.Warmed39 U.vm ∧ U.heap = h) (fun _ _ _ _ _ => True) (fun _ U o U' => ∃ v L, o = .returned v ∧ Qc v U'.heap L ∧ FrameEnd U o U' L rm.cells rm.slots))
    (hf : rm.frames + 1 ≤ R.frames) (hl : W + (maxL + 11) + rm.locals ≤ R.locals) (eT : T.heap = h) {a : Addr} (E : Exa Z h a C) (hg : g.method = m) (hsize : g.locals.size = c.maxLocals) (ha : (Value.ref a :: argsL).toArray = as')
    (hlen : ∀ sig, parseMethodDescriptor y.desc = some sig → argsL.length = sig.parameters.length) (hstack : g.stack = argsL.reverse ++ .ref a :: rest) (hW : 2 * g.monitorRoom + (rest.map fun v => v.category).sum ≤ W) (hdg : decode c.code g.pc = .ok (.invokevirtual index, 3))
    (hc : cells + rm.cells ≤ R.cells) (hs : slots + rm.slots ≤ R.slots) :
    ∃ (v : Option Value) (T' : State) (L : List Loc), Stand p l e R s m args below meth c T' (locs ++ L) (cells + rm.cells) (slots + rm.slots) ∧ Qc v T'.heap L ∧ ∀ target, Steps p.tables e below (T'.setTop { g with pc := g.pc + 3, stack := v.toList ++ rest }) target → Steps p.tables e below (T.setTop g) target := by
  obtain ⟨cq, kq, q1, q2, q3⟩ := isOf hZ eT E
  obtain ⟨v, _, ⟨T', L', k', n'⟩, -, X', ⟨L, hQ, l1, l2, l3⟩, st⟩ := X.virtualBackUp hx hown (mvT hZ w1) (mvT hZ w0) (mvT hZ w2) ho (mvT hZ w3) (mvT hZ w5) (backOf (W := W) hM hZ w4 w6 hf hl) q1 q3 (g := g) hg hsize (Steps.refl _) (argsL := argsL) (rest := rest) hlen hstack hW hdg (fun _ _ => ⟨ha, eT, hc, hs⟩)
  dsimp only [Pt.U, Pt.locs, Pt.cells, Pt.slots] at X' l1 l2 l3 st hQ
  subst l1 l2 l3
  exact ⟨v, T', L, X', hQ, fun _ k => st.trans k⟩
theorem callPriv (X : Stand p l e R s m args below meth c T locs cells slots) (hx : p.tables.exec = Jvm.exec) (hZ : Z.Warmed39 s.vm) (hown : s.vm.findClass own = some m.cls) {C : String} {kk : Nat}
    (w1 : (Cond.methodLink own index y).before a0 Z = true) (w2 : (Cond.instanceMethod y).before a0 Z = true) (wp : (Cond.privateMethod y).before a0 Z = true) (wi : (Cond.instantiable y.cls kk).before a0 Z = true) (w6 : (Cond.initialized y.cls).before a0 Z = true) (w4 : (Cond.code y bytes maxL ret).before a0 Z = true)
    (hy : y.cls ≠ "java/lang/invoke/MethodHandle" ∧ y.cls ≠ "java/lang/invoke/VarHandle")
    (hM : MetFree l y (head1 [Cond.code y bytes maxL ret] rm) (fun a U => a = as' ∧ Z.Warmed39 U.vm ∧ U.heap = h) (fun _ _ _ _ _ => True) (fun _ U o U' => ∃ v L, o = .returned v ∧ Qc v U'.heap L ∧ FrameEnd U o U' L rm.cells rm.slots))
    (hf : rm.frames + 1 ≤ R.frames) (hl : W + (maxL + 11) + rm.locals ≤ R.locals) (eT : T.heap = h) {a : Addr} (E : Exa Z h a C) (hg : g.method = m) (hsize : g.locals.size = c.maxLocals) (ha : (Value.ref a :: argsL).toArray = as')
    (hlen : ∀ sig, parseMethodDescriptor y.desc = some sig → argsL.length = sig.parameters.length) (hstack : g.stack = argsL.reverse ++ .ref a :: rest) (hW : 2 * g.monitorRoom + (rest.map fun v => v.category).sum ≤ W) (hdg : decode c.code g.pc = .ok (.invokevirtual index, 3))
    (hc : cells + rm.cells ≤ R.cells) (hs : slots + rm.slots ≤ R.slots) :
    ∃ (v : Option Value) (T' : State) (L : List Loc), Stand p l e R s m args below meth c T' (locs ++ L) (cells + rm.cells) (slots + rm.slots) ∧ Qc v T'.heap L ∧ ∀ target, Steps p.tables e below (T'.setTop { g with pc := g.pc + 3, stack := v.toList ++ rest }) target → Steps p.tables e below (T.setTop g) target := by
  obtain ⟨c2, k2, i1, i2, -, i4, -⟩ := Cond.instantiable_spec (mvT hZ wi (args := args))
  simp only [Bool.or_eq_false_iff] at i4
  have hpriv := Cond.privateMethod_at (mvP hZ wp (args := args))
  have hsel := selects_self_of_private (args := args) i1 i2 i4.1 hpriv (mvT hZ w2) hy
  obtain ⟨cl, q1, q2⟩ := E.cell
  obtain ⟨v, _, ⟨T', L', k', n'⟩, -, X', ⟨L, hQ, l1, l2, l3⟩, st⟩ := X.privateBack hx hown (mvT hZ w1) (mvT hZ w2) hsel hpriv (mvT hZ w4) hy (backOf (W := W) hM hZ w4 w6 hf hl) (g := g) hg hsize (Steps.refl _) (a := a) (cell := cl) (by rw [eT]; exact q1) q2 (argsL := argsL) (rest := rest) hlen hstack hW hdg (fun _ _ => ⟨ha, eT, hc, hs⟩)
  dsimp only [Pt.U, Pt.locs, Pt.cells, Pt.slots] at X' l1 l2 l3 st hQ
  subst l1 l2 l3
  exact ⟨v, T', L, X', hQ, fun _ k => st.trans k⟩
theorem callFace (X : Stand p l e R s m args below meth c T locs cells slots) (hx : p.tables.exec = Jvm.exec) (hZ : Z.Warmed39 s.vm) (hown : s.vm.findClass own = some m.cls) {C : String} {count : Nat}
    (w1 : (Cond.methodLink own index y).before a0 Z = true) (w2 : (Cond.declares y).before a0 Z = true) (wf : (Cond.interfaceMethod y.cls y.cls y.name y.desc).before args s = true) (w3 : (Cond.selects C y z).before a0 Z = true) (w5 : (Cond.instanceMethod z).before a0 Z = true) (wu : (Cond.publicMethod z).before a0 Z = true) (wh : (Cond.unhidden C y.name y.desc).before a0 Z = true) (wk : (Cond.castable C y.cls).before a0 Z = true) (w6 : (Cond.initialized z.cls).before a0 Z = true) (w4 : (Cond.code z bytes maxL ret).before a0 Z = true)
    (hy : y.cls ≠ "java/lang/invoke/MethodHandle" ∧ y.cls ≠ "java/lang/invoke/VarHandle")
    (hM : MetFree l z (head1 [Cond.code z bytes maxL ret] rm) (fun a U => a = as' ∧ Z.Warmed39 U.vm ∧ U.heap = h) (fun _ _ _ _ _ => True) (fun _ U o U' => ∃ v L, o = .returned v ∧ Qc v U'.heap L ∧ FrameEnd U o U' L rm.cells rm.slots))
    (hf : rm.frames + 1 ≤ R.frames) (hl : W + (maxL + 11) + rm.locals ≤ R.locals) (eT : T.heap = h) {a : Addr} (E : Exa Z h a C) (hg : g.method = m) (hsize : g.locals.size = c.maxLocals) (ha : (Value.ref a :: argsL).toArray = as')
    (hlen : ∀ sig, parseMethodDescriptor y.desc = some sig → argsL.length = sig.parameters.length) (hstack : g.stack = argsL.reverse ++ .ref a :: rest) (hW : 2 * g.monitorRoom + (rest.map fun v => v.category).sum ≤ W) (hdg : decode c.code g.pc = .ok (.invokeinterface index count, 5))
    (hc : cells + rm.cells ≤ R.cells) (hs : slots + rm.slots ≤ R.slots) :
    ∃ (v : Option Value) (T' : State) (L : List Loc), Stand p l e R s m args below meth c T' (locs ++ L) (cells + rm.cells) (slots + rm.slots) ∧ Qc v T'.heap L ∧ ∀ target, Steps p.tables e below (T'.setTop { g with pc := g.pc + 5, stack := v.toList ++ rest }) target → Steps p.tables e below (T.setTop g) target := by
  obtain ⟨cq, kq, q1, q2, q3⟩ := isOf hZ eT E
  obtain ⟨v, _, ⟨T', L', k', n'⟩, -, X', ⟨L, hQ, l1, l2, l3⟩, st⟩ := X.interfaceBack hx hown (mvT hZ w1) (mvT hZ w2) wf (mvT hZ w3) (mvT hZ w5) (mvT hZ wu) (mvT hZ wh) (mvT hZ wk) hy (backOf (W := W) hM hZ w4 w6 hf hl) q1 q2 q3 (g := g) hg hsize (Steps.refl _) (argsL := argsL) (rest := rest) hlen hstack hW hdg (fun _ _ => ⟨ha, eT, hc, hs⟩)
  dsimp only [Pt.U, Pt.locs, Pt.cells, Pt.slots] at X' l1 l2 l3 st hQ
  subst l1 l2 l3
  exact ⟨v, T', L, X', hQ, fun _ k => st.trans k⟩
end Call
/-- an object of C is none of K (K a class that can be made) -/
theorem NSroot {O K : String} {kk : Nat} (w : (Cond.noSuperclass O).before a0 Z = true) (wk : (Cond.instantiable K kk).before a0 Z = true) (hn : O ≠ K) : NS Z O K := by
  obtain ⟨c, k, h1, h2, h3, -, -⟩ := Cond.noSuperclass_spec w
  obtain ⟨t, kt, g1, -⟩ := Cond.instantiable_spec wk
  have ne := ids_ne h1 g1 hn
  refine ⟨c, t, h1, g1, fun fuel => ?_⟩
  cases fuel with
  | zero => rfl
  | succ f => simp [Vm.isSubclassAux, ne, h2, h3]
theorem NSno {C S K : String} {kk : Nat} (w : (Cond.superclass C S).before a0 Z = true) (wk : (Cond.instantiable K kk).before a0 Z = true) (n : NS Z C K) (hn : C ≠ K) : ∃ c t, Z.vm.findClass C = some c ∧ Z.vm.findClass K = some t ∧ Z.vm.assignable c t = false := by
  obtain ⟨c, t, h0, g0, n3⟩ := n
  obtain ⟨p, k, kp, h1, h2, h3, h4, h5, -, h7⟩ := Cond.superclass_spec h0 w
  obtain ⟨t', k', g1, g2, g5, g7, -⟩ := Cond.instantiable_spec wk
  cases g0.symm.trans g1
  simp only [Bool.or_eq_false_iff] at g7
  have ne := ids_ne h0 g0 hn
  refine ⟨c, t, h0, g0, ?_⟩
  show Z.vm.assignableAux (255 + 1) c t = false
  simp [Vm.assignableAux, ne, h2, g2, h5, g5, g7.1, Vm.isSubclass, n3]
end Own
end Jvm.OwnKit
namespace Jvm.OwnKit
open Sem ClassFile Op Lib Jvm.Stand Jvm.Free Jvm.LawKit Jvm.RoadKit
section Arrays
variable {p : Program} {l : Launch} {e : Env} {R : Room} {s : State} {m : MethodId} {args : Array Value} {below : List Frame} {meth : Method} {c : Code} {T : State} {locs : List Loc} {cells slots : Nat} {Z : State} {h : Heap}
variable {a : Addr} {k : ClassId} {z j : Int32} {vs : List Value} {dv : Value} {i : Nat} {g : JFrame} {rest : List Value}
theorem stBv (X : Stand p l e R s m args below meth c T locs cells slots) (hx : p.tables.exec = Jvm.exec) (hZ : Z.Warmed39 s.vm) (eT : T.heap = h) (F : Arv Z h a k .byte z vs dv) {x : Int32} (h1 : ¬ j < 0) (h2 : j < z) (h3 : j.toNatClampNeg = i) (h4 : i < vs.length)
    (hg : g.method = m) (hs : g.stack = .int x :: .int j :: .ref a :: rest) (hd : decode c.code g.pc = .ok (.bastore, 1)) :
    ∃ T' h', Stand p l e R s m args below meth c T' (locs ++ [⟨a, i⟩]) cells slots ∧ T'.heap = h' ∧ Wr h h' a i (.int (nar .byte x)) ∧ Arv Z h' a k .byte z (vs.set i (.int (nar .byte x))) dv ∧ ∀ target, Steps p.tables e below (T'.setTop { g with pc := g.pc + 1, stack := rest }) target → Steps p.tables e below (T.setTop g) target := by
  obtain ⟨cl, A, q1, S, q3, H, G⟩ := F
  subst h3
  obtain ⟨T', h', X', e', W, st⟩ := stB X hx hZ eT A (inb_of S ⟨h1, h2⟩) hg hs hd
  exact ⟨T', h', X', e', W, Arv.set A q1 S q3 H G (fits_nar_byte _) W _ rfl h4, st⟩
theorem stIv (X : Stand p l e R s m args below meth c T locs cells slots) (hx : p.tables.exec = Jvm.exec) (hZ : Z.Warmed39 s.vm) (eT : T.heap = h) (F : Arv Z h a k .int z vs dv) {x : Int32} (h1 : ¬ j < 0) (h2 : j < z) (h3 : j.toNatClampNeg = i) (h4 : i < vs.length)
    (hg : g.method = m) (hs : g.stack = .int x :: .int j :: .ref a :: rest) (hd : decode c.code g.pc = .ok (.iastore, 1)) :
    ∃ T' h', Stand p l e R s m args below meth c T' (locs ++ [⟨a, i⟩]) cells slots ∧ T'.heap = h' ∧ Wr h h' a i (.int x) ∧ Arv Z h' a k .int z (vs.set i (.int x)) dv ∧ ∀ target, Steps p.tables e below (T'.setTop { g with pc := g.pc + 1, stack := rest }) target → Steps p.tables e below (T.setTop g) target := by
  obtain ⟨cl, A, q1, S, q3, H, G⟩ := F
  subst h3
  obtain ⟨T', h', X', e', W, st⟩ := stI X hx hZ eT A (inb_of S ⟨h1, h2⟩) hg hs hd
  exact ⟨T', h', X', e', W, Arv.set A q1 S q3 H G rfl W _ rfl h4, st⟩
theorem stCv (X : Stand p l e R s m args below meth c T locs cells slots) (hx : p.tables.exec = Jvm.exec) (hZ : Z.Warmed39 s.vm) (eT : T.heap = h) (F : Arv Z h a k .char z vs dv) {x : Int32} (h1 : ¬ j < 0) (h2 : j < z) (h3 : j.toNatClampNeg = i) (h4 : i < vs.length)
    (hg : g.method = m) (hs : g.stack = .int x :: .int j :: .ref a :: rest) (hd : decode c.code g.pc = .ok (.castore, 1)) :
    ∃ T' h', Stand p l e R s m args below meth c T' (locs ++ [⟨a, i⟩]) cells slots ∧ T'.heap = h' ∧ Wr h h' a i (.int (nar .char x)) ∧ Arv Z h' a k .char z (vs.set i (.int (nar .char x))) dv ∧ ∀ target, Steps p.tables e below (T'.setTop { g with pc := g.pc + 1, stack := rest }) target → Steps p.tables e below (T.setTop g) target := by
  obtain ⟨cl, A, q1, S, q3, H, G⟩ := F
  subst h3
  obtain ⟨T', h', X', e', W, st⟩ := stC X hx hZ eT A (inb_of S ⟨h1, h2⟩) hg hs hd
  exact ⟨T', h', X', e', W, Arv.set A q1 S q3 H G (fits_nar_char _) W _ rfl h4, st⟩
theorem ldBv (X : Stand p l e R s m args below meth c T locs cells slots) (hx : p.tables.exec = Jvm.exec) (hZ : Z.Warmed39 s.vm) (eT : T.heap = h) (F : Arv Z h a k .byte z vs dv) {w : Int32} (h1 : ¬ j < 0) (h2 : j < z) (h3 : j.toNatClampNeg = i) (hv : vs.getD i dv = .int w)
    (hg : g.method = m) (hs : g.stack = .int j :: .ref a :: rest) (hd : decode c.code g.pc = .ok (.baload, 1)) : ∀ target, Steps p.tables e below (T.setTop { g with pc := g.pc + 1, stack := .int w :: rest }) target → Steps p.tables e below (T.setTop g) target := by
  obtain ⟨cl, A, q1, S, q3, H, G⟩ := F
  subst h3
  exact X.baloadBytes hx (by rw [eT]; exact A.1) (State.isArrayOf_alike hZ.alike A.2.1) A.2.2 (inb_of S ⟨h1, h2⟩) (H.at (inb_of S ⟨h1, h2⟩) hv) hg hs hd
theorem ldIv (X : Stand p l e R s m args below meth c T locs cells slots) (hx : p.tables.exec = Jvm.exec) (hZ : Z.Warmed39 s.vm) (eT : T.heap = h) (F : Arv Z h a k .int z vs dv) {w : Int32} (h1 : ¬ j < 0) (h2 : j < z) (h3 : j.toNatClampNeg = i) (hv : vs.getD i dv = .int w)
    (hg : g.method = m) (hs : g.stack = .int j :: .ref a :: rest) (hd : decode c.code g.pc = .ok (.iaload, 1)) : ∀ target, Steps p.tables e below (T.setTop { g with pc := g.pc + 1, stack := .int w :: rest }) target → Steps p.tables e below (T.setTop g) target := by
  obtain ⟨cl, A, q1, S, q3, H, G⟩ := F
  subst h3
  exact X.iaload hx (by rw [eT]; exact A.1) (State.isArrayOf_alike hZ.alike A.2.1) A.2.2 (inb_of S ⟨h1, h2⟩) (H.at (inb_of S ⟨h1, h2⟩) hv) hg hs hd
theorem ldCv (X : Stand p l e R s m args below meth c T locs cells slots) (hx : p.tables.exec = Jvm.exec) (hZ : Z.Warmed39 s.vm) (eT : T.heap = h) (F : Arv Z h a k .char z vs dv) {w : Int32} (h1 : ¬ j < 0) (h2 : j < z) (h3 : j.toNatClampNeg = i) (hv : vs.getD i dv = .int w)
    (hg : g.method = m) (hs : g.stack = .int j :: .ref a :: rest) (hd : decode c.code g.pc = .ok (.caload, 1)) : ∀ target, Steps p.tables e below (T.setTop { g with pc := g.pc + 1, stack := .int w :: rest }) target → Steps p.tables e below (T.setTop g) target := by
  obtain ⟨cl, A, q1, S, q3, H, G⟩ := F
  subst h3
  exact X.caload hx (by rw [eT]; exact A.1) (State.isArrayOf_alike hZ.alike A.2.1) A.2.2 (inb_of S ⟨h1, h2⟩) (H.at (inb_of S ⟨h1, h2⟩) hv) hg hs hd
theorem stRv {ty : FieldType} {y : Addr} {C : String} (X : Stand p l e R s m args below meth c T locs cells slots) (hx : p.tables.exec = Jvm.exec) (hZ : Z.Warmed39 s.vm) (eT : T.heap = h) (F : Arv Z h a k ty z vs dv) (O : Ovr Z k C) (I : Ins Z h y C true) (hty : ty.isReference = true) (hfit : fits ty (.ref y) = true) (h1 : ¬ j < 0) (h2 : j < z) (h3 : j.toNatClampNeg = i) (h4 : i < vs.length)
    (hg : g.method = m) (hs : g.stack = .ref y :: .int j :: .ref a :: rest) (hd : decode c.code g.pc = .ok (.aastore, 1)) :
    ∃ T' h', Stand p l e R s m args below meth c T' (locs ++ [⟨a, i⟩]) cells slots ∧ T'.heap = h' ∧ Wr h h' a i (.ref y) ∧ Arv Z h' a k ty z (vs.set i (.ref y)) dv ∧ ∀ target, Steps p.tables e below (T'.setTop { g with pc := g.pc + 1, stack := rest }) target → Steps p.tables e below (T.setTop g) target := by
  obtain ⟨cl, A, q1, S, q3, H, G⟩ := F
  subst h3
  obtain ⟨T', h', X', e', W, st⟩ := stR X hx hZ eT A (inb_of S ⟨h1, h2⟩) hty (Sto.ofV A q1 O I) hg hs hd
  exact ⟨T', h', X', e', W, Arv.set A q1 S q3 H G hfit W _ rfl h4, st⟩
theorem stNv {ty : FieldType} (X : Stand p l e R s m args below meth c T locs cells slots) (hx : p.tables.exec = Jvm.exec) (hZ : Z.Warmed39 s.vm) (eT : T.heap = h) (F : Arv Z h a k ty z vs dv) (hty : ty.isReference = true) (hfit : fits ty .null = true) (h1 : ¬ j < 0) (h2 : j < z) (h3 : j.toNatClampNeg = i) (h4 : i < vs.length)
    (hg : g.method = m) (hs : g.stack = .null :: .int j :: .ref a :: rest) (hd : decode c.code g.pc = .ok (.aastore, 1)) :
    ∃ T' h', Stand p l e R s m args below meth c T' (locs ++ [⟨a, i⟩]) cells slots ∧ T'.heap = h' ∧ Wr h h' a i .null ∧ Arv Z h' a k ty z (vs.set i .null) dv ∧ ∀ target, Steps p.tables e below (T'.setTop { g with pc := g.pc + 1, stack := rest }) target → Steps p.tables e below (T.setTop g) target := by
  obtain ⟨cl, A, q1, S, q3, H, G⟩ := F
  subst h3
  obtain ⟨T', h', X', e', W, st⟩ := stR X hx hZ eT A (inb_of S ⟨h1, h2⟩) hty (Or.inl rfl) hg hs hd
  exact ⟨T', h', X', e', W, Arv.set A q1 S q3 H G hfit W _ rfl h4, st⟩
theorem lenV {ty : FieldType} (X : Stand p l e R s m args below meth c T locs cells slots) (hx : p.tables.exec = Jvm.exec) (hZ : Z.Warmed39 s.vm) (eT : T.heap = h) (F : Arv Z h a k ty z vs dv) (hg : g.method = m) (hs : g.stack = .ref a :: rest) (hd : decode c.code g.pc = .ok (.arraylength, 1)) :
    ∀ target, Steps p.tables e below (T.setTop { g with pc := g.pc + 1, stack := .int z :: rest }) target → Steps p.tables e below (T.setTop g) target := by
  obtain ⟨cl, A, q1, S, q3, H, G⟩ := F
  intro target kk
  rw [← len_of S q3] at kk
  exact X.arraylength hx (by rw [eT]; exact A.1) (State.isArrayOf_alike hZ.alike A.2.1) hg hs hd target kk
end Arrays
end Jvm.OwnKit
namespace Jvm.Pilot.@@N@@
open Jvm Jvm.ClassFile Sem Op Lib Jvm.Free Jvm.Stand Jvm.LawKit Jvm.RoadKit Bundle Jvm.OwnKit Jvm.Pilot.@@N@@.Jvm.D

def own_get (P : Int64) (s : Int32) : Int32 := (((P.toUInt64 >>> (s &&& 0x3f).toInt64.toUInt64).toInt64).toInt32 &&& (255 : Int32))
def own_sh (a d : Int32) (k : Nat) : Int32 := ((a + ((Int32.ofNat k) * d)) &&& (255 : Int32))
def own_pk (a d : Int32) : Nat → Int64
  | 0 => 0
  | s + 1 => own_pk a d s ||| ((own_sh a d s).toInt64 <<< ((Int32.ofNat (8 * s)) &&& 0x3f).toInt64)

theorem own_shr (a d : Int32) (k : Nat) : (own_sh a d k).toInt = (a + (Int32.ofNat k) * d).toInt % 256 := c_mask _ 255 8 (by decide) (by decide)
theorem own_odd {d d0 : Int32} (hd : (d0 ||| (1 : Int32)) = d) : d.toInt % 2 = 1 := by
  have e : (d0 ||| 1).toBitVec.toNat % 2 = 1 := by
    have h1 : (d0 ||| 1).toBitVec.toNat = d0.toBitVec.toNat ||| 1 := by show (d0.toBitVec ||| (1 : Int32).toBitVec).toNat = _; rw [BitVec.toNat_or]; rfl
    rw [h1]
    have h := @Nat.or_mod_two_pow d0.toBitVec.toNat 1 1
    simp only [Nat.pow_one] at h
    rw [h]
    rcases Nat.mod_two_eq_zero_or_one d0.toBitVec.toNat with p | p <;> rw [p] <;> rfl
  subst hd; rw [par, e]; rfl
theorem own_ush0 (P : Int64) : ((P.toUInt64 >>> ((0 : Int32) &&& 0x3f).toInt64.toUInt64).toInt64).toInt = P.toInt := by
  have e : (P.toUInt64 >>> ((0 : Int32) &&& 0x3f).toInt64.toUInt64) = P.toUInt64 := by
    have z : ((0 : Int32) &&& 0x3f).toInt64.toUInt64 = 0 := by decide
    rw [z]; simp
  rw [e]; rfl
theorem own_pv0 (a d : Int32) : (own_pk a d 0).toInt = 0 := rfl
theorem own_pv1 (a d : Int32) : (own_pk a d 1).toInt = (own_sh a d 0).toInt * 1 := by
  have h1 := own_pv0 a d
  have r0 := own_shr a d 0
  have sh := c_lshl (own_sh a d 0).toInt64 (Int32.ofNat (8 * 0)) 0 (by decide)
  have ty := c_i2l (own_sh a d 0)
  have rg := rng64 ((own_sh a d 0).toInt64 <<< ((Int32.ofNat (8 * 0)) &&& 0x3f).toInt64)
  have og := c_orL' (own_pk a d 0) ((own_sh a d 0).toInt64 <<< ((Int32.ofNat (8 * 0)) &&& 0x3f).toInt64) 0 (by decide) 1 (by decide) (by omega) (by omega) (by omega)
  have ro := rng64 (own_pk a d 0 ||| ((own_sh a d 0).toInt64 <<< ((Int32.ofNat (8 * 0)) &&& 0x3f).toInt64))
  show (own_pk a d 0 ||| ((own_sh a d 0).toInt64 <<< ((Int32.ofNat (8 * 0)) &&& 0x3f).toInt64)).toInt = (own_sh a d 0).toInt * 1
  omega
theorem own_pv2 (a d : Int32) : (own_pk a d 2).toInt = (own_sh a d 0).toInt * 1 + (own_sh a d 1).toInt * 256 := by
  have h1 := own_pv1 a d
  have r0 := own_shr a d 0
  have r1 := own_shr a d 1
  have sh := c_lshl (own_sh a d 1).toInt64 (Int32.ofNat (8 * 1)) 8 (by decide)
  have ty := c_i2l (own_sh a d 1)
  have rg := rng64 ((own_sh a d 1).toInt64 <<< ((Int32.ofNat (8 * 1)) &&& 0x3f).toInt64)
  have og := c_orL' (own_pk a d 1) ((own_sh a d 1).toInt64 <<< ((Int32.ofNat (8 * 1)) &&& 0x3f).toInt64) 8 (by decide) 256 (by decide) (by omega) (by omega) (by omega)
  have ro := rng64 (own_pk a d 1 ||| ((own_sh a d 1).toInt64 <<< ((Int32.ofNat (8 * 1)) &&& 0x3f).toInt64))
  show (own_pk a d 1 ||| ((own_sh a d 1).toInt64 <<< ((Int32.ofNat (8 * 1)) &&& 0x3f).toInt64)).toInt = (own_sh a d 0).toInt * 1 + (own_sh a d 1).toInt * 256
  omega
theorem own_pv3 (a d : Int32) : (own_pk a d 3).toInt = (own_sh a d 0).toInt * 1 + (own_sh a d 1).toInt * 256 + (own_sh a d 2).toInt * 65536 := by
  have h1 := own_pv2 a d
  have r0 := own_shr a d 0
  have r1 := own_shr a d 1
  have r2 := own_shr a d 2
  have sh := c_lshl (own_sh a d 2).toInt64 (Int32.ofNat (8 * 2)) 16 (by decide)
  have ty := c_i2l (own_sh a d 2)
  have rg := rng64 ((own_sh a d 2).toInt64 <<< ((Int32.ofNat (8 * 2)) &&& 0x3f).toInt64)
  have og := c_orL' (own_pk a d 2) ((own_sh a d 2).toInt64 <<< ((Int32.ofNat (8 * 2)) &&& 0x3f).toInt64) 16 (by decide) 65536 (by decide) (by omega) (by omega) (by omega)
  have ro := rng64 (own_pk a d 2 ||| ((own_sh a d 2).toInt64 <<< ((Int32.ofNat (8 * 2)) &&& 0x3f).toInt64))
  show (own_pk a d 2 ||| ((own_sh a d 2).toInt64 <<< ((Int32.ofNat (8 * 2)) &&& 0x3f).toInt64)).toInt = (own_sh a d 0).toInt * 1 + (own_sh a d 1).toInt * 256 + (own_sh a d 2).toInt * 65536
  omega
theorem own_pv4 (a d : Int32) : (own_pk a d 4).toInt = (own_sh a d 0).toInt * 1 + (own_sh a d 1).toInt * 256 + (own_sh a d 2).toInt * 65536 + (own_sh a d 3).toInt * 16777216 := by
  have h1 := own_pv3 a d
  have r0 := own_shr a d 0
  have r1 := own_shr a d 1
  have r2 := own_shr a d 2
  have r3 := own_shr a d 3
  have sh := c_lshl (own_sh a d 3).toInt64 (Int32.ofNat (8 * 3)) 24 (by decide)
  have ty := c_i2l (own_sh a d 3)
  have rg := rng64 ((own_sh a d 3).toInt64 <<< ((Int32.ofNat (8 * 3)) &&& 0x3f).toInt64)
  have og := c_orL' (own_pk a d 3) ((own_sh a d 3).toInt64 <<< ((Int32.ofNat (8 * 3)) &&& 0x3f).toInt64) 24 (by decide) 16777216 (by decide) (by omega) (by omega) (by omega)
  have ro := rng64 (own_pk a d 3 ||| ((own_sh a d 3).toInt64 <<< ((Int32.ofNat (8 * 3)) &&& 0x3f).toInt64))
  show (own_pk a d 3 ||| ((own_sh a d 3).toInt64 <<< ((Int32.ofNat (8 * 3)) &&& 0x3f).toInt64)).toInt = (own_sh a d 0).toInt * 1 + (own_sh a d 1).toInt * 256 + (own_sh a d 2).toInt * 65536 + (own_sh a d 3).toInt * 16777216
  omega
theorem own_pv5 (a d : Int32) : (own_pk a d 5).toInt = (own_sh a d 0).toInt * 1 + (own_sh a d 1).toInt * 256 + (own_sh a d 2).toInt * 65536 + (own_sh a d 3).toInt * 16777216 + (own_sh a d 4).toInt * 4294967296 := by
  have h1 := own_pv4 a d
  have r0 := own_shr a d 0
  have r1 := own_shr a d 1
  have r2 := own_shr a d 2
  have r3 := own_shr a d 3
  have r4 := own_shr a d 4
  have sh := c_lshl (own_sh a d 4).toInt64 (Int32.ofNat (8 * 4)) 32 (by decide)
  have ty := c_i2l (own_sh a d 4)
  have rg := rng64 ((own_sh a d 4).toInt64 <<< ((Int32.ofNat (8 * 4)) &&& 0x3f).toInt64)
  have og := c_orL' (own_pk a d 4) ((own_sh a d 4).toInt64 <<< ((Int32.ofNat (8 * 4)) &&& 0x3f).toInt64) 32 (by decide) 4294967296 (by decide) (by omega) (by omega) (by omega)
  have ro := rng64 (own_pk a d 4 ||| ((own_sh a d 4).toInt64 <<< ((Int32.ofNat (8 * 4)) &&& 0x3f).toInt64))
  show (own_pk a d 4 ||| ((own_sh a d 4).toInt64 <<< ((Int32.ofNat (8 * 4)) &&& 0x3f).toInt64)).toInt = (own_sh a d 0).toInt * 1 + (own_sh a d 1).toInt * 256 + (own_sh a d 2).toInt * 65536 + (own_sh a d 3).toInt * 16777216 + (own_sh a d 4).toInt * 4294967296
  omega
theorem own_pv6 (a d : Int32) : (own_pk a d 6).toInt = (own_sh a d 0).toInt * 1 + (own_sh a d 1).toInt * 256 + (own_sh a d 2).toInt * 65536 + (own_sh a d 3).toInt * 16777216 + (own_sh a d 4).toInt * 4294967296 + (own_sh a d 5).toInt * 1099511627776 := by
  have h1 := own_pv5 a d
  have r0 := own_shr a d 0
  have r1 := own_shr a d 1
  have r2 := own_shr a d 2
  have r3 := own_shr a d 3
  have r4 := own_shr a d 4
  have r5 := own_shr a d 5
  have sh := c_lshl (own_sh a d 5).toInt64 (Int32.ofNat (8 * 5)) 40 (by decide)
  have ty := c_i2l (own_sh a d 5)
  have rg := rng64 ((own_sh a d 5).toInt64 <<< ((Int32.ofNat (8 * 5)) &&& 0x3f).toInt64)
  have og := c_orL' (own_pk a d 5) ((own_sh a d 5).toInt64 <<< ((Int32.ofNat (8 * 5)) &&& 0x3f).toInt64) 40 (by decide) 1099511627776 (by decide) (by omega) (by omega) (by omega)
  have ro := rng64 (own_pk a d 5 ||| ((own_sh a d 5).toInt64 <<< ((Int32.ofNat (8 * 5)) &&& 0x3f).toInt64))
  show (own_pk a d 5 ||| ((own_sh a d 5).toInt64 <<< ((Int32.ofNat (8 * 5)) &&& 0x3f).toInt64)).toInt = (own_sh a d 0).toInt * 1 + (own_sh a d 1).toInt * 256 + (own_sh a d 2).toInt * 65536 + (own_sh a d 3).toInt * 16777216 + (own_sh a d 4).toInt * 4294967296 + (own_sh a d 5).toInt * 1099511627776
  omega
theorem own_pv7 (a d : Int32) : (own_pk a d 7).toInt = (own_sh a d 0).toInt * 1 + (own_sh a d 1).toInt * 256 + (own_sh a d 2).toInt * 65536 + (own_sh a d 3).toInt * 16777216 + (own_sh a d 4).toInt * 4294967296 + (own_sh a d 5).toInt * 1099511627776 + (own_sh a d 6).toInt * 281474976710656 := by
  have h1 := own_pv6 a d
  have r0 := own_shr a d 0
  have r1 := own_shr a d 1
  have r2 := own_shr a d 2
  have r3 := own_shr a d 3
  have r4 := own_shr a d 4
  have r5 := own_shr a d 5
  have r6 := own_shr a d 6
  have sh := c_lshl (own_sh a d 6).toInt64 (Int32.ofNat (8 * 6)) 48 (by decide)
  have ty := c_i2l (own_sh a d 6)
  have rg := rng64 ((own_sh a d 6).toInt64 <<< ((Int32.ofNat (8 * 6)) &&& 0x3f).toInt64)
  have og := c_orL' (own_pk a d 6) ((own_sh a d 6).toInt64 <<< ((Int32.ofNat (8 * 6)) &&& 0x3f).toInt64) 48 (by decide) 281474976710656 (by decide) (by omega) (by omega) (by omega)
  have ro := rng64 (own_pk a d 6 ||| ((own_sh a d 6).toInt64 <<< ((Int32.ofNat (8 * 6)) &&& 0x3f).toInt64))
  show (own_pk a d 6 ||| ((own_sh a d 6).toInt64 <<< ((Int32.ofNat (8 * 6)) &&& 0x3f).toInt64)).toInt = (own_sh a d 0).toInt * 1 + (own_sh a d 1).toInt * 256 + (own_sh a d 2).toInt * 65536 + (own_sh a d 3).toInt * 16777216 + (own_sh a d 4).toInt * 4294967296 + (own_sh a d 5).toInt * 1099511627776 + (own_sh a d 6).toInt * 281474976710656
  omega
theorem own_pv8 (a d : Int32) : ((own_pk a d 8).toInt - ((own_sh a d 0).toInt * 1 + (own_sh a d 1).toInt * 256 + (own_sh a d 2).toInt * 65536 + (own_sh a d 3).toInt * 16777216 + (own_sh a d 4).toInt * 4294967296 + (own_sh a d 5).toInt * 1099511627776 + (own_sh a d 6).toInt * 281474976710656 + (own_sh a d 7).toInt * 72057594037927936)) % 18446744073709551616 = 0 := by
  have h1 := own_pv7 a d
  have r0 := own_shr a d 0
  have r1 := own_shr a d 1
  have r2 := own_shr a d 2
  have r3 := own_shr a d 3
  have r4 := own_shr a d 4
  have r5 := own_shr a d 5
  have r6 := own_shr a d 6
  have r7 := own_shr a d 7
  have sh := c_lshl (own_sh a d 7).toInt64 (Int32.ofNat (8 * 7)) 56 (by decide)
  have ty := c_i2l (own_sh a d 7)
  have rg := rng64 ((own_sh a d 7).toInt64 <<< ((Int32.ofNat (8 * 7)) &&& 0x3f).toInt64)
  have og := c_orL' (own_pk a d 7) ((own_sh a d 7).toInt64 <<< ((Int32.ofNat (8 * 7)) &&& 0x3f).toInt64) 56 (by decide) 72057594037927936 (by decide) (by omega) (by omega) (by omega)
  have ro := rng64 (own_pk a d 7 ||| ((own_sh a d 7).toInt64 <<< ((Int32.ofNat (8 * 7)) &&& 0x3f).toInt64))
  show ((own_pk a d 7 ||| ((own_sh a d 7).toInt64 <<< ((Int32.ofNat (8 * 7)) &&& 0x3f).toInt64)).toInt - ((own_sh a d 0).toInt * 1 + (own_sh a d 1).toInt * 256 + (own_sh a d 2).toInt * 65536 + (own_sh a d 3).toInt * 16777216 + (own_sh a d 4).toInt * 4294967296 + (own_sh a d 5).toInt * 1099511627776 + (own_sh a d 6).toInt * 281474976710656 + (own_sh a d 7).toInt * 72057594037927936)) % 18446744073709551616 = 0
  omega
theorem own_at0_1 (a d : Int32) : own_get (own_pk a d 1) (0 : Int32) = own_sh a d 0 := by
  have h1 := own_pv1 a d
  have r0 := own_shr a d 0
  have rp := rng64 (own_pk a d 1)
  have u : (((own_pk a d 1).toUInt64 >>> ((0 : Int32) &&& 0x3f).toInt64.toUInt64).toInt64).toInt = (own_pk a d 1).toInt := own_ush0 _
  have l := c_l2i (((own_pk a d 1).toUInt64 >>> ((0 : Int32) &&& 0x3f).toInt64.toUInt64).toInt64)
  have mk : ((((own_pk a d 1).toUInt64 >>> ((0 : Int32) &&& 0x3f).toInt64.toUInt64).toInt64).toInt32 &&& (255 : Int32)).toInt = (((own_pk a d 1).toUInt64 >>> ((0 : Int32) &&& 0x3f).toInt64.toUInt64).toInt64).toInt32.toInt % (2 ^ 8 : Nat) := c_mask _ 255 8 (by decide) (by decide)
  apply Int32.toInt_inj.mp
  show ((((own_pk a d 1).toUInt64 >>> ((0 : Int32) &&& 0x3f).toInt64.toUInt64).toInt64).toInt32 &&& (255 : Int32)).toInt = _
  omega
theorem own_at0_2 (a d : Int32) : own_get (own_pk a d 2) (0 : Int32) = own_sh a d 0 := by
  have h1 := own_pv2 a d
  have r0 := own_shr a d 0
  have r1 := own_shr a d 1
  have rp := rng64 (own_pk a d 2)
  have u : (((own_pk a d 2).toUInt64 >>> ((0 : Int32) &&& 0x3f).toInt64.toUInt64).toInt64).toInt = (own_pk a d 2).toInt := own_ush0 _
  have l := c_l2i (((own_pk a d 2).toUInt64 >>> ((0 : Int32) &&& 0x3f).toInt64.toUInt64).toInt64)
  have mk : ((((own_pk a d 2).toUInt64 >>> ((0 : Int32) &&& 0x3f).toInt64.toUInt64).toInt64).toInt32 &&& (255 : Int32)).toInt = (((own_pk a d 2).toUInt64 >>> ((0 : Int32) &&& 0x3f).toInt64.toUInt64).toInt64).toInt32.toInt % (2 ^ 8 : Nat) := c_mask _ 255 8 (by decide) (by decide)
  apply Int32.toInt_inj.mp
  show ((((own_pk a d 2).toUInt64 >>> ((0 : Int32) &&& 0x3f).toInt64.toUInt64).toInt64).toInt32 &&& (255 : Int32)).toInt = _
  omega
theorem own_at1_2 (a d : Int32) : own_get (own_pk a d 2) (8 : Int32) = own_sh a d 1 := by
  have h1 := own_pv2 a d
  have r0 := own_shr a d 0
  have r1 := own_shr a d 1
  have rp := rng64 (own_pk a d 2)
  have u := c_lushr (own_pk a d 2) (8 : Int32) 8 (by decide) (by decide)
  have l := c_l2i (((own_pk a d 2).toUInt64 >>> ((8 : Int32) &&& 0x3f).toInt64.toUInt64).toInt64)
  have mk : ((((own_pk a d 2).toUInt64 >>> ((8 : Int32) &&& 0x3f).toInt64.toUInt64).toInt64).toInt32 &&& (255 : Int32)).toInt = (((own_pk a d 2).toUInt64 >>> ((8 : Int32) &&& 0x3f).toInt64.toUInt64).toInt64).toInt32.toInt % (2 ^ 8 : Nat) := c_mask _ 255 8 (by decide) (by decide)
  apply Int32.toInt_inj.mp
  show ((((own_pk a d 2).toUInt64 >>> ((8 : Int32) &&& 0x3f).toInt64.toUInt64).toInt64).toInt32 &&& (255 : Int32)).toInt = _
  omega
theorem own_at0_3 (a d : Int32) : own_get (own_pk a d 3) (0 : Int32) = own_sh a d 0 := by
  have h1 := own_pv3 a d
  have r0 := own_shr a d 0
  have r1 := own_shr a d 1
  have r2 := own_shr a d 2
  have rp := rng64 (own_pk a d 3)
  have u : (((own_pk a d 3).toUInt64 >>> ((0 : Int32) &&& 0x3f).toInt64.toUInt64).toInt64).toInt = (own_pk a d 3).toInt := own_ush0 _
  have l := c_l2i (((own_pk a d 3).toUInt64 >>> ((0 : Int32) &&& 0x3f).toInt64.toUInt64).toInt64)
  have mk : ((((own_pk a d 3).toUInt64 >>> ((0 : Int32) &&& 0x3f).toInt64.toUInt64).toInt64).toInt32 &&& (255 : Int32)).toInt = (((own_pk a d 3).toUInt64 >>> ((0 : Int32) &&& 0x3f).toInt64.toUInt64).toInt64).toInt32.toInt % (2 ^ 8 : Nat) := c_mask _ 255 8 (by decide) (by decide)
  apply Int32.toInt_inj.mp
  show ((((own_pk a d 3).toUInt64 >>> ((0 : Int32) &&& 0x3f).toInt64.toUInt64).toInt64).toInt32 &&& (255 : Int32)).toInt = _
  omega
theorem own_at1_3 (a d : Int32) : own_get (own_pk a d 3) (8 : Int32) = own_sh a d 1 := by
  have h1 := own_pv3 a d
  have r0 := own_shr a d 0
  have r1 := own_shr a d 1
  have r2 := own_shr a d 2
  have rp := rng64 (own_pk a d 3)
  have u := c_lushr (own_pk a d 3) (8 : Int32) 8 (by decide) (by decide)
  have l := c_l2i (((own_pk a d 3).toUInt64 >>> ((8 : Int32) &&& 0x3f).toInt64.toUInt64).toInt64)
  have mk : ((((own_pk a d 3).toUInt64 >>> ((8 : Int32) &&& 0x3f).toInt64.toUInt64).toInt64).toInt32 &&& (255 : Int32)).toInt = (((own_pk a d 3).toUInt64 >>> ((8 : Int32) &&& 0x3f).toInt64.toUInt64).toInt64).toInt32.toInt % (2 ^ 8 : Nat) := c_mask _ 255 8 (by decide) (by decide)
  apply Int32.toInt_inj.mp
  show ((((own_pk a d 3).toUInt64 >>> ((8 : Int32) &&& 0x3f).toInt64.toUInt64).toInt64).toInt32 &&& (255 : Int32)).toInt = _
  omega
theorem own_at2_3 (a d : Int32) : own_get (own_pk a d 3) (16 : Int32) = own_sh a d 2 := by
  have h1 := own_pv3 a d
  have r0 := own_shr a d 0
  have r1 := own_shr a d 1
  have r2 := own_shr a d 2
  have rp := rng64 (own_pk a d 3)
  have u := c_lushr (own_pk a d 3) (16 : Int32) 16 (by decide) (by decide)
  have l := c_l2i (((own_pk a d 3).toUInt64 >>> ((16 : Int32) &&& 0x3f).toInt64.toUInt64).toInt64)
  have mk : ((((own_pk a d 3).toUInt64 >>> ((16 : Int32) &&& 0x3f).toInt64.toUInt64).toInt64).toInt32 &&& (255 : Int32)).toInt = (((own_pk a d 3).toUInt64 >>> ((16 : Int32) &&& 0x3f).toInt64.toUInt64).toInt64).toInt32.toInt % (2 ^ 8 : Nat) := c_mask _ 255 8 (by decide) (by decide)
  apply Int32.toInt_inj.mp
  show ((((own_pk a d 3).toUInt64 >>> ((16 : Int32) &&& 0x3f).toInt64.toUInt64).toInt64).toInt32 &&& (255 : Int32)).toInt = _
  omega
theorem own_at0_4 (a d : Int32) : own_get (own_pk a d 4) (0 : Int32) = own_sh a d 0 := by
  have h1 := own_pv4 a d
  have r0 := own_shr a d 0
  have r1 := own_shr a d 1
  have r2 := own_shr a d 2
  have r3 := own_shr a d 3
  have rp := rng64 (own_pk a d 4)
  have u : (((own_pk a d 4).toUInt64 >>> ((0 : Int32) &&& 0x3f).toInt64.toUInt64).toInt64).toInt = (own_pk a d 4).toInt := own_ush0 _
  have l := c_l2i (((own_pk a d 4).toUInt64 >>> ((0 : Int32) &&& 0x3f).toInt64.toUInt64).toInt64)
  have mk : ((((own_pk a d 4).toUInt64 >>> ((0 : Int32) &&& 0x3f).toInt64.toUInt64).toInt64).toInt32 &&& (255 : Int32)).toInt = (((own_pk a d 4).toUInt64 >>> ((0 : Int32) &&& 0x3f).toInt64.toUInt64).toInt64).toInt32.toInt % (2 ^ 8 : Nat) := c_mask _ 255 8 (by decide) (by decide)
  apply Int32.toInt_inj.mp
  show ((((own_pk a d 4).toUInt64 >>> ((0 : Int32) &&& 0x3f).toInt64.toUInt64).toInt64).toInt32 &&& (255 : Int32)).toInt = _
  omega
theorem own_at1_4 (a d : Int32) : own_get (own_pk a d 4) (8 : Int32) = own_sh a d 1 := by
  have h1 := own_pv4 a d
  have r0 := own_shr a d 0
  have r1 := own_shr a d 1
  have r2 := own_shr a d 2
  have r3 := own_shr a d 3
  have rp := rng64 (own_pk a d 4)
  have u := c_lushr (own_pk a d 4) (8 : Int32) 8 (by decide) (by decide)
  have l := c_l2i (((own_pk a d 4).toUInt64 >>> ((8 : Int32) &&& 0x3f).toInt64.toUInt64).toInt64)
  have mk : ((((own_pk a d 4).toUInt64 >>> ((8 : Int32) &&& 0x3f).toInt64.toUInt64).toInt64).toInt32 &&& (255 : Int32)).toInt = (((own_pk a d 4).toUInt64 >>> ((8 : Int32) &&& 0x3f).toInt64.toUInt64).toInt64).toInt32.toInt % (2 ^ 8 : Nat) := c_mask _ 255 8 (by decide) (by decide)
  apply Int32.toInt_inj.mp
  show ((((own_pk a d 4).toUInt64 >>> ((8 : Int32) &&& 0x3f).toInt64.toUInt64).toInt64).toInt32 &&& (255 : Int32)).toInt = _
  omega
theorem own_at2_4 (a d : Int32) : own_get (own_pk a d 4) (16 : Int32) = own_sh a d 2 := by
  have h1 := own_pv4 a d
  have r0 := own_shr a d 0
  have r1 := own_shr a d 1
  have r2 := own_shr a d 2
  have r3 := own_shr a d 3
  have rp := rng64 (own_pk a d 4)
  have u := c_lushr (own_pk a d 4) (16 : Int32) 16 (by decide) (by decide)
  have l := c_l2i (((own_pk a d 4).toUInt64 >>> ((16 : Int32) &&& 0x3f).toInt64.toUInt64).toInt64)
  have mk : ((((own_pk a d 4).toUInt64 >>> ((16 : Int32) &&& 0x3f).toInt64.toUInt64).toInt64).toInt32 &&& (255 : Int32)).toInt = (((own_pk a d 4).toUInt64 >>> ((16 : Int32) &&& 0x3f).toInt64.toUInt64).toInt64).toInt32.toInt % (2 ^ 8 : Nat) := c_mask _ 255 8 (by decide) (by decide)
  apply Int32.toInt_inj.mp
  show ((((own_pk a d 4).toUInt64 >>> ((16 : Int32) &&& 0x3f).toInt64.toUInt64).toInt64).toInt32 &&& (255 : Int32)).toInt = _
  omega
theorem own_at3_4 (a d : Int32) : own_get (own_pk a d 4) (24 : Int32) = own_sh a d 3 := by
  have h1 := own_pv4 a d
  have r0 := own_shr a d 0
  have r1 := own_shr a d 1
  have r2 := own_shr a d 2
  have r3 := own_shr a d 3
  have rp := rng64 (own_pk a d 4)
  have u := c_lushr (own_pk a d 4) (24 : Int32) 24 (by decide) (by decide)
  have l := c_l2i (((own_pk a d 4).toUInt64 >>> ((24 : Int32) &&& 0x3f).toInt64.toUInt64).toInt64)
  have mk : ((((own_pk a d 4).toUInt64 >>> ((24 : Int32) &&& 0x3f).toInt64.toUInt64).toInt64).toInt32 &&& (255 : Int32)).toInt = (((own_pk a d 4).toUInt64 >>> ((24 : Int32) &&& 0x3f).toInt64.toUInt64).toInt64).toInt32.toInt % (2 ^ 8 : Nat) := c_mask _ 255 8 (by decide) (by decide)
  apply Int32.toInt_inj.mp
  show ((((own_pk a d 4).toUInt64 >>> ((24 : Int32) &&& 0x3f).toInt64.toUInt64).toInt64).toInt32 &&& (255 : Int32)).toInt = _
  omega
theorem own_at0_5 (a d : Int32) : own_get (own_pk a d 5) (0 : Int32) = own_sh a d 0 := by
  have h1 := own_pv5 a d
  have r0 := own_shr a d 0
  have r1 := own_shr a d 1
  have r2 := own_shr a d 2
  have r3 := own_shr a d 3
  have r4 := own_shr a d 4
  have rp := rng64 (own_pk a d 5)
  have u : (((own_pk a d 5).toUInt64 >>> ((0 : Int32) &&& 0x3f).toInt64.toUInt64).toInt64).toInt = (own_pk a d 5).toInt := own_ush0 _
  have l := c_l2i (((own_pk a d 5).toUInt64 >>> ((0 : Int32) &&& 0x3f).toInt64.toUInt64).toInt64)
  have mk : ((((own_pk a d 5).toUInt64 >>> ((0 : Int32) &&& 0x3f).toInt64.toUInt64).toInt64).toInt32 &&& (255 : Int32)).toInt = (((own_pk a d 5).toUInt64 >>> ((0 : Int32) &&& 0x3f).toInt64.toUInt64).toInt64).toInt32.toInt % (2 ^ 8 : Nat) := c_mask _ 255 8 (by decide) (by decide)
  apply Int32.toInt_inj.mp
  show ((((own_pk a d 5).toUInt64 >>> ((0 : Int32) &&& 0x3f).toInt64.toUInt64).toInt64).toInt32 &&& (255 : Int32)).toInt = _
  omega
theorem own_at1_5 (a d : Int32) : own_get (own_pk a d 5) (8 : Int32) = own_sh a d 1 := by
  have h1 := own_pv5 a d
  have r0 := own_shr a d 0
  have r1 := own_shr a d 1
  have r2 := own_shr a d 2
  have r3 := own_shr a d 3
  have r4 := own_shr a d 4
  have rp := rng64 (own_pk a d 5)
  have u := c_lushr (own_pk a d 5) (8 : Int32) 8 (by decide) (by decide)
  have l := c_l2i (((own_pk a d 5).toUInt64 >>> ((8 : Int32) &&& 0x3f).toInt64.toUInt64).toInt64)
  have mk : ((((own_pk a d 5).toUInt64 >>> ((8 : Int32) &&& 0x3f).toInt64.toUInt64).toInt64).toInt32 &&& (255 : Int32)).toInt = (((own_pk a d 5).toUInt64 >>> ((8 : Int32) &&& 0x3f).toInt64.toUInt64).toInt64).toInt32.toInt % (2 ^ 8 : Nat) := c_mask _ 255 8 (by decide) (by decide)
  apply Int32.toInt_inj.mp
  show ((((own_pk a d 5).toUInt64 >>> ((8 : Int32) &&& 0x3f).toInt64.toUInt64).toInt64).toInt32 &&& (255 : Int32)).toInt = _
  omega
theorem own_at2_5 (a d : Int32) : own_get (own_pk a d 5) (16 : Int32) = own_sh a d 2 := by
  have h1 := own_pv5 a d
  have r0 := own_shr a d 0
  have r1 := own_shr a d 1
  have r2 := own_shr a d 2
  have r3 := own_shr a d 3
  have r4 := own_shr a d 4
  have rp := rng64 (own_pk a d 5)
  have u := c_lushr (own_pk a d 5) (16 : Int32) 16 (by decide) (by decide)
  have l := c_l2i (((own_pk a d 5).toUInt64 >>> ((16 : Int32) &&& 0x3f).toInt64.toUInt64).toInt64)
  have mk : ((((own_pk a d 5).toUInt64 >>> ((16 : Int32) &&& 0x3f).toInt64.toUInt64).toInt64).toInt32 &&& (255 : Int32)).toInt = (((own_pk a d 5).toUInt64 >>> ((16 : Int32) &&& 0x3f).toInt64.toUInt64).toInt64).toInt32.toInt % (2 ^ 8 : Nat) := c_mask _ 255 8 (by decide) (by decide)
  apply Int32.toInt_inj.mp
  show ((((own_pk a d 5).toUInt64 >>> ((16 : Int32) &&& 0x3f).toInt64.toUInt64).toInt64).toInt32 &&& (255 : Int32)).toInt = _
  omega
theorem own_at3_5 (a d : Int32) : own_get (own_pk a d 5) (24 : Int32) = own_sh a d 3 := by
  have h1 := own_pv5 a d
  have r0 := own_shr a d 0
  have r1 := own_shr a d 1
  have r2 := own_shr a d 2
  have r3 := own_shr a d 3
  have r4 := own_shr a d 4
  have rp := rng64 (own_pk a d 5)
  have u := c_lushr (own_pk a d 5) (24 : Int32) 24 (by decide) (by decide)
  have l := c_l2i (((own_pk a d 5).toUInt64 >>> ((24 : Int32) &&& 0x3f).toInt64.toUInt64).toInt64)
  have mk : ((((own_pk a d 5).toUInt64 >>> ((24 : Int32) &&& 0x3f).toInt64.toUInt64).toInt64).toInt32 &&& (255 : Int32)).toInt = (((own_pk a d 5).toUInt64 >>> ((24 : Int32) &&& 0x3f).toInt64.toUInt64).toInt64).toInt32.toInt % (2 ^ 8 : Nat) := c_mask _ 255 8 (by decide) (by decide)
  apply Int32.toInt_inj.mp
  show ((((own_pk a d 5).toUInt64 >>> ((24 : Int32) &&& 0x3f).toInt64.toUInt64).toInt64).toInt32 &&& (255 : Int32)).toInt = _
  omega
theorem own_at4_5 (a d : Int32) : own_get (own_pk a d 5) (32 : Int32) = own_sh a d 4 := by
  have h1 := own_pv5 a d
  have r0 := own_shr a d 0
  have r1 := own_shr a d 1
  have r2 := own_shr a d 2
  have r3 := own_shr a d 3
  have r4 := own_shr a d 4
  have rp := rng64 (own_pk a d 5)
  have u := c_lushr (own_pk a d 5) (32 : Int32) 32 (by decide) (by decide)
  have l := c_l2i (((own_pk a d 5).toUInt64 >>> ((32 : Int32) &&& 0x3f).toInt64.toUInt64).toInt64)
  have mk : ((((own_pk a d 5).toUInt64 >>> ((32 : Int32) &&& 0x3f).toInt64.toUInt64).toInt64).toInt32 &&& (255 : Int32)).toInt = (((own_pk a d 5).toUInt64 >>> ((32 : Int32) &&& 0x3f).toInt64.toUInt64).toInt64).toInt32.toInt % (2 ^ 8 : Nat) := c_mask _ 255 8 (by decide) (by decide)
  apply Int32.toInt_inj.mp
  show ((((own_pk a d 5).toUInt64 >>> ((32 : Int32) &&& 0x3f).toInt64.toUInt64).toInt64).toInt32 &&& (255 : Int32)).toInt = _
  omega
theorem own_at0_6 (a d : Int32) : own_get (own_pk a d 6) (0 : Int32) = own_sh a d 0 := by
  have h1 := own_pv6 a d
  have r0 := own_shr a d 0
  have r1 := own_shr a d 1
  have r2 := own_shr a d 2
  have r3 := own_shr a d 3
  have r4 := own_shr a d 4
  have r5 := own_shr a d 5
  have rp := rng64 (own_pk a d 6)
  have u : (((own_pk a d 6).toUInt64 >>> ((0 : Int32) &&& 0x3f).toInt64.toUInt64).toInt64).toInt = (own_pk a d 6).toInt := own_ush0 _
  have l := c_l2i (((own_pk a d 6).toUInt64 >>> ((0 : Int32) &&& 0x3f).toInt64.toUInt64).toInt64)
  have mk : ((((own_pk a d 6).toUInt64 >>> ((0 : Int32) &&& 0x3f).toInt64.toUInt64).toInt64).toInt32 &&& (255 : Int32)).toInt = (((own_pk a d 6).toUInt64 >>> ((0 : Int32) &&& 0x3f).toInt64.toUInt64).toInt64).toInt32.toInt % (2 ^ 8 : Nat) := c_mask _ 255 8 (by decide) (by decide)
  apply Int32.toInt_inj.mp
  show ((((own_pk a d 6).toUInt64 >>> ((0 : Int32) &&& 0x3f).toInt64.toUInt64).toInt64).toInt32 &&& (255 : Int32)).toInt = _
  omega
theorem own_at1_6 (a d : Int32) : own_get (own_pk a d 6) (8 : Int32) = own_sh a d 1 := by
  have h1 := own_pv6 a d
  have r0 := own_shr a d 0
  have r1 := own_shr a d 1
  have r2 := own_shr a d 2
  have r3 := own_shr a d 3
  have r4 := own_shr a d 4
  have r5 := own_shr a d 5
  have rp := rng64 (own_pk a d 6)
  have u := c_lushr (own_pk a d 6) (8 : Int32) 8 (by decide) (by decide)
  have l := c_l2i (((own_pk a d 6).toUInt64 >>> ((8 : Int32) &&& 0x3f).toInt64.toUInt64).toInt64)
  have mk : ((((own_pk a d 6).toUInt64 >>> ((8 : Int32) &&& 0x3f).toInt64.toUInt64).toInt64).toInt32 &&& (255 : Int32)).toInt = (((own_pk a d 6).toUInt64 >>> ((8 : Int32) &&& 0x3f).toInt64.toUInt64).toInt64).toInt32.toInt % (2 ^ 8 : Nat) := c_mask _ 255 8 (by decide) (by decide)
  apply Int32.toInt_inj.mp
  show ((((own_pk a d 6).toUInt64 >>> ((8 : Int32) &&& 0x3f).toInt64.toUInt64).toInt64).toInt32 &&& (255 : Int32)).toInt = _
  omega
theorem own_at2_6 (a d : Int32) : own_get (own_pk a d 6) (16 : Int32) = own_sh a d 2 := by
  have h1 := own_pv6 a d
  have r0 := own_shr a d 0
  have r1 := own_shr a d 1
  have r2 := own_shr a d 2
  have r3 := own_shr a d 3
  have r4 := own_shr a d 4
  have r5 := own_shr a d 5
  have rp := rng64 (own_pk a d 6)
  have u := c_lushr (own_pk a d 6) (16 : Int32) 16 (by decide) (by decide)
  have l := c_l2i (((own_pk a d 6).toUInt64 >>> ((16 : Int32) &&& 0x3f).toInt64.toUInt64).toInt64)
  have mk : ((((own_pk a d 6).toUInt64 >>> ((16 : Int32) &&& 0x3f).toInt64.toUInt64).toInt64).toInt32 &&& (255 : Int32)).toInt = (((own_pk a d 6).toUInt64 >>> ((16 : Int32) &&& 0x3f).toInt64.toUInt64).toInt64).toInt32.toInt % (2 ^ 8 : Nat) := c_mask _ 255 8 (by decide) (by decide)
  apply Int32.toInt_inj.mp
  show ((((own_pk a d 6).toUInt64 >>> ((16 : Int32) &&& 0x3f).toInt64.toUInt64).toInt64).toInt32 &&& (255 : Int32)).toInt = _
  omega
theorem own_at3_6 (a d : Int32) : own_get (own_pk a d 6) (24 : Int32) = own_sh a d 3 := by
  have h1 := own_pv6 a d
  have r0 := own_shr a d 0
  have r1 := own_shr a d 1
  have r2 := own_shr a d 2
  have r3 := own_shr a d 3
  have r4 := own_shr a d 4
  have r5 := own_shr a d 5
  have rp := rng64 (own_pk a d 6)
  have u := c_lushr (own_pk a d 6) (24 : Int32) 24 (by decide) (by decide)
  have l := c_l2i (((own_pk a d 6).toUInt64 >>> ((24 : Int32) &&& 0x3f).toInt64.toUInt64).toInt64)
  have mk : ((((own_pk a d 6).toUInt64 >>> ((24 : Int32) &&& 0x3f).toInt64.toUInt64).toInt64).toInt32 &&& (255 : Int32)).toInt = (((own_pk a d 6).toUInt64 >>> ((24 : Int32) &&& 0x3f).toInt64.toUInt64).toInt64).toInt32.toInt % (2 ^ 8 : Nat) := c_mask _ 255 8 (by decide) (by decide)
  apply Int32.toInt_inj.mp
  show ((((own_pk a d 6).toUInt64 >>> ((24 : Int32) &&& 0x3f).toInt64.toUInt64).toInt64).toInt32 &&& (255 : Int32)).toInt = _
  omega
theorem own_at4_6 (a d : Int32) : own_get (own_pk a d 6) (32 : Int32) = own_sh a d 4 := by
  have h1 := own_pv6 a d
  have r0 := own_shr a d 0
  have r1 := own_shr a d 1
  have r2 := own_shr a d 2
  have r3 := own_shr a d 3
  have r4 := own_shr a d 4
  have r5 := own_shr a d 5
  have rp := rng64 (own_pk a d 6)
  have u := c_lushr (own_pk a d 6) (32 : Int32) 32 (by decide) (by decide)
  have l := c_l2i (((own_pk a d 6).toUInt64 >>> ((32 : Int32) &&& 0x3f).toInt64.toUInt64).toInt64)
  have mk : ((((own_pk a d 6).toUInt64 >>> ((32 : Int32) &&& 0x3f).toInt64.toUInt64).toInt64).toInt32 &&& (255 : Int32)).toInt = (((own_pk a d 6).toUInt64 >>> ((32 : Int32) &&& 0x3f).toInt64.toUInt64).toInt64).toInt32.toInt % (2 ^ 8 : Nat) := c_mask _ 255 8 (by decide) (by decide)
  apply Int32.toInt_inj.mp
  show ((((own_pk a d 6).toUInt64 >>> ((32 : Int32) &&& 0x3f).toInt64.toUInt64).toInt64).toInt32 &&& (255 : Int32)).toInt = _
  omega
theorem own_at5_6 (a d : Int32) : own_get (own_pk a d 6) (40 : Int32) = own_sh a d 5 := by
  have h1 := own_pv6 a d
  have r0 := own_shr a d 0
  have r1 := own_shr a d 1
  have r2 := own_shr a d 2
  have r3 := own_shr a d 3
  have r4 := own_shr a d 4
  have r5 := own_shr a d 5
  have rp := rng64 (own_pk a d 6)
  have u := c_lushr (own_pk a d 6) (40 : Int32) 40 (by decide) (by decide)
  have l := c_l2i (((own_pk a d 6).toUInt64 >>> ((40 : Int32) &&& 0x3f).toInt64.toUInt64).toInt64)
  have mk : ((((own_pk a d 6).toUInt64 >>> ((40 : Int32) &&& 0x3f).toInt64.toUInt64).toInt64).toInt32 &&& (255 : Int32)).toInt = (((own_pk a d 6).toUInt64 >>> ((40 : Int32) &&& 0x3f).toInt64.toUInt64).toInt64).toInt32.toInt % (2 ^ 8 : Nat) := c_mask _ 255 8 (by decide) (by decide)
  apply Int32.toInt_inj.mp
  show ((((own_pk a d 6).toUInt64 >>> ((40 : Int32) &&& 0x3f).toInt64.toUInt64).toInt64).toInt32 &&& (255 : Int32)).toInt = _
  omega
theorem own_at0_7 (a d : Int32) : own_get (own_pk a d 7) (0 : Int32) = own_sh a d 0 := by
  have h1 := own_pv7 a d
  have r0 := own_shr a d 0
  have r1 := own_shr a d 1
  have r2 := own_shr a d 2
  have r3 := own_shr a d 3
  have r4 := own_shr a d 4
  have r5 := own_shr a d 5
  have r6 := own_shr a d 6
  have rp := rng64 (own_pk a d 7)
  have u : (((own_pk a d 7).toUInt64 >>> ((0 : Int32) &&& 0x3f).toInt64.toUInt64).toInt64).toInt = (own_pk a d 7).toInt := own_ush0 _
  have l := c_l2i (((own_pk a d 7).toUInt64 >>> ((0 : Int32) &&& 0x3f).toInt64.toUInt64).toInt64)
  have mk : ((((own_pk a d 7).toUInt64 >>> ((0 : Int32) &&& 0x3f).toInt64.toUInt64).toInt64).toInt32 &&& (255 : Int32)).toInt = (((own_pk a d 7).toUInt64 >>> ((0 : Int32) &&& 0x3f).toInt64.toUInt64).toInt64).toInt32.toInt % (2 ^ 8 : Nat) := c_mask _ 255 8 (by decide) (by decide)
  apply Int32.toInt_inj.mp
  show ((((own_pk a d 7).toUInt64 >>> ((0 : Int32) &&& 0x3f).toInt64.toUInt64).toInt64).toInt32 &&& (255 : Int32)).toInt = _
  omega
theorem own_at1_7 (a d : Int32) : own_get (own_pk a d 7) (8 : Int32) = own_sh a d 1 := by
  have h1 := own_pv7 a d
  have r0 := own_shr a d 0
  have r1 := own_shr a d 1
  have r2 := own_shr a d 2
  have r3 := own_shr a d 3
  have r4 := own_shr a d 4
  have r5 := own_shr a d 5
  have r6 := own_shr a d 6
  have rp := rng64 (own_pk a d 7)
  have u := c_lushr (own_pk a d 7) (8 : Int32) 8 (by decide) (by decide)
  have l := c_l2i (((own_pk a d 7).toUInt64 >>> ((8 : Int32) &&& 0x3f).toInt64.toUInt64).toInt64)
  have mk : ((((own_pk a d 7).toUInt64 >>> ((8 : Int32) &&& 0x3f).toInt64.toUInt64).toInt64).toInt32 &&& (255 : Int32)).toInt = (((own_pk a d 7).toUInt64 >>> ((8 : Int32) &&& 0x3f).toInt64.toUInt64).toInt64).toInt32.toInt % (2 ^ 8 : Nat) := c_mask _ 255 8 (by decide) (by decide)
  apply Int32.toInt_inj.mp
  show ((((own_pk a d 7).toUInt64 >>> ((8 : Int32) &&& 0x3f).toInt64.toUInt64).toInt64).toInt32 &&& (255 : Int32)).toInt = _
  omega
theorem own_at2_7 (a d : Int32) : own_get (own_pk a d 7) (16 : Int32) = own_sh a d 2 := by
  have h1 := own_pv7 a d
  have r0 := own_shr a d 0
  have r1 := own_shr a d 1
  have r2 := own_shr a d 2
  have r3 := own_shr a d 3
  have r4 := own_shr a d 4
  have r5 := own_shr a d 5
  have r6 := own_shr a d 6
  have rp := rng64 (own_pk a d 7)
  have u := c_lushr (own_pk a d 7) (16 : Int32) 16 (by decide) (by decide)
  have l := c_l2i (((own_pk a d 7).toUInt64 >>> ((16 : Int32) &&& 0x3f).toInt64.toUInt64).toInt64)
  have mk : ((((own_pk a d 7).toUInt64 >>> ((16 : Int32) &&& 0x3f).toInt64.toUInt64).toInt64).toInt32 &&& (255 : Int32)).toInt = (((own_pk a d 7).toUInt64 >>> ((16 : Int32) &&& 0x3f).toInt64.toUInt64).toInt64).toInt32.toInt % (2 ^ 8 : Nat) := c_mask _ 255 8 (by decide) (by decide)
  apply Int32.toInt_inj.mp
  show ((((own_pk a d 7).toUInt64 >>> ((16 : Int32) &&& 0x3f).toInt64.toUInt64).toInt64).toInt32 &&& (255 : Int32)).toInt = _
  omega
theorem own_at3_7 (a d : Int32) : own_get (own_pk a d 7) (24 : Int32) = own_sh a d 3 := by
  have h1 := own_pv7 a d
  have r0 := own_shr a d 0
  have r1 := own_shr a d 1
  have r2 := own_shr a d 2
  have r3 := own_shr a d 3
  have r4 := own_shr a d 4
  have r5 := own_shr a d 5
  have r6 := own_shr a d 6
  have rp := rng64 (own_pk a d 7)
  have u := c_lushr (own_pk a d 7) (24 : Int32) 24 (by decide) (by decide)
  have l := c_l2i (((own_pk a d 7).toUInt64 >>> ((24 : Int32) &&& 0x3f).toInt64.toUInt64).toInt64)
  have mk : ((((own_pk a d 7).toUInt64 >>> ((24 : Int32) &&& 0x3f).toInt64.toUInt64).toInt64).toInt32 &&& (255 : Int32)).toInt = (((own_pk a d 7).toUInt64 >>> ((24 : Int32) &&& 0x3f).toInt64.toUInt64).toInt64).toInt32.toInt % (2 ^ 8 : Nat) := c_mask _ 255 8 (by decide) (by decide)
  apply Int32.toInt_inj.mp
  show ((((own_pk a d 7).toUInt64 >>> ((24 : Int32) &&& 0x3f).toInt64.toUInt64).toInt64).toInt32 &&& (255 : Int32)).toInt = _
  omega
theorem own_at4_7 (a d : Int32) : own_get (own_pk a d 7) (32 : Int32) = own_sh a d 4 := by
  have h1 := own_pv7 a d
  have r0 := own_shr a d 0
  have r1 := own_shr a d 1
  have r2 := own_shr a d 2
  have r3 := own_shr a d 3
  have r4 := own_shr a d 4
  have r5 := own_shr a d 5
  have r6 := own_shr a d 6
  have rp := rng64 (own_pk a d 7)
  have u := c_lushr (own_pk a d 7) (32 : Int32) 32 (by decide) (by decide)
  have l := c_l2i (((own_pk a d 7).toUInt64 >>> ((32 : Int32) &&& 0x3f).toInt64.toUInt64).toInt64)
  have mk : ((((own_pk a d 7).toUInt64 >>> ((32 : Int32) &&& 0x3f).toInt64.toUInt64).toInt64).toInt32 &&& (255 : Int32)).toInt = (((own_pk a d 7).toUInt64 >>> ((32 : Int32) &&& 0x3f).toInt64.toUInt64).toInt64).toInt32.toInt % (2 ^ 8 : Nat) := c_mask _ 255 8 (by decide) (by decide)
  apply Int32.toInt_inj.mp
  show ((((own_pk a d 7).toUInt64 >>> ((32 : Int32) &&& 0x3f).toInt64.toUInt64).toInt64).toInt32 &&& (255 : Int32)).toInt = _
  omega
theorem own_at5_7 (a d : Int32) : own_get (own_pk a d 7) (40 : Int32) = own_sh a d 5 := by
  have h1 := own_pv7 a d
  have r0 := own_shr a d 0
  have r1 := own_shr a d 1
  have r2 := own_shr a d 2
  have r3 := own_shr a d 3
  have r4 := own_shr a d 4
  have r5 := own_shr a d 5
  have r6 := own_shr a d 6
  have rp := rng64 (own_pk a d 7)
  have u := c_lushr (own_pk a d 7) (40 : Int32) 40 (by decide) (by decide)
  have l := c_l2i (((own_pk a d 7).toUInt64 >>> ((40 : Int32) &&& 0x3f).toInt64.toUInt64).toInt64)
  have mk : ((((own_pk a d 7).toUInt64 >>> ((40 : Int32) &&& 0x3f).toInt64.toUInt64).toInt64).toInt32 &&& (255 : Int32)).toInt = (((own_pk a d 7).toUInt64 >>> ((40 : Int32) &&& 0x3f).toInt64.toUInt64).toInt64).toInt32.toInt % (2 ^ 8 : Nat) := c_mask _ 255 8 (by decide) (by decide)
  apply Int32.toInt_inj.mp
  show ((((own_pk a d 7).toUInt64 >>> ((40 : Int32) &&& 0x3f).toInt64.toUInt64).toInt64).toInt32 &&& (255 : Int32)).toInt = _
  omega
theorem own_at6_7 (a d : Int32) : own_get (own_pk a d 7) (48 : Int32) = own_sh a d 6 := by
  have h1 := own_pv7 a d
  have r0 := own_shr a d 0
  have r1 := own_shr a d 1
  have r2 := own_shr a d 2
  have r3 := own_shr a d 3
  have r4 := own_shr a d 4
  have r5 := own_shr a d 5
  have r6 := own_shr a d 6
  have rp := rng64 (own_pk a d 7)
  have u := c_lushr (own_pk a d 7) (48 : Int32) 48 (by decide) (by decide)
  have l := c_l2i (((own_pk a d 7).toUInt64 >>> ((48 : Int32) &&& 0x3f).toInt64.toUInt64).toInt64)
  have mk : ((((own_pk a d 7).toUInt64 >>> ((48 : Int32) &&& 0x3f).toInt64.toUInt64).toInt64).toInt32 &&& (255 : Int32)).toInt = (((own_pk a d 7).toUInt64 >>> ((48 : Int32) &&& 0x3f).toInt64.toUInt64).toInt64).toInt32.toInt % (2 ^ 8 : Nat) := c_mask _ 255 8 (by decide) (by decide)
  apply Int32.toInt_inj.mp
  show ((((own_pk a d 7).toUInt64 >>> ((48 : Int32) &&& 0x3f).toInt64.toUInt64).toInt64).toInt32 &&& (255 : Int32)).toInt = _
  omega
theorem own_at0_8 (a d : Int32) : own_get (own_pk a d 8) (0 : Int32) = own_sh a d 0 := by
  have h1 := own_pv8 a d
  have r0 := own_shr a d 0
  have r1 := own_shr a d 1
  have r2 := own_shr a d 2
  have r3 := own_shr a d 3
  have r4 := own_shr a d 4
  have r5 := own_shr a d 5
  have r6 := own_shr a d 6
  have r7 := own_shr a d 7
  have rp := rng64 (own_pk a d 8)
  have u : (((own_pk a d 8).toUInt64 >>> ((0 : Int32) &&& 0x3f).toInt64.toUInt64).toInt64).toInt = (own_pk a d 8).toInt := own_ush0 _
  have l := c_l2i (((own_pk a d 8).toUInt64 >>> ((0 : Int32) &&& 0x3f).toInt64.toUInt64).toInt64)
  have mk : ((((own_pk a d 8).toUInt64 >>> ((0 : Int32) &&& 0x3f).toInt64.toUInt64).toInt64).toInt32 &&& (255 : Int32)).toInt = (((own_pk a d 8).toUInt64 >>> ((0 : Int32) &&& 0x3f).toInt64.toUInt64).toInt64).toInt32.toInt % (2 ^ 8 : Nat) := c_mask _ 255 8 (by decide) (by decide)
  apply Int32.toInt_inj.mp
  show ((((own_pk a d 8).toUInt64 >>> ((0 : Int32) &&& 0x3f).toInt64.toUInt64).toInt64).toInt32 &&& (255 : Int32)).toInt = _
  omega
theorem own_at1_8 (a d : Int32) : own_get (own_pk a d 8) (8 : Int32) = own_sh a d 1 := by
  have h1 := own_pv8 a d
  have r0 := own_shr a d 0
  have r1 := own_shr a d 1
  have r2 := own_shr a d 2
  have r3 := own_shr a d 3
  have r4 := own_shr a d 4
  have r5 := own_shr a d 5
  have r6 := own_shr a d 6
  have r7 := own_shr a d 7
  have rp := rng64 (own_pk a d 8)
  have u := c_lushr (own_pk a d 8) (8 : Int32) 8 (by decide) (by decide)
  have l := c_l2i (((own_pk a d 8).toUInt64 >>> ((8 : Int32) &&& 0x3f).toInt64.toUInt64).toInt64)
  have mk : ((((own_pk a d 8).toUInt64 >>> ((8 : Int32) &&& 0x3f).toInt64.toUInt64).toInt64).toInt32 &&& (255 : Int32)).toInt = (((own_pk a d 8).toUInt64 >>> ((8 : Int32) &&& 0x3f).toInt64.toUInt64).toInt64).toInt32.toInt % (2 ^ 8 : Nat) := c_mask _ 255 8 (by decide) (by decide)
  apply Int32.toInt_inj.mp
  show ((((own_pk a d 8).toUInt64 >>> ((8 : Int32) &&& 0x3f).toInt64.toUInt64).toInt64).toInt32 &&& (255 : Int32)).toInt = _
  omega
theorem own_at2_8 (a d : Int32) : own_get (own_pk a d 8) (16 : Int32) = own_sh a d 2 := by
  have h1 := own_pv8 a d
  have r0 := own_shr a d 0
  have r1 := own_shr a d 1
  have r2 := own_shr a d 2
  have r3 := own_shr a d 3
  have r4 := own_shr a d 4
  have r5 := own_shr a d 5
  have r6 := own_shr a d 6
  have r7 := own_shr a d 7
  have rp := rng64 (own_pk a d 8)
  have u := c_lushr (own_pk a d 8) (16 : Int32) 16 (by decide) (by decide)
  have l := c_l2i (((own_pk a d 8).toUInt64 >>> ((16 : Int32) &&& 0x3f).toInt64.toUInt64).toInt64)
  have mk : ((((own_pk a d 8).toUInt64 >>> ((16 : Int32) &&& 0x3f).toInt64.toUInt64).toInt64).toInt32 &&& (255 : Int32)).toInt = (((own_pk a d 8).toUInt64 >>> ((16 : Int32) &&& 0x3f).toInt64.toUInt64).toInt64).toInt32.toInt % (2 ^ 8 : Nat) := c_mask _ 255 8 (by decide) (by decide)
  apply Int32.toInt_inj.mp
  show ((((own_pk a d 8).toUInt64 >>> ((16 : Int32) &&& 0x3f).toInt64.toUInt64).toInt64).toInt32 &&& (255 : Int32)).toInt = _
  omega
theorem own_at3_8 (a d : Int32) : own_get (own_pk a d 8) (24 : Int32) = own_sh a d 3 := by
  have h1 := own_pv8 a d
  have r0 := own_shr a d 0
  have r1 := own_shr a d 1
  have r2 := own_shr a d 2
  have r3 := own_shr a d 3
  have r4 := own_shr a d 4
  have r5 := own_shr a d 5
  have r6 := own_shr a d 6
  have r7 := own_shr a d 7
  have rp := rng64 (own_pk a d 8)
  have u := c_lushr (own_pk a d 8) (24 : Int32) 24 (by decide) (by decide)
  have l := c_l2i (((own_pk a d 8).toUInt64 >>> ((24 : Int32) &&& 0x3f).toInt64.toUInt64).toInt64)
  have mk : ((((own_pk a d 8).toUInt64 >>> ((24 : Int32) &&& 0x3f).toInt64.toUInt64).toInt64).toInt32 &&& (255 : Int32)).toInt = (((own_pk a d 8).toUInt64 >>> ((24 : Int32) &&& 0x3f).toInt64.toUInt64).toInt64).toInt32.toInt % (2 ^ 8 : Nat) := c_mask _ 255 8 (by decide) (by decide)
  apply Int32.toInt_inj.mp
  show ((((own_pk a d 8).toUInt64 >>> ((24 : Int32) &&& 0x3f).toInt64.toUInt64).toInt64).toInt32 &&& (255 : Int32)).toInt = _
  omega
theorem own_at4_8 (a d : Int32) : own_get (own_pk a d 8) (32 : Int32) = own_sh a d 4 := by
  have h1 := own_pv8 a d
  have r0 := own_shr a d 0
  have r1 := own_shr a d 1
  have r2 := own_shr a d 2
  have r3 := own_shr a d 3
  have r4 := own_shr a d 4
  have r5 := own_shr a d 5
  have r6 := own_shr a d 6
  have r7 := own_shr a d 7
  have rp := rng64 (own_pk a d 8)
  have u := c_lushr (own_pk a d 8) (32 : Int32) 32 (by decide) (by decide)
  have l := c_l2i (((own_pk a d 8).toUInt64 >>> ((32 : Int32) &&& 0x3f).toInt64.toUInt64).toInt64)
  have mk : ((((own_pk a d 8).toUInt64 >>> ((32 : Int32) &&& 0x3f).toInt64.toUInt64).toInt64).toInt32 &&& (255 : Int32)).toInt = (((own_pk a d 8).toUInt64 >>> ((32 : Int32) &&& 0x3f).toInt64.toUInt64).toInt64).toInt32.toInt % (2 ^ 8 : Nat) := c_mask _ 255 8 (by decide) (by decide)
  apply Int32.toInt_inj.mp
  show ((((own_pk a d 8).toUInt64 >>> ((32 : Int32) &&& 0x3f).toInt64.toUInt64).toInt64).toInt32 &&& (255 : Int32)).toInt = _
  omega
theorem own_at5_8 (a d : Int32) : own_get (own_pk a d 8) (40 : Int32) = own_sh a d 5 := by
  have h1 := own_pv8 a d
  have r0 := own_shr a d 0
  have r1 := own_shr a d 1
  have r2 := own_shr a d 2
  have r3 := own_shr a d 3
  have r4 := own_shr a d 4
  have r5 := own_shr a d 5
  have r6 := own_shr a d 6
  have r7 := own_shr a d 7
  have rp := rng64 (own_pk a d 8)
  have u := c_lushr (own_pk a d 8) (40 : Int32) 40 (by decide) (by decide)
  have l := c_l2i (((own_pk a d 8).toUInt64 >>> ((40 : Int32) &&& 0x3f).toInt64.toUInt64).toInt64)
  have mk : ((((own_pk a d 8).toUInt64 >>> ((40 : Int32) &&& 0x3f).toInt64.toUInt64).toInt64).toInt32 &&& (255 : Int32)).toInt = (((own_pk a d 8).toUInt64 >>> ((40 : Int32) &&& 0x3f).toInt64.toUInt64).toInt64).toInt32.toInt % (2 ^ 8 : Nat) := c_mask _ 255 8 (by decide) (by decide)
  apply Int32.toInt_inj.mp
  show ((((own_pk a d 8).toUInt64 >>> ((40 : Int32) &&& 0x3f).toInt64.toUInt64).toInt64).toInt32 &&& (255 : Int32)).toInt = _
  omega
theorem own_at6_8 (a d : Int32) : own_get (own_pk a d 8) (48 : Int32) = own_sh a d 6 := by
  have h1 := own_pv8 a d
  have r0 := own_shr a d 0
  have r1 := own_shr a d 1
  have r2 := own_shr a d 2
  have r3 := own_shr a d 3
  have r4 := own_shr a d 4
  have r5 := own_shr a d 5
  have r6 := own_shr a d 6
  have r7 := own_shr a d 7
  have rp := rng64 (own_pk a d 8)
  have u := c_lushr (own_pk a d 8) (48 : Int32) 48 (by decide) (by decide)
  have l := c_l2i (((own_pk a d 8).toUInt64 >>> ((48 : Int32) &&& 0x3f).toInt64.toUInt64).toInt64)
  have mk : ((((own_pk a d 8).toUInt64 >>> ((48 : Int32) &&& 0x3f).toInt64.toUInt64).toInt64).toInt32 &&& (255 : Int32)).toInt = (((own_pk a d 8).toUInt64 >>> ((48 : Int32) &&& 0x3f).toInt64.toUInt64).toInt64).toInt32.toInt % (2 ^ 8 : Nat) := c_mask _ 255 8 (by decide) (by decide)
  apply Int32.toInt_inj.mp
  show ((((own_pk a d 8).toUInt64 >>> ((48 : Int32) &&& 0x3f).toInt64.toUInt64).toInt64).toInt32 &&& (255 : Int32)).toInt = _
  omega
theorem own_at7_8 (a d : Int32) : own_get (own_pk a d 8) (56 : Int32) = own_sh a d 7 := by
  have h1 := own_pv8 a d
  have r0 := own_shr a d 0
  have r1 := own_shr a d 1
  have r2 := own_shr a d 2
  have r3 := own_shr a d 3
  have r4 := own_shr a d 4
  have r5 := own_shr a d 5
  have r6 := own_shr a d 6
  have r7 := own_shr a d 7
  have rp := rng64 (own_pk a d 8)
  have u := c_lushr (own_pk a d 8) (56 : Int32) 56 (by decide) (by decide)
  have l := c_l2i (((own_pk a d 8).toUInt64 >>> ((56 : Int32) &&& 0x3f).toInt64.toUInt64).toInt64)
  have mk : ((((own_pk a d 8).toUInt64 >>> ((56 : Int32) &&& 0x3f).toInt64.toUInt64).toInt64).toInt32 &&& (255 : Int32)).toInt = (((own_pk a d 8).toUInt64 >>> ((56 : Int32) &&& 0x3f).toInt64.toUInt64).toInt64).toInt32.toInt % (2 ^ 8 : Nat) := c_mask _ 255 8 (by decide) (by decide)
  apply Int32.toInt_inj.mp
  show ((((own_pk a d 8).toUInt64 >>> ((56 : Int32) &&& 0x3f).toInt64.toUInt64).toInt64).toInt32 &&& (255 : Int32)).toInt = _
  omega
theorem own_di0_1 (a d : Int32) {d0 : Int32} (hd : (d0 ||| (1 : Int32)) = d) : ¬ own_sh a d 0 = own_sh a d 1 := by
  intro q
  have q := congrArg Int32.toInt q
  rw [own_shr, own_shr] at q
  have o := own_odd hd
  have a0 := c_iadd a (Int32.ofNat 0 * d)
  have m0 := c_imul (Int32.ofNat 0) d
  rw [show (Int32.ofNat 0).toInt = 0 from by decide] at m0
  have a1 := c_iadd a (Int32.ofNat 1 * d)
  have m1 := c_imul (Int32.ofNat 1) d
  rw [show (Int32.ofNat 1).toInt = 1 from by decide] at m1
  omega
theorem own_ne0_1 (a d : Int32) {d0 : Int32} (hd : (d0 ||| (1 : Int32)) = d) : ¬ own_get (own_pk a d 1) (0 : Int32) = own_sh a d 1 := by
  rw [own_at0_1]; exact own_di0_1 a d hd
theorem own_di0_2 (a d : Int32) {d0 : Int32} (hd : (d0 ||| (1 : Int32)) = d) : ¬ own_sh a d 0 = own_sh a d 2 := by
  intro q
  have q := congrArg Int32.toInt q
  rw [own_shr, own_shr] at q
  have o := own_odd hd
  have a0 := c_iadd a (Int32.ofNat 0 * d)
  have m0 := c_imul (Int32.ofNat 0) d
  rw [show (Int32.ofNat 0).toInt = 0 from by decide] at m0
  have a2 := c_iadd a (Int32.ofNat 2 * d)
  have m2 := c_imul (Int32.ofNat 2) d
  rw [show (Int32.ofNat 2).toInt = 2 from by decide] at m2
  omega
theorem own_ne0_2 (a d : Int32) {d0 : Int32} (hd : (d0 ||| (1 : Int32)) = d) : ¬ own_get (own_pk a d 2) (0 : Int32) = own_sh a d 2 := by
  rw [own_at0_2]; exact own_di0_2 a d hd
theorem own_di1_2 (a d : Int32) {d0 : Int32} (hd : (d0 ||| (1 : Int32)) = d) : ¬ own_sh a d 1 = own_sh a d 2 := by
  intro q
  have q := congrArg Int32.toInt q
  rw [own_shr, own_shr] at q
  have o := own_odd hd
  have a1 := c_iadd a (Int32.ofNat 1 * d)
  have m1 := c_imul (Int32.ofNat 1) d
  rw [show (Int32.ofNat 1).toInt = 1 from by decide] at m1
  have a2 := c_iadd a (Int32.ofNat 2 * d)
  have m2 := c_imul (Int32.ofNat 2) d
  rw [show (Int32.ofNat 2).toInt = 2 from by decide] at m2
  omega
theorem own_ne1_2 (a d : Int32) {d0 : Int32} (hd : (d0 ||| (1 : Int32)) = d) : ¬ own_get (own_pk a d 2) (8 : Int32) = own_sh a d 2 := by
  rw [own_at1_2]; exact own_di1_2 a d hd
theorem own_di0_3 (a d : Int32) {d0 : Int32} (hd : (d0 ||| (1 : Int32)) = d) : ¬ own_sh a d 0 = own_sh a d 3 := by
  intro q
  have q := congrArg Int32.toInt q
  rw [own_shr, own_shr] at q
  have o := own_odd hd
  have a0 := c_iadd a (Int32.ofNat 0 * d)
  have m0 := c_imul (Int32.ofNat 0) d
  rw [show (Int32.ofNat 0).toInt = 0 from by decide] at m0
  have a3 := c_iadd a (Int32.ofNat 3 * d)
  have m3 := c_imul (Int32.ofNat 3) d
  rw [show (Int32.ofNat 3).toInt = 3 from by decide] at m3
  omega
theorem own_ne0_3 (a d : Int32) {d0 : Int32} (hd : (d0 ||| (1 : Int32)) = d) : ¬ own_get (own_pk a d 3) (0 : Int32) = own_sh a d 3 := by
  rw [own_at0_3]; exact own_di0_3 a d hd
theorem own_di1_3 (a d : Int32) {d0 : Int32} (hd : (d0 ||| (1 : Int32)) = d) : ¬ own_sh a d 1 = own_sh a d 3 := by
  intro q
  have q := congrArg Int32.toInt q
  rw [own_shr, own_shr] at q
  have o := own_odd hd
  have a1 := c_iadd a (Int32.ofNat 1 * d)
  have m1 := c_imul (Int32.ofNat 1) d
  rw [show (Int32.ofNat 1).toInt = 1 from by decide] at m1
  have a3 := c_iadd a (Int32.ofNat 3 * d)
  have m3 := c_imul (Int32.ofNat 3) d
  rw [show (Int32.ofNat 3).toInt = 3 from by decide] at m3
  omega
theorem own_ne1_3 (a d : Int32) {d0 : Int32} (hd : (d0 ||| (1 : Int32)) = d) : ¬ own_get (own_pk a d 3) (8 : Int32) = own_sh a d 3 := by
  rw [own_at1_3]; exact own_di1_3 a d hd
theorem own_di2_3 (a d : Int32) {d0 : Int32} (hd : (d0 ||| (1 : Int32)) = d) : ¬ own_sh a d 2 = own_sh a d 3 := by
  intro q
  have q := congrArg Int32.toInt q
  rw [own_shr, own_shr] at q
  have o := own_odd hd
  have a2 := c_iadd a (Int32.ofNat 2 * d)
  have m2 := c_imul (Int32.ofNat 2) d
  rw [show (Int32.ofNat 2).toInt = 2 from by decide] at m2
  have a3 := c_iadd a (Int32.ofNat 3 * d)
  have m3 := c_imul (Int32.ofNat 3) d
  rw [show (Int32.ofNat 3).toInt = 3 from by decide] at m3
  omega
theorem own_ne2_3 (a d : Int32) {d0 : Int32} (hd : (d0 ||| (1 : Int32)) = d) : ¬ own_get (own_pk a d 3) (16 : Int32) = own_sh a d 3 := by
  rw [own_at2_3]; exact own_di2_3 a d hd
theorem own_di0_4 (a d : Int32) {d0 : Int32} (hd : (d0 ||| (1 : Int32)) = d) : ¬ own_sh a d 0 = own_sh a d 4 := by
  intro q
  have q := congrArg Int32.toInt q
  rw [own_shr, own_shr] at q
  have o := own_odd hd
  have a0 := c_iadd a (Int32.ofNat 0 * d)
  have m0 := c_imul (Int32.ofNat 0) d
  rw [show (Int32.ofNat 0).toInt = 0 from by decide] at m0
  have a4 := c_iadd a (Int32.ofNat 4 * d)
  have m4 := c_imul (Int32.ofNat 4) d
  rw [show (Int32.ofNat 4).toInt = 4 from by decide] at m4
  omega
theorem own_ne0_4 (a d : Int32) {d0 : Int32} (hd : (d0 ||| (1 : Int32)) = d) : ¬ own_get (own_pk a d 4) (0 : Int32) = own_sh a d 4 := by
  rw [own_at0_4]; exact own_di0_4 a d hd
theorem own_di1_4 (a d : Int32) {d0 : Int32} (hd : (d0 ||| (1 : Int32)) = d) : ¬ own_sh a d 1 = own_sh a d 4 := by
  intro q
  have q := congrArg Int32.toInt q
  rw [own_shr, own_shr] at q
  have o := own_odd hd
  have a1 := c_iadd a (Int32.ofNat 1 * d)
  have m1 := c_imul (Int32.ofNat 1) d
  rw [show (Int32.ofNat 1).toInt = 1 from by decide] at m1
  have a4 := c_iadd a (Int32.ofNat 4 * d)
  have m4 := c_imul (Int32.ofNat 4) d
  rw [show (Int32.ofNat 4).toInt = 4 from by decide] at m4
  omega
theorem own_ne1_4 (a d : Int32) {d0 : Int32} (hd : (d0 ||| (1 : Int32)) = d) : ¬ own_get (own_pk a d 4) (8 : Int32) = own_sh a d 4 := by
  rw [own_at1_4]; exact own_di1_4 a d hd
theorem own_di2_4 (a d : Int32) {d0 : Int32} (hd : (d0 ||| (1 : Int32)) = d) : ¬ own_sh a d 2 = own_sh a d 4 := by
  intro q
  have q := congrArg Int32.toInt q
  rw [own_shr, own_shr] at q
  have o := own_odd hd
  have a2 := c_iadd a (Int32.ofNat 2 * d)
  have m2 := c_imul (Int32.ofNat 2) d
  rw [show (Int32.ofNat 2).toInt = 2 from by decide] at m2
  have a4 := c_iadd a (Int32.ofNat 4 * d)
  have m4 := c_imul (Int32.ofNat 4) d
  rw [show (Int32.ofNat 4).toInt = 4 from by decide] at m4
  omega
theorem own_ne2_4 (a d : Int32) {d0 : Int32} (hd : (d0 ||| (1 : Int32)) = d) : ¬ own_get (own_pk a d 4) (16 : Int32) = own_sh a d 4 := by
  rw [own_at2_4]; exact own_di2_4 a d hd
theorem own_di3_4 (a d : Int32) {d0 : Int32} (hd : (d0 ||| (1 : Int32)) = d) : ¬ own_sh a d 3 = own_sh a d 4 := by
  intro q
  have q := congrArg Int32.toInt q
  rw [own_shr, own_shr] at q
  have o := own_odd hd
  have a3 := c_iadd a (Int32.ofNat 3 * d)
  have m3 := c_imul (Int32.ofNat 3) d
  rw [show (Int32.ofNat 3).toInt = 3 from by decide] at m3
  have a4 := c_iadd a (Int32.ofNat 4 * d)
  have m4 := c_imul (Int32.ofNat 4) d
  rw [show (Int32.ofNat 4).toInt = 4 from by decide] at m4
  omega
theorem own_ne3_4 (a d : Int32) {d0 : Int32} (hd : (d0 ||| (1 : Int32)) = d) : ¬ own_get (own_pk a d 4) (24 : Int32) = own_sh a d 4 := by
  rw [own_at3_4]; exact own_di3_4 a d hd
theorem own_di0_5 (a d : Int32) {d0 : Int32} (hd : (d0 ||| (1 : Int32)) = d) : ¬ own_sh a d 0 = own_sh a d 5 := by
  intro q
  have q := congrArg Int32.toInt q
  rw [own_shr, own_shr] at q
  have o := own_odd hd
  have a0 := c_iadd a (Int32.ofNat 0 * d)
  have m0 := c_imul (Int32.ofNat 0) d
  rw [show (Int32.ofNat 0).toInt = 0 from by decide] at m0
  have a5 := c_iadd a (Int32.ofNat 5 * d)
  have m5 := c_imul (Int32.ofNat 5) d
  rw [show (Int32.ofNat 5).toInt = 5 from by decide] at m5
  omega
theorem own_ne0_5 (a d : Int32) {d0 : Int32} (hd : (d0 ||| (1 : Int32)) = d) : ¬ own_get (own_pk a d 5) (0 : Int32) = own_sh a d 5 := by
  rw [own_at0_5]; exact own_di0_5 a d hd
theorem own_di1_5 (a d : Int32) {d0 : Int32} (hd : (d0 ||| (1 : Int32)) = d) : ¬ own_sh a d 1 = own_sh a d 5 := by
  intro q
  have q := congrArg Int32.toInt q
  rw [own_shr, own_shr] at q
  have o := own_odd hd
  have a1 := c_iadd a (Int32.ofNat 1 * d)
  have m1 := c_imul (Int32.ofNat 1) d
  rw [show (Int32.ofNat 1).toInt = 1 from by decide] at m1
  have a5 := c_iadd a (Int32.ofNat 5 * d)
  have m5 := c_imul (Int32.ofNat 5) d
  rw [show (Int32.ofNat 5).toInt = 5 from by decide] at m5
  omega
theorem own_ne1_5 (a d : Int32) {d0 : Int32} (hd : (d0 ||| (1 : Int32)) = d) : ¬ own_get (own_pk a d 5) (8 : Int32) = own_sh a d 5 := by
  rw [own_at1_5]; exact own_di1_5 a d hd
theorem own_di2_5 (a d : Int32) {d0 : Int32} (hd : (d0 ||| (1 : Int32)) = d) : ¬ own_sh a d 2 = own_sh a d 5 := by
  intro q
  have q := congrArg Int32.toInt q
  rw [own_shr, own_shr] at q
  have o := own_odd hd
  have a2 := c_iadd a (Int32.ofNat 2 * d)
  have m2 := c_imul (Int32.ofNat 2) d
  rw [show (Int32.ofNat 2).toInt = 2 from by decide] at m2
  have a5 := c_iadd a (Int32.ofNat 5 * d)
  have m5 := c_imul (Int32.ofNat 5) d
  rw [show (Int32.ofNat 5).toInt = 5 from by decide] at m5
  omega
theorem own_ne2_5 (a d : Int32) {d0 : Int32} (hd : (d0 ||| (1 : Int32)) = d) : ¬ own_get (own_pk a d 5) (16 : Int32) = own_sh a d 5 := by
  rw [own_at2_5]; exact own_di2_5 a d hd
theorem own_di3_5 (a d : Int32) {d0 : Int32} (hd : (d0 ||| (1 : Int32)) = d) : ¬ own_sh a d 3 = own_sh a d 5 := by
  intro q
  have q := congrArg Int32.toInt q
  rw [own_shr, own_shr] at q
  have o := own_odd hd
  have a3 := c_iadd a (Int32.ofNat 3 * d)
  have m3 := c_imul (Int32.ofNat 3) d
  rw [show (Int32.ofNat 3).toInt = 3 from by decide] at m3
  have a5 := c_iadd a (Int32.ofNat 5 * d)
  have m5 := c_imul (Int32.ofNat 5) d
  rw [show (Int32.ofNat 5).toInt = 5 from by decide] at m5
  omega
theorem own_ne3_5 (a d : Int32) {d0 : Int32} (hd : (d0 ||| (1 : Int32)) = d) : ¬ own_get (own_pk a d 5) (24 : Int32) = own_sh a d 5 := by
  rw [own_at3_5]; exact own_di3_5 a d hd
theorem own_di4_5 (a d : Int32) {d0 : Int32} (hd : (d0 ||| (1 : Int32)) = d) : ¬ own_sh a d 4 = own_sh a d 5 := by
  intro q
  have q := congrArg Int32.toInt q
  rw [own_shr, own_shr] at q
  have o := own_odd hd
  have a4 := c_iadd a (Int32.ofNat 4 * d)
  have m4 := c_imul (Int32.ofNat 4) d
  rw [show (Int32.ofNat 4).toInt = 4 from by decide] at m4
  have a5 := c_iadd a (Int32.ofNat 5 * d)
  have m5 := c_imul (Int32.ofNat 5) d
  rw [show (Int32.ofNat 5).toInt = 5 from by decide] at m5
  omega
theorem own_ne4_5 (a d : Int32) {d0 : Int32} (hd : (d0 ||| (1 : Int32)) = d) : ¬ own_get (own_pk a d 5) (32 : Int32) = own_sh a d 5 := by
  rw [own_at4_5]; exact own_di4_5 a d hd
theorem own_di0_6 (a d : Int32) {d0 : Int32} (hd : (d0 ||| (1 : Int32)) = d) : ¬ own_sh a d 0 = own_sh a d 6 := by
  intro q
  have q := congrArg Int32.toInt q
  rw [own_shr, own_shr] at q
  have o := own_odd hd
  have a0 := c_iadd a (Int32.ofNat 0 * d)
  have m0 := c_imul (Int32.ofNat 0) d
  rw [show (Int32.ofNat 0).toInt = 0 from by decide] at m0
  have a6 := c_iadd a (Int32.ofNat 6 * d)
  have m6 := c_imul (Int32.ofNat 6) d
  rw [show (Int32.ofNat 6).toInt = 6 from by decide] at m6
  omega
theorem own_ne0_6 (a d : Int32) {d0 : Int32} (hd : (d0 ||| (1 : Int32)) = d) : ¬ own_get (own_pk a d 6) (0 : Int32) = own_sh a d 6 := by
  rw [own_at0_6]; exact own_di0_6 a d hd
theorem own_di1_6 (a d : Int32) {d0 : Int32} (hd : (d0 ||| (1 : Int32)) = d) : ¬ own_sh a d 1 = own_sh a d 6 := by
  intro q
  have q := congrArg Int32.toInt q
  rw [own_shr, own_shr] at q
  have o := own_odd hd
  have a1 := c_iadd a (Int32.ofNat 1 * d)
  have m1 := c_imul (Int32.ofNat 1) d
  rw [show (Int32.ofNat 1).toInt = 1 from by decide] at m1
  have a6 := c_iadd a (Int32.ofNat 6 * d)
  have m6 := c_imul (Int32.ofNat 6) d
  rw [show (Int32.ofNat 6).toInt = 6 from by decide] at m6
  omega
theorem own_ne1_6 (a d : Int32) {d0 : Int32} (hd : (d0 ||| (1 : Int32)) = d) : ¬ own_get (own_pk a d 6) (8 : Int32) = own_sh a d 6 := by
  rw [own_at1_6]; exact own_di1_6 a d hd
theorem own_di2_6 (a d : Int32) {d0 : Int32} (hd : (d0 ||| (1 : Int32)) = d) : ¬ own_sh a d 2 = own_sh a d 6 := by
  intro q
  have q := congrArg Int32.toInt q
  rw [own_shr, own_shr] at q
  have o := own_odd hd
  have a2 := c_iadd a (Int32.ofNat 2 * d)
  have m2 := c_imul (Int32.ofNat 2) d
  rw [show (Int32.ofNat 2).toInt = 2 from by decide] at m2
  have a6 := c_iadd a (Int32.ofNat 6 * d)
  have m6 := c_imul (Int32.ofNat 6) d
  rw [show (Int32.ofNat 6).toInt = 6 from by decide] at m6
  omega
theorem own_ne2_6 (a d : Int32) {d0 : Int32} (hd : (d0 ||| (1 : Int32)) = d) : ¬ own_get (own_pk a d 6) (16 : Int32) = own_sh a d 6 := by
  rw [own_at2_6]; exact own_di2_6 a d hd
theorem own_di3_6 (a d : Int32) {d0 : Int32} (hd : (d0 ||| (1 : Int32)) = d) : ¬ own_sh a d 3 = own_sh a d 6 := by
  intro q
  have q := congrArg Int32.toInt q
  rw [own_shr, own_shr] at q
  have o := own_odd hd
  have a3 := c_iadd a (Int32.ofNat 3 * d)
  have m3 := c_imul (Int32.ofNat 3) d
  rw [show (Int32.ofNat 3).toInt = 3 from by decide] at m3
  have a6 := c_iadd a (Int32.ofNat 6 * d)
  have m6 := c_imul (Int32.ofNat 6) d
  rw [show (Int32.ofNat 6).toInt = 6 from by decide] at m6
  omega
theorem own_ne3_6 (a d : Int32) {d0 : Int32} (hd : (d0 ||| (1 : Int32)) = d) : ¬ own_get (own_pk a d 6) (24 : Int32) = own_sh a d 6 := by
  rw [own_at3_6]; exact own_di3_6 a d hd
theorem own_di4_6 (a d : Int32) {d0 : Int32} (hd : (d0 ||| (1 : Int32)) = d) : ¬ own_sh a d 4 = own_sh a d 6 := by
  intro q
  have q := congrArg Int32.toInt q
  rw [own_shr, own_shr] at q
  have o := own_odd hd
  have a4 := c_iadd a (Int32.ofNat 4 * d)
  have m4 := c_imul (Int32.ofNat 4) d
  rw [show (Int32.ofNat 4).toInt = 4 from by decide] at m4
  have a6 := c_iadd a (Int32.ofNat 6 * d)
  have m6 := c_imul (Int32.ofNat 6) d
  rw [show (Int32.ofNat 6).toInt = 6 from by decide] at m6
  omega
theorem own_ne4_6 (a d : Int32) {d0 : Int32} (hd : (d0 ||| (1 : Int32)) = d) : ¬ own_get (own_pk a d 6) (32 : Int32) = own_sh a d 6 := by
  rw [own_at4_6]; exact own_di4_6 a d hd
theorem own_di5_6 (a d : Int32) {d0 : Int32} (hd : (d0 ||| (1 : Int32)) = d) : ¬ own_sh a d 5 = own_sh a d 6 := by
  intro q
  have q := congrArg Int32.toInt q
  rw [own_shr, own_shr] at q
  have o := own_odd hd
  have a5 := c_iadd a (Int32.ofNat 5 * d)
  have m5 := c_imul (Int32.ofNat 5) d
  rw [show (Int32.ofNat 5).toInt = 5 from by decide] at m5
  have a6 := c_iadd a (Int32.ofNat 6 * d)
  have m6 := c_imul (Int32.ofNat 6) d
  rw [show (Int32.ofNat 6).toInt = 6 from by decide] at m6
  omega
theorem own_ne5_6 (a d : Int32) {d0 : Int32} (hd : (d0 ||| (1 : Int32)) = d) : ¬ own_get (own_pk a d 6) (40 : Int32) = own_sh a d 6 := by
  rw [own_at5_6]; exact own_di5_6 a d hd
theorem own_di0_7 (a d : Int32) {d0 : Int32} (hd : (d0 ||| (1 : Int32)) = d) : ¬ own_sh a d 0 = own_sh a d 7 := by
  intro q
  have q := congrArg Int32.toInt q
  rw [own_shr, own_shr] at q
  have o := own_odd hd
  have a0 := c_iadd a (Int32.ofNat 0 * d)
  have m0 := c_imul (Int32.ofNat 0) d
  rw [show (Int32.ofNat 0).toInt = 0 from by decide] at m0
  have a7 := c_iadd a (Int32.ofNat 7 * d)
  have m7 := c_imul (Int32.ofNat 7) d
  rw [show (Int32.ofNat 7).toInt = 7 from by decide] at m7
  omega
theorem own_ne0_7 (a d : Int32) {d0 : Int32} (hd : (d0 ||| (1 : Int32)) = d) : ¬ own_get (own_pk a d 7) (0 : Int32) = own_sh a d 7 := by
  rw [own_at0_7]; exact own_di0_7 a d hd
theorem own_di1_7 (a d : Int32) {d0 : Int32} (hd : (d0 ||| (1 : Int32)) = d) : ¬ own_sh a d 1 = own_sh a d 7 := by
  intro q
  have q := congrArg Int32.toInt q
  rw [own_shr, own_shr] at q
  have o := own_odd hd
  have a1 := c_iadd a (Int32.ofNat 1 * d)
  have m1 := c_imul (Int32.ofNat 1) d
  rw [show (Int32.ofNat 1).toInt = 1 from by decide] at m1
  have a7 := c_iadd a (Int32.ofNat 7 * d)
  have m7 := c_imul (Int32.ofNat 7) d
  rw [show (Int32.ofNat 7).toInt = 7 from by decide] at m7
  omega
theorem own_ne1_7 (a d : Int32) {d0 : Int32} (hd : (d0 ||| (1 : Int32)) = d) : ¬ own_get (own_pk a d 7) (8 : Int32) = own_sh a d 7 := by
  rw [own_at1_7]; exact own_di1_7 a d hd
theorem own_di2_7 (a d : Int32) {d0 : Int32} (hd : (d0 ||| (1 : Int32)) = d) : ¬ own_sh a d 2 = own_sh a d 7 := by
  intro q
  have q := congrArg Int32.toInt q
  rw [own_shr, own_shr] at q
  have o := own_odd hd
  have a2 := c_iadd a (Int32.ofNat 2 * d)
  have m2 := c_imul (Int32.ofNat 2) d
  rw [show (Int32.ofNat 2).toInt = 2 from by decide] at m2
  have a7 := c_iadd a (Int32.ofNat 7 * d)
  have m7 := c_imul (Int32.ofNat 7) d
  rw [show (Int32.ofNat 7).toInt = 7 from by decide] at m7
  omega
theorem own_ne2_7 (a d : Int32) {d0 : Int32} (hd : (d0 ||| (1 : Int32)) = d) : ¬ own_get (own_pk a d 7) (16 : Int32) = own_sh a d 7 := by
  rw [own_at2_7]; exact own_di2_7 a d hd
theorem own_di3_7 (a d : Int32) {d0 : Int32} (hd : (d0 ||| (1 : Int32)) = d) : ¬ own_sh a d 3 = own_sh a d 7 := by
  intro q
  have q := congrArg Int32.toInt q
  rw [own_shr, own_shr] at q
  have o := own_odd hd
  have a3 := c_iadd a (Int32.ofNat 3 * d)
  have m3 := c_imul (Int32.ofNat 3) d
  rw [show (Int32.ofNat 3).toInt = 3 from by decide] at m3
  have a7 := c_iadd a (Int32.ofNat 7 * d)
  have m7 := c_imul (Int32.ofNat 7) d
  rw [show (Int32.ofNat 7).toInt = 7 from by decide] at m7
  omega
theorem own_ne3_7 (a d : Int32) {d0 : Int32} (hd : (d0 ||| (1 : Int32)) = d) : ¬ own_get (own_pk a d 7) (24 : Int32) = own_sh a d 7 := by
  rw [own_at3_7]; exact own_di3_7 a d hd
theorem own_di4_7 (a d : Int32) {d0 : Int32} (hd : (d0 ||| (1 : Int32)) = d) : ¬ own_sh a d 4 = own_sh a d 7 := by
  intro q
  have q := congrArg Int32.toInt q
  rw [own_shr, own_shr] at q
  have o := own_odd hd
  have a4 := c_iadd a (Int32.ofNat 4 * d)
  have m4 := c_imul (Int32.ofNat 4) d
  rw [show (Int32.ofNat 4).toInt = 4 from by decide] at m4
  have a7 := c_iadd a (Int32.ofNat 7 * d)
  have m7 := c_imul (Int32.ofNat 7) d
  rw [show (Int32.ofNat 7).toInt = 7 from by decide] at m7
  omega
theorem own_ne4_7 (a d : Int32) {d0 : Int32} (hd : (d0 ||| (1 : Int32)) = d) : ¬ own_get (own_pk a d 7) (32 : Int32) = own_sh a d 7 := by
  rw [own_at4_7]; exact own_di4_7 a d hd
theorem own_di5_7 (a d : Int32) {d0 : Int32} (hd : (d0 ||| (1 : Int32)) = d) : ¬ own_sh a d 5 = own_sh a d 7 := by
  intro q
  have q := congrArg Int32.toInt q
  rw [own_shr, own_shr] at q
  have o := own_odd hd
  have a5 := c_iadd a (Int32.ofNat 5 * d)
  have m5 := c_imul (Int32.ofNat 5) d
  rw [show (Int32.ofNat 5).toInt = 5 from by decide] at m5
  have a7 := c_iadd a (Int32.ofNat 7 * d)
  have m7 := c_imul (Int32.ofNat 7) d
  rw [show (Int32.ofNat 7).toInt = 7 from by decide] at m7
  omega
theorem own_ne5_7 (a d : Int32) {d0 : Int32} (hd : (d0 ||| (1 : Int32)) = d) : ¬ own_get (own_pk a d 7) (40 : Int32) = own_sh a d 7 := by
  rw [own_at5_7]; exact own_di5_7 a d hd
theorem own_di6_7 (a d : Int32) {d0 : Int32} (hd : (d0 ||| (1 : Int32)) = d) : ¬ own_sh a d 6 = own_sh a d 7 := by
  intro q
  have q := congrArg Int32.toInt q
  rw [own_shr, own_shr] at q
  have o := own_odd hd
  have a6 := c_iadd a (Int32.ofNat 6 * d)
  have m6 := c_imul (Int32.ofNat 6) d
  rw [show (Int32.ofNat 6).toInt = 6 from by decide] at m6
  have a7 := c_iadd a (Int32.ofNat 7 * d)
  have m7 := c_imul (Int32.ofNat 7) d
  rw [show (Int32.ofNat 7).toInt = 7 from by decide] at m7
  omega
theorem own_ne6_7 (a d : Int32) {d0 : Int32} (hd : (d0 ||| (1 : Int32)) = d) : ¬ own_get (own_pk a d 7) (48 : Int32) = own_sh a d 7 := by
  rw [own_at6_7]; exact own_di6_7 a d hd
theorem own_di0_8 (a d : Int32) {d0 : Int32} (hd : (d0 ||| (1 : Int32)) = d) : ¬ own_sh a d 0 = own_sh a d 8 := by
  intro q
  have q := congrArg Int32.toInt q
  rw [own_shr, own_shr] at q
  have o := own_odd hd
  have a0 := c_iadd a (Int32.ofNat 0 * d)
  have m0 := c_imul (Int32.ofNat 0) d
  rw [show (Int32.ofNat 0).toInt = 0 from by decide] at m0
  have a8 := c_iadd a (Int32.ofNat 8 * d)
  have m8 := c_imul (Int32.ofNat 8) d
  rw [show (Int32.ofNat 8).toInt = 8 from by decide] at m8
  omega
theorem own_ne0_8 (a d : Int32) {d0 : Int32} (hd : (d0 ||| (1 : Int32)) = d) : ¬ own_get (own_pk a d 8) (0 : Int32) = own_sh a d 8 := by
  rw [own_at0_8]; exact own_di0_8 a d hd
theorem own_di1_8 (a d : Int32) {d0 : Int32} (hd : (d0 ||| (1 : Int32)) = d) : ¬ own_sh a d 1 = own_sh a d 8 := by
  intro q
  have q := congrArg Int32.toInt q
  rw [own_shr, own_shr] at q
  have o := own_odd hd
  have a1 := c_iadd a (Int32.ofNat 1 * d)
  have m1 := c_imul (Int32.ofNat 1) d
  rw [show (Int32.ofNat 1).toInt = 1 from by decide] at m1
  have a8 := c_iadd a (Int32.ofNat 8 * d)
  have m8 := c_imul (Int32.ofNat 8) d
  rw [show (Int32.ofNat 8).toInt = 8 from by decide] at m8
  omega
theorem own_ne1_8 (a d : Int32) {d0 : Int32} (hd : (d0 ||| (1 : Int32)) = d) : ¬ own_get (own_pk a d 8) (8 : Int32) = own_sh a d 8 := by
  rw [own_at1_8]; exact own_di1_8 a d hd
theorem own_di2_8 (a d : Int32) {d0 : Int32} (hd : (d0 ||| (1 : Int32)) = d) : ¬ own_sh a d 2 = own_sh a d 8 := by
  intro q
  have q := congrArg Int32.toInt q
  rw [own_shr, own_shr] at q
  have o := own_odd hd
  have a2 := c_iadd a (Int32.ofNat 2 * d)
  have m2 := c_imul (Int32.ofNat 2) d
  rw [show (Int32.ofNat 2).toInt = 2 from by decide] at m2
  have a8 := c_iadd a (Int32.ofNat 8 * d)
  have m8 := c_imul (Int32.ofNat 8) d
  rw [show (Int32.ofNat 8).toInt = 8 from by decide] at m8
  omega
theorem own_ne2_8 (a d : Int32) {d0 : Int32} (hd : (d0 ||| (1 : Int32)) = d) : ¬ own_get (own_pk a d 8) (16 : Int32) = own_sh a d 8 := by
  rw [own_at2_8]; exact own_di2_8 a d hd
theorem own_di3_8 (a d : Int32) {d0 : Int32} (hd : (d0 ||| (1 : Int32)) = d) : ¬ own_sh a d 3 = own_sh a d 8 := by
  intro q
  have q := congrArg Int32.toInt q
  rw [own_shr, own_shr] at q
  have o := own_odd hd
  have a3 := c_iadd a (Int32.ofNat 3 * d)
  have m3 := c_imul (Int32.ofNat 3) d
  rw [show (Int32.ofNat 3).toInt = 3 from by decide] at m3
  have a8 := c_iadd a (Int32.ofNat 8 * d)
  have m8 := c_imul (Int32.ofNat 8) d
  rw [show (Int32.ofNat 8).toInt = 8 from by decide] at m8
  omega
theorem own_ne3_8 (a d : Int32) {d0 : Int32} (hd : (d0 ||| (1 : Int32)) = d) : ¬ own_get (own_pk a d 8) (24 : Int32) = own_sh a d 8 := by
  rw [own_at3_8]; exact own_di3_8 a d hd
theorem own_di4_8 (a d : Int32) {d0 : Int32} (hd : (d0 ||| (1 : Int32)) = d) : ¬ own_sh a d 4 = own_sh a d 8 := by
  intro q
  have q := congrArg Int32.toInt q
  rw [own_shr, own_shr] at q
  have o := own_odd hd
  have a4 := c_iadd a (Int32.ofNat 4 * d)
  have m4 := c_imul (Int32.ofNat 4) d
  rw [show (Int32.ofNat 4).toInt = 4 from by decide] at m4
  have a8 := c_iadd a (Int32.ofNat 8 * d)
  have m8 := c_imul (Int32.ofNat 8) d
  rw [show (Int32.ofNat 8).toInt = 8 from by decide] at m8
  omega
theorem own_ne4_8 (a d : Int32) {d0 : Int32} (hd : (d0 ||| (1 : Int32)) = d) : ¬ own_get (own_pk a d 8) (32 : Int32) = own_sh a d 8 := by
  rw [own_at4_8]; exact own_di4_8 a d hd
theorem own_di5_8 (a d : Int32) {d0 : Int32} (hd : (d0 ||| (1 : Int32)) = d) : ¬ own_sh a d 5 = own_sh a d 8 := by
  intro q
  have q := congrArg Int32.toInt q
  rw [own_shr, own_shr] at q
  have o := own_odd hd
  have a5 := c_iadd a (Int32.ofNat 5 * d)
  have m5 := c_imul (Int32.ofNat 5) d
  rw [show (Int32.ofNat 5).toInt = 5 from by decide] at m5
  have a8 := c_iadd a (Int32.ofNat 8 * d)
  have m8 := c_imul (Int32.ofNat 8) d
  rw [show (Int32.ofNat 8).toInt = 8 from by decide] at m8
  omega
theorem own_ne5_8 (a d : Int32) {d0 : Int32} (hd : (d0 ||| (1 : Int32)) = d) : ¬ own_get (own_pk a d 8) (40 : Int32) = own_sh a d 8 := by
  rw [own_at5_8]; exact own_di5_8 a d hd
theorem own_di6_8 (a d : Int32) {d0 : Int32} (hd : (d0 ||| (1 : Int32)) = d) : ¬ own_sh a d 6 = own_sh a d 8 := by
  intro q
  have q := congrArg Int32.toInt q
  rw [own_shr, own_shr] at q
  have o := own_odd hd
  have a6 := c_iadd a (Int32.ofNat 6 * d)
  have m6 := c_imul (Int32.ofNat 6) d
  rw [show (Int32.ofNat 6).toInt = 6 from by decide] at m6
  have a8 := c_iadd a (Int32.ofNat 8 * d)
  have m8 := c_imul (Int32.ofNat 8) d
  rw [show (Int32.ofNat 8).toInt = 8 from by decide] at m8
  omega
theorem own_ne6_8 (a d : Int32) {d0 : Int32} (hd : (d0 ||| (1 : Int32)) = d) : ¬ own_get (own_pk a d 8) (48 : Int32) = own_sh a d 8 := by
  rw [own_at6_8]; exact own_di6_8 a d hd
theorem own_di7_8 (a d : Int32) {d0 : Int32} (hd : (d0 ||| (1 : Int32)) = d) : ¬ own_sh a d 7 = own_sh a d 8 := by
  intro q
  have q := congrArg Int32.toInt q
  rw [own_shr, own_shr] at q
  have o := own_odd hd
  have a7 := c_iadd a (Int32.ofNat 7 * d)
  have m7 := c_imul (Int32.ofNat 7) d
  rw [show (Int32.ofNat 7).toInt = 7 from by decide] at m7
  have a8 := c_iadd a (Int32.ofNat 8 * d)
  have m8 := c_imul (Int32.ofNat 8) d
  rw [show (Int32.ofNat 8).toInt = 8 from by decide] at m8
  omega
theorem own_ne7_8 (a d : Int32) {d0 : Int32} (hd : (d0 ||| (1 : Int32)) = d) : ¬ own_get (own_pk a d 8) (56 : Int32) = own_sh a d 8 := by
  rw [own_at7_8]; exact own_di7_8 a d hd
theorem own_di0_9 (a d : Int32) {d0 : Int32} (hd : (d0 ||| (1 : Int32)) = d) : ¬ own_sh a d 0 = own_sh a d 9 := by
  intro q
  have q := congrArg Int32.toInt q
  rw [own_shr, own_shr] at q
  have o := own_odd hd
  have a0 := c_iadd a (Int32.ofNat 0 * d)
  have m0 := c_imul (Int32.ofNat 0) d
  rw [show (Int32.ofNat 0).toInt = 0 from by decide] at m0
  have a9 := c_iadd a (Int32.ofNat 9 * d)
  have m9 := c_imul (Int32.ofNat 9) d
  rw [show (Int32.ofNat 9).toInt = 9 from by decide] at m9
  omega
theorem own_ne0_9 (a d : Int32) {d0 : Int32} (hd : (d0 ||| (1 : Int32)) = d) : ¬ own_get (own_pk a d 8) (0 : Int32) = own_sh a d 9 := by
  rw [own_at0_8]; exact own_di0_9 a d hd
theorem own_di1_9 (a d : Int32) {d0 : Int32} (hd : (d0 ||| (1 : Int32)) = d) : ¬ own_sh a d 1 = own_sh a d 9 := by
  intro q
  have q := congrArg Int32.toInt q
  rw [own_shr, own_shr] at q
  have o := own_odd hd
  have a1 := c_iadd a (Int32.ofNat 1 * d)
  have m1 := c_imul (Int32.ofNat 1) d
  rw [show (Int32.ofNat 1).toInt = 1 from by decide] at m1
  have a9 := c_iadd a (Int32.ofNat 9 * d)
  have m9 := c_imul (Int32.ofNat 9) d
  rw [show (Int32.ofNat 9).toInt = 9 from by decide] at m9
  omega
theorem own_ne1_9 (a d : Int32) {d0 : Int32} (hd : (d0 ||| (1 : Int32)) = d) : ¬ own_get (own_pk a d 8) (8 : Int32) = own_sh a d 9 := by
  rw [own_at1_8]; exact own_di1_9 a d hd
theorem own_di2_9 (a d : Int32) {d0 : Int32} (hd : (d0 ||| (1 : Int32)) = d) : ¬ own_sh a d 2 = own_sh a d 9 := by
  intro q
  have q := congrArg Int32.toInt q
  rw [own_shr, own_shr] at q
  have o := own_odd hd
  have a2 := c_iadd a (Int32.ofNat 2 * d)
  have m2 := c_imul (Int32.ofNat 2) d
  rw [show (Int32.ofNat 2).toInt = 2 from by decide] at m2
  have a9 := c_iadd a (Int32.ofNat 9 * d)
  have m9 := c_imul (Int32.ofNat 9) d
  rw [show (Int32.ofNat 9).toInt = 9 from by decide] at m9
  omega
theorem own_ne2_9 (a d : Int32) {d0 : Int32} (hd : (d0 ||| (1 : Int32)) = d) : ¬ own_get (own_pk a d 8) (16 : Int32) = own_sh a d 9 := by
  rw [own_at2_8]; exact own_di2_9 a d hd
theorem own_di3_9 (a d : Int32) {d0 : Int32} (hd : (d0 ||| (1 : Int32)) = d) : ¬ own_sh a d 3 = own_sh a d 9 := by
  intro q
  have q := congrArg Int32.toInt q
  rw [own_shr, own_shr] at q
  have o := own_odd hd
  have a3 := c_iadd a (Int32.ofNat 3 * d)
  have m3 := c_imul (Int32.ofNat 3) d
  rw [show (Int32.ofNat 3).toInt = 3 from by decide] at m3
  have a9 := c_iadd a (Int32.ofNat 9 * d)
  have m9 := c_imul (Int32.ofNat 9) d
  rw [show (Int32.ofNat 9).toInt = 9 from by decide] at m9
  omega
theorem own_ne3_9 (a d : Int32) {d0 : Int32} (hd : (d0 ||| (1 : Int32)) = d) : ¬ own_get (own_pk a d 8) (24 : Int32) = own_sh a d 9 := by
  rw [own_at3_8]; exact own_di3_9 a d hd
theorem own_di4_9 (a d : Int32) {d0 : Int32} (hd : (d0 ||| (1 : Int32)) = d) : ¬ own_sh a d 4 = own_sh a d 9 := by
  intro q
  have q := congrArg Int32.toInt q
  rw [own_shr, own_shr] at q
  have o := own_odd hd
  have a4 := c_iadd a (Int32.ofNat 4 * d)
  have m4 := c_imul (Int32.ofNat 4) d
  rw [show (Int32.ofNat 4).toInt = 4 from by decide] at m4
  have a9 := c_iadd a (Int32.ofNat 9 * d)
  have m9 := c_imul (Int32.ofNat 9) d
  rw [show (Int32.ofNat 9).toInt = 9 from by decide] at m9
  omega
theorem own_ne4_9 (a d : Int32) {d0 : Int32} (hd : (d0 ||| (1 : Int32)) = d) : ¬ own_get (own_pk a d 8) (32 : Int32) = own_sh a d 9 := by
  rw [own_at4_8]; exact own_di4_9 a d hd
theorem own_di5_9 (a d : Int32) {d0 : Int32} (hd : (d0 ||| (1 : Int32)) = d) : ¬ own_sh a d 5 = own_sh a d 9 := by
  intro q
  have q := congrArg Int32.toInt q
  rw [own_shr, own_shr] at q
  have o := own_odd hd
  have a5 := c_iadd a (Int32.ofNat 5 * d)
  have m5 := c_imul (Int32.ofNat 5) d
  rw [show (Int32.ofNat 5).toInt = 5 from by decide] at m5
  have a9 := c_iadd a (Int32.ofNat 9 * d)
  have m9 := c_imul (Int32.ofNat 9) d
  rw [show (Int32.ofNat 9).toInt = 9 from by decide] at m9
  omega
theorem own_ne5_9 (a d : Int32) {d0 : Int32} (hd : (d0 ||| (1 : Int32)) = d) : ¬ own_get (own_pk a d 8) (40 : Int32) = own_sh a d 9 := by
  rw [own_at5_8]; exact own_di5_9 a d hd
theorem own_di6_9 (a d : Int32) {d0 : Int32} (hd : (d0 ||| (1 : Int32)) = d) : ¬ own_sh a d 6 = own_sh a d 9 := by
  intro q
  have q := congrArg Int32.toInt q
  rw [own_shr, own_shr] at q
  have o := own_odd hd
  have a6 := c_iadd a (Int32.ofNat 6 * d)
  have m6 := c_imul (Int32.ofNat 6) d
  rw [show (Int32.ofNat 6).toInt = 6 from by decide] at m6
  have a9 := c_iadd a (Int32.ofNat 9 * d)
  have m9 := c_imul (Int32.ofNat 9) d
  rw [show (Int32.ofNat 9).toInt = 9 from by decide] at m9
  omega
theorem own_ne6_9 (a d : Int32) {d0 : Int32} (hd : (d0 ||| (1 : Int32)) = d) : ¬ own_get (own_pk a d 8) (48 : Int32) = own_sh a d 9 := by
  rw [own_at6_8]; exact own_di6_9 a d hd
theorem own_di7_9 (a d : Int32) {d0 : Int32} (hd : (d0 ||| (1 : Int32)) = d) : ¬ own_sh a d 7 = own_sh a d 9 := by
  intro q
  have q := congrArg Int32.toInt q
  rw [own_shr, own_shr] at q
  have o := own_odd hd
  have a7 := c_iadd a (Int32.ofNat 7 * d)
  have m7 := c_imul (Int32.ofNat 7) d
  rw [show (Int32.ofNat 7).toInt = 7 from by decide] at m7
  have a9 := c_iadd a (Int32.ofNat 9 * d)
  have m9 := c_imul (Int32.ofNat 9) d
  rw [show (Int32.ofNat 9).toInt = 9 from by decide] at m9
  omega
theorem own_ne7_9 (a d : Int32) {d0 : Int32} (hd : (d0 ||| (1 : Int32)) = d) : ¬ own_get (own_pk a d 8) (56 : Int32) = own_sh a d 9 := by
  rw [own_at7_8]; exact own_di7_9 a d hd
theorem own_di8_9 (a d : Int32) {d0 : Int32} (hd : (d0 ||| (1 : Int32)) = d) : ¬ own_sh a d 8 = own_sh a d 9 := by
  intro q
  have q := congrArg Int32.toInt q
  rw [own_shr, own_shr] at q
  have o := own_odd hd
  have a8 := c_iadd a (Int32.ofNat 8 * d)
  have m8 := c_imul (Int32.ofNat 8) d
  rw [show (Int32.ofNat 8).toInt = 8 from by decide] at m8
  have a9 := c_iadd a (Int32.ofNat 9 * d)
  have m9 := c_imul (Int32.ofNat 9) d
  rw [show (Int32.ofNat 9).toInt = 9 from by decide] at m9
  omega
theorem own_nf (a d : Int32) {d0 : Int32} (hd : (d0 ||| (1 : Int32)) = d) : ¬ own_sh a d 8 = own_sh a d 9 := own_di8_9 a d hd
theorem own_nr (c n : Int32) (q : (1 : Int32) + ((c &&& 2147483647) % 10) = n) : 1 ≤ n.toInt ∧ n.toInt ≤ 10 := by
  have h1 : (c &&& 2147483647).toInt = c.toInt % (2 ^ 31 : Nat) := c_mask c 2147483647 31 (by decide) (by decide)
  obtain ⟨h2, h3⟩ := c_irem (c &&& 2147483647) 10 10 (by decide)
  have h4 := h2 (by omega)
  have h5 := c_iadd 1 ((c &&& 2147483647) % 10)
  rw [q] at h5
  have h6 := rng32 n
  simp only [Int32.reduceToInt] at h5
  omega
theorem own_nz (c n : Int32) (q : (1 : Int32) + ((c &&& 2147483647) % 10) = n) : n ≠ 0 := by
  intro h; have := own_nr c n q; rw [h] at this; exact absurd this.1 (by decide)
theorem own_m1 (c n : Int32) (q : (1 : Int32) + ((c &&& 2147483647) % 10) = n) (g : ¬ (1 : Int32) < n) : n = 1 := by
  have r := own_nr c n q
  simp only [Int32.lt_iff_toInt_lt, ← Int32.toInt_inj, Int32.reduceToInt] at *
  omega
theorem own_m2 (c n : Int32) (q : (1 : Int32) + ((c &&& 2147483647) % 10) = n) (h : (1 : Int32) < n) (g : ¬ (2 : Int32) < n) : n = 2 := by
  have r := own_nr c n q
  simp only [Int32.lt_iff_toInt_lt, ← Int32.toInt_inj, Int32.reduceToInt] at *
  omega
theorem own_m3 (c n : Int32) (q : (1 : Int32) + ((c &&& 2147483647) % 10) = n) (h : (2 : Int32) < n) (g : ¬ (3 : Int32) < n) : n = 3 := by
  have r := own_nr c n q
  simp only [Int32.lt_iff_toInt_lt, ← Int32.toInt_inj, Int32.reduceToInt] at *
  omega
theorem own_m4 (c n : Int32) (q : (1 : Int32) + ((c &&& 2147483647) % 10) = n) (h : (3 : Int32) < n) (g : ¬ (4 : Int32) < n) : n = 4 := by
  have r := own_nr c n q
  simp only [Int32.lt_iff_toInt_lt, ← Int32.toInt_inj, Int32.reduceToInt] at *
  omega
theorem own_m5 (c n : Int32) (q : (1 : Int32) + ((c &&& 2147483647) % 10) = n) (h : (4 : Int32) < n) (g : ¬ (5 : Int32) < n) : n = 5 := by
  have r := own_nr c n q
  simp only [Int32.lt_iff_toInt_lt, ← Int32.toInt_inj, Int32.reduceToInt] at *
  omega
theorem own_m6 (c n : Int32) (q : (1 : Int32) + ((c &&& 2147483647) % 10) = n) (h : (5 : Int32) < n) (g : ¬ (6 : Int32) < n) : n = 6 := by
  have r := own_nr c n q
  simp only [Int32.lt_iff_toInt_lt, ← Int32.toInt_inj, Int32.reduceToInt] at *
  omega
theorem own_m7 (c n : Int32) (q : (1 : Int32) + ((c &&& 2147483647) % 10) = n) (h : (6 : Int32) < n) (g : ¬ (7 : Int32) < n) : n = 7 := by
  have r := own_nr c n q
  simp only [Int32.lt_iff_toInt_lt, ← Int32.toInt_inj, Int32.reduceToInt] at *
  omega
theorem own_m8 (c n : Int32) (q : (1 : Int32) + ((c &&& 2147483647) % 10) = n) (h : (7 : Int32) < n) (g : ¬ (8 : Int32) < n) : n = 8 := by
  have r := own_nr c n q
  simp only [Int32.lt_iff_toInt_lt, ← Int32.toInt_inj, Int32.reduceToInt] at *
  omega
theorem own_m9 (c n : Int32) (q : (1 : Int32) + ((c &&& 2147483647) % 10) = n) (h : (8 : Int32) < n) (g : ¬ (9 : Int32) < n) : n = 9 := by
  have r := own_nr c n q
  simp only [Int32.lt_iff_toInt_lt, ← Int32.toInt_inj, Int32.reduceToInt] at *
  omega
theorem own_m10 (c n : Int32) (q : (1 : Int32) + ((c &&& 2147483647) % 10) = n) (h : (9 : Int32) < n) : n = 10 := by
  have r := own_nr c n q
  simp only [Int32.lt_iff_toInt_lt, ← Int32.toInt_inj, Int32.reduceToInt] at *
  omega
theorem own_i1 (p i : Int32) (q : (p &&& 2147483647) % 1 = i) : i = 0 := by
  have h1 : (p &&& 2147483647).toInt = p.toInt % (2 ^ 31 : Nat) := c_mask p 2147483647 31 (by decide) (by decide)
  obtain ⟨h2, h3⟩ := c_irem (p &&& 2147483647) 1 1 (by decide)
  have h4 := h2 (by omega)
  rw [q] at h4
  simp only [← Int32.toInt_inj, Int32.reduceToInt]
  omega
theorem own_i2 (p i : Int32) (q : (p &&& 2147483647) % 2 = i) : i = 0 ∨ i = 1 := by
  have h1 : (p &&& 2147483647).toInt = p.toInt % (2 ^ 31 : Nat) := c_mask p 2147483647 31 (by decide) (by decide)
  obtain ⟨h2, h3⟩ := c_irem (p &&& 2147483647) 2 2 (by decide)
  have h4 := h2 (by omega)
  rw [q] at h4
  simp only [← Int32.toInt_inj, Int32.reduceToInt]
  omega
theorem own_i3 (p i : Int32) (q : (p &&& 2147483647) % 3 = i) : i = 0 ∨ i = 1 ∨ i = 2 := by
  have h1 : (p &&& 2147483647).toInt = p.toInt % (2 ^ 31 : Nat) := c_mask p 2147483647 31 (by decide) (by decide)
  obtain ⟨h2, h3⟩ := c_irem (p &&& 2147483647) 3 3 (by decide)
  have h4 := h2 (by omega)
  rw [q] at h4
  simp only [← Int32.toInt_inj, Int32.reduceToInt]
  omega
theorem own_i4 (p i : Int32) (q : (p &&& 2147483647) % 4 = i) : i = 0 ∨ i = 1 ∨ i = 2 ∨ i = 3 := by
  have h1 : (p &&& 2147483647).toInt = p.toInt % (2 ^ 31 : Nat) := c_mask p 2147483647 31 (by decide) (by decide)
  obtain ⟨h2, h3⟩ := c_irem (p &&& 2147483647) 4 4 (by decide)
  have h4 := h2 (by omega)
  rw [q] at h4
  simp only [← Int32.toInt_inj, Int32.reduceToInt]
  omega
theorem own_i5 (p i : Int32) (q : (p &&& 2147483647) % 5 = i) : i = 0 ∨ i = 1 ∨ i = 2 ∨ i = 3 ∨ i = 4 := by
  have h1 : (p &&& 2147483647).toInt = p.toInt % (2 ^ 31 : Nat) := c_mask p 2147483647 31 (by decide) (by decide)
  obtain ⟨h2, h3⟩ := c_irem (p &&& 2147483647) 5 5 (by decide)
  have h4 := h2 (by omega)
  rw [q] at h4
  simp only [← Int32.toInt_inj, Int32.reduceToInt]
  omega
theorem own_i6 (p i : Int32) (q : (p &&& 2147483647) % 6 = i) : i = 0 ∨ i = 1 ∨ i = 2 ∨ i = 3 ∨ i = 4 ∨ i = 5 := by
  have h1 : (p &&& 2147483647).toInt = p.toInt % (2 ^ 31 : Nat) := c_mask p 2147483647 31 (by decide) (by decide)
  obtain ⟨h2, h3⟩ := c_irem (p &&& 2147483647) 6 6 (by decide)
  have h4 := h2 (by omega)
  rw [q] at h4
  simp only [← Int32.toInt_inj, Int32.reduceToInt]
  omega
theorem own_i7 (p i : Int32) (q : (p &&& 2147483647) % 7 = i) : i = 0 ∨ i = 1 ∨ i = 2 ∨ i = 3 ∨ i = 4 ∨ i = 5 ∨ i = 6 := by
  have h1 : (p &&& 2147483647).toInt = p.toInt % (2 ^ 31 : Nat) := c_mask p 2147483647 31 (by decide) (by decide)
  obtain ⟨h2, h3⟩ := c_irem (p &&& 2147483647) 7 7 (by decide)
  have h4 := h2 (by omega)
  rw [q] at h4
  simp only [← Int32.toInt_inj, Int32.reduceToInt]
  omega
theorem own_i8 (p i : Int32) (q : (p &&& 2147483647) % 8 = i) : i = 0 ∨ i = 1 ∨ i = 2 ∨ i = 3 ∨ i = 4 ∨ i = 5 ∨ i = 6 ∨ i = 7 := by
  have h1 : (p &&& 2147483647).toInt = p.toInt % (2 ^ 31 : Nat) := c_mask p 2147483647 31 (by decide) (by decide)
  obtain ⟨h2, h3⟩ := c_irem (p &&& 2147483647) 8 8 (by decide)
  have h4 := h2 (by omega)
  rw [q] at h4
  simp only [← Int32.toInt_inj, Int32.reduceToInt]
  omega
theorem own_i9 (p i : Int32) (q : (p &&& 2147483647) % 9 = i) : i = 0 ∨ i = 1 ∨ i = 2 ∨ i = 3 ∨ i = 4 ∨ i = 5 ∨ i = 6 ∨ i = 7 ∨ i = 8 := by
  have h1 : (p &&& 2147483647).toInt = p.toInt % (2 ^ 31 : Nat) := c_mask p 2147483647 31 (by decide) (by decide)
  obtain ⟨h2, h3⟩ := c_irem (p &&& 2147483647) 9 9 (by decide)
  have h4 := h2 (by omega)
  rw [q] at h4
  simp only [← Int32.toInt_inj, Int32.reduceToInt]
  omega
theorem own_i10 (p i : Int32) (q : (p &&& 2147483647) % 10 = i) : i = 0 ∨ i = 1 ∨ i = 2 ∨ i = 3 ∨ i = 4 ∨ i = 5 ∨ i = 6 ∨ i = 7 ∨ i = 8 ∨ i = 9 := by
  have h1 : (p &&& 2147483647).toInt = p.toInt % (2 ^ 31 : Nat) := c_mask p 2147483647 31 (by decide) (by decide)
  obtain ⟨h2, h3⟩ := c_irem (p &&& 2147483647) 10 10 (by decide)
  have h4 := h2 (by omega)
  rw [q] at h4
  simp only [← Int32.toInt_inj, Int32.reduceToInt]
  omega
abbrev fL0 (y0 : Int32) (y1 : Int32) (y2 : Int32) (y3 : Int32) : Array Slot := #[.val (.int y0), .val (.int y1), .val (.int y2), .val (.int y3), .unset, .unset, .unset, .unset]
abbrev fL1 (y0 : Int32) (y1 : Int32) (y2 : Int32) (y3 : Int32) (y4 : Int32) : Array Slot := #[.val (.int y0), .val (.int y1), .val (.int y2), .val (.int y3), .val (.int y4), .unset, .unset, .unset]
abbrev fL2 (y0 : Int32) (y1 : Int32) (y2 : Int32) (y3 : Int32) (y4 : Int32) (y5 : Int32) : Array Slot := #[.val (.int y0), .val (.int y1), .val (.int y2), .val (.int y3), .val (.int y4), .val (.int y5), .unset, .unset]
abbrev fL3 (y0 : Int32) (y1 : Int32) (y2 : Int32) (y3 : Int32) (y4 : Int32) (y5 : Int32) (y6 : Int32) : Array Slot := #[.val (.int y0), .val (.int y1), .val (.int y2), .val (.int y3), .val (.int y4), .val (.int y5), .val (.int y6), .unset]
abbrev fL4 (y0 : Int32) (y1 : Int32) (y2 : Int32) (y3 : Int32) (y4 : Int32) (y5 : Int32) (y6 : Int32) (y7 : Addr) : Array Slot := #[.val (.int y0), .val (.int y1), .val (.int y2), .val (.int y3), .val (.int y4), .val (.int y5), .val (.int y6), .val (.ref y7)]
theorem d_prog_69_method_1_code_0 : decode prog_69_method_1_code 0 = .ok (.aload_n 0, 1) := by decide +kernel
theorem d_prog_69_method_1_code_1 : decode prog_69_method_1_code 1 = .ok (.invokespecial 3, 3) := by decide +kernel
theorem d_prog_69_method_1_code_4 : decode prog_69_method_1_code 4 = .ok (.return_, 1) := by decide +kernel
theorem pn_com_example_waitsfor_waitsfor_ShardSet : plainName "com/example/waitsfor/waitsfor/ShardSet" = true := by first | (simp [plainName, overriddenIn]; done) | decide +kernel
theorem ef_rm_ini (m : MethodId) (y0 : Addr) : entryFrame m #[(.ref y0)] 1 = mkF m 0 #[.val (.ref y0)] [] := by first | (simp [entryFrame, mkF, argsToLocals, Value.category]; done) | rfl
def Q_rm_ini (Z : State) (a0' : Addr) (h0 : Heap) (n0 : Nat) (v : Option Value) (h : Heap) (L : List Loc) : Prop := v = none ∧ Fr n0 L ∧ h = h0
set_option maxRecDepth 65536 in
set_option maxHeartbeats 40000000 in
theorem rm_ini (l : Launch) (Z : State) (a0 : Array Value) (hw : ∀ d ∈ tables_1, d.before a0 Z = true) (ws : List Jvm.Cond) (a0' : Addr) (h0 : Heap) (n0 : Nat) :
    MetFree l (⟨"com/example/waitsfor/waitsfor/ShardSet", "<init>", "()V"⟩ : MethodName) (head1 (Jvm.Cond.code (⟨"com/example/waitsfor/waitsfor/ShardSet", "<init>", "()V"⟩ : MethodName) prog_69_method_1_code 1 none :: ws) ({ frames := 1, cells := 0, slots := 0, locals := 12 } : Room)) (fun a U => a = #[(.ref a0')] ∧ Z.Warmed39 U.vm ∧ U.heap = h0) (fun _ _ _ _ _ => True) (fun _ U o U' => ∃ v L, o = .returned v ∧ Q_rm_ini Z a0' h0 n0 v U'.heap L ∧ FrameEnd U o U' L 0 0) := by
  refine MetFree.of_bodySF (plainFor_of_name pn_com_example_waitsfor_waitsfor_ShardSet) hisR ?_
  intro p e s m args below meth c s₁ Bd hml0 hP hK
  obtain ⟨rfl, hZ, hh⟩ := hP
  have hx := Bd.exec
  have hby := Bd.bytes
  have hlk := Bd.notSynchronized
  have hml : c.maxLocals = 1 := hml0
  have hown : s.vm.findClass "com/example/waitsfor/waitsfor/ShardSet" = some m.cls := findClass_of_methodNamed Bd.named
  have hnm := (name_of_methodNamed Bd.named Bd.method).1
  have X0 : Stand p l e ({ frames := 1, cells := 0, slots := 0, locals := 12 } : Room) s m #[(.ref a0')] below meth c s₁ [] 0 0 := Stand.of_body Bd
  have e0 : s₁.heap = h0 := by rw [← hh, Bd.state]; rfl
  have N0 := Fr.nil n0
  show OwnEnd p e below s (Q_rm_ini Z a0' h0 n0) 0 0 (s₁.setTop (entryFrame m #[(.ref a0')] 1))
  refine go (fun t k => castTop (ef_rm_ini m a0') k) ?_
  show OwnEnd _ _ _ _ _ _ _ (s₁.setTop (mkF m 0 #[.val (.ref a0')] []))
  refine go (fun _ k => by refine XS.aloadN X0.here hx rfl (hb hby d_prog_69_method_1_code_0) rfl rfl ?_; exact k) ?_
  show OwnEnd _ _ _ _ _ _ _ (s₁.setTop (mkF m 1 #[.val (.ref a0')] [(.ref a0')]))
  obtain ⟨T1, X1, e1, st1⟩ := initO X0 hx hZ hown (hw _ (List.mem_of_getElem? (i := 7) rfl)) (hw _ (List.mem_of_getElem? (i := 8) rfl)) (hw _ (List.mem_of_getElem? (i := 9) rfl)) e0 (g := (mkF m 1 #[.val (.ref a0')] [(.ref a0')])) rfl (by rw [hml]; rfl) rfl (hb hby d_prog_69_method_1_code_1) (by decide) (W := 0) (by show 2 * 0 + _ ≤ _; exact Nat.le_of_eq rfl) (by decide)
  refine go st1 ?_
  show OwnEnd _ _ _ _ _ _ _ (T1.setTop (mkF m 4 #[.val (.ref a0')] []))
  refine endV X1 hx hlk Bd.returns (hb hby d_prog_69_method_1_code_4) e1 (by decide) (by decide) ?_
  exact ⟨rfl, N0, rfl⟩
theorem d_method_2_code_0 : decode method_2_code 0 = .ok (.iload_n 0, 1) := by decide +kernel
theorem d_method_2_code_1 : decode method_2_code 1 = .ok (.iload_n 2, 1) := by decide +kernel
theorem d_method_2_code_2 : decode method_2_code 2 = .ok (.iload_n 1, 1) := by decide +kernel
theorem d_method_2_code_3 : decode method_2_code 3 = .ok (.imul, 1) := by decide +kernel
theorem d_method_2_code_4 : decode method_2_code 4 = .ok (.iadd, 1) := by decide +kernel
theorem d_method_2_code_5 : decode method_2_code 5 = .ok (.sipush 255, 3) := by decide +kernel
theorem d_method_2_code_8 : decode method_2_code 8 = .ok (.iand, 1) := by decide +kernel
theorem d_method_2_code_9 : decode method_2_code 9 = .ok (.ireturn, 1) := by decide +kernel
theorem pn_com_example_waitsfor_waitsfor_ShardSetGetPinLaw : plainName "com/example/waitsfor/waitsfor/ShardSetGetPinLaw" = true := by first | (simp [plainName, overriddenIn]; done) | decide +kernel
theorem ef_rm_sh (m : MethodId) (y0 : Int32) (y1 : Int32) (y2 : Int32) : entryFrame m #[(.int y0), (.int y1), (.int y2)] 3 = mkF m 0 #[.val (.int y0), .val (.int y1), .val (.int y2)] [] := by first | (simp [entryFrame, mkF, argsToLocals, Value.category]; done) | rfl
def Q_rm_sh (Z : State) (p0 : Int32) (p1 : Int32) (p2 : Int32) (h0 : Heap) (n0 : Nat) (v : Option Value) (h : Heap) (L : List Loc) : Prop := v = some (.int ((p0 + (p2 * p1)) &&& (255 : Int32))) ∧ Fr n0 L ∧ h = h0
set_option maxRecDepth 65536 in
set_option maxHeartbeats 40000000 in
theorem rm_sh (l : Launch) (Z : State) (a0 : Array Value) (hw : ∀ d ∈ tables_1, d.before a0 Z = true) (ws : List Jvm.Cond) (p0 : Int32) (p1 : Int32) (p2 : Int32) (h0 : Heap) (n0 : Nat) :
    MetFree l (⟨"com/example/waitsfor/waitsfor/ShardSetGetPinLaw", "shard", "(III)I"⟩ : MethodName) (head1 (Jvm.Cond.code (⟨"com/example/waitsfor/waitsfor/ShardSetGetPinLaw", "shard", "(III)I"⟩ : MethodName) method_2_code 3 (some .int) :: ws) ({ frames := 0, cells := 0, slots := 0, locals := 0 } : Room)) (fun a U => a = #[(.int p0), (.int p1), (.int p2)] ∧ Z.Warmed39 U.vm ∧ U.heap = h0) (fun _ _ _ _ _ => True) (fun _ U o U' => ∃ v L, o = .returned v ∧ Q_rm_sh Z p0 p1 p2 h0 n0 v U'.heap L ∧ FrameEnd U o U' L 0 0) := by
  refine MetFree.of_bodySF (plainFor_of_name pn_com_example_waitsfor_waitsfor_ShardSetGetPinLaw) hisR ?_
  intro p e s m args below meth c s₁ Bd hml0 hP hK
  obtain ⟨rfl, hZ, hh⟩ := hP
  have hx := Bd.exec
  have hby := Bd.bytes
  have hlk := Bd.notSynchronized
  have hml : c.maxLocals = 3 := hml0
  have hown : s.vm.findClass "com/example/waitsfor/waitsfor/ShardSetGetPinLaw" = some m.cls := findClass_of_methodNamed Bd.named
  have hnm := (name_of_methodNamed Bd.named Bd.method).1
  have X0 : Stand p l e ({ frames := 0, cells := 0, slots := 0, locals := 0 } : Room) s m #[(.int p0), (.int p1), (.int p2)] below meth c s₁ [] 0 0 := Stand.of_body Bd
  have e0 : s₁.heap = h0 := by rw [← hh, Bd.state]; rfl
  have N0 := Fr.nil n0
  show OwnEnd p e below s (Q_rm_sh Z p0 p1 p2 h0 n0) 0 0 (s₁.setTop (entryFrame m #[(.int p0), (.int p1), (.int p2)] 3))
  refine go (fun t k => castTop (ef_rm_sh m p0 p1 p2) k) ?_
  show OwnEnd _ _ _ _ _ _ _ (s₁.setTop (mkF m 0 #[.val (.int p0), .val (.int p1), .val (.int p2)] []))
  refine go (fun _ k => by refine XS.iloadN X0.here hx rfl (hb hby d_method_2_code_0) rfl ?_; exact k) ?_
  refine go (fun _ k => by refine XS.iloadN X0.here hx rfl (hb hby d_method_2_code_1) rfl ?_; exact k) ?_
  refine go (fun _ k => by refine XS.iloadN X0.here hx rfl (hb hby d_method_2_code_2) rfl ?_; exact k) ?_
  refine go (fun _ k => by refine XS.imul X0.here hx rfl (hb hby d_method_2_code_3) rfl ?_; exact k) ?_
  show OwnEnd _ _ _ _ _ _ _ (s₁.setTop (mkF m 4 #[.val (.int p0), .val (.int p1), .val (.int p2)] [(.int (p2 * p1)), (.int p0)]))
  refine go (fun _ k => by refine XS.iadd X0.here hx rfl (hb hby d_method_2_code_4) rfl ?_; exact k) ?_
  refine go (fun _ k => by refine XS.sipush X0.here hx rfl (hb hby d_method_2_code_5) ?_; exact k) ?_
  refine go (fun _ k => by refine XS.iand X0.here hx rfl (hb hby d_method_2_code_8) rfl ?_; exact k) ?_
  show OwnEnd _ _ _ _ _ _ _ (s₁.setTop (mkF m 9 #[.val (.int p0), .val (.int p1), .val (.int p2)] [(.int ((p0 + (p2 * p1)) &&& (255 : Int32)))]))
  refine endI X0 hx hlk Bd.returns (hb hby d_method_2_code_9) e0 (by decide) (by decide) ?_
  exact ⟨rfl, N0, rfl⟩
theorem d_prog_69_method_4_code_0 : decode prog_69_method_4_code 0 = .ok (.iload_n 1, 1) := by decide +kernel
theorem d_prog_69_method_4_code_1 : decode prog_69_method_4_code 1 = .ok (.bipush 8, 2) := by decide +kernel
theorem d_prog_69_method_4_code_3 : decode prog_69_method_4_code 3 = .ok (.if_icmp .ge 18, 3) := by decide +kernel
theorem d_prog_69_method_4_code_6 : decode prog_69_method_4_code 6 = .ok (.aload_n 0, 1) := by decide +kernel
theorem d_prog_69_method_4_code_7 : decode prog_69_method_4_code 7 = .ok (.getfield 19, 3) := by decide +kernel
theorem d_prog_69_method_4_code_10 : decode prog_69_method_4_code 10 = .ok (.bipush 8, 2) := by decide +kernel
theorem d_prog_69_method_4_code_12 : decode prog_69_method_4_code 12 = .ok (.iload_n 1, 1) := by decide +kernel
theorem d_prog_69_method_4_code_13 : decode prog_69_method_4_code 13 = .ok (.imul, 1) := by decide +kernel
theorem d_prog_69_method_4_code_14 : decode prog_69_method_4_code 14 = .ok (.lushr, 1) := by decide +kernel
theorem d_prog_69_method_4_code_15 : decode prog_69_method_4_code 15 = .ok (.l2i, 1) := by decide +kernel
theorem d_prog_69_method_4_code_16 : decode prog_69_method_4_code 16 = .ok (.sipush 255, 3) := by decide +kernel
theorem d_prog_69_method_4_code_19 : decode prog_69_method_4_code 19 = .ok (.iand, 1) := by decide +kernel
theorem d_prog_69_method_4_code_20 : decode prog_69_method_4_code 20 = .ok (.ireturn, 1) := by decide +kernel
theorem ef_rm_get0 (m : MethodId) (y0 : Addr) : entryFrame m #[(.ref y0), (.int (0 : Int32))] 2 = mkF m 0 #[.val (.ref y0), .val (.int (0 : Int32))] [] := by first | (simp [entryFrame, mkF, argsToLocals, Value.category]; done) | rfl
def Q_rm_get0 (Z : State) (a0' : Addr) (P : Int64) (h0 : Heap) (n0 : Nat) (v : Option Value) (h : Heap) (L : List Loc) : Prop := v = some (.int (own_get P 0)) ∧ Fr n0 L ∧ h = h0
set_option maxRecDepth 65536 in
set_option maxHeartbeats 40000000 in
theorem rm_get0 (l : Launch) (Z : State) (a0 : Array Value) (hw : ∀ d ∈ tables_1, d.before a0 Z = true) (ws : List Jvm.Cond) (a0' : Addr) (P : Int64) (h0 : Heap) (n0 : Nat) (FP : Fld Z h0 a0' "com/example/waitsfor/waitsfor/ShardSet" "packed" "J" (.long P)) :
    MetFree l (⟨"com/example/waitsfor/waitsfor/ShardSet", "get", "(I)I"⟩ : MethodName) (head1 (Jvm.Cond.code (⟨"com/example/waitsfor/waitsfor/ShardSet", "get", "(I)I"⟩ : MethodName) prog_69_method_4_code 2 (some .int) :: ws) ({ frames := 0, cells := 0, slots := 0, locals := 0 } : Room)) (fun a U => a = #[(.ref a0'), (.int (0 : Int32))] ∧ Z.Warmed39 U.vm ∧ U.heap = h0) (fun _ _ _ _ _ => True) (fun _ U o U' => ∃ v L, o = .returned v ∧ Q_rm_get0 Z a0' P h0 n0 v U'.heap L ∧ FrameEnd U o U' L 0 0) := by
  refine MetFree.of_bodySF (plainFor_of_name pn_com_example_waitsfor_waitsfor_ShardSet) hisR ?_
  intro p e s m args below meth c s₁ Bd hml0 hP hK
  obtain ⟨rfl, hZ, hh⟩ := hP
  have hx := Bd.exec
  have hby := Bd.bytes
  have hlk := Bd.notSynchronized
  have hml : c.maxLocals = 2 := hml0
  have hown : s.vm.findClass "com/example/waitsfor/waitsfor/ShardSet" = some m.cls := findClass_of_methodNamed Bd.named
  have hnm := (name_of_methodNamed Bd.named Bd.method).1
  have X0 : Stand p l e ({ frames := 0, cells := 0, slots := 0, locals := 0 } : Room) s m #[(.ref a0'), (.int (0 : Int32))] below meth c s₁ [] 0 0 := Stand.of_body Bd
  have e0 : s₁.heap = h0 := by rw [← hh, Bd.state]; rfl
  have N0 := Fr.nil n0
  show OwnEnd p e below s (Q_rm_get0 Z a0' P h0 n0) 0 0 (s₁.setTop (entryFrame m #[(.ref a0'), (.int (0 : Int32))] 2))
  refine go (fun t k => castTop (ef_rm_get0 m a0') k) ?_
  show OwnEnd _ _ _ _ _ _ _ (s₁.setTop (mkF m 0 #[.val (.ref a0'), .val (.int (0 : Int32))] []))
  refine go (fun _ k => by refine XS.iloadN X0.here hx rfl (hb hby d_prog_69_method_4_code_0) rfl ?_; exact k) ?_
  refine go (fun _ k => by refine XS.bipush X0.here hx rfl (hb hby d_prog_69_method_4_code_1) ?_; exact k) ?_
  show OwnEnd _ _ _ _ _ _ _ (s₁.setTop (mkF m 3 #[.val (.ref a0'), .val (.int (0 : Int32))] [(.int (8 : Int32)), (.int (0 : Int32))]))
  refine go (fun _ k => by refine XS.icmpNo X0.here hx rfl (hb hby d_prog_69_method_4_code_3) rfl (tlt (by decide)).2.1 ?_; exact k) ?_
  refine go (fun _ k => by refine XS.aloadN X0.here hx rfl (hb hby d_prog_69_method_4_code_6) rfl rfl ?_; exact k) ?_
  show OwnEnd _ _ _ _ _ _ _ (s₁.setTop (mkF m 7 #[.val (.ref a0'), .val (.int (0 : Int32))] [(.ref a0')]))
  obtain ⟨T1, X1, e1, st1⟩ := getF X0 hx hZ hown (host := "") (Or.inl (hw _ (List.mem_of_getElem? (i := 21) rfl))) Via.refl e0 FP (g := (mkF m 7 #[.val (.ref a0'), .val (.int (0 : Int32))] [(.ref a0')])) rfl rfl (hb hby d_prog_69_method_4_code_7)
  refine go st1 ?_
  refine go (fun _ k => by refine XS.bipush X1.here hx rfl (hb hby d_prog_69_method_4_code_10) ?_; exact k) ?_
  refine go (fun _ k => by refine XS.iloadN X1.here hx rfl (hb hby d_prog_69_method_4_code_12) rfl ?_; exact k) ?_
  refine go (fun _ k => by refine XS.imul X1.here hx rfl (hb hby d_prog_69_method_4_code_13) rfl ?_; exact k) ?_
  show OwnEnd _ _ _ _ _ _ _ (T1.setTop (mkF m 14 #[.val (.ref a0'), .val (.int (0 : Int32))] [(.int ((8 : Int32) * (0 : Int32))), (.long P)]))
  rw [show ((8 : Int32) * (0 : Int32)) = (0 : Int32) from by decide]
  show OwnEnd _ _ _ _ _ _ _ (T1.setTop (mkF m 14 #[.val (.ref a0'), .val (.int (0 : Int32))] [(.int (0 : Int32)), (.long P)]))
  refine go (fun _ k => by refine XS.lushr X1.here hx rfl (hb hby d_prog_69_method_4_code_14) rfl ?_; exact k) ?_
  refine go (fun _ k => by refine XS.l2i X1.here hx rfl (hb hby d_prog_69_method_4_code_15) rfl ?_; exact k) ?_
  refine go (fun _ k => by refine XS.sipush X1.here hx rfl (hb hby d_prog_69_method_4_code_16) ?_; exact k) ?_
  refine go (fun _ k => by refine XS.iand X1.here hx rfl (hb hby d_prog_69_method_4_code_19) rfl ?_; exact k) ?_
  show OwnEnd _ _ _ _ _ _ _ (T1.setTop (mkF m 20 #[.val (.ref a0'), .val (.int (0 : Int32))] [(.int ((((P.toUInt64 >>> ((0 : Int32) &&& 0x3f).toInt64.toUInt64).toInt64).toInt32) &&& (255 : Int32)))]))
  refine endI X1 hx hlk Bd.returns (hb hby d_prog_69_method_4_code_20) e1 (by decide) (by decide) ?_
  exact ⟨rfl, N0, rfl⟩
theorem ef_rm_get1 (m : MethodId) (y0 : Addr) : entryFrame m #[(.ref y0), (.int (1 : Int32))] 2 = mkF m 0 #[.val (.ref y0), .val (.int (1 : Int32))] [] := by first | (simp [entryFrame, mkF, argsToLocals, Value.category]; done) | rfl
def Q_rm_get1 (Z : State) (a0' : Addr) (P : Int64) (h0 : Heap) (n0 : Nat) (v : Option Value) (h : Heap) (L : List Loc) : Prop := v = some (.int (own_get P 8)) ∧ Fr n0 L ∧ h = h0
set_option maxRecDepth 65536 in
set_option maxHeartbeats 40000000 in
theorem rm_get1 (l : Launch) (Z : State) (a0 : Array Value) (hw : ∀ d ∈ tables_1, d.before a0 Z = true) (ws : List Jvm.Cond) (a0' : Addr) (P : Int64) (h0 : Heap) (n0 : Nat) (FP : Fld Z h0 a0' "com/example/waitsfor/waitsfor/ShardSet" "packed" "J" (.long P)) :
    MetFree l (⟨"com/example/waitsfor/waitsfor/ShardSet", "get", "(I)I"⟩ : MethodName) (head1 (Jvm.Cond.code (⟨"com/example/waitsfor/waitsfor/ShardSet", "get", "(I)I"⟩ : MethodName) prog_69_method_4_code 2 (some .int) :: ws) ({ frames := 0, cells := 0, slots := 0, locals := 0 } : Room)) (fun a U => a = #[(.ref a0'), (.int (1 : Int32))] ∧ Z.Warmed39 U.vm ∧ U.heap = h0) (fun _ _ _ _ _ => True) (fun _ U o U' => ∃ v L, o = .returned v ∧ Q_rm_get1 Z a0' P h0 n0 v U'.heap L ∧ FrameEnd U o U' L 0 0) := by
  refine MetFree.of_bodySF (plainFor_of_name pn_com_example_waitsfor_waitsfor_ShardSet) hisR ?_
  intro p e s m args below meth c s₁ Bd hml0 hP hK
  obtain ⟨rfl, hZ, hh⟩ := hP
  have hx := Bd.exec
  have hby := Bd.bytes
  have hlk := Bd.notSynchronized
  have hml : c.maxLocals = 2 := hml0
  have hown : s.vm.findClass "com/example/waitsfor/waitsfor/ShardSet" = some m.cls := findClass_of_methodNamed Bd.named
  have hnm := (name_of_methodNamed Bd.named Bd.method).1
  have X0 : Stand p l e ({ frames := 0, cells := 0, slots := 0, locals := 0 } : Room) s m #[(.ref a0'), (.int (1 : Int32))] below meth c s₁ [] 0 0 := Stand.of_body Bd
  have e0 : s₁.heap = h0 := by rw [← hh, Bd.state]; rfl
  have N0 := Fr.nil n0
  show OwnEnd p e below s (Q_rm_get1 Z a0' P h0 n0) 0 0 (s₁.setTop (entryFrame m #[(.ref a0'), (.int (1 : Int32))] 2))
  refine go (fun t k => castTop (ef_rm_get1 m a0') k) ?_
  show OwnEnd _ _ _ _ _ _ _ (s₁.setTop (mkF m 0 #[.val (.ref a0'), .val (.int (1 : Int32))] []))
  refine go (fun _ k => by refine XS.iloadN X0.here hx rfl (hb hby d_prog_69_method_4_code_0) rfl ?_; exact k) ?_
  refine go (fun _ k => by refine XS.bipush X0.here hx rfl (hb hby d_prog_69_method_4_code_1) ?_; exact k) ?_
  show OwnEnd _ _ _ _ _ _ _ (s₁.setTop (mkF m 3 #[.val (.ref a0'), .val (.int (1 : Int32))] [(.int (8 : Int32)), (.int (1 : Int32))]))
  refine go (fun _ k => by refine XS.icmpNo X0.here hx rfl (hb hby d_prog_69_method_4_code_3) rfl (tlt (by decide)).2.1 ?_; exact k) ?_
  refine go (fun _ k => by refine XS.aloadN X0.here hx rfl (hb hby d_prog_69_method_4_code_6) rfl rfl ?_; exact k) ?_
  show OwnEnd _ _ _ _ _ _ _ (s₁.setTop (mkF m 7 #[.val (.ref a0'), .val (.int (1 : Int32))] [(.ref a0')]))
  obtain ⟨T1, X1, e1, st1⟩ := getF X0 hx hZ hown (host := "") (Or.inl (hw _ (List.mem_of_getElem? (i := 21) rfl))) Via.refl e0 FP (g := (mkF m 7 #[.val (.ref a0'), .val (.int (1 : Int32))] [(.ref a0')])) rfl rfl (hb hby d_prog_69_method_4_code_7)
  refine go st1 ?_
  refine go (fun _ k => by refine XS.bipush X1.here hx rfl (hb hby d_prog_69_method_4_code_10) ?_; exact k) ?_
  refine go (fun _ k => by refine XS.iloadN X1.here hx rfl (hb hby d_prog_69_method_4_code_12) rfl ?_; exact k) ?_
  refine go (fun _ k => by refine XS.imul X1.here hx rfl (hb hby d_prog_69_method_4_code_13) rfl ?_; exact k) ?_
  show OwnEnd _ _ _ _ _ _ _ (T1.setTop (mkF m 14 #[.val (.ref a0'), .val (.int (1 : Int32))] [(.int ((8 : Int32) * (1 : Int32))), (.long P)]))
  rw [show ((8 : Int32) * (1 : Int32)) = (8 : Int32) from by decide]
  show OwnEnd _ _ _ _ _ _ _ (T1.setTop (mkF m 14 #[.val (.ref a0'), .val (.int (1 : Int32))] [(.int (8 : Int32)), (.long P)]))
  refine go (fun _ k => by refine XS.lushr X1.here hx rfl (hb hby d_prog_69_method_4_code_14) rfl ?_; exact k) ?_
  refine go (fun _ k => by refine XS.l2i X1.here hx rfl (hb hby d_prog_69_method_4_code_15) rfl ?_; exact k) ?_
  refine go (fun _ k => by refine XS.sipush X1.here hx rfl (hb hby d_prog_69_method_4_code_16) ?_; exact k) ?_
  refine go (fun _ k => by refine XS.iand X1.here hx rfl (hb hby d_prog_69_method_4_code_19) rfl ?_; exact k) ?_
  show OwnEnd _ _ _ _ _ _ _ (T1.setTop (mkF m 20 #[.val (.ref a0'), .val (.int (1 : Int32))] [(.int ((((P.toUInt64 >>> ((8 : Int32) &&& 0x3f).toInt64.toUInt64).toInt64).toInt32) &&& (255 : Int32)))]))
  refine endI X1 hx hlk Bd.returns (hb hby d_prog_69_method_4_code_20) e1 (by decide) (by decide) ?_
  exact ⟨rfl, N0, rfl⟩
theorem ef_rm_get2 (m : MethodId) (y0 : Addr) : entryFrame m #[(.ref y0), (.int (2 : Int32))] 2 = mkF m 0 #[.val (.ref y0), .val (.int (2 : Int32))] [] := by first | (simp [entryFrame, mkF, argsToLocals, Value.category]; done) | rfl
def Q_rm_get2 (Z : State) (a0' : Addr) (P : Int64) (h0 : Heap) (n0 : Nat) (v : Option Value) (h : Heap) (L : List Loc) : Prop := v = some (.int (own_get P 16)) ∧ Fr n0 L ∧ h = h0
set_option maxRecDepth 65536 in
set_option maxHeartbeats 40000000 in
theorem rm_get2 (l : Launch) (Z : State) (a0 : Array Value) (hw : ∀ d ∈ tables_1, d.before a0 Z = true) (ws : List Jvm.Cond) (a0' : Addr) (P : Int64) (h0 : Heap) (n0 : Nat) (FP : Fld Z h0 a0' "com/example/waitsfor/waitsfor/ShardSet" "packed" "J" (.long P)) :
    MetFree l (⟨"com/example/waitsfor/waitsfor/ShardSet", "get", "(I)I"⟩ : MethodName) (head1 (Jvm.Cond.code (⟨"com/example/waitsfor/waitsfor/ShardSet", "get", "(I)I"⟩ : MethodName) prog_69_method_4_code 2 (some .int) :: ws) ({ frames := 0, cells := 0, slots := 0, locals := 0 } : Room)) (fun a U => a = #[(.ref a0'), (.int (2 : Int32))] ∧ Z.Warmed39 U.vm ∧ U.heap = h0) (fun _ _ _ _ _ => True) (fun _ U o U' => ∃ v L, o = .returned v ∧ Q_rm_get2 Z a0' P h0 n0 v U'.heap L ∧ FrameEnd U o U' L 0 0) := by
  refine MetFree.of_bodySF (plainFor_of_name pn_com_example_waitsfor_waitsfor_ShardSet) hisR ?_
  intro p e s m args below meth c s₁ Bd hml0 hP hK
  obtain ⟨rfl, hZ, hh⟩ := hP
  have hx := Bd.exec
  have hby := Bd.bytes
  have hlk := Bd.notSynchronized
  have hml : c.maxLocals = 2 := hml0
  have hown : s.vm.findClass "com/example/waitsfor/waitsfor/ShardSet" = some m.cls := findClass_of_methodNamed Bd.named
  have hnm := (name_of_methodNamed Bd.named Bd.method).1
  have X0 : Stand p l e ({ frames := 0, cells := 0, slots := 0, locals := 0 } : Room) s m #[(.ref a0'), (.int (2 : Int32))] below meth c s₁ [] 0 0 := Stand.of_body Bd
  have e0 : s₁.heap = h0 := by rw [← hh, Bd.state]; rfl
  have N0 := Fr.nil n0
  show OwnEnd p e below s (Q_rm_get2 Z a0' P h0 n0) 0 0 (s₁.setTop (entryFrame m #[(.ref a0'), (.int (2 : Int32))] 2))
  refine go (fun t k => castTop (ef_rm_get2 m a0') k) ?_
  show OwnEnd _ _ _ _ _ _ _ (s₁.setTop (mkF m 0 #[.val (.ref a0'), .val (.int (2 : Int32))] []))
  refine go (fun _ k => by refine XS.iloadN X0.here hx rfl (hb hby d_prog_69_method_4_code_0) rfl ?_; exact k) ?_
  refine go (fun _ k => by refine XS.bipush X0.here hx rfl (hb hby d_prog_69_method_4_code_1) ?_; exact k) ?_
  show OwnEnd _ _ _ _ _ _ _ (s₁.setTop (mkF m 3 #[.val (.ref a0'), .val (.int (2 : Int32))] [(.int (8 : Int32)), (.int (2 : Int32))]))
  refine go (fun _ k => by refine XS.icmpNo X0.here hx rfl (hb hby d_prog_69_method_4_code_3) rfl (tlt (by decide)).2.1 ?_; exact k) ?_
  refine go (fun _ k => by refine XS.aloadN X0.here hx rfl (hb hby d_prog_69_method_4_code_6) rfl rfl ?_; exact k) ?_
  show OwnEnd _ _ _ _ _ _ _ (s₁.setTop (mkF m 7 #[.val (.ref a0'), .val (.int (2 : Int32))] [(.ref a0')]))
  obtain ⟨T1, X1, e1, st1⟩ := getF X0 hx hZ hown (host := "") (Or.inl (hw _ (List.mem_of_getElem? (i := 21) rfl))) Via.refl e0 FP (g := (mkF m 7 #[.val (.ref a0'), .val (.int (2 : Int32))] [(.ref a0')])) rfl rfl (hb hby d_prog_69_method_4_code_7)
  refine go st1 ?_
  refine go (fun _ k => by refine XS.bipush X1.here hx rfl (hb hby d_prog_69_method_4_code_10) ?_; exact k) ?_
  refine go (fun _ k => by refine XS.iloadN X1.here hx rfl (hb hby d_prog_69_method_4_code_12) rfl ?_; exact k) ?_
  refine go (fun _ k => by refine XS.imul X1.here hx rfl (hb hby d_prog_69_method_4_code_13) rfl ?_; exact k) ?_
  show OwnEnd _ _ _ _ _ _ _ (T1.setTop (mkF m 14 #[.val (.ref a0'), .val (.int (2 : Int32))] [(.int ((8 : Int32) * (2 : Int32))), (.long P)]))
  rw [show ((8 : Int32) * (2 : Int32)) = (16 : Int32) from by decide]
  show OwnEnd _ _ _ _ _ _ _ (T1.setTop (mkF m 14 #[.val (.ref a0'), .val (.int (2 : Int32))] [(.int (16 : Int32)), (.long P)]))
  refine go (fun _ k => by refine XS.lushr X1.here hx rfl (hb hby d_prog_69_method_4_code_14) rfl ?_; exact k) ?_
  refine go (fun _ k => by refine XS.l2i X1.here hx rfl (hb hby d_prog_69_method_4_code_15) rfl ?_; exact k) ?_
  refine go (fun _ k => by refine XS.sipush X1.here hx rfl (hb hby d_prog_69_method_4_code_16) ?_; exact k) ?_
  refine go (fun _ k => by refine XS.iand X1.here hx rfl (hb hby d_prog_69_method_4_code_19) rfl ?_; exact k) ?_
  show OwnEnd _ _ _ _ _ _ _ (T1.setTop (mkF m 20 #[.val (.ref a0'), .val (.int (2 : Int32))] [(.int ((((P.toUInt64 >>> ((16 : Int32) &&& 0x3f).toInt64.toUInt64).toInt64).toInt32) &&& (255 : Int32)))]))
  refine endI X1 hx hlk Bd.returns (hb hby d_prog_69_method_4_code_20) e1 (by decide) (by decide) ?_
  exact ⟨rfl, N0, rfl⟩
theorem ef_rm_get3 (m : MethodId) (y0 : Addr) : entryFrame m #[(.ref y0), (.int (3 : Int32))] 2 = mkF m 0 #[.val (.ref y0), .val (.int (3 : Int32))] [] := by first | (simp [entryFrame, mkF, argsToLocals, Value.category]; done) | rfl
def Q_rm_get3 (Z : State) (a0' : Addr) (P : Int64) (h0 : Heap) (n0 : Nat) (v : Option Value) (h : Heap) (L : List Loc) : Prop := v = some (.int (own_get P 24)) ∧ Fr n0 L ∧ h = h0
set_option maxRecDepth 65536 in
set_option maxHeartbeats 40000000 in
theorem rm_get3 (l : Launch) (Z : State) (a0 : Array Value) (hw : ∀ d ∈ tables_1, d.before a0 Z = true) (ws : List Jvm.Cond) (a0' : Addr) (P : Int64) (h0 : Heap) (n0 : Nat) (FP : Fld Z h0 a0' "com/example/waitsfor/waitsfor/ShardSet" "packed" "J" (.long P)) :
    MetFree l (⟨"com/example/waitsfor/waitsfor/ShardSet", "get", "(I)I"⟩ : MethodName) (head1 (Jvm.Cond.code (⟨"com/example/waitsfor/waitsfor/ShardSet", "get", "(I)I"⟩ : MethodName) prog_69_method_4_code 2 (some .int) :: ws) ({ frames := 0, cells := 0, slots := 0, locals := 0 } : Room)) (fun a U => a = #[(.ref a0'), (.int (3 : Int32))] ∧ Z.Warmed39 U.vm ∧ U.heap = h0) (fun _ _ _ _ _ => True) (fun _ U o U' => ∃ v L, o = .returned v ∧ Q_rm_get3 Z a0' P h0 n0 v U'.heap L ∧ FrameEnd U o U' L 0 0) := by
  refine MetFree.of_bodySF (plainFor_of_name pn_com_example_waitsfor_waitsfor_ShardSet) hisR ?_
  intro p e s m args below meth c s₁ Bd hml0 hP hK
  obtain ⟨rfl, hZ, hh⟩ := hP
  have hx := Bd.exec
  have hby := Bd.bytes
  have hlk := Bd.notSynchronized
  have hml : c.maxLocals = 2 := hml0
  have hown : s.vm.findClass "com/example/waitsfor/waitsfor/ShardSet" = some m.cls := findClass_of_methodNamed Bd.named
  have hnm := (name_of_methodNamed Bd.named Bd.method).1
  have X0 : Stand p l e ({ frames := 0, cells := 0, slots := 0, locals := 0 } : Room) s m #[(.ref a0'), (.int (3 : Int32))] below meth c s₁ [] 0 0 := Stand.of_body Bd
  have e0 : s₁.heap = h0 := by rw [← hh, Bd.state]; rfl
  have N0 := Fr.nil n0
  show OwnEnd p e below s (Q_rm_get3 Z a0' P h0 n0) 0 0 (s₁.setTop (entryFrame m #[(.ref a0'), (.int (3 : Int32))] 2))
  refine go (fun t k => castTop (ef_rm_get3 m a0') k) ?_
  show OwnEnd _ _ _ _ _ _ _ (s₁.setTop (mkF m 0 #[.val (.ref a0'), .val (.int (3 : Int32))] []))
  refine go (fun _ k => by refine XS.iloadN X0.here hx rfl (hb hby d_prog_69_method_4_code_0) rfl ?_; exact k) ?_
  refine go (fun _ k => by refine XS.bipush X0.here hx rfl (hb hby d_prog_69_method_4_code_1) ?_; exact k) ?_
  show OwnEnd _ _ _ _ _ _ _ (s₁.setTop (mkF m 3 #[.val (.ref a0'), .val (.int (3 : Int32))] [(.int (8 : Int32)), (.int (3 : Int32))]))
  refine go (fun _ k => by refine XS.icmpNo X0.here hx rfl (hb hby d_prog_69_method_4_code_3) rfl (tlt (by decide)).2.1 ?_; exact k) ?_
  refine go (fun _ k => by refine XS.aloadN X0.here hx rfl (hb hby d_prog_69_method_4_code_6) rfl rfl ?_; exact k) ?_
  show OwnEnd _ _ _ _ _ _ _ (s₁.setTop (mkF m 7 #[.val (.ref a0'), .val (.int (3 : Int32))] [(.ref a0')]))
  obtain ⟨T1, X1, e1, st1⟩ := getF X0 hx hZ hown (host := "") (Or.inl (hw _ (List.mem_of_getElem? (i := 21) rfl))) Via.refl e0 FP (g := (mkF m 7 #[.val (.ref a0'), .val (.int (3 : Int32))] [(.ref a0')])) rfl rfl (hb hby d_prog_69_method_4_code_7)
  refine go st1 ?_
  refine go (fun _ k => by refine XS.bipush X1.here hx rfl (hb hby d_prog_69_method_4_code_10) ?_; exact k) ?_
  refine go (fun _ k => by refine XS.iloadN X1.here hx rfl (hb hby d_prog_69_method_4_code_12) rfl ?_; exact k) ?_
  refine go (fun _ k => by refine XS.imul X1.here hx rfl (hb hby d_prog_69_method_4_code_13) rfl ?_; exact k) ?_
  show OwnEnd _ _ _ _ _ _ _ (T1.setTop (mkF m 14 #[.val (.ref a0'), .val (.int (3 : Int32))] [(.int ((8 : Int32) * (3 : Int32))), (.long P)]))
  rw [show ((8 : Int32) * (3 : Int32)) = (24 : Int32) from by decide]
  show OwnEnd _ _ _ _ _ _ _ (T1.setTop (mkF m 14 #[.val (.ref a0'), .val (.int (3 : Int32))] [(.int (24 : Int32)), (.long P)]))
  refine go (fun _ k => by refine XS.lushr X1.here hx rfl (hb hby d_prog_69_method_4_code_14) rfl ?_; exact k) ?_
  refine go (fun _ k => by refine XS.l2i X1.here hx rfl (hb hby d_prog_69_method_4_code_15) rfl ?_; exact k) ?_
  refine go (fun _ k => by refine XS.sipush X1.here hx rfl (hb hby d_prog_69_method_4_code_16) ?_; exact k) ?_
  refine go (fun _ k => by refine XS.iand X1.here hx rfl (hb hby d_prog_69_method_4_code_19) rfl ?_; exact k) ?_
  show OwnEnd _ _ _ _ _ _ _ (T1.setTop (mkF m 20 #[.val (.ref a0'), .val (.int (3 : Int32))] [(.int ((((P.toUInt64 >>> ((24 : Int32) &&& 0x3f).toInt64.toUInt64).toInt64).toInt32) &&& (255 : Int32)))]))
  refine endI X1 hx hlk Bd.returns (hb hby d_prog_69_method_4_code_20) e1 (by decide) (by decide) ?_
  exact ⟨rfl, N0, rfl⟩
theorem ef_rm_get4 (m : MethodId) (y0 : Addr) : entryFrame m #[(.ref y0), (.int (4 : Int32))] 2 = mkF m 0 #[.val (.ref y0), .val (.int (4 : Int32))] [] := by first | (simp [entryFrame, mkF, argsToLocals, Value.category]; done) | rfl
def Q_rm_get4 (Z : State) (a0' : Addr) (P : Int64) (h0 : Heap) (n0 : Nat) (v : Option Value) (h : Heap) (L : List Loc) : Prop := v = some (.int (own_get P 32)) ∧ Fr n0 L ∧ h = h0
set_option maxRecDepth 65536 in
set_option maxHeartbeats 40000000 in
theorem rm_get4 (l : Launch) (Z : State) (a0 : Array Value) (hw : ∀ d ∈ tables_1, d.before a0 Z = true) (ws : List Jvm.Cond) (a0' : Addr) (P : Int64) (h0 : Heap) (n0 : Nat) (FP : Fld Z h0 a0' "com/example/waitsfor/waitsfor/ShardSet" "packed" "J" (.long P)) :
    MetFree l (⟨"com/example/waitsfor/waitsfor/ShardSet", "get", "(I)I"⟩ : MethodName) (head1 (Jvm.Cond.code (⟨"com/example/waitsfor/waitsfor/ShardSet", "get", "(I)I"⟩ : MethodName) prog_69_method_4_code 2 (some .int) :: ws) ({ frames := 0, cells := 0, slots := 0, locals := 0 } : Room)) (fun a U => a = #[(.ref a0'), (.int (4 : Int32))] ∧ Z.Warmed39 U.vm ∧ U.heap = h0) (fun _ _ _ _ _ => True) (fun _ U o U' => ∃ v L, o = .returned v ∧ Q_rm_get4 Z a0' P h0 n0 v U'.heap L ∧ FrameEnd U o U' L 0 0) := by
  refine MetFree.of_bodySF (plainFor_of_name pn_com_example_waitsfor_waitsfor_ShardSet) hisR ?_
  intro p e s m args below meth c s₁ Bd hml0 hP hK
  obtain ⟨rfl, hZ, hh⟩ := hP
  have hx := Bd.exec
  have hby := Bd.bytes
  have hlk := Bd.notSynchronized
  have hml : c.maxLocals = 2 := hml0
  have hown : s.vm.findClass "com/example/waitsfor/waitsfor/ShardSet" = some m.cls := findClass_of_methodNamed Bd.named
  have hnm := (name_of_methodNamed Bd.named Bd.method).1
  have X0 : Stand p l e ({ frames := 0, cells := 0, slots := 0, locals := 0 } : Room) s m #[(.ref a0'), (.int (4 : Int32))] below meth c s₁ [] 0 0 := Stand.of_body Bd
  have e0 : s₁.heap = h0 := by rw [← hh, Bd.state]; rfl
  have N0 := Fr.nil n0
  show OwnEnd p e below s (Q_rm_get4 Z a0' P h0 n0) 0 0 (s₁.setTop (entryFrame m #[(.ref a0'), (.int (4 : Int32))] 2))
  refine go (fun t k => castTop (ef_rm_get4 m a0') k) ?_
  show OwnEnd _ _ _ _ _ _ _ (s₁.setTop (mkF m 0 #[.val (.ref a0'), .val (.int (4 : Int32))] []))
  refine go (fun _ k => by refine XS.iloadN X0.here hx rfl (hb hby d_prog_69_method_4_code_0) rfl ?_; exact k) ?_
  refine go (fun _ k => by refine XS.bipush X0.here hx rfl (hb hby d_prog_69_method_4_code_1) ?_; exact k) ?_
  show OwnEnd _ _ _ _ _ _ _ (s₁.setTop (mkF m 3 #[.val (.ref a0'), .val (.int (4 : Int32))] [(.int (8 : Int32)), (.int (4 : Int32))]))
  refine go (fun _ k => by refine XS.icmpNo X0.here hx rfl (hb hby d_prog_69_method_4_code_3) rfl (tlt (by decide)).2.1 ?_; exact k) ?_
  refine go (fun _ k => by refine XS.aloadN X0.here hx rfl (hb hby d_prog_69_method_4_code_6) rfl rfl ?_; exact k) ?_
  show OwnEnd _ _ _ _ _ _ _ (s₁.setTop (mkF m 7 #[.val (.ref a0'), .val (.int (4 : Int32))] [(.ref a0')]))
  obtain ⟨T1, X1, e1, st1⟩ := getF X0 hx hZ hown (host := "") (Or.inl (hw _ (List.mem_of_getElem? (i := 21) rfl))) Via.refl e0 FP (g := (mkF m 7 #[.val (.ref a0'), .val (.int (4 : Int32))] [(.ref a0')])) rfl rfl (hb hby d_prog_69_method_4_code_7)
  refine go st1 ?_
  refine go (fun _ k => by refine XS.bipush X1.here hx rfl (hb hby d_prog_69_method_4_code_10) ?_; exact k) ?_
  refine go (fun _ k => by refine XS.iloadN X1.here hx rfl (hb hby d_prog_69_method_4_code_12) rfl ?_; exact k) ?_
  refine go (fun _ k => by refine XS.imul X1.here hx rfl (hb hby d_prog_69_method_4_code_13) rfl ?_; exact k) ?_
  show OwnEnd _ _ _ _ _ _ _ (T1.setTop (mkF m 14 #[.val (.ref a0'), .val (.int (4 : Int32))] [(.int ((8 : Int32) * (4 : Int32))), (.long P)]))
  rw [show ((8 : Int32) * (4 : Int32)) = (32 : Int32) from by decide]
  show OwnEnd _ _ _ _ _ _ _ (T1.setTop (mkF m 14 #[.val (.ref a0'), .val (.int (4 : Int32))] [(.int (32 : Int32)), (.long P)]))
  refine go (fun _ k => by refine XS.lushr X1.here hx rfl (hb hby d_prog_69_method_4_code_14) rfl ?_; exact k) ?_
  refine go (fun _ k => by refine XS.l2i X1.here hx rfl (hb hby d_prog_69_method_4_code_15) rfl ?_; exact k) ?_
  refine go (fun _ k => by refine XS.sipush X1.here hx rfl (hb hby d_prog_69_method_4_code_16) ?_; exact k) ?_
  refine go (fun _ k => by refine XS.iand X1.here hx rfl (hb hby d_prog_69_method_4_code_19) rfl ?_; exact k) ?_
  show OwnEnd _ _ _ _ _ _ _ (T1.setTop (mkF m 20 #[.val (.ref a0'), .val (.int (4 : Int32))] [(.int ((((P.toUInt64 >>> ((32 : Int32) &&& 0x3f).toInt64.toUInt64).toInt64).toInt32) &&& (255 : Int32)))]))
  refine endI X1 hx hlk Bd.returns (hb hby d_prog_69_method_4_code_20) e1 (by decide) (by decide) ?_
  exact ⟨rfl, N0, rfl⟩
theorem ef_rm_get5 (m : MethodId) (y0 : Addr) : entryFrame m #[(.ref y0), (.int (5 : Int32))] 2 = mkF m 0 #[.val (.ref y0), .val (.int (5 : Int32))] [] := by first | (simp [entryFrame, mkF, argsToLocals, Value.category]; done) | rfl
def Q_rm_get5 (Z : State) (a0' : Addr) (P : Int64) (h0 : Heap) (n0 : Nat) (v : Option Value) (h : Heap) (L : List Loc) : Prop := v = some (.int (own_get P 40)) ∧ Fr n0 L ∧ h = h0
set_option maxRecDepth 65536 in
set_option maxHeartbeats 40000000 in
theorem rm_get5 (l : Launch) (Z : State) (a0 : Array Value) (hw : ∀ d ∈ tables_1, d.before a0 Z = true) (ws : List Jvm.Cond) (a0' : Addr) (P : Int64) (h0 : Heap) (n0 : Nat) (FP : Fld Z h0 a0' "com/example/waitsfor/waitsfor/ShardSet" "packed" "J" (.long P)) :
    MetFree l (⟨"com/example/waitsfor/waitsfor/ShardSet", "get", "(I)I"⟩ : MethodName) (head1 (Jvm.Cond.code (⟨"com/example/waitsfor/waitsfor/ShardSet", "get", "(I)I"⟩ : MethodName) prog_69_method_4_code 2 (some .int) :: ws) ({ frames := 0, cells := 0, slots := 0, locals := 0 } : Room)) (fun a U => a = #[(.ref a0'), (.int (5 : Int32))] ∧ Z.Warmed39 U.vm ∧ U.heap = h0) (fun _ _ _ _ _ => True) (fun _ U o U' => ∃ v L, o = .returned v ∧ Q_rm_get5 Z a0' P h0 n0 v U'.heap L ∧ FrameEnd U o U' L 0 0) := by
  refine MetFree.of_bodySF (plainFor_of_name pn_com_example_waitsfor_waitsfor_ShardSet) hisR ?_
  intro p e s m args below meth c s₁ Bd hml0 hP hK
  obtain ⟨rfl, hZ, hh⟩ := hP
  have hx := Bd.exec
  have hby := Bd.bytes
  have hlk := Bd.notSynchronized
  have hml : c.maxLocals = 2 := hml0
  have hown : s.vm.findClass "com/example/waitsfor/waitsfor/ShardSet" = some m.cls := findClass_of_methodNamed Bd.named
  have hnm := (name_of_methodNamed Bd.named Bd.method).1
  have X0 : Stand p l e ({ frames := 0, cells := 0, slots := 0, locals := 0 } : Room) s m #[(.ref a0'), (.int (5 : Int32))] below meth c s₁ [] 0 0 := Stand.of_body Bd
  have e0 : s₁.heap = h0 := by rw [← hh, Bd.state]; rfl
  have N0 := Fr.nil n0
  show OwnEnd p e below s (Q_rm_get5 Z a0' P h0 n0) 0 0 (s₁.setTop (entryFrame m #[(.ref a0'), (.int (5 : Int32))] 2))
  refine go (fun t k => castTop (ef_rm_get5 m a0') k) ?_
  show OwnEnd _ _ _ _ _ _ _ (s₁.setTop (mkF m 0 #[.val (.ref a0'), .val (.int (5 : Int32))] []))
  refine go (fun _ k => by refine XS.iloadN X0.here hx rfl (hb hby d_prog_69_method_4_code_0) rfl ?_; exact k) ?_
  refine go (fun _ k => by refine XS.bipush X0.here hx rfl (hb hby d_prog_69_method_4_code_1) ?_; exact k) ?_
  show OwnEnd _ _ _ _ _ _ _ (s₁.setTop (mkF m 3 #[.val (.ref a0'), .val (.int (5 : Int32))] [(.int (8 : Int32)), (.int (5 : Int32))]))
  refine go (fun _ k => by refine XS.icmpNo X0.here hx rfl (hb hby d_prog_69_method_4_code_3) rfl (tlt (by decide)).2.1 ?_; exact k) ?_
  refine go (fun _ k => by refine XS.aloadN X0.here hx rfl (hb hby d_prog_69_method_4_code_6) rfl rfl ?_; exact k) ?_
  show OwnEnd _ _ _ _ _ _ _ (s₁.setTop (mkF m 7 #[.val (.ref a0'), .val (.int (5 : Int32))] [(.ref a0')]))
  obtain ⟨T1, X1, e1, st1⟩ := getF X0 hx hZ hown (host := "") (Or.inl (hw _ (List.mem_of_getElem? (i := 21) rfl))) Via.refl e0 FP (g := (mkF m 7 #[.val (.ref a0'), .val (.int (5 : Int32))] [(.ref a0')])) rfl rfl (hb hby d_prog_69_method_4_code_7)
  refine go st1 ?_
  refine go (fun _ k => by refine XS.bipush X1.here hx rfl (hb hby d_prog_69_method_4_code_10) ?_; exact k) ?_
  refine go (fun _ k => by refine XS.iloadN X1.here hx rfl (hb hby d_prog_69_method_4_code_12) rfl ?_; exact k) ?_
  refine go (fun _ k => by refine XS.imul X1.here hx rfl (hb hby d_prog_69_method_4_code_13) rfl ?_; exact k) ?_
  show OwnEnd _ _ _ _ _ _ _ (T1.setTop (mkF m 14 #[.val (.ref a0'), .val (.int (5 : Int32))] [(.int ((8 : Int32) * (5 : Int32))), (.long P)]))
  rw [show ((8 : Int32) * (5 : Int32)) = (40 : Int32) from by decide]
  show OwnEnd _ _ _ _ _ _ _ (T1.setTop (mkF m 14 #[.val (.ref a0'), .val (.int (5 : Int32))] [(.int (40 : Int32)), (.long P)]))
  refine go (fun _ k => by refine XS.lushr X1.here hx rfl (hb hby d_prog_69_method_4_code_14) rfl ?_; exact k) ?_
  refine go (fun _ k => by refine XS.l2i X1.here hx rfl (hb hby d_prog_69_method_4_code_15) rfl ?_; exact k) ?_
  refine go (fun _ k => by refine XS.sipush X1.here hx rfl (hb hby d_prog_69_method_4_code_16) ?_; exact k) ?_
  refine go (fun _ k => by refine XS.iand X1.here hx rfl (hb hby d_prog_69_method_4_code_19) rfl ?_; exact k) ?_
  show OwnEnd _ _ _ _ _ _ _ (T1.setTop (mkF m 20 #[.val (.ref a0'), .val (.int (5 : Int32))] [(.int ((((P.toUInt64 >>> ((40 : Int32) &&& 0x3f).toInt64.toUInt64).toInt64).toInt32) &&& (255 : Int32)))]))
  refine endI X1 hx hlk Bd.returns (hb hby d_prog_69_method_4_code_20) e1 (by decide) (by decide) ?_
  exact ⟨rfl, N0, rfl⟩
theorem ef_rm_get6 (m : MethodId) (y0 : Addr) : entryFrame m #[(.ref y0), (.int (6 : Int32))] 2 = mkF m 0 #[.val (.ref y0), .val (.int (6 : Int32))] [] := by first | (simp [entryFrame, mkF, argsToLocals, Value.category]; done) | rfl
def Q_rm_get6 (Z : State) (a0' : Addr) (P : Int64) (h0 : Heap) (n0 : Nat) (v : Option Value) (h : Heap) (L : List Loc) : Prop := v = some (.int (own_get P 48)) ∧ Fr n0 L ∧ h = h0
set_option maxRecDepth 65536 in
set_option maxHeartbeats 40000000 in
theorem rm_get6 (l : Launch) (Z : State) (a0 : Array Value) (hw : ∀ d ∈ tables_1, d.before a0 Z = true) (ws : List Jvm.Cond) (a0' : Addr) (P : Int64) (h0 : Heap) (n0 : Nat) (FP : Fld Z h0 a0' "com/example/waitsfor/waitsfor/ShardSet" "packed" "J" (.long P)) :
    MetFree l (⟨"com/example/waitsfor/waitsfor/ShardSet", "get", "(I)I"⟩ : MethodName) (head1 (Jvm.Cond.code (⟨"com/example/waitsfor/waitsfor/ShardSet", "get", "(I)I"⟩ : MethodName) prog_69_method_4_code 2 (some .int) :: ws) ({ frames := 0, cells := 0, slots := 0, locals := 0 } : Room)) (fun a U => a = #[(.ref a0'), (.int (6 : Int32))] ∧ Z.Warmed39 U.vm ∧ U.heap = h0) (fun _ _ _ _ _ => True) (fun _ U o U' => ∃ v L, o = .returned v ∧ Q_rm_get6 Z a0' P h0 n0 v U'.heap L ∧ FrameEnd U o U' L 0 0) := by
  refine MetFree.of_bodySF (plainFor_of_name pn_com_example_waitsfor_waitsfor_ShardSet) hisR ?_
  intro p e s m args below meth c s₁ Bd hml0 hP hK
  obtain ⟨rfl, hZ, hh⟩ := hP
  have hx := Bd.exec
  have hby := Bd.bytes
  have hlk := Bd.notSynchronized
  have hml : c.maxLocals = 2 := hml0
  have hown : s.vm.findClass "com/example/waitsfor/waitsfor/ShardSet" = some m.cls := findClass_of_methodNamed Bd.named
  have hnm := (name_of_methodNamed Bd.named Bd.method).1
  have X0 : Stand p l e ({ frames := 0, cells := 0, slots := 0, locals := 0 } : Room) s m #[(.ref a0'), (.int (6 : Int32))] below meth c s₁ [] 0 0 := Stand.of_body Bd
  have e0 : s₁.heap = h0 := by rw [← hh, Bd.state]; rfl
  have N0 := Fr.nil n0
  show OwnEnd p e below s (Q_rm_get6 Z a0' P h0 n0) 0 0 (s₁.setTop (entryFrame m #[(.ref a0'), (.int (6 : Int32))] 2))
  refine go (fun t k => castTop (ef_rm_get6 m a0') k) ?_
  show OwnEnd _ _ _ _ _ _ _ (s₁.setTop (mkF m 0 #[.val (.ref a0'), .val (.int (6 : Int32))] []))
  refine go (fun _ k => by refine XS.iloadN X0.here hx rfl (hb hby d_prog_69_method_4_code_0) rfl ?_; exact k) ?_
  refine go (fun _ k => by refine XS.bipush X0.here hx rfl (hb hby d_prog_69_method_4_code_1) ?_; exact k) ?_
  show OwnEnd _ _ _ _ _ _ _ (s₁.setTop (mkF m 3 #[.val (.ref a0'), .val (.int (6 : Int32))] [(.int (8 : Int32)), (.int (6 : Int32))]))
  refine go (fun _ k => by refine XS.icmpNo X0.here hx rfl (hb hby d_prog_69_method_4_code_3) rfl (tlt (by decide)).2.1 ?_; exact k) ?_
  refine go (fun _ k => by refine XS.aloadN X0.here hx rfl (hb hby d_prog_69_method_4_code_6) rfl rfl ?_; exact k) ?_
  show OwnEnd _ _ _ _ _ _ _ (s₁.setTop (mkF m 7 #[.val (.ref a0'), .val (.int (6 : Int32))] [(.ref a0')]))
  obtain ⟨T1, X1, e1, st1⟩ := getF X0 hx hZ hown (host := "") (Or.inl (hw _ (List.mem_of_getElem? (i := 21) rfl))) Via.refl e0 FP (g := (mkF m 7 #[.val (.ref a0'), .val (.int (6 : Int32))] [(.ref a0')])) rfl rfl (hb hby d_prog_69_method_4_code_7)
  refine go st1 ?_
  refine go (fun _ k => by refine XS.bipush X1.here hx rfl (hb hby d_prog_69_method_4_code_10) ?_; exact k) ?_
  refine go (fun _ k => by refine XS.iloadN X1.here hx rfl (hb hby d_prog_69_method_4_code_12) rfl ?_; exact k) ?_
  refine go (fun _ k => by refine XS.imul X1.here hx rfl (hb hby d_prog_69_method_4_code_13) rfl ?_; exact k) ?_
  show OwnEnd _ _ _ _ _ _ _ (T1.setTop (mkF m 14 #[.val (.ref a0'), .val (.int (6 : Int32))] [(.int ((8 : Int32) * (6 : Int32))), (.long P)]))
  rw [show ((8 : Int32) * (6 : Int32)) = (48 : Int32) from by decide]
  show OwnEnd _ _ _ _ _ _ _ (T1.setTop (mkF m 14 #[.val (.ref a0'), .val (.int (6 : Int32))] [(.int (48 : Int32)), (.long P)]))
  refine go (fun _ k => by refine XS.lushr X1.here hx rfl (hb hby d_prog_69_method_4_code_14) rfl ?_; exact k) ?_
  refine go (fun _ k => by refine XS.l2i X1.here hx rfl (hb hby d_prog_69_method_4_code_15) rfl ?_; exact k) ?_
  refine go (fun _ k => by refine XS.sipush X1.here hx rfl (hb hby d_prog_69_method_4_code_16) ?_; exact k) ?_
  refine go (fun _ k => by refine XS.iand X1.here hx rfl (hb hby d_prog_69_method_4_code_19) rfl ?_; exact k) ?_
  show OwnEnd _ _ _ _ _ _ _ (T1.setTop (mkF m 20 #[.val (.ref a0'), .val (.int (6 : Int32))] [(.int ((((P.toUInt64 >>> ((48 : Int32) &&& 0x3f).toInt64.toUInt64).toInt64).toInt32) &&& (255 : Int32)))]))
  refine endI X1 hx hlk Bd.returns (hb hby d_prog_69_method_4_code_20) e1 (by decide) (by decide) ?_
  exact ⟨rfl, N0, rfl⟩
theorem ef_rm_get7 (m : MethodId) (y0 : Addr) : entryFrame m #[(.ref y0), (.int (7 : Int32))] 2 = mkF m 0 #[.val (.ref y0), .val (.int (7 : Int32))] [] := by first | (simp [entryFrame, mkF, argsToLocals, Value.category]; done) | rfl
def Q_rm_get7 (Z : State) (a0' : Addr) (P : Int64) (h0 : Heap) (n0 : Nat) (v : Option Value) (h : Heap) (L : List Loc) : Prop := v = some (.int (own_get P 56)) ∧ Fr n0 L ∧ h = h0
set_option maxRecDepth 65536 in
set_option maxHeartbeats 40000000 in
theorem rm_get7 (l : Launch) (Z : State) (a0 : Array Value) (hw : ∀ d ∈ tables_1, d.before a0 Z = true) (ws : List Jvm.Cond) (a0' : Addr) (P : Int64) (h0 : Heap) (n0 : Nat) (FP : Fld Z h0 a0' "com/example/waitsfor/waitsfor/ShardSet" "packed" "J" (.long P)) :
    MetFree l (⟨"com/example/waitsfor/waitsfor/ShardSet", "get", "(I)I"⟩ : MethodName) (head1 (Jvm.Cond.code (⟨"com/example/waitsfor/waitsfor/ShardSet", "get", "(I)I"⟩ : MethodName) prog_69_method_4_code 2 (some .int) :: ws) ({ frames := 0, cells := 0, slots := 0, locals := 0 } : Room)) (fun a U => a = #[(.ref a0'), (.int (7 : Int32))] ∧ Z.Warmed39 U.vm ∧ U.heap = h0) (fun _ _ _ _ _ => True) (fun _ U o U' => ∃ v L, o = .returned v ∧ Q_rm_get7 Z a0' P h0 n0 v U'.heap L ∧ FrameEnd U o U' L 0 0) := by
  refine MetFree.of_bodySF (plainFor_of_name pn_com_example_waitsfor_waitsfor_ShardSet) hisR ?_
  intro p e s m args below meth c s₁ Bd hml0 hP hK
  obtain ⟨rfl, hZ, hh⟩ := hP
  have hx := Bd.exec
  have hby := Bd.bytes
  have hlk := Bd.notSynchronized
  have hml : c.maxLocals = 2 := hml0
  have hown : s.vm.findClass "com/example/waitsfor/waitsfor/ShardSet" = some m.cls := findClass_of_methodNamed Bd.named
  have hnm := (name_of_methodNamed Bd.named Bd.method).1
  have X0 : Stand p l e ({ frames := 0, cells := 0, slots := 0, locals := 0 } : Room) s m #[(.ref a0'), (.int (7 : Int32))] below meth c s₁ [] 0 0 := Stand.of_body Bd
  have e0 : s₁.heap = h0 := by rw [← hh, Bd.state]; rfl
  have N0 := Fr.nil n0
  show OwnEnd p e below s (Q_rm_get7 Z a0' P h0 n0) 0 0 (s₁.setTop (entryFrame m #[(.ref a0'), (.int (7 : Int32))] 2))
  refine go (fun t k => castTop (ef_rm_get7 m a0') k) ?_
  show OwnEnd _ _ _ _ _ _ _ (s₁.setTop (mkF m 0 #[.val (.ref a0'), .val (.int (7 : Int32))] []))
  refine go (fun _ k => by refine XS.iloadN X0.here hx rfl (hb hby d_prog_69_method_4_code_0) rfl ?_; exact k) ?_
  refine go (fun _ k => by refine XS.bipush X0.here hx rfl (hb hby d_prog_69_method_4_code_1) ?_; exact k) ?_
  show OwnEnd _ _ _ _ _ _ _ (s₁.setTop (mkF m 3 #[.val (.ref a0'), .val (.int (7 : Int32))] [(.int (8 : Int32)), (.int (7 : Int32))]))
  refine go (fun _ k => by refine XS.icmpNo X0.here hx rfl (hb hby d_prog_69_method_4_code_3) rfl (tlt (by decide)).2.1 ?_; exact k) ?_
  refine go (fun _ k => by refine XS.aloadN X0.here hx rfl (hb hby d_prog_69_method_4_code_6) rfl rfl ?_; exact k) ?_
  show OwnEnd _ _ _ _ _ _ _ (s₁.setTop (mkF m 7 #[.val (.ref a0'), .val (.int (7 : Int32))] [(.ref a0')]))
  obtain ⟨T1, X1, e1, st1⟩ := getF X0 hx hZ hown (host := "") (Or.inl (hw _ (List.mem_of_getElem? (i := 21) rfl))) Via.refl e0 FP (g := (mkF m 7 #[.val (.ref a0'), .val (.int (7 : Int32))] [(.ref a0')])) rfl rfl (hb hby d_prog_69_method_4_code_7)
  refine go st1 ?_
  refine go (fun _ k => by refine XS.bipush X1.here hx rfl (hb hby d_prog_69_method_4_code_10) ?_; exact k) ?_
  refine go (fun _ k => by refine XS.iloadN X1.here hx rfl (hb hby d_prog_69_method_4_code_12) rfl ?_; exact k) ?_
  refine go (fun _ k => by refine XS.imul X1.here hx rfl (hb hby d_prog_69_method_4_code_13) rfl ?_; exact k) ?_
  show OwnEnd _ _ _ _ _ _ _ (T1.setTop (mkF m 14 #[.val (.ref a0'), .val (.int (7 : Int32))] [(.int ((8 : Int32) * (7 : Int32))), (.long P)]))
  rw [show ((8 : Int32) * (7 : Int32)) = (56 : Int32) from by decide]
  show OwnEnd _ _ _ _ _ _ _ (T1.setTop (mkF m 14 #[.val (.ref a0'), .val (.int (7 : Int32))] [(.int (56 : Int32)), (.long P)]))
  refine go (fun _ k => by refine XS.lushr X1.here hx rfl (hb hby d_prog_69_method_4_code_14) rfl ?_; exact k) ?_
  refine go (fun _ k => by refine XS.l2i X1.here hx rfl (hb hby d_prog_69_method_4_code_15) rfl ?_; exact k) ?_
  refine go (fun _ k => by refine XS.sipush X1.here hx rfl (hb hby d_prog_69_method_4_code_16) ?_; exact k) ?_
  refine go (fun _ k => by refine XS.iand X1.here hx rfl (hb hby d_prog_69_method_4_code_19) rfl ?_; exact k) ?_
  show OwnEnd _ _ _ _ _ _ _ (T1.setTop (mkF m 20 #[.val (.ref a0'), .val (.int (7 : Int32))] [(.int ((((P.toUInt64 >>> ((56 : Int32) &&& 0x3f).toInt64.toUInt64).toInt64).toInt32) &&& (255 : Int32)))]))
  refine endI X1 hx hlk Bd.returns (hb hby d_prog_69_method_4_code_20) e1 (by decide) (by decide) ?_
  exact ⟨rfl, N0, rfl⟩
theorem d_prog_69_method_4_code_21 : decode prog_69_method_4_code 21 = .ok (.aload_n 0, 1) := by decide +kernel
theorem d_prog_69_method_4_code_22 : decode prog_69_method_4_code 22 = .ok (.getfield 29, 3) := by decide +kernel
theorem d_prog_69_method_4_code_25 : decode prog_69_method_4_code 25 = .ok (.iload_n 1, 1) := by decide +kernel
theorem d_prog_69_method_4_code_26 : decode prog_69_method_4_code 26 = .ok (.bipush 8, 2) := by decide +kernel
theorem d_prog_69_method_4_code_28 : decode prog_69_method_4_code 28 = .ok (.isub, 1) := by decide +kernel
theorem d_prog_69_method_4_code_29 : decode prog_69_method_4_code 29 = .ok (.iaload, 1) := by decide +kernel
theorem d_prog_69_method_4_code_30 : decode prog_69_method_4_code 30 = .ok (.ireturn, 1) := by decide +kernel
theorem ef_rm_get8 (m : MethodId) (y0 : Addr) : entryFrame m #[(.ref y0), (.int (8 : Int32))] 2 = mkF m 0 #[.val (.ref y0), .val (.int (8 : Int32))] [] := by first | (simp [entryFrame, mkF, argsToLocals, Value.category]; done) | rfl
def Q_rm_get8 (Z : State) (a0' : Addr) (mb : Addr) (k : ClassId) (w0 : Int32) (w1 : Int32) (h0 : Heap) (n0 : Nat) (v : Option Value) (h : Heap) (L : List Loc) : Prop := v = some (.int w0) ∧ Fr n0 L ∧ h = h0
set_option maxRecDepth 65536 in
set_option maxHeartbeats 40000000 in
theorem rm_get8 (l : Launch) (Z : State) (a0 : Array Value) (hw : ∀ d ∈ tables_1, d.before a0 Z = true) (ws : List Jvm.Cond) (a0' : Addr) (mb : Addr) (k : ClassId) (w0 : Int32) (w1 : Int32) (h0 : Heap) (n0 : Nat) (FM : Fld Z h0 a0' "com/example/waitsfor/waitsfor/ShardSet" "more" "[I" (.ref mb)) (VM : Arv Z h0 mb k .int 8 [.int w0, .int w1, .int 0, .int 0, .int 0, .int 0, .int 0, .int 0] (.int 0)) :
    MetFree l (⟨"com/example/waitsfor/waitsfor/ShardSet", "get", "(I)I"⟩ : MethodName) (head1 (Jvm.Cond.code (⟨"com/example/waitsfor/waitsfor/ShardSet", "get", "(I)I"⟩ : MethodName) prog_69_method_4_code 2 (some .int) :: ws) ({ frames := 0, cells := 0, slots := 0, locals := 0 } : Room)) (fun a U => a = #[(.ref a0'), (.int (8 : Int32))] ∧ Z.Warmed39 U.vm ∧ U.heap = h0) (fun _ _ _ _ _ => True) (fun _ U o U' => ∃ v L, o = .returned v ∧ Q_rm_get8 Z a0' mb k w0 w1 h0 n0 v U'.heap L ∧ FrameEnd U o U' L 0 0) := by
  refine MetFree.of_bodySF (plainFor_of_name pn_com_example_waitsfor_waitsfor_ShardSet) hisR ?_
  intro p e s m args below meth c s₁ Bd hml0 hP hK
  obtain ⟨rfl, hZ, hh⟩ := hP
  have hx := Bd.exec
  have hby := Bd.bytes
  have hlk := Bd.notSynchronized
  have hml : c.maxLocals = 2 := hml0
  have hown : s.vm.findClass "com/example/waitsfor/waitsfor/ShardSet" = some m.cls := findClass_of_methodNamed Bd.named
  have hnm := (name_of_methodNamed Bd.named Bd.method).1
  have X0 : Stand p l e ({ frames := 0, cells := 0, slots := 0, locals := 0 } : Room) s m #[(.ref a0'), (.int (8 : Int32))] below meth c s₁ [] 0 0 := Stand.of_body Bd
  have e0 : s₁.heap = h0 := by rw [← hh, Bd.state]; rfl
  have N0 := Fr.nil n0
  show OwnEnd p e below s (Q_rm_get8 Z a0' mb k w0 w1 h0 n0) 0 0 (s₁.setTop (entryFrame m #[(.ref a0'), (.int (8 : Int32))] 2))
  refine go (fun t k => castTop (ef_rm_get8 m a0') k) ?_
  show OwnEnd _ _ _ _ _ _ _ (s₁.setTop (mkF m 0 #[.val (.ref a0'), .val (.int (8 : Int32))] []))
  refine go (fun _ k => by refine XS.iloadN X0.here hx rfl (hb hby d_prog_69_method_4_code_0) rfl ?_; exact k) ?_
  refine go (fun _ k => by refine XS.bipush X0.here hx rfl (hb hby d_prog_69_method_4_code_1) ?_; exact k) ?_
  show OwnEnd _ _ _ _ _ _ _ (s₁.setTop (mkF m 3 #[.val (.ref a0'), .val (.int (8 : Int32))] [(.int (8 : Int32)), (.int (8 : Int32))]))
  refine go (fun _ k => by refine XS.icmpYes X0.here hx rfl (pc0 := 3) (pc' := 21) rfl (hb hby d_prog_69_method_4_code_3) rfl (flt (by decide)).2.1 (by decide) (by decide) ?_; exact k) ?_
  refine go (fun _ k => by refine XS.aloadN X0.here hx rfl (hb hby d_prog_69_method_4_code_21) rfl rfl ?_; exact k) ?_
  show OwnEnd _ _ _ _ _ _ _ (s₁.setTop (mkF m 22 #[.val (.ref a0'), .val (.int (8 : Int32))] [(.ref a0')]))
  obtain ⟨T1, X1, e1, st1⟩ := getF X0 hx hZ hown (host := "") (Or.inl (hw _ (List.mem_of_getElem? (i := 33) rfl))) Via.refl e0 FM (g := (mkF m 22 #[.val (.ref a0'), .val (.int (8 : Int32))] [(.ref a0')])) rfl rfl (hb hby d_prog_69_method_4_code_22)
  refine go st1 ?_
  refine go (fun _ k => by refine XS.iloadN X1.here hx rfl (hb hby d_prog_69_method_4_code_25) rfl ?_; exact k) ?_
  refine go (fun _ k => by refine XS.bipush X1.here hx rfl (hb hby d_prog_69_method_4_code_26) ?_; exact k) ?_
  refine go (fun _ k => by refine XS.isub X1.here hx rfl (hb hby d_prog_69_method_4_code_28) rfl ?_; exact k) ?_
  show OwnEnd _ _ _ _ _ _ _ (T1.setTop (mkF m 29 #[.val (.ref a0'), .val (.int (8 : Int32))] [(.int ((8 : Int32) - (8 : Int32))), (.ref mb)]))
  rw [show ((8 : Int32) - (8 : Int32)) = (0 : Int32) from by decide]
  show OwnEnd _ _ _ _ _ _ _ (T1.setTop (mkF m 29 #[.val (.ref a0'), .val (.int (8 : Int32))] [(.int (0 : Int32)), (.ref mb)]))
  refine go (ldIv X1 hx hZ e1 VM (j := (0 : Int32)) (i := 0) (w := w0) (by decide) (by decide) (by decide) rfl (g := (mkF m 29 #[.val (.ref a0'), .val (.int (8 : Int32))] [(.int (0 : Int32)), (.ref mb)])) rfl rfl (hb hby d_prog_69_method_4_code_29)) ?_
  show OwnEnd _ _ _ _ _ _ _ (T1.setTop (mkF m 30 #[.val (.ref a0'), .val (.int (8 : Int32))] [(.int w0)]))
  refine endI X1 hx hlk Bd.returns (hb hby d_prog_69_method_4_code_30) e1 (by decide) (by decide) ?_
  exact ⟨rfl, N0, rfl⟩
theorem ef_rm_get9 (m : MethodId) (y0 : Addr) : entryFrame m #[(.ref y0), (.int (9 : Int32))] 2 = mkF m 0 #[.val (.ref y0), .val (.int (9 : Int32))] [] := by first | (simp [entryFrame, mkF, argsToLocals, Value.category]; done) | rfl
def Q_rm_get9 (Z : State) (a0' : Addr) (mb : Addr) (k : ClassId) (w0 : Int32) (w1 : Int32) (h0 : Heap) (n0 : Nat) (v : Option Value) (h : Heap) (L : List Loc) : Prop := v = some (.int w1) ∧ Fr n0 L ∧ h = h0
set_option maxRecDepth 65536 in
set_option maxHeartbeats 40000000 in
theorem rm_get9 (l : Launch) (Z : State) (a0 : Array Value) (hw : ∀ d ∈ tables_1, d.before a0 Z = true) (ws : List Jvm.Cond) (a0' : Addr) (mb : Addr) (k : ClassId) (w0 : Int32) (w1 : Int32) (h0 : Heap) (n0 : Nat) (FM : Fld Z h0 a0' "com/example/waitsfor/waitsfor/ShardSet" "more" "[I" (.ref mb)) (VM : Arv Z h0 mb k .int 8 [.int w0, .int w1, .int 0, .int 0, .int 0, .int 0, .int 0, .int 0] (.int 0)) :
    MetFree l (⟨"com/example/waitsfor/waitsfor/ShardSet", "get", "(I)I"⟩ : MethodName) (head1 (Jvm.Cond.code (⟨"com/example/waitsfor/waitsfor/ShardSet", "get", "(I)I"⟩ : MethodName) prog_69_method_4_code 2 (some .int) :: ws) ({ frames := 0, cells := 0, slots := 0, locals := 0 } : Room)) (fun a U => a = #[(.ref a0'), (.int (9 : Int32))] ∧ Z.Warmed39 U.vm ∧ U.heap = h0) (fun _ _ _ _ _ => True) (fun _ U o U' => ∃ v L, o = .returned v ∧ Q_rm_get9 Z a0' mb k w0 w1 h0 n0 v U'.heap L ∧ FrameEnd U o U' L 0 0) := by
  refine MetFree.of_bodySF (plainFor_of_name pn_com_example_waitsfor_waitsfor_ShardSet) hisR ?_
  intro p e s m args below meth c s₁ Bd hml0 hP hK
  obtain ⟨rfl, hZ, hh⟩ := hP
  have hx := Bd.exec
  have hby := Bd.bytes
  have hlk := Bd.notSynchronized
  have hml : c.maxLocals = 2 := hml0
  have hown : s.vm.findClass "com/example/waitsfor/waitsfor/ShardSet" = some m.cls := findClass_of_methodNamed Bd.named
  have hnm := (name_of_methodNamed Bd.named Bd.method).1
  have X0 : Stand p l e ({ frames := 0, cells := 0, slots := 0, locals := 0 } : Room) s m #[(.ref a0'), (.int (9 : Int32))] below meth c s₁ [] 0 0 := Stand.of_body Bd
  have e0 : s₁.heap = h0 := by rw [← hh, Bd.state]; rfl
  have N0 := Fr.nil n0
  show OwnEnd p e below s (Q_rm_get9 Z a0' mb k w0 w1 h0 n0) 0 0 (s₁.setTop (entryFrame m #[(.ref a0'), (.int (9 : Int32))] 2))
  refine go (fun t k => castTop (ef_rm_get9 m a0') k) ?_
  show OwnEnd _ _ _ _ _ _ _ (s₁.setTop (mkF m 0 #[.val (.ref a0'), .val (.int (9 : Int32))] []))
  refine go (fun _ k => by refine XS.iloadN X0.here hx rfl (hb hby d_prog_69_method_4_code_0) rfl ?_; exact k) ?_
  refine go (fun _ k => by refine XS.bipush X0.here hx rfl (hb hby d_prog_69_method_4_code_1) ?_; exact k) ?_
  show OwnEnd _ _ _ _ _ _ _ (s₁.setTop (mkF m 3 #[.val (.ref a0'), .val (.int (9 : Int32))] [(.int (8 : Int32)), (.int (9 : Int32))]))
  refine go (fun _ k => by refine XS.icmpYes X0.here hx rfl (pc0 := 3) (pc' := 21) rfl (hb hby d_prog_69_method_4_code_3) rfl (flt (by decide)).2.1 (by decide) (by decide) ?_; exact k) ?_
  refine go (fun _ k => by refine XS.aloadN X0.here hx rfl (hb hby d_prog_69_method_4_code_21) rfl rfl ?_; exact k) ?_
  show OwnEnd _ _ _ _ _ _ _ (s₁.setTop (mkF m 22 #[.val (.ref a0'), .val (.int (9 : Int32))] [(.ref a0')]))
  obtain ⟨T1, X1, e1, st1⟩ := getF X0 hx hZ hown (host := "") (Or.inl (hw _ (List.mem_of_getElem? (i := 33) rfl))) Via.refl e0 FM (g := (mkF m 22 #[.val (.ref a0'), .val (.int (9 : Int32))] [(.ref a0')])) rfl rfl (hb hby d_prog_69_method_4_code_22)
  refine go st1 ?_
  refine go (fun _ k => by refine XS.iloadN X1.here hx rfl (hb hby d_prog_69_method_4_code_25) rfl ?_; exact k) ?_
  refine go (fun _ k => by refine XS.bipush X1.here hx rfl (hb hby d_prog_69_method_4_code_26) ?_; exact k) ?_
  refine go (fun _ k => by refine XS.isub X1.here hx rfl (hb hby d_prog_69_method_4_code_28) rfl ?_; exact k) ?_
  show OwnEnd _ _ _ _ _ _ _ (T1.setTop (mkF m 29 #[.val (.ref a0'), .val (.int (9 : Int32))] [(.int ((9 : Int32) - (8 : Int32))), (.ref mb)]))
  rw [show ((9 : Int32) - (8 : Int32)) = (1 : Int32) from by decide]
  show OwnEnd _ _ _ _ _ _ _ (T1.setTop (mkF m 29 #[.val (.ref a0'), .val (.int (9 : Int32))] [(.int (1 : Int32)), (.ref mb)]))
  refine go (ldIv X1 hx hZ e1 VM (j := (1 : Int32)) (i := 1) (w := w1) (by decide) (by decide) (by decide) rfl (g := (mkF m 29 #[.val (.ref a0'), .val (.int (9 : Int32))] [(.int (1 : Int32)), (.ref mb)])) rfl rfl (hb hby d_prog_69_method_4_code_29)) ?_
  show OwnEnd _ _ _ _ _ _ _ (T1.setTop (mkF m 30 #[.val (.ref a0'), .val (.int (9 : Int32))] [(.int w1)]))
  refine endI X1 hx hlk Bd.returns (hb hby d_prog_69_method_4_code_30) e1 (by decide) (by decide) ?_
  exact ⟨rfl, N0, rfl⟩
theorem d_prog_69_method_7_code_0 : decode prog_69_method_7_code 0 = .ok (.aload_n 0, 1) := by decide +kernel
theorem d_prog_69_method_7_code_1 : decode prog_69_method_7_code 1 = .ok (.getfield 9, 3) := by decide +kernel
theorem d_prog_69_method_7_code_4 : decode prog_69_method_7_code 4 = .ok (.bipush 8, 2) := by decide +kernel
theorem d_prog_69_method_7_code_6 : decode prog_69_method_7_code 6 = .ok (.isub, 1) := by decide +kernel
theorem d_prog_69_method_7_code_7 : decode prog_69_method_7_code 7 = .ok (.istore_n 2, 1) := by decide +kernel
theorem d_prog_69_method_7_code_8 : decode prog_69_method_7_code 8 = .ok (.aload_n 0, 1) := by decide +kernel
theorem d_prog_69_method_7_code_9 : decode prog_69_method_7_code 9 = .ok (.getfield 29, 3) := by decide +kernel
theorem d_prog_69_method_7_code_12 : decode prog_69_method_7_code 12 = .ok (.ifnonnull 14, 3) := by decide +kernel
theorem d_prog_69_method_7_code_15 : decode prog_69_method_7_code 15 = .ok (.aload_n 0, 1) := by decide +kernel
theorem d_prog_69_method_7_code_16 : decode prog_69_method_7_code 16 = .ok (.bipush 8, 2) := by decide +kernel
theorem d_prog_69_method_7_code_18 : decode prog_69_method_7_code 18 = .ok (.newarray .int, 2) := by decide +kernel
theorem d_prog_69_method_7_code_20 : decode prog_69_method_7_code 20 = .ok (.putfield 29, 3) := by decide +kernel
theorem d_prog_69_method_7_code_23 : decode prog_69_method_7_code 23 = .ok (.goto 26, 3) := by decide +kernel
theorem d_prog_69_method_7_code_49 : decode prog_69_method_7_code 49 = .ok (.aload_n 0, 1) := by decide +kernel
theorem d_prog_69_method_7_code_50 : decode prog_69_method_7_code 50 = .ok (.getfield 29, 3) := by decide +kernel
theorem d_prog_69_method_7_code_53 : decode prog_69_method_7_code 53 = .ok (.iload_n 2, 1) := by decide +kernel
theorem d_prog_69_method_7_code_54 : decode prog_69_method_7_code 54 = .ok (.iload_n 1, 1) := by decide +kernel
theorem d_prog_69_method_7_code_55 : decode prog_69_method_7_code 55 = .ok (.iastore, 1) := by decide +kernel
theorem d_prog_69_method_7_code_56 : decode prog_69_method_7_code 56 = .ok (.return_, 1) := by decide +kernel
theorem ef_rm_am8 (m : MethodId) (y0 : Addr) (y1 : Int32) : entryFrame m #[(.ref y0), (.int y1)] 3 = mkF m 0 #[.val (.ref y0), .val (.int y1), .unset] [] := by first | (simp [entryFrame, mkF, argsToLocals, Value.category]; done) | rfl
def Q_rm_am8 (Z : State) (a0' : Addr) (p1 : Int32) (P : Int64) (h0 : Heap) (n0 : Nat) (v : Option Value) (h : Heap) (L : List Loc) : Prop := v = none ∧ Fr n0 L ∧ Keep h0 h [a0'] ∧ Exa Z h a0' "com/example/waitsfor/waitsfor/ShardSet" ∧ Fld Z h a0' "com/example/waitsfor/waitsfor/ShardSet" "packed" "J" (.long P) ∧ Fld Z h a0' "com/example/waitsfor/waitsfor/ShardSet" "size" "I" (.int 8) ∧ ∃ mb k, n0 ≤ mb ∧ h0.size ≤ mb ∧ Fld Z h a0' "com/example/waitsfor/waitsfor/ShardSet" "more" "[I" (.ref mb) ∧ Arv Z h mb k .int 8 [.int p1, .int 0, .int 0, .int 0, .int 0, .int 0, .int 0, .int 0] (.int 0)
set_option maxRecDepth 65536 in
set_option maxHeartbeats 40000000 in
theorem rm_am8 (l : Launch) (Z : State) (a0 : Array Value) (hw : ∀ d ∈ tables_1, d.before a0 Z = true) (ws : List Jvm.Cond) (a0' : Addr) (p1 : Int32) (P : Int64) (h0 : Heap) (n0 : Nat) (ga : n0 ≤ a0') (EA : Exa Z h0 a0' "com/example/waitsfor/waitsfor/ShardSet") (FP : Fld Z h0 a0' "com/example/waitsfor/waitsfor/ShardSet" "packed" "J" (.long P)) (FS : Fld Z h0 a0' "com/example/waitsfor/waitsfor/ShardSet" "size" "I" (.int 8)) (FM : Fld Z h0 a0' "com/example/waitsfor/waitsfor/ShardSet" "more" "[I" .null) (Z0 : n0 ≤ h0.size) :
    MetFree l (⟨"com/example/waitsfor/waitsfor/ShardSet", "addMore", "(I)V"⟩ : MethodName) (head1 (Jvm.Cond.code (⟨"com/example/waitsfor/waitsfor/ShardSet", "addMore", "(I)V"⟩ : MethodName) prog_69_method_7_code 3 none :: ws) ({ frames := 0, cells := 1, slots := 8, locals := 0 } : Room)) (fun a U => a = #[(.ref a0'), (.int p1)] ∧ Z.Warmed39 U.vm ∧ U.heap = h0) (fun _ _ _ _ _ => True) (fun _ U o U' => ∃ v L, o = .returned v ∧ Q_rm_am8 Z a0' p1 P h0 n0 v U'.heap L ∧ FrameEnd U o U' L 1 8) := by
  refine MetFree.of_bodySF (plainFor_of_name pn_com_example_waitsfor_waitsfor_ShardSet) hisR ?_
  intro p e s m args below meth c s₁ Bd hml0 hP hK
  obtain ⟨rfl, hZ, hh⟩ := hP
  have hx := Bd.exec
  have hby := Bd.bytes
  have hlk := Bd.notSynchronized
  have hml : c.maxLocals = 3 := hml0
  have hown : s.vm.findClass "com/example/waitsfor/waitsfor/ShardSet" = some m.cls := findClass_of_methodNamed Bd.named
  have hnm := (name_of_methodNamed Bd.named Bd.method).1
  have X0 : Stand p l e ({ frames := 0, cells := 1, slots := 8, locals := 0 } : Room) s m #[(.ref a0'), (.int p1)] below meth c s₁ [] 0 0 := Stand.of_body Bd
  have e0 : s₁.heap = h0 := by rw [← hh, Bd.state]; rfl
  have N0 := Fr.nil n0
  show OwnEnd p e below s (Q_rm_am8 Z a0' p1 P h0 n0) 1 8 (s₁.setTop (entryFrame m #[(.ref a0'), (.int p1)] 3))
  refine go (fun t k => castTop (ef_rm_am8 m a0' p1) k) ?_
  have KK := Keep.refl h0 [a0']
  show OwnEnd _ _ _ _ _ _ _ (s₁.setTop (mkF m 0 #[.val (.ref a0'), .val (.int p1), .unset] []))
  refine go (fun _ k => by refine XS.aloadN X0.here hx rfl (hb hby d_prog_69_method_7_code_0) rfl rfl ?_; exact k) ?_
  show OwnEnd _ _ _ _ _ _ _ (s₁.setTop (mkF m 1 #[.val (.ref a0'), .val (.int p1), .unset] [(.ref a0')]))
  obtain ⟨T1, X1, e1, st1⟩ := getF X0 hx hZ hown (host := "") (Or.inl (hw _ (List.mem_of_getElem? (i := 19) rfl))) Via.refl e0 FS (g := (mkF m 1 #[.val (.ref a0'), .val (.int p1), .unset] [(.ref a0')])) rfl rfl (hb hby d_prog_69_method_7_code_1)
  refine go st1 ?_
  refine go (fun _ k => by refine XS.bipush X1.here hx rfl (hb hby d_prog_69_method_7_code_4) ?_; exact k) ?_
  refine go (fun _ k => by refine XS.isub X1.here hx rfl (hb hby d_prog_69_method_7_code_6) rfl ?_; exact k) ?_
  show OwnEnd _ _ _ _ _ _ _ (T1.setTop (mkF m 7 #[.val (.ref a0'), .val (.int p1), .unset] [(.int ((8 : Int32) - (8 : Int32)))]))
  rw [show ((8 : Int32) - (8 : Int32)) = (0 : Int32) from by decide]
  refine go (fun _ k => by refine XS.istoreN X1.here hx rfl (hb hby d_prog_69_method_7_code_7) rfl (l' := #[.val (.ref a0'), .val (.int p1), .val (.int (0 : Int32))]) rfl ?_; exact k) ?_
  show OwnEnd _ _ _ _ _ _ _ (T1.setTop (mkF m 8 #[.val (.ref a0'), .val (.int p1), .val (.int (0 : Int32))] []))
  refine go (fun _ k => by refine XS.aloadN X1.here hx rfl (hb hby d_prog_69_method_7_code_8) rfl rfl ?_; exact k) ?_
  show OwnEnd _ _ _ _ _ _ _ (T1.setTop (mkF m 9 #[.val (.ref a0'), .val (.int p1), .val (.int (0 : Int32))] [(.ref a0')]))
  obtain ⟨T2, X2, e2, st2⟩ := getF X1 hx hZ hown (host := "") (Or.inl (hw _ (List.mem_of_getElem? (i := 33) rfl))) Via.refl e1 FM (g := (mkF m 9 #[.val (.ref a0'), .val (.int p1), .val (.int (0 : Int32))] [(.ref a0')])) rfl rfl (hb hby d_prog_69_method_7_code_9)
  refine go st2 ?_
  show OwnEnd _ _ _ _ _ _ _ (T2.setTop (mkF m 12 #[.val (.ref a0'), .val (.int p1), .val (.int (0 : Int32))] [.null]))
  refine go (fun _ k => by refine XS.ifnonnullNo X2.here hx rfl (hb hby d_prog_69_method_7_code_12) rfl ?_; exact k) ?_
  refine go (fun _ k => by refine XS.aloadN X2.here hx rfl (hb hby d_prog_69_method_7_code_15) rfl rfl ?_; exact k) ?_
  refine go (fun _ k => by refine XS.bipush X2.here hx rfl (hb hby d_prog_69_method_7_code_16) ?_; exact k) ?_
  show OwnEnd _ _ _ _ _ _ _ (T2.setTop (mkF m 18 #[.val (.ref a0'), .val (.int p1), .val (.int (0 : Int32))] [(.int (8 : Int32)), (.ref a0')]))
  obtain ⟨T3, h3, k3, X3, e3, E3, A3, st3⟩ := newP X2 hx hZ (hw _ (List.mem_of_getElem? (i := 35) rfl)) e2 (g := (mkF m 18 #[.val (.ref a0'), .val (.int p1), .val (.int (0 : Int32))] [(.int (8 : Int32)), (.ref a0')])) rfl (hb hby d_prog_69_method_7_code_18) rfl (by decide) (cap := 8) (by decide) (by decide) (by decide) (by decide)
  obtain ⟨b3, g3⟩ : ∃ z, z = h0.size := ⟨_, rfl⟩
  rw [← g3] at A3 st3
  have ne_a0__b3 : a0' ≠ b3 := fun q => absurd EA.lt (by rw [q, g3]; exact Nat.lt_irrefl _)
  have g_b3 : n0 ≤ b3 := Nat.le_trans Z0 (Nat.le_of_eq g3.symm)
  have sz_b3 : h0.size ≤ b3 := Nat.le_trans KK.1 (Nat.le_of_eq g3.symm)
  have EA := EA.ext E3
  have FP := FP.ext E3
  have FS := FS.ext E3
  have FM := FM.ext E3
  have Z0 := Nat.le_trans Z0 E3.1
  have KK := Keep.ext KK E3
  have V_b3 : Arv Z h3 b3 k3 .int (8 : Int32) [(.int (0 : Int32)), (.int (0 : Int32)), (.int (0 : Int32)), (.int (0 : Int32)), (.int (0 : Int32)), (.int (0 : Int32)), (.int (0 : Int32)), (.int (0 : Int32))] (.int (0 : Int32)) := (Arv.new A3 (by decide)).pad (pad_rep [] (.int (0 : Int32)) 8)
  refine go st3 ?_
  show OwnEnd _ _ _ _ _ _ _ (T3.setTop (mkF m 20 #[.val (.ref a0'), .val (.int p1), .val (.int (0 : Int32))] [(.ref b3), (.ref a0')]))
  obtain ⟨T4, h4, X4, e4, W4, st4⟩ := putF X3 hx hZ hown (host := "") (Or.inl (hw _ (List.mem_of_getElem? (i := 33) rfl))) Via.refl e3 FM EA (Or.inl (hw _ (List.mem_of_getElem? (i := 34) rfl))) (hw _ (List.mem_of_getElem? (i := 2) rfl)) (ty := (.array .int)) (by decide) rfl rfl (g := (mkF m 20 #[.val (.ref a0'), .val (.int p1), .val (.int (0 : Int32))] [(.ref b3), (.ref a0')])) rfl rfl (hb hby d_prog_69_method_7_code_20)
  have N4 := Fr.snoc X4 N0 ga
  have EA := EA.wr W4
  have FP := FP.other W4 (Or.inr (slot_ne (Or.inl (hw _ (List.mem_of_getElem? (i := 22) rfl))) (Or.inl (hw _ (List.mem_of_getElem? (i := 34) rfl))) (by decide) (t := .long) (t' := (.array .int)) (by decide) (by decide)))
  have FS := FS.other W4 (Or.inr (slot_ne (Or.inl (hw _ (List.mem_of_getElem? (i := 20) rfl))) (Or.inl (hw _ (List.mem_of_getElem? (i := 34) rfl))) (by decide) (t := .int) (t' := (.array .int)) (by decide) (by decide)))
  have Z0 := Nat.le_trans Z0 (Keep.of_wr W4).1
  have KK := Keep.wr KK W4 (Or.inl (List.mem_of_getElem? (i := 0) rfl))
  have V_b3 := V_b3.other W4 (Ne.symm ne_a0__b3)
  have FM := FM.same W4
  refine go st4 ?_
  refine go (fun _ k => by refine XS.goto X4.here hx rfl (pc0 := 23) (pc' := 49) rfl (hb hby d_prog_69_method_7_code_23) (by decide) (by decide) ?_; exact k) ?_
  refine go (fun _ k => by refine XS.aloadN X4.here hx rfl (hb hby d_prog_69_method_7_code_49) rfl rfl ?_; exact k) ?_
  show OwnEnd _ _ _ _ _ _ _ (T4.setTop (mkF m 50 #[.val (.ref a0'), .val (.int p1), .val (.int (0 : Int32))] [(.ref a0')]))
  obtain ⟨T5, X5, e5, st5⟩ := getF X4 hx hZ hown (host := "") (Or.inl (hw _ (List.mem_of_getElem? (i := 33) rfl))) Via.refl e4 FM (g := (mkF m 50 #[.val (.ref a0'), .val (.int p1), .val (.int (0 : Int32))] [(.ref a0')])) rfl rfl (hb hby d_prog_69_method_7_code_50)
  refine go st5 ?_
  refine go (fun _ k => by refine XS.iloadN X5.here hx rfl (hb hby d_prog_69_method_7_code_53) rfl ?_; exact k) ?_
  refine go (fun _ k => by refine XS.iloadN X5.here hx rfl (hb hby d_prog_69_method_7_code_54) rfl ?_; exact k) ?_
  show OwnEnd _ _ _ _ _ _ _ (T5.setTop (mkF m 55 #[.val (.ref a0'), .val (.int p1), .val (.int (0 : Int32))] [(.int p1), (.int (0 : Int32)), (.ref b3)]))
  obtain ⟨T6, h6, X6, e6, W6, V_b3', st6⟩ := stIv X5 hx hZ e5 V_b3 (j := (0 : Int32)) (i := 0) (by decide) (by decide) (by decide) (Nat.le_of_ble_eq_true rfl) (g := (mkF m 55 #[.val (.ref a0'), .val (.int p1), .val (.int (0 : Int32))] [(.int p1), (.int (0 : Int32)), (.ref b3)])) rfl rfl (hb hby d_prog_69_method_7_code_55)
  have N6 := Fr.snoc X6 N4 g_b3
  have EA := EA.wr W6
  have FP := FP.other W6 (Or.inl ne_a0__b3)
  have FS := FS.other W6 (Or.inl ne_a0__b3)
  have FM := FM.other W6 (Or.inl ne_a0__b3)
  have Z0 := Nat.le_trans Z0 (Keep.of_wr W6).1
  have KK := Keep.wr KK W6 (Or.inr sz_b3)
  have V_b3 : Arv Z h6 b3 k3 .int (8 : Int32) [(.int p1), (.int (0 : Int32)), (.int (0 : Int32)), (.int (0 : Int32)), (.int (0 : Int32)), (.int (0 : Int32)), (.int (0 : Int32)), (.int (0 : Int32))] (.int (0 : Int32)) := V_b3'
  refine go st6 ?_
  show OwnEnd _ _ _ _ _ _ _ (T6.setTop (mkF m 56 #[.val (.ref a0'), .val (.int p1), .val (.int (0 : Int32))] []))
  refine endV X6 hx hlk Bd.returns (hb hby d_prog_69_method_7_code_56) e6 (by decide) (by decide) ?_
  exact ⟨rfl, N6, KK, EA, FP, FS, b3, _, g_b3, sz_b3, FM, V_b3⟩
theorem d_prog_69_method_7_code_26 : decode prog_69_method_7_code 26 = .ok (.iload_n 2, 1) := by decide +kernel
theorem d_prog_69_method_7_code_27 : decode prog_69_method_7_code 27 = .ok (.aload_n 0, 1) := by decide +kernel
theorem d_prog_69_method_7_code_28 : decode prog_69_method_7_code 28 = .ok (.getfield 29, 3) := by decide +kernel
theorem d_prog_69_method_7_code_31 : decode prog_69_method_7_code 31 = .ok (.arraylength, 1) := by decide +kernel
theorem d_prog_69_method_7_code_32 : decode prog_69_method_7_code 32 = .ok (.if_icmp .ne 17, 3) := by decide +kernel
theorem ef_rm_am9 (m : MethodId) (y0 : Addr) (y1 : Int32) : entryFrame m #[(.ref y0), (.int y1)] 3 = mkF m 0 #[.val (.ref y0), .val (.int y1), .unset] [] := by first | (simp [entryFrame, mkF, argsToLocals, Value.category]; done) | rfl
def Q_rm_am9 (Z : State) (a0' : Addr) (p1 : Int32) (P : Int64) (mb : Addr) (k : ClassId) (w0 : Int32) (h0 : Heap) (n0 : Nat) (v : Option Value) (h : Heap) (L : List Loc) : Prop := v = none ∧ Fr n0 L ∧ Keep h0 h [a0', mb] ∧ Exa Z h a0' "com/example/waitsfor/waitsfor/ShardSet" ∧ Fld Z h a0' "com/example/waitsfor/waitsfor/ShardSet" "packed" "J" (.long P) ∧ Fld Z h a0' "com/example/waitsfor/waitsfor/ShardSet" "size" "I" (.int 9) ∧ Fld Z h a0' "com/example/waitsfor/waitsfor/ShardSet" "more" "[I" (.ref mb) ∧ Arv Z h mb k .int 8 [.int w0, .int p1, .int 0, .int 0, .int 0, .int 0, .int 0, .int 0] (.int 0)
set_option maxRecDepth 65536 in
set_option maxHeartbeats 40000000 in
theorem rm_am9 (l : Launch) (Z : State) (a0 : Array Value) (hw : ∀ d ∈ tables_1, d.before a0 Z = true) (ws : List Jvm.Cond) (a0' : Addr) (p1 : Int32) (P : Int64) (mb : Addr) (k : ClassId) (w0 : Int32) (h0 : Heap) (n0 : Nat) (ga : n0 ≤ a0') (EA : Exa Z h0 a0' "com/example/waitsfor/waitsfor/ShardSet") (FP : Fld Z h0 a0' "com/example/waitsfor/waitsfor/ShardSet" "packed" "J" (.long P)) (FS : Fld Z h0 a0' "com/example/waitsfor/waitsfor/ShardSet" "size" "I" (.int 9)) (FM : Fld Z h0 a0' "com/example/waitsfor/waitsfor/ShardSet" "more" "[I" (.ref mb)) (gm : n0 ≤ mb) (nm : a0' ≠ mb) (VM : Arv Z h0 mb k .int 8 [.int w0, .int 0, .int 0, .int 0, .int 0, .int 0, .int 0, .int 0] (.int 0)) :
    MetFree l (⟨"com/example/waitsfor/waitsfor/ShardSet", "addMore", "(I)V"⟩ : MethodName) (head1 (Jvm.Cond.code (⟨"com/example/waitsfor/waitsfor/ShardSet", "addMore", "(I)V"⟩ : MethodName) prog_69_method_7_code 3 none :: ws) ({ frames := 0, cells := 0, slots := 0, locals := 0 } : Room)) (fun a U => a = #[(.ref a0'), (.int p1)] ∧ Z.Warmed39 U.vm ∧ U.heap = h0) (fun _ _ _ _ _ => True) (fun _ U o U' => ∃ v L, o = .returned v ∧ Q_rm_am9 Z a0' p1 P mb k w0 h0 n0 v U'.heap L ∧ FrameEnd U o U' L 0 0) := by
  refine MetFree.of_bodySF (plainFor_of_name pn_com_example_waitsfor_waitsfor_ShardSet) hisR ?_
  intro p e s m args below meth c s₁ Bd hml0 hP hK
  obtain ⟨rfl, hZ, hh⟩ := hP
  have hx := Bd.exec
  have hby := Bd.bytes
  have hlk := Bd.notSynchronized
  have hml : c.maxLocals = 3 := hml0
  have hown : s.vm.findClass "com/example/waitsfor/waitsfor/ShardSet" = some m.cls := findClass_of_methodNamed Bd.named
  have hnm := (name_of_methodNamed Bd.named Bd.method).1
  have X0 : Stand p l e ({ frames := 0, cells := 0, slots := 0, locals := 0 } : Room) s m #[(.ref a0'), (.int p1)] below meth c s₁ [] 0 0 := Stand.of_body Bd
  have e0 : s₁.heap = h0 := by rw [← hh, Bd.state]; rfl
  have N0 := Fr.nil n0
  show OwnEnd p e below s (Q_rm_am9 Z a0' p1 P mb k w0 h0 n0) 0 0 (s₁.setTop (entryFrame m #[(.ref a0'), (.int p1)] 3))
  refine go (fun t k => castTop (ef_rm_am9 m a0' p1) k) ?_
  have KK := Keep.refl h0 [a0', mb]
  show OwnEnd _ _ _ _ _ _ _ (s₁.setTop (mkF m 0 #[.val (.ref a0'), .val (.int p1), .unset] []))
  refine go (fun _ k => by refine XS.aloadN X0.here hx rfl (hb hby d_prog_69_method_7_code_0) rfl rfl ?_; exact k) ?_
  show OwnEnd _ _ _ _ _ _ _ (s₁.setTop (mkF m 1 #[.val (.ref a0'), .val (.int p1), .unset] [(.ref a0')]))
  obtain ⟨T1, X1, e1, st1⟩ := getF X0 hx hZ hown (host := "") (Or.inl (hw _ (List.mem_of_getElem? (i := 19) rfl))) Via.refl e0 FS (g := (mkF m 1 #[.val (.ref a0'), .val (.int p1), .unset] [(.ref a0')])) rfl rfl (hb hby d_prog_69_method_7_code_1)
  refine go st1 ?_
  refine go (fun _ k => by refine XS.bipush X1.here hx rfl (hb hby d_prog_69_method_7_code_4) ?_; exact k) ?_
  refine go (fun _ k => by refine XS.isub X1.here hx rfl (hb hby d_prog_69_method_7_code_6) rfl ?_; exact k) ?_
  show OwnEnd _ _ _ _ _ _ _ (T1.setTop (mkF m 7 #[.val (.ref a0'), .val (.int p1), .unset] [(.int ((9 : Int32) - (8 : Int32)))]))
  rw [show ((9 : Int32) - (8 : Int32)) = (1 : Int32) from by decide]
  refine go (fun _ k => by refine XS.istoreN X1.here hx rfl (hb hby d_prog_69_method_7_code_7) rfl (l' := #[.val (.ref a0'), .val (.int p1), .val (.int (1 : Int32))]) rfl ?_; exact k) ?_
  show OwnEnd _ _ _ _ _ _ _ (T1.setTop (mkF m 8 #[.val (.ref a0'), .val (.int p1), .val (.int (1 : Int32))] []))
  refine go (fun _ k => by refine XS.aloadN X1.here hx rfl (hb hby d_prog_69_method_7_code_8) rfl rfl ?_; exact k) ?_
  show OwnEnd _ _ _ _ _ _ _ (T1.setTop (mkF m 9 #[.val (.ref a0'), .val (.int p1), .val (.int (1 : Int32))] [(.ref a0')]))
  obtain ⟨T2, X2, e2, st2⟩ := getF X1 hx hZ hown (host := "") (Or.inl (hw _ (List.mem_of_getElem? (i := 33) rfl))) Via.refl e1 FM (g := (mkF m 9 #[.val (.ref a0'), .val (.int p1), .val (.int (1 : Int32))] [(.ref a0')])) rfl rfl (hb hby d_prog_69_method_7_code_9)
  refine go st2 ?_
  show OwnEnd _ _ _ _ _ _ _ (T2.setTop (mkF m 12 #[.val (.ref a0'), .val (.int p1), .val (.int (1 : Int32))] [(.ref mb)]))
  refine go (fun _ k => by refine XS.ifnonnullYes X2.here hx rfl (pc0 := 12) (pc' := 26) rfl (hb hby d_prog_69_method_7_code_12) rfl (by decide) (by decide) ?_; exact k) ?_
  refine go (fun _ k => by refine XS.iloadN X2.here hx rfl (hb hby d_prog_69_method_7_code_26) rfl ?_; exact k) ?_
  refine go (fun _ k => by refine XS.aloadN X2.here hx rfl (hb hby d_prog_69_method_7_code_27) rfl rfl ?_; exact k) ?_
  show OwnEnd _ _ _ _ _ _ _ (T2.setTop (mkF m 28 #[.val (.ref a0'), .val (.int p1), .val (.int (1 : Int32))] [(.ref a0'), (.int (1 : Int32))]))
  obtain ⟨T3, X3, e3, st3⟩ := getF X2 hx hZ hown (host := "") (Or.inl (hw _ (List.mem_of_getElem? (i := 33) rfl))) Via.refl e2 FM (g := (mkF m 28 #[.val (.ref a0'), .val (.int p1), .val (.int (1 : Int32))] [(.ref a0'), (.int (1 : Int32))])) rfl rfl (hb hby d_prog_69_method_7_code_28)
  refine go st3 ?_
  show OwnEnd _ _ _ _ _ _ _ (T3.setTop (mkF m 31 #[.val (.ref a0'), .val (.int p1), .val (.int (1 : Int32))] [(.ref mb), (.int (1 : Int32))]))
  refine go (lenV X3 hx hZ e3 VM (g := (mkF m 31 #[.val (.ref a0'), .val (.int p1), .val (.int (1 : Int32))] [(.ref mb), (.int (1 : Int32))])) rfl rfl (hb hby d_prog_69_method_7_code_31)) ?_
  show OwnEnd _ _ _ _ _ _ _ (T3.setTop (mkF m 32 #[.val (.ref a0'), .val (.int p1), .val (.int (1 : Int32))] [(.int (8 : Int32)), (.int (1 : Int32))]))
  refine go (fun _ k => by refine XS.icmpYes X3.here hx rfl (pc0 := 32) (pc' := 49) rfl (hb hby d_prog_69_method_7_code_32) rfl (feq (by decide)).2 (by decide) (by decide) ?_; exact k) ?_
  refine go (fun _ k => by refine XS.aloadN X3.here hx rfl (hb hby d_prog_69_method_7_code_49) rfl rfl ?_; exact k) ?_
  show OwnEnd _ _ _ _ _ _ _ (T3.setTop (mkF m 50 #[.val (.ref a0'), .val (.int p1), .val (.int (1 : Int32))] [(.ref a0')]))
  obtain ⟨T4, X4, e4, st4⟩ := getF X3 hx hZ hown (host := "") (Or.inl (hw _ (List.mem_of_getElem? (i := 33) rfl))) Via.refl e3 FM (g := (mkF m 50 #[.val (.ref a0'), .val (.int p1), .val (.int (1 : Int32))] [(.ref a0')])) rfl rfl (hb hby d_prog_69_method_7_code_50)
  refine go st4 ?_
  refine go (fun _ k => by refine XS.iloadN X4.here hx rfl (hb hby d_prog_69_method_7_code_53) rfl ?_; exact k) ?_
  refine go (fun _ k => by refine XS.iloadN X4.here hx rfl (hb hby d_prog_69_method_7_code_54) rfl ?_; exact k) ?_
  show OwnEnd _ _ _ _ _ _ _ (T4.setTop (mkF m 55 #[.val (.ref a0'), .val (.int p1), .val (.int (1 : Int32))] [(.int p1), (.int (1 : Int32)), (.ref mb)]))
  obtain ⟨T5, h5, X5, e5, W5, VM', st5⟩ := stIv X4 hx hZ e4 VM (j := (1 : Int32)) (i := 1) (by decide) (by decide) (by decide) (Nat.le_of_ble_eq_true rfl) (g := (mkF m 55 #[.val (.ref a0'), .val (.int p1), .val (.int (1 : Int32))] [(.int p1), (.int (1 : Int32)), (.ref mb)])) rfl rfl (hb hby d_prog_69_method_7_code_55)
  have N5 := Fr.snoc X5 N0 gm
  have EA := EA.wr W5
  have FP := FP.other W5 (Or.inl nm)
  have FS := FS.other W5 (Or.inl nm)
  have FM := FM.other W5 (Or.inl nm)
  have KK := Keep.wr KK W5 (Or.inl (List.mem_of_getElem? (i := 1) rfl))
  have VM : Arv Z h5 mb k .int (8 : Int32) [(.int w0), (.int p1), (.int (0 : Int32)), (.int (0 : Int32)), (.int (0 : Int32)), (.int (0 : Int32)), (.int (0 : Int32)), (.int (0 : Int32))] (.int (0 : Int32)) := VM'
  refine go st5 ?_
  show OwnEnd _ _ _ _ _ _ _ (T5.setTop (mkF m 56 #[.val (.ref a0'), .val (.int p1), .val (.int (1 : Int32))] []))
  refine endV X5 hx hlk Bd.returns (hb hby d_prog_69_method_7_code_56) e5 (by decide) (by decide) ?_
  exact ⟨rfl, N5, KK, EA, FP, FS, FM, VM⟩
theorem d_prog_69_method_2_code_0 : decode prog_69_method_2_code 0 = .ok (.iconst 0, 1) := by decide +kernel
theorem d_prog_69_method_2_code_1 : decode prog_69_method_2_code 1 = .ok (.istore_n 2, 1) := by decide +kernel
theorem d_prog_69_method_2_code_2 : decode prog_69_method_2_code 2 = .ok (.iload_n 2, 1) := by decide +kernel
theorem d_prog_69_method_2_code_3 : decode prog_69_method_2_code 3 = .ok (.aload_n 0, 1) := by decide +kernel
theorem d_prog_69_method_2_code_4 : decode prog_69_method_2_code 4 = .ok (.getfield 9, 3) := by decide +kernel
theorem d_prog_69_method_2_code_7 : decode prog_69_method_2_code 7 = .ok (.if_icmp .ge 19, 3) := by decide +kernel
theorem d_prog_69_method_2_code_26 : decode prog_69_method_2_code 26 = .ok (.aload_n 0, 1) := by decide +kernel
theorem d_prog_69_method_2_code_27 : decode prog_69_method_2_code 27 = .ok (.getfield 9, 3) := by decide +kernel
theorem d_prog_69_method_2_code_30 : decode prog_69_method_2_code 30 = .ok (.bipush 8, 2) := by decide +kernel
theorem d_prog_69_method_2_code_32 : decode prog_69_method_2_code 32 = .ok (.if_icmp .ge 25, 3) := by decide +kernel
theorem d_prog_69_method_2_code_35 : decode prog_69_method_2_code 35 = .ok (.aload_n 0, 1) := by decide +kernel
theorem d_prog_69_method_2_code_36 : decode prog_69_method_2_code 36 = .ok (.dup, 1) := by decide +kernel
theorem d_prog_69_method_2_code_37 : decode prog_69_method_2_code 37 = .ok (.getfield 19, 3) := by decide +kernel
theorem d_prog_69_method_2_code_40 : decode prog_69_method_2_code 40 = .ok (.iload_n 1, 1) := by decide +kernel
theorem d_prog_69_method_2_code_41 : decode prog_69_method_2_code 41 = .ok (.i2l, 1) := by decide +kernel
theorem d_prog_69_method_2_code_42 : decode prog_69_method_2_code 42 = .ok (.bipush 8, 2) := by decide +kernel
theorem d_prog_69_method_2_code_44 : decode prog_69_method_2_code 44 = .ok (.aload_n 0, 1) := by decide +kernel
theorem d_prog_69_method_2_code_45 : decode prog_69_method_2_code 45 = .ok (.getfield 9, 3) := by decide +kernel
theorem d_prog_69_method_2_code_48 : decode prog_69_method_2_code 48 = .ok (.imul, 1) := by decide +kernel
theorem d_prog_69_method_2_code_49 : decode prog_69_method_2_code 49 = .ok (.lshl, 1) := by decide +kernel
theorem d_prog_69_method_2_code_50 : decode prog_69_method_2_code 50 = .ok (.lor, 1) := by decide +kernel
theorem d_prog_69_method_2_code_51 : decode prog_69_method_2_code 51 = .ok (.putfield 19, 3) := by decide +kernel
theorem d_prog_69_method_2_code_54 : decode prog_69_method_2_code 54 = .ok (.goto 8, 3) := by decide +kernel
theorem d_prog_69_method_2_code_62 : decode prog_69_method_2_code 62 = .ok (.aload_n 0, 1) := by decide +kernel
theorem d_prog_69_method_2_code_63 : decode prog_69_method_2_code 63 = .ok (.dup, 1) := by decide +kernel
theorem d_prog_69_method_2_code_64 : decode prog_69_method_2_code 64 = .ok (.getfield 9, 3) := by decide +kernel
theorem d_prog_69_method_2_code_67 : decode prog_69_method_2_code 67 = .ok (.iconst 1, 1) := by decide +kernel
theorem d_prog_69_method_2_code_68 : decode prog_69_method_2_code 68 = .ok (.iadd, 1) := by decide +kernel
theorem d_prog_69_method_2_code_69 : decode prog_69_method_2_code 69 = .ok (.putfield 9, 3) := by decide +kernel
theorem d_prog_69_method_2_code_72 : decode prog_69_method_2_code 72 = .ok (.return_, 1) := by decide +kernel
theorem ef_rm_add0 (m : MethodId) (y0 : Addr) (y1 : Int32) : entryFrame m #[(.ref y0), (.int y1)] 3 = mkF m 0 #[.val (.ref y0), .val (.int y1), .unset] [] := by first | (simp [entryFrame, mkF, argsToLocals, Value.category]; done) | rfl
def Q_rm_add0 (Z : State) (a0' : Addr) (p1 : Int32) (P : Int64) (h0 : Heap) (n0 : Nat) (v : Option Value) (h : Heap) (L : List Loc) : Prop := v = none ∧ Fr n0 L ∧ Keep h0 h [a0'] ∧ Exa Z h a0' "com/example/waitsfor/waitsfor/ShardSet" ∧ Fld Z h a0' "com/example/waitsfor/waitsfor/ShardSet" "packed" "J" (.long (P ||| (p1.toInt64 <<< ((0 : Int32) &&& 0x3f).toInt64))) ∧ Fld Z h a0' "com/example/waitsfor/waitsfor/ShardSet" "size" "I" (.int 1) ∧ Fld Z h a0' "com/example/waitsfor/waitsfor/ShardSet" "more" "[I" .null
set_option maxRecDepth 65536 in
set_option maxHeartbeats 40000000 in
theorem rm_add0 (l : Launch) (Z : State) (a0 : Array Value) (hw : ∀ d ∈ tables_1, d.before a0 Z = true) (ws : List Jvm.Cond) (a0' : Addr) (p1 : Int32) (P : Int64) (h0 : Heap) (n0 : Nat) (ga : n0 ≤ a0') (EA : Exa Z h0 a0' "com/example/waitsfor/waitsfor/ShardSet") (FP : Fld Z h0 a0' "com/example/waitsfor/waitsfor/ShardSet" "packed" "J" (.long P)) (FS : Fld Z h0 a0' "com/example/waitsfor/waitsfor/ShardSet" "size" "I" (.int 0)) (FM : Fld Z h0 a0' "com/example/waitsfor/waitsfor/ShardSet" "more" "[I" .null) (Z0 : n0 ≤ h0.size) :
    MetFree l (⟨"com/example/waitsfor/waitsfor/ShardSet", "add", "(I)V"⟩ : MethodName) (head1 (Jvm.Cond.code (⟨"com/example/waitsfor/waitsfor/ShardSet", "add", "(I)V"⟩ : MethodName) prog_69_method_2_code 3 none :: ws) ({ frames := 0, cells := 0, slots := 0, locals := 0 } : Room)) (fun a U => a = #[(.ref a0'), (.int p1)] ∧ Z.Warmed39 U.vm ∧ U.heap = h0) (fun _ _ _ _ _ => True) (fun _ U o U' => ∃ v L, o = .returned v ∧ Q_rm_add0 Z a0' p1 P h0 n0 v U'.heap L ∧ FrameEnd U o U' L 0 0) := by
  refine MetFree.of_bodySF (plainFor_of_name pn_com_example_waitsfor_waitsfor_ShardSet) hisR ?_
  intro p e s m args below meth c s₁ Bd hml0 hP hK
  obtain ⟨rfl, hZ, hh⟩ := hP
  have hx := Bd.exec
  have hby := Bd.bytes
  have hlk := Bd.notSynchronized
  have hml : c.maxLocals = 3 := hml0
  have hown : s.vm.findClass "com/example/waitsfor/waitsfor/ShardSet" = some m.cls := findClass_of_methodNamed Bd.named
  have hnm := (name_of_methodNamed Bd.named Bd.method).1
  have X0 : Stand p l e ({ frames := 0, cells := 0, slots := 0, locals := 0 } : Room) s m #[(.ref a0'), (.int p1)] below meth c s₁ [] 0 0 := Stand.of_body Bd
  have e0 : s₁.heap = h0 := by rw [← hh, Bd.state]; rfl
  have N0 := Fr.nil n0
  show OwnEnd p e below s (Q_rm_add0 Z a0' p1 P h0 n0) 0 0 (s₁.setTop (entryFrame m #[(.ref a0'), (.int p1)] 3))
  refine go (fun t k => castTop (ef_rm_add0 m a0' p1) k) ?_
  have KK := Keep.refl h0 [a0']
  show OwnEnd _ _ _ _ _ _ _ (s₁.setTop (mkF m 0 #[.val (.ref a0'), .val (.int p1), .unset] []))
  refine go (fun _ k => by refine XS.iconst X0.here hx rfl (hb hby d_prog_69_method_2_code_0) ?_; exact k) ?_
  refine go (fun _ k => by refine XS.istoreN X0.here hx rfl (hb hby d_prog_69_method_2_code_1) rfl (l' := #[.val (.ref a0'), .val (.int p1), .val (.int (0 : Int32))]) rfl ?_; exact k) ?_
  refine go (fun _ k => by refine XS.iloadN X0.here hx rfl (hb hby d_prog_69_method_2_code_2) rfl ?_; exact k) ?_
  refine go (fun _ k => by refine XS.aloadN X0.here hx rfl (hb hby d_prog_69_method_2_code_3) rfl rfl ?_; exact k) ?_
  show OwnEnd _ _ _ _ _ _ _ (s₁.setTop (mkF m 4 #[.val (.ref a0'), .val (.int p1), .val (.int (0 : Int32))] [(.ref a0'), (.int (0 : Int32))]))
  obtain ⟨T1, X1, e1, st1⟩ := getF X0 hx hZ hown (host := "") (Or.inl (hw _ (List.mem_of_getElem? (i := 19) rfl))) Via.refl e0 FS (g := (mkF m 4 #[.val (.ref a0'), .val (.int p1), .val (.int (0 : Int32))] [(.ref a0'), (.int (0 : Int32))])) rfl rfl (hb hby d_prog_69_method_2_code_4)
  refine go st1 ?_
  show OwnEnd _ _ _ _ _ _ _ (T1.setTop (mkF m 7 #[.val (.ref a0'), .val (.int p1), .val (.int (0 : Int32))] [(.int (0 : Int32)), (.int (0 : Int32))]))
  refine go (fun _ k => by refine XS.icmpYes X1.here hx rfl (pc0 := 7) (pc' := 26) rfl (hb hby d_prog_69_method_2_code_7) rfl (flt (by decide)).2.1 (by decide) (by decide) ?_; exact k) ?_
  refine go (fun _ k => by refine XS.aloadN X1.here hx rfl (hb hby d_prog_69_method_2_code_26) rfl rfl ?_; exact k) ?_
  show OwnEnd _ _ _ _ _ _ _ (T1.setTop (mkF m 27 #[.val (.ref a0'), .val (.int p1), .val (.int (0 : Int32))] [(.ref a0')]))
  obtain ⟨T2, X2, e2, st2⟩ := getF X1 hx hZ hown (host := "") (Or.inl (hw _ (List.mem_of_getElem? (i := 19) rfl))) Via.refl e1 FS (g := (mkF m 27 #[.val (.ref a0'), .val (.int p1), .val (.int (0 : Int32))] [(.ref a0')])) rfl rfl (hb hby d_prog_69_method_2_code_27)
  refine go st2 ?_
  refine go (fun _ k => by refine XS.bipush X2.here hx rfl (hb hby d_prog_69_method_2_code_30) ?_; exact k) ?_
  show OwnEnd _ _ _ _ _ _ _ (T2.setTop (mkF m 32 #[.val (.ref a0'), .val (.int p1), .val (.int (0 : Int32))] [(.int (8 : Int32)), (.int (0 : Int32))]))
  refine go (fun _ k => by refine XS.icmpNo X2.here hx rfl (hb hby d_prog_69_method_2_code_32) rfl (tlt (by decide)).2.1 ?_; exact k) ?_
  refine go (fun _ k => by refine XS.aloadN X2.here hx rfl (hb hby d_prog_69_method_2_code_35) rfl rfl ?_; exact k) ?_
  refine go (fun _ k => by refine XS.dup X2.here hx rfl (hb hby d_prog_69_method_2_code_36) rfl rfl ?_; exact k) ?_
  show OwnEnd _ _ _ _ _ _ _ (T2.setTop (mkF m 37 #[.val (.ref a0'), .val (.int p1), .val (.int (0 : Int32))] [(.ref a0'), (.ref a0')]))
  obtain ⟨T3, X3, e3, st3⟩ := getF X2 hx hZ hown (host := "") (Or.inl (hw _ (List.mem_of_getElem? (i := 21) rfl))) Via.refl e2 FP (g := (mkF m 37 #[.val (.ref a0'), .val (.int p1), .val (.int (0 : Int32))] [(.ref a0'), (.ref a0')])) rfl rfl (hb hby d_prog_69_method_2_code_37)
  refine go st3 ?_
  refine go (fun _ k => by refine XS.iloadN X3.here hx rfl (hb hby d_prog_69_method_2_code_40) rfl ?_; exact k) ?_
  refine go (fun _ k => by refine XS.i2l X3.here hx rfl (hb hby d_prog_69_method_2_code_41) rfl ?_; exact k) ?_
  refine go (fun _ k => by refine XS.bipush X3.here hx rfl (hb hby d_prog_69_method_2_code_42) ?_; exact k) ?_
  show OwnEnd _ _ _ _ _ _ _ (T3.setTop (mkF m 44 #[.val (.ref a0'), .val (.int p1), .val (.int (0 : Int32))] [(.int (8 : Int32)), (.long (p1.toInt64)), (.long P), (.ref a0')]))
  refine go (fun _ k => by refine XS.aloadN X3.here hx rfl (hb hby d_prog_69_method_2_code_44) rfl rfl ?_; exact k) ?_
  show OwnEnd _ _ _ _ _ _ _ (T3.setTop (mkF m 45 #[.val (.ref a0'), .val (.int p1), .val (.int (0 : Int32))] [(.ref a0'), (.int (8 : Int32)), (.long (p1.toInt64)), (.long P), (.ref a0')]))
  obtain ⟨T4, X4, e4, st4⟩ := getF X3 hx hZ hown (host := "") (Or.inl (hw _ (List.mem_of_getElem? (i := 19) rfl))) Via.refl e3 FS (g := (mkF m 45 #[.val (.ref a0'), .val (.int p1), .val (.int (0 : Int32))] [(.ref a0'), (.int (8 : Int32)), (.long (p1.toInt64)), (.long P), (.ref a0')])) rfl rfl (hb hby d_prog_69_method_2_code_45)
  refine go st4 ?_
  refine go (fun _ k => by refine XS.imul X4.here hx rfl (hb hby d_prog_69_method_2_code_48) rfl ?_; exact k) ?_
  show OwnEnd _ _ _ _ _ _ _ (T4.setTop (mkF m 49 #[.val (.ref a0'), .val (.int p1), .val (.int (0 : Int32))] [(.int ((8 : Int32) * (0 : Int32))), (.long (p1.toInt64)), (.long P), (.ref a0')]))
  rw [show ((8 : Int32) * (0 : Int32)) = (0 : Int32) from by decide]
  refine go (fun _ k => by refine XS.lshl X4.here hx rfl (hb hby d_prog_69_method_2_code_49) rfl ?_; exact k) ?_
  refine go (fun _ k => by refine XS.lor X4.here hx rfl (hb hby d_prog_69_method_2_code_50) rfl ?_; exact k) ?_
  show OwnEnd _ _ _ _ _ _ _ (T4.setTop (mkF m 51 #[.val (.ref a0'), .val (.int p1), .val (.int (0 : Int32))] [(.long (P ||| ((p1.toInt64) <<< ((0 : Int32) &&& 0x3f).toInt64))), (.ref a0')]))
  obtain ⟨T5, h5, X5, e5, W5, st5⟩ := putF X4 hx hZ hown (host := "") (Or.inl (hw _ (List.mem_of_getElem? (i := 21) rfl))) Via.refl e4 FP EA (Or.inl (hw _ (List.mem_of_getElem? (i := 22) rfl))) (hw _ (List.mem_of_getElem? (i := 2) rfl)) (ty := .long) (by decide) rfl rfl (g := (mkF m 51 #[.val (.ref a0'), .val (.int p1), .val (.int (0 : Int32))] [(.long (P ||| ((p1.toInt64) <<< ((0 : Int32) &&& 0x3f).toInt64))), (.ref a0')])) rfl rfl (hb hby d_prog_69_method_2_code_51)
  have N5 := Fr.snoc X5 N0 ga
  have EA := EA.wr W5
  have FS := FS.other W5 (Or.inr (slot_ne (Or.inl (hw _ (List.mem_of_getElem? (i := 20) rfl))) (Or.inl (hw _ (List.mem_of_getElem? (i := 22) rfl))) (by decide) (t := .int) (t' := .long) (by decide) (by decide)))
  have FM := FM.other W5 (Or.inr (slot_ne (Or.inl (hw _ (List.mem_of_getElem? (i := 34) rfl))) (Or.inl (hw _ (List.mem_of_getElem? (i := 22) rfl))) (by decide) (t := (.array .int)) (t' := .long) (by decide) (by decide)))
  have Z0 := Nat.le_trans Z0 (Keep.of_wr W5).1
  have KK := Keep.wr KK W5 (Or.inl (List.mem_of_getElem? (i := 0) rfl))
  have FP := FP.same W5
  refine go st5 ?_
  refine go (fun _ k => by refine XS.goto X5.here hx rfl (pc0 := 54) (pc' := 62) rfl (hb hby d_prog_69_method_2_code_54) (by decide) (by decide) ?_; exact k) ?_
  refine go (fun _ k => by refine XS.aloadN X5.here hx rfl (hb hby d_prog_69_method_2_code_62) rfl rfl ?_; exact k) ?_
  refine go (fun _ k => by refine XS.dup X5.here hx rfl (hb hby d_prog_69_method_2_code_63) rfl rfl ?_; exact k) ?_
  show OwnEnd _ _ _ _ _ _ _ (T5.setTop (mkF m 64 #[.val (.ref a0'), .val (.int p1), .val (.int (0 : Int32))] [(.ref a0'), (.ref a0')]))
  obtain ⟨T6, X6, e6, st6⟩ := getF X5 hx hZ hown (host := "") (Or.inl (hw _ (List.mem_of_getElem? (i := 19) rfl))) Via.refl e5 FS (g := (mkF m 64 #[.val (.ref a0'), .val (.int p1), .val (.int (0 : Int32))] [(.ref a0'), (.ref a0')])) rfl rfl (hb hby d_prog_69_method_2_code_64)
  refine go st6 ?_
  refine go (fun _ k => by refine XS.iconst X6.here hx rfl (hb hby d_prog_69_method_2_code_67) ?_; exact k) ?_
  refine go (fun _ k => by refine XS.iadd X6.here hx rfl (hb hby d_prog_69_method_2_code_68) rfl ?_; exact k) ?_
  show OwnEnd _ _ _ _ _ _ _ (T6.setTop (mkF m 69 #[.val (.ref a0'), .val (.int p1), .val (.int (0 : Int32))] [(.int ((0 : Int32) + (1 : Int32))), (.ref a0')]))
  rw [show ((0 : Int32) + (1 : Int32)) = (1 : Int32) from by decide]
  show OwnEnd _ _ _ _ _ _ _ (T6.setTop (mkF m 69 #[.val (.ref a0'), .val (.int p1), .val (.int (0 : Int32))] [(.int (1 : Int32)), (.ref a0')]))
  obtain ⟨T7, h7, X7, e7, W7, st7⟩ := putF X6 hx hZ hown (host := "") (Or.inl (hw _ (List.mem_of_getElem? (i := 19) rfl))) Via.refl e6 FS EA (Or.inl (hw _ (List.mem_of_getElem? (i := 20) rfl))) (hw _ (List.mem_of_getElem? (i := 2) rfl)) (ty := .int) (by decide) rfl rfl (g := (mkF m 69 #[.val (.ref a0'), .val (.int p1), .val (.int (0 : Int32))] [(.int (1 : Int32)), (.ref a0')])) rfl rfl (hb hby d_prog_69_method_2_code_69)
  have N7 := Fr.snoc X7 N5 ga
  have EA := EA.wr W7
  have FP := FP.other W7 (Or.inr (slot_ne (Or.inl (hw _ (List.mem_of_getElem? (i := 22) rfl))) (Or.inl (hw _ (List.mem_of_getElem? (i := 20) rfl))) (by decide) (t := .long) (t' := .int) (by decide) (by decide)))
  have FM := FM.other W7 (Or.inr (slot_ne (Or.inl (hw _ (List.mem_of_getElem? (i := 34) rfl))) (Or.inl (hw _ (List.mem_of_getElem? (i := 20) rfl))) (by decide) (t := (.array .int)) (t' := .int) (by decide) (by decide)))
  have Z0 := Nat.le_trans Z0 (Keep.of_wr W7).1
  have KK := Keep.wr KK W7 (Or.inl (List.mem_of_getElem? (i := 0) rfl))
  have FS := FS.same W7
  refine go st7 ?_
  show OwnEnd _ _ _ _ _ _ _ (T7.setTop (mkF m 72 #[.val (.ref a0'), .val (.int p1), .val (.int (0 : Int32))] []))
  refine endV X7 hx hlk Bd.returns (hb hby d_prog_69_method_2_code_72) e7 (by decide) (by decide) ?_
  exact ⟨rfl, N7, KK, EA, FP, FS, FM⟩
theorem d_prog_69_method_2_code_10 : decode prog_69_method_2_code 10 = .ok (.aload_n 0, 1) := by decide +kernel
theorem d_prog_69_method_2_code_11 : decode prog_69_method_2_code 11 = .ok (.iload_n 2, 1) := by decide +kernel
theorem d_prog_69_method_2_code_12 : decode prog_69_method_2_code 12 = .ok (.invokevirtual 15, 3) := by decide +kernel
theorem pd__I_I : parseMethodDescriptor "(I)I" = some ⟨[.int], some .int⟩ := by decide +kernel
theorem d_prog_69_method_2_code_15 : decode prog_69_method_2_code 15 = .ok (.iload_n 1, 1) := by decide +kernel
theorem d_prog_69_method_2_code_16 : decode prog_69_method_2_code 16 = .ok (.if_icmp .ne 4, 3) := by decide +kernel
theorem d_prog_69_method_2_code_20 : decode prog_69_method_2_code 20 = .ok (.iinc 2 1, 3) := by decide +kernel
theorem d_prog_69_method_2_code_23 : decode prog_69_method_2_code 23 = .ok (.goto (-21), 3) := by decide +kernel
theorem ef_rm_add1 (m : MethodId) (y0 : Addr) (y1 : Int32) : entryFrame m #[(.ref y0), (.int y1)] 3 = mkF m 0 #[.val (.ref y0), .val (.int y1), .unset] [] := by first | (simp [entryFrame, mkF, argsToLocals, Value.category]; done) | rfl
def Q_rm_add1 (Z : State) (a0' : Addr) (p1 : Int32) (P : Int64) (h0 : Heap) (n0 : Nat) (v : Option Value) (h : Heap) (L : List Loc) : Prop := v = none ∧ Fr n0 L ∧ Keep h0 h [a0'] ∧ Exa Z h a0' "com/example/waitsfor/waitsfor/ShardSet" ∧ Fld Z h a0' "com/example/waitsfor/waitsfor/ShardSet" "packed" "J" (.long (P ||| (p1.toInt64 <<< ((8 : Int32) &&& 0x3f).toInt64))) ∧ Fld Z h a0' "com/example/waitsfor/waitsfor/ShardSet" "size" "I" (.int 2) ∧ Fld Z h a0' "com/example/waitsfor/waitsfor/ShardSet" "more" "[I" .null
set_option maxRecDepth 65536 in
set_option maxHeartbeats 40000000 in
theorem rm_add1 (l : Launch) (Z : State) (a0 : Array Value) (hw : ∀ d ∈ tables_1, d.before a0 Z = true) (ws : List Jvm.Cond) (a0' : Addr) (p1 : Int32) (P : Int64) (h0 : Heap) (n0 : Nat) (ga : n0 ≤ a0') (EA : Exa Z h0 a0' "com/example/waitsfor/waitsfor/ShardSet") (FP : Fld Z h0 a0' "com/example/waitsfor/waitsfor/ShardSet" "packed" "J" (.long P)) (FS : Fld Z h0 a0' "com/example/waitsfor/waitsfor/ShardSet" "size" "I" (.int 1)) (FM : Fld Z h0 a0' "com/example/waitsfor/waitsfor/ShardSet" "more" "[I" .null) (ne0 : ¬ own_get P (0 : Int32) = p1) (Z0 : n0 ≤ h0.size) :
    MetFree l (⟨"com/example/waitsfor/waitsfor/ShardSet", "add", "(I)V"⟩ : MethodName) (head1 (Jvm.Cond.code (⟨"com/example/waitsfor/waitsfor/ShardSet", "add", "(I)V"⟩ : MethodName) prog_69_method_2_code 3 none :: ws) ({ frames := 1, cells := 0, slots := 0, locals := 13 } : Room)) (fun a U => a = #[(.ref a0'), (.int p1)] ∧ Z.Warmed39 U.vm ∧ U.heap = h0) (fun _ _ _ _ _ => True) (fun _ U o U' => ∃ v L, o = .returned v ∧ Q_rm_add1 Z a0' p1 P h0 n0 v U'.heap L ∧ FrameEnd U o U' L 0 0) := by
  refine MetFree.of_bodySF (plainFor_of_name pn_com_example_waitsfor_waitsfor_ShardSet) hisR ?_
  intro p e s m args below meth c s₁ Bd hml0 hP hK
  obtain ⟨rfl, hZ, hh⟩ := hP
  have hx := Bd.exec
  have hby := Bd.bytes
  have hlk := Bd.notSynchronized
  have hml : c.maxLocals = 3 := hml0
  have hown : s.vm.findClass "com/example/waitsfor/waitsfor/ShardSet" = some m.cls := findClass_of_methodNamed Bd.named
  have hnm := (name_of_methodNamed Bd.named Bd.method).1
  have X0 : Stand p l e ({ frames := 1, cells := 0, slots := 0, locals := 13 } : Room) s m #[(.ref a0'), (.int p1)] below meth c s₁ [] 0 0 := Stand.of_body Bd
  have e0 : s₁.heap = h0 := by rw [← hh, Bd.state]; rfl
  have N0 := Fr.nil n0
  show OwnEnd p e below s (Q_rm_add1 Z a0' p1 P h0 n0) 0 0 (s₁.setTop (entryFrame m #[(.ref a0'), (.int p1)] 3))
  refine go (fun t k => castTop (ef_rm_add1 m a0' p1) k) ?_
  have KK := Keep.refl h0 [a0']
  show OwnEnd _ _ _ _ _ _ _ (s₁.setTop (mkF m 0 #[.val (.ref a0'), .val (.int p1), .unset] []))
  refine go (fun _ k => by refine XS.iconst X0.here hx rfl (hb hby d_prog_69_method_2_code_0) ?_; exact k) ?_
  refine go (fun _ k => by refine XS.istoreN X0.here hx rfl (hb hby d_prog_69_method_2_code_1) rfl (l' := #[.val (.ref a0'), .val (.int p1), .val (.int (0 : Int32))]) rfl ?_; exact k) ?_
  refine go (fun _ k => by refine XS.iloadN X0.here hx rfl (hb hby d_prog_69_method_2_code_2) rfl ?_; exact k) ?_
  refine go (fun _ k => by refine XS.aloadN X0.here hx rfl (hb hby d_prog_69_method_2_code_3) rfl rfl ?_; exact k) ?_
  show OwnEnd _ _ _ _ _ _ _ (s₁.setTop (mkF m 4 #[.val (.ref a0'), .val (.int p1), .val (.int (0 : Int32))] [(.ref a0'), (.int (0 : Int32))]))
  obtain ⟨T1, X1, e1, st1⟩ := getF X0 hx hZ hown (host := "") (Or.inl (hw _ (List.mem_of_getElem? (i := 19) rfl))) Via.refl e0 FS (g := (mkF m 4 #[.val (.ref a0'), .val (.int p1), .val (.int (0 : Int32))] [(.ref a0'), (.int (0 : Int32))])) rfl rfl (hb hby d_prog_69_method_2_code_4)
  refine go st1 ?_
  show OwnEnd _ _ _ _ _ _ _ (T1.setTop (mkF m 7 #[.val (.ref a0'), .val (.int p1), .val (.int (0 : Int32))] [(.int (1 : Int32)), (.int (0 : Int32))]))
  refine go (fun _ k => by refine XS.icmpNo X1.here hx rfl (hb hby d_prog_69_method_2_code_7) rfl (tlt (by decide)).2.1 ?_; exact k) ?_
  refine go (fun _ k => by refine XS.aloadN X1.here hx rfl (hb hby d_prog_69_method_2_code_10) rfl rfl ?_; exact k) ?_
  refine go (fun _ k => by refine XS.iloadN X1.here hx rfl (hb hby d_prog_69_method_2_code_11) rfl ?_; exact k) ?_
  show OwnEnd _ _ _ _ _ _ _ (T1.setTop (mkF m 12 #[.val (.ref a0'), .val (.int p1), .val (.int (0 : Int32))] [(.int (0 : Int32)), (.ref a0')]))
  obtain ⟨_, T2, L2, X2, hQ2, st2⟩ := callVirt X1 hx hZ hown (hw _ (List.mem_of_getElem? (i := 23) rfl)) (hw _ (List.mem_of_getElem? (i := 24) rfl)) (notFace_of_selects (args := #[]) (mvT hZ (hw _ (List.mem_of_getElem? (i := 26) rfl)))) (hw _ (List.mem_of_getElem? (i := 26) rfl)) (hw _ (List.mem_of_getElem? (i := 25) rfl)) (hw _ (List.mem_of_getElem? (i := 3) rfl)) (hw _ (List.mem_of_getElem? (i := 27) rfl)) (by decide) (rm_get0 l Z a0 hw [] a0' P h0 n0 FP) (W := 0) (by decide) (by decide) e1 EA (g := (mkF m 12 #[.val (.ref a0'), .val (.int p1), .val (.int (0 : Int32))] [(.int (0 : Int32)), (.ref a0')])) rfl (by rw [hml]; rfl) (argsL := [(.int (0 : Int32))]) (rest := []) rfl (lenOf pd__I_I rfl) rfl (by show 2 * 0 + _ ≤ _; exact Nat.le_of_eq rfl) (hb hby d_prog_69_method_2_code_12) (by decide) (by decide)
  obtain ⟨rfl, Nq2, eq2⟩ := hQ2
  have N2 := Fr.app N0 Nq2
  refine go st2 ?_
  refine go (fun _ k => by refine XS.iloadN X2.here hx rfl (hb hby d_prog_69_method_2_code_15) rfl ?_; exact k) ?_
  show OwnEnd _ _ _ _ _ _ _ (T2.setTop (mkF m 16 #[.val (.ref a0'), .val (.int p1), .val (.int (0 : Int32))] [(.int p1), (.int (own_get P (0 : Int32)))]))
  refine go (fun _ k => by refine XS.icmpYes X2.here hx rfl (pc0 := 16) (pc' := 20) rfl (hb hby d_prog_69_method_2_code_16) rfl (feq ne0).2 (by decide) (by decide) ?_; exact k) ?_
  show OwnEnd _ _ _ _ _ _ _ (T2.setTop (mkF m 20 #[.val (.ref a0'), .val (.int p1), .val (.int (0 : Int32))] []))
  refine go (fun _ k => by refine XS.iinc X2.here hx rfl (hb hby d_prog_69_method_2_code_20) rfl (l' := #[.val (.ref a0'), .val (.int p1), .val (.int ((0 : Int32) + (1 : Int32)))]) rfl ?_; exact k) ?_
  show OwnEnd _ _ _ _ _ _ _ (T2.setTop (mkF m 23 #[.val (.ref a0'), .val (.int p1), .val (.int ((0 : Int32) + (1 : Int32)))] []))
  rw [show ((0 : Int32) + (1 : Int32)) = (1 : Int32) from by decide]
  refine go (fun _ k => by refine XS.goto X2.here hx rfl (pc0 := 23) (pc' := 2) rfl (hb hby d_prog_69_method_2_code_23) (by decide) (by decide) ?_; exact k) ?_
  refine go (fun _ k => by refine XS.iloadN X2.here hx rfl (hb hby d_prog_69_method_2_code_2) rfl ?_; exact k) ?_
  refine go (fun _ k => by refine XS.aloadN X2.here hx rfl (hb hby d_prog_69_method_2_code_3) rfl rfl ?_; exact k) ?_
  show OwnEnd _ _ _ _ _ _ _ (T2.setTop (mkF m 4 #[.val (.ref a0'), .val (.int p1), .val (.int (1 : Int32))] [(.ref a0'), (.int (1 : Int32))]))
  obtain ⟨T3, X3, e3, st3⟩ := getF X2 hx hZ hown (host := "") (Or.inl (hw _ (List.mem_of_getElem? (i := 19) rfl))) Via.refl eq2 FS (g := (mkF m 4 #[.val (.ref a0'), .val (.int p1), .val (.int (1 : Int32))] [(.ref a0'), (.int (1 : Int32))])) rfl rfl (hb hby d_prog_69_method_2_code_4)
  refine go st3 ?_
  show OwnEnd _ _ _ _ _ _ _ (T3.setTop (mkF m 7 #[.val (.ref a0'), .val (.int p1), .val (.int (1 : Int32))] [(.int (1 : Int32)), (.int (1 : Int32))]))
  refine go (fun _ k => by refine XS.icmpYes X3.here hx rfl (pc0 := 7) (pc' := 26) rfl (hb hby d_prog_69_method_2_code_7) rfl (flt (by decide)).2.1 (by decide) (by decide) ?_; exact k) ?_
  refine go (fun _ k => by refine XS.aloadN X3.here hx rfl (hb hby d_prog_69_method_2_code_26) rfl rfl ?_; exact k) ?_
  show OwnEnd _ _ _ _ _ _ _ (T3.setTop (mkF m 27 #[.val (.ref a0'), .val (.int p1), .val (.int (1 : Int32))] [(.ref a0')]))
  obtain ⟨T4, X4, e4, st4⟩ := getF X3 hx hZ hown (host := "") (Or.inl (hw _ (List.mem_of_getElem? (i := 19) rfl))) Via.refl e3 FS (g := (mkF m 27 #[.val (.ref a0'), .val (.int p1), .val (.int (1 : Int32))] [(.ref a0')])) rfl rfl (hb hby d_prog_69_method_2_code_27)
  refine go st4 ?_
  refine go (fun _ k => by refine XS.bipush X4.here hx rfl (hb hby d_prog_69_method_2_code_30) ?_; exact k) ?_
  show OwnEnd _ _ _ _ _ _ _ (T4.setTop (mkF m 32 #[.val (.ref a0'), .val (.int p1), .val (.int (1 : Int32))] [(.int (8 : Int32)), (.int (1 : Int32))]))
  refine go (fun _ k => by refine XS.icmpNo X4.here hx rfl (hb hby d_prog_69_method_2_code_32) rfl (tlt (by decide)).2.1 ?_; exact k) ?_
  refine go (fun _ k => by refine XS.aloadN X4.here hx rfl (hb hby d_prog_69_method_2_code_35) rfl rfl ?_; exact k) ?_
  refine go (fun _ k => by refine XS.dup X4.here hx rfl (hb hby d_prog_69_method_2_code_36) rfl rfl ?_; exact k) ?_
  show OwnEnd _ _ _ _ _ _ _ (T4.setTop (mkF m 37 #[.val (.ref a0'), .val (.int p1), .val (.int (1 : Int32))] [(.ref a0'), (.ref a0')]))
  obtain ⟨T5, X5, e5, st5⟩ := getF X4 hx hZ hown (host := "") (Or.inl (hw _ (List.mem_of_getElem? (i := 21) rfl))) Via.refl e4 FP (g := (mkF m 37 #[.val (.ref a0'), .val (.int p1), .val (.int (1 : Int32))] [(.ref a0'), (.ref a0')])) rfl rfl (hb hby d_prog_69_method_2_code_37)
  refine go st5 ?_
  refine go (fun _ k => by refine XS.iloadN X5.here hx rfl (hb hby d_prog_69_method_2_code_40) rfl ?_; exact k) ?_
  refine go (fun _ k => by refine XS.i2l X5.here hx rfl (hb hby d_prog_69_method_2_code_41) rfl ?_; exact k) ?_
  refine go (fun _ k => by refine XS.bipush X5.here hx rfl (hb hby d_prog_69_method_2_code_42) ?_; exact k) ?_
  show OwnEnd _ _ _ _ _ _ _ (T5.setTop (mkF m 44 #[.val (.ref a0'), .val (.int p1), .val (.int (1 : Int32))] [(.int (8 : Int32)), (.long (p1.toInt64)), (.long P), (.ref a0')]))
  refine go (fun _ k => by refine XS.aloadN X5.here hx rfl (hb hby d_prog_69_method_2_code_44) rfl rfl ?_; exact k) ?_
  show OwnEnd _ _ _ _ _ _ _ (T5.setTop (mkF m 45 #[.val (.ref a0'), .val (.int p1), .val (.int (1 : Int32))] [(.ref a0'), (.int (8 : Int32)), (.long (p1.toInt64)), (.long P), (.ref a0')]))
  obtain ⟨T6, X6, e6, st6⟩ := getF X5 hx hZ hown (host := "") (Or.inl (hw _ (List.mem_of_getElem? (i := 19) rfl))) Via.refl e5 FS (g := (mkF m 45 #[.val (.ref a0'), .val (.int p1), .val (.int (1 : Int32))] [(.ref a0'), (.int (8 : Int32)), (.long (p1.toInt64)), (.long P), (.ref a0')])) rfl rfl (hb hby d_prog_69_method_2_code_45)
  refine go st6 ?_
  refine go (fun _ k => by refine XS.imul X6.here hx rfl (hb hby d_prog_69_method_2_code_48) rfl ?_; exact k) ?_
  show OwnEnd _ _ _ _ _ _ _ (T6.setTop (mkF m 49 #[.val (.ref a0'), .val (.int p1), .val (.int (1 : Int32))] [(.int ((8 : Int32) * (1 : Int32))), (.long (p1.toInt64)), (.long P), (.ref a0')]))
  rw [show ((8 : Int32) * (1 : Int32)) = (8 : Int32) from by decide]
  refine go (fun _ k => by refine XS.lshl X6.here hx rfl (hb hby d_prog_69_method_2_code_49) rfl ?_; exact k) ?_
  refine go (fun _ k => by refine XS.lor X6.here hx rfl (hb hby d_prog_69_method_2_code_50) rfl ?_; exact k) ?_
  show OwnEnd _ _ _ _ _ _ _ (T6.setTop (mkF m 51 #[.val (.ref a0'), .val (.int p1), .val (.int (1 : Int32))] [(.long (P ||| ((p1.toInt64) <<< ((8 : Int32) &&& 0x3f).toInt64))), (.ref a0')]))
  obtain ⟨T7, h7, X7, e7, W7, st7⟩ := putF X6 hx hZ hown (host := "") (Or.inl (hw _ (List.mem_of_getElem? (i := 21) rfl))) Via.refl e6 FP EA (Or.inl (hw _ (List.mem_of_getElem? (i := 22) rfl))) (hw _ (List.mem_of_getElem? (i := 2) rfl)) (ty := .long) (by decide) rfl rfl (g := (mkF m 51 #[.val (.ref a0'), .val (.int p1), .val (.int (1 : Int32))] [(.long (P ||| ((p1.toInt64) <<< ((8 : Int32) &&& 0x3f).toInt64))), (.ref a0')])) rfl rfl (hb hby d_prog_69_method_2_code_51)
  have N7 := Fr.snoc X7 N2 ga
  have EA := EA.wr W7
  have FS := FS.other W7 (Or.inr (slot_ne (Or.inl (hw _ (List.mem_of_getElem? (i := 20) rfl))) (Or.inl (hw _ (List.mem_of_getElem? (i := 22) rfl))) (by decide) (t := .int) (t' := .long) (by decide) (by decide)))
  have FM := FM.other W7 (Or.inr (slot_ne (Or.inl (hw _ (List.mem_of_getElem? (i := 34) rfl))) (Or.inl (hw _ (List.mem_of_getElem? (i := 22) rfl))) (by decide) (t := (.array .int)) (t' := .long) (by decide) (by decide)))
  have Z0 := Nat.le_trans Z0 (Keep.of_wr W7).1
  have KK := Keep.wr KK W7 (Or.inl (List.mem_of_getElem? (i := 0) rfl))
  have FP := FP.same W7
  refine go st7 ?_
  refine go (fun _ k => by refine XS.goto X7.here hx rfl (pc0 := 54) (pc' := 62) rfl (hb hby d_prog_69_method_2_code_54) (by decide) (by decide) ?_; exact k) ?_
  refine go (fun _ k => by refine XS.aloadN X7.here hx rfl (hb hby d_prog_69_method_2_code_62) rfl rfl ?_; exact k) ?_
  refine go (fun _ k => by refine XS.dup X7.here hx rfl (hb hby d_prog_69_method_2_code_63) rfl rfl ?_; exact k) ?_
  show OwnEnd _ _ _ _ _ _ _ (T7.setTop (mkF m 64 #[.val (.ref a0'), .val (.int p1), .val (.int (1 : Int32))] [(.ref a0'), (.ref a0')]))
  obtain ⟨T8, X8, e8, st8⟩ := getF X7 hx hZ hown (host := "") (Or.inl (hw _ (List.mem_of_getElem? (i := 19) rfl))) Via.refl e7 FS (g := (mkF m 64 #[.val (.ref a0'), .val (.int p1), .val (.int (1 : Int32))] [(.ref a0'), (.ref a0')])) rfl rfl (hb hby d_prog_69_method_2_code_64)
  refine go st8 ?_
  refine go (fun _ k => by refine XS.iconst X8.here hx rfl (hb hby d_prog_69_method_2_code_67) ?_; exact k) ?_
  refine go (fun _ k => by refine XS.iadd X8.here hx rfl (hb hby d_prog_69_method_2_code_68) rfl ?_; exact k) ?_
  show OwnEnd _ _ _ _ _ _ _ (T8.setTop (mkF m 69 #[.val (.ref a0'), .val (.int p1), .val (.int (1 : Int32))] [(.int ((1 : Int32) + (1 : Int32))), (.ref a0')]))
  rw [show ((1 : Int32) + (1 : Int32)) = (2 : Int32) from by decide]
  show OwnEnd _ _ _ _ _ _ _ (T8.setTop (mkF m 69 #[.val (.ref a0'), .val (.int p1), .val (.int (1 : Int32))] [(.int (2 : Int32)), (.ref a0')]))
  obtain ⟨T9, h9, X9, e9, W9, st9⟩ := putF X8 hx hZ hown (host := "") (Or.inl (hw _ (List.mem_of_getElem? (i := 19) rfl))) Via.refl e8 FS EA (Or.inl (hw _ (List.mem_of_getElem? (i := 20) rfl))) (hw _ (List.mem_of_getElem? (i := 2) rfl)) (ty := .int) (by decide) rfl rfl (g := (mkF m 69 #[.val (.ref a0'), .val (.int p1), .val (.int (1 : Int32))] [(.int (2 : Int32)), (.ref a0')])) rfl rfl (hb hby d_prog_69_method_2_code_69)
  have N9 := Fr.snoc X9 N7 ga
  have EA := EA.wr W9
  have FP := FP.other W9 (Or.inr (slot_ne (Or.inl (hw _ (List.mem_of_getElem? (i := 22) rfl))) (Or.inl (hw _ (List.mem_of_getElem? (i := 20) rfl))) (by decide) (t := .long) (t' := .int) (by decide) (by decide)))
  have FM := FM.other W9 (Or.inr (slot_ne (Or.inl (hw _ (List.mem_of_getElem? (i := 34) rfl))) (Or.inl (hw _ (List.mem_of_getElem? (i := 20) rfl))) (by decide) (t := (.array .int)) (t' := .int) (by decide) (by decide)))
  have Z0 := Nat.le_trans Z0 (Keep.of_wr W9).1
  have KK := Keep.wr KK W9 (Or.inl (List.mem_of_getElem? (i := 0) rfl))
  have FS := FS.same W9
  refine go st9 ?_
  show OwnEnd _ _ _ _ _ _ _ (T9.setTop (mkF m 72 #[.val (.ref a0'), .val (.int p1), .val (.int (1 : Int32))] []))
  refine endV X9 hx hlk Bd.returns (hb hby d_prog_69_method_2_code_72) e9 (by decide) (by decide) ?_
  exact ⟨rfl, N9, KK, EA, FP, FS, FM⟩
theorem ef_rm_add2 (m : MethodId) (y0 : Addr) (y1 : Int32) : entryFrame m #[(.ref y0), (.int y1)] 3 = mkF m 0 #[.val (.ref y0), .val (.int y1), .unset] [] := by first | (simp [entryFrame, mkF, argsToLocals, Value.category]; done) | rfl
def Q_rm_add2 (Z : State) (a0' : Addr) (p1 : Int32) (P : Int64) (h0 : Heap) (n0 : Nat) (v : Option Value) (h : Heap) (L : List Loc) : Prop := v = none ∧ Fr n0 L ∧ Keep h0 h [a0'] ∧ Exa Z h a0' "com/example/waitsfor/waitsfor/ShardSet" ∧ Fld Z h a0' "com/example/waitsfor/waitsfor/ShardSet" "packed" "J" (.long (P ||| (p1.toInt64 <<< ((16 : Int32) &&& 0x3f).toInt64))) ∧ Fld Z h a0' "com/example/waitsfor/waitsfor/ShardSet" "size" "I" (.int 3) ∧ Fld Z h a0' "com/example/waitsfor/waitsfor/ShardSet" "more" "[I" .null
set_option maxRecDepth 65536 in
set_option maxHeartbeats 40000000 in
theorem rm_add2 (l : Launch) (Z : State) (a0 : Array Value) (hw : ∀ d ∈ tables_1, d.before a0 Z = true) (ws : List Jvm.Cond) (a0' : Addr) (p1 : Int32) (P : Int64) (h0 : Heap) (n0 : Nat) (ga : n0 ≤ a0') (EA : Exa Z h0 a0' "com/example/waitsfor/waitsfor/ShardSet") (FP : Fld Z h0 a0' "com/example/waitsfor/waitsfor/ShardSet" "packed" "J" (.long P)) (FS : Fld Z h0 a0' "com/example/waitsfor/waitsfor/ShardSet" "size" "I" (.int 2)) (FM : Fld Z h0 a0' "com/example/waitsfor/waitsfor/ShardSet" "more" "[I" .null) (ne0 : ¬ own_get P (0 : Int32) = p1) (ne1 : ¬ own_get P (8 : Int32) = p1) (Z0 : n0 ≤ h0.size) :
    MetFree l (⟨"com/example/waitsfor/waitsfor/ShardSet", "add", "(I)V"⟩ : MethodName) (head1 (Jvm.Cond.code (⟨"com/example/waitsfor/waitsfor/ShardSet", "add", "(I)V"⟩ : MethodName) prog_69_method_2_code 3 none :: ws) ({ frames := 1, cells := 0, slots := 0, locals := 13 } : Room)) (fun a U => a = #[(.ref a0'), (.int p1)] ∧ Z.Warmed39 U.vm ∧ U.heap = h0) (fun _ _ _ _ _ => True) (fun _ U o U' => ∃ v L, o = .returned v ∧ Q_rm_add2 Z a0' p1 P h0 n0 v U'.heap L ∧ FrameEnd U o U' L 0 0) := by
  refine MetFree.of_bodySF (plainFor_of_name pn_com_example_waitsfor_waitsfor_ShardSet) hisR ?_
  intro p e s m args below meth c s₁ Bd hml0 hP hK
  obtain ⟨rfl, hZ, hh⟩ := hP
  have hx := Bd.exec
  have hby := Bd.bytes
  have hlk := Bd.notSynchronized
  have hml : c.maxLocals = 3 := hml0
  have hown : s.vm.findClass "com/example/waitsfor/waitsfor/ShardSet" = some m.cls := findClass_of_methodNamed Bd.named
  have hnm := (name_of_methodNamed Bd.named Bd.method).1
  have X0 : Stand p l e ({ frames := 1, cells := 0, slots := 0, locals := 13 } : Room) s m #[(.ref a0'), (.int p1)] below meth c s₁ [] 0 0 := Stand.of_body Bd
  have e0 : s₁.heap = h0 := by rw [← hh, Bd.state]; rfl
  have N0 := Fr.nil n0
  show OwnEnd p e below s (Q_rm_add2 Z a0' p1 P h0 n0) 0 0 (s₁.setTop (entryFrame m #[(.ref a0'), (.int p1)] 3))
  refine go (fun t k => castTop (ef_rm_add2 m a0' p1) k) ?_
  have KK := Keep.refl h0 [a0']
  show OwnEnd _ _ _ _ _ _ _ (s₁.setTop (mkF m 0 #[.val (.ref a0'), .val (.int p1), .unset] []))
  refine go (fun _ k => by refine XS.iconst X0.here hx rfl (hb hby d_prog_69_method_2_code_0) ?_; exact k) ?_
  refine go (fun _ k => by refine XS.istoreN X0.here hx rfl (hb hby d_prog_69_method_2_code_1) rfl (l' := #[.val (.ref a0'), .val (.int p1), .val (.int (0 : Int32))]) rfl ?_; exact k) ?_
  refine go (fun _ k => by refine XS.iloadN X0.here hx rfl (hb hby d_prog_69_method_2_code_2) rfl ?_; exact k) ?_
  refine go (fun _ k => by refine XS.aloadN X0.here hx rfl (hb hby d_prog_69_method_2_code_3) rfl rfl ?_; exact k) ?_
  show OwnEnd _ _ _ _ _ _ _ (s₁.setTop (mkF m 4 #[.val (.ref a0'), .val (.int p1), .val (.int (0 : Int32))] [(.ref a0'), (.int (0 : Int32))]))
  obtain ⟨T1, X1, e1, st1⟩ := getF X0 hx hZ hown (host := "") (Or.inl (hw _ (List.mem_of_getElem? (i := 19) rfl))) Via.refl e0 FS (g := (mkF m 4 #[.val (.ref a0'), .val (.int p1), .val (.int (0 : Int32))] [(.ref a0'), (.int (0 : Int32))])) rfl rfl (hb hby d_prog_69_method_2_code_4)
  refine go st1 ?_
  show OwnEnd _ _ _ _ _ _ _ (T1.setTop (mkF m 7 #[.val (.ref a0'), .val (.int p1), .val (.int (0 : Int32))] [(.int (2 : Int32)), (.int (0 : Int32))]))
  refine go (fun _ k => by refine XS.icmpNo X1.here hx rfl (hb hby d_prog_69_method_2_code_7) rfl (tlt (by decide)).2.1 ?_; exact k) ?_
  refine go (fun _ k => by refine XS.aloadN X1.here hx rfl (hb hby d_prog_69_method_2_code_10) rfl rfl ?_; exact k) ?_
  refine go (fun _ k => by refine XS.iloadN X1.here hx rfl (hb hby d_prog_69_method_2_code_11) rfl ?_; exact k) ?_
  show OwnEnd _ _ _ _ _ _ _ (T1.setTop (mkF m 12 #[.val (.ref a0'), .val (.int p1), .val (.int (0 : Int32))] [(.int (0 : Int32)), (.ref a0')]))
  obtain ⟨_, T2, L2, X2, hQ2, st2⟩ := callVirt X1 hx hZ hown (hw _ (List.mem_of_getElem? (i := 23) rfl)) (hw _ (List.mem_of_getElem? (i := 24) rfl)) (notFace_of_selects (args := #[]) (mvT hZ (hw _ (List.mem_of_getElem? (i := 26) rfl)))) (hw _ (List.mem_of_getElem? (i := 26) rfl)) (hw _ (List.mem_of_getElem? (i := 25) rfl)) (hw _ (List.mem_of_getElem? (i := 3) rfl)) (hw _ (List.mem_of_getElem? (i := 27) rfl)) (by decide) (rm_get0 l Z a0 hw [] a0' P h0 n0 FP) (W := 0) (by decide) (by decide) e1 EA (g := (mkF m 12 #[.val (.ref a0'), .val (.int p1), .val (.int (0 : Int32))] [(.int (0 : Int32)), (.ref a0')])) rfl (by rw [hml]; rfl) (argsL := [(.int (0 : Int32))]) (rest := []) rfl (lenOf pd__I_I rfl) rfl (by show 2 * 0 + _ ≤ _; exact Nat.le_of_eq rfl) (hb hby d_prog_69_method_2_code_12) (by decide) (by decide)
  obtain ⟨rfl, Nq2, eq2⟩ := hQ2
  have N2 := Fr.app N0 Nq2
  refine go st2 ?_
  refine go (fun _ k => by refine XS.iloadN X2.here hx rfl (hb hby d_prog_69_method_2_code_15) rfl ?_; exact k) ?_
  show OwnEnd _ _ _ _ _ _ _ (T2.setTop (mkF m 16 #[.val (.ref a0'), .val (.int p1), .val (.int (0 : Int32))] [(.int p1), (.int (own_get P (0 : Int32)))]))
  refine go (fun _ k => by refine XS.icmpYes X2.here hx rfl (pc0 := 16) (pc' := 20) rfl (hb hby d_prog_69_method_2_code_16) rfl (feq ne0).2 (by decide) (by decide) ?_; exact k) ?_
  show OwnEnd _ _ _ _ _ _ _ (T2.setTop (mkF m 20 #[.val (.ref a0'), .val (.int p1), .val (.int (0 : Int32))] []))
  refine go (fun _ k => by refine XS.iinc X2.here hx rfl (hb hby d_prog_69_method_2_code_20) rfl (l' := #[.val (.ref a0'), .val (.int p1), .val (.int ((0 : Int32) + (1 : Int32)))]) rfl ?_; exact k) ?_
  show OwnEnd _ _ _ _ _ _ _ (T2.setTop (mkF m 23 #[.val (.ref a0'), .val (.int p1), .val (.int ((0 : Int32) + (1 : Int32)))] []))
  rw [show ((0 : Int32) + (1 : Int32)) = (1 : Int32) from by decide]
  refine go (fun _ k => by refine XS.goto X2.here hx rfl (pc0 := 23) (pc' := 2) rfl (hb hby d_prog_69_method_2_code_23) (by decide) (by decide) ?_; exact k) ?_
  refine go (fun _ k => by refine XS.iloadN X2.here hx rfl (hb hby d_prog_69_method_2_code_2) rfl ?_; exact k) ?_
  refine go (fun _ k => by refine XS.aloadN X2.here hx rfl (hb hby d_prog_69_method_2_code_3) rfl rfl ?_; exact k) ?_
  show OwnEnd _ _ _ _ _ _ _ (T2.setTop (mkF m 4 #[.val (.ref a0'), .val (.int p1), .val (.int (1 : Int32))] [(.ref a0'), (.int (1 : Int32))]))
  obtain ⟨T3, X3, e3, st3⟩ := getF X2 hx hZ hown (host := "") (Or.inl (hw _ (List.mem_of_getElem? (i := 19) rfl))) Via.refl eq2 FS (g := (mkF m 4 #[.val (.ref a0'), .val (.int p1), .val (.int (1 : Int32))] [(.ref a0'), (.int (1 : Int32))])) rfl rfl (hb hby d_prog_69_method_2_code_4)
  refine go st3 ?_
  show OwnEnd _ _ _ _ _ _ _ (T3.setTop (mkF m 7 #[.val (.ref a0'), .val (.int p1), .val (.int (1 : Int32))] [(.int (2 : Int32)), (.int (1 : Int32))]))
  refine go (fun _ k => by refine XS.icmpNo X3.here hx rfl (hb hby d_prog_69_method_2_code_7) rfl (tlt (by decide)).2.1 ?_; exact k) ?_
  refine go (fun _ k => by refine XS.aloadN X3.here hx rfl (hb hby d_prog_69_method_2_code_10) rfl rfl ?_; exact k) ?_
  refine go (fun _ k => by refine XS.iloadN X3.here hx rfl (hb hby d_prog_69_method_2_code_11) rfl ?_; exact k) ?_
  show OwnEnd _ _ _ _ _ _ _ (T3.setTop (mkF m 12 #[.val (.ref a0'), .val (.int p1), .val (.int (1 : Int32))] [(.int (1 : Int32)), (.ref a0')]))
  obtain ⟨_, T4, L4, X4, hQ4, st4⟩ := callVirt X3 hx hZ hown (hw _ (List.mem_of_getElem? (i := 23) rfl)) (hw _ (List.mem_of_getElem? (i := 24) rfl)) (notFace_of_selects (args := #[]) (mvT hZ (hw _ (List.mem_of_getElem? (i := 26) rfl)))) (hw _ (List.mem_of_getElem? (i := 26) rfl)) (hw _ (List.mem_of_getElem? (i := 25) rfl)) (hw _ (List.mem_of_getElem? (i := 3) rfl)) (hw _ (List.mem_of_getElem? (i := 27) rfl)) (by decide) (rm_get1 l Z a0 hw [] a0' P h0 n0 FP) (W := 0) (by decide) (by decide) e3 EA (g := (mkF m 12 #[.val (.ref a0'), .val (.int p1), .val (.int (1 : Int32))] [(.int (1 : Int32)), (.ref a0')])) rfl (by rw [hml]; rfl) (argsL := [(.int (1 : Int32))]) (rest := []) rfl (lenOf pd__I_I rfl) rfl (by show 2 * 0 + _ ≤ _; exact Nat.le_of_eq rfl) (hb hby d_prog_69_method_2_code_12) (by decide) (by decide)
  obtain ⟨rfl, Nq4, eq4⟩ := hQ4
  have N4 := Fr.app N2 Nq4
  refine go st4 ?_
  refine go (fun _ k => by refine XS.iloadN X4.here hx rfl (hb hby d_prog_69_method_2_code_15) rfl ?_; exact k) ?_
  show OwnEnd _ _ _ _ _ _ _ (T4.setTop (mkF m 16 #[.val (.ref a0'), .val (.int p1), .val (.int (1 : Int32))] [(.int p1), (.int (own_get P (8 : Int32)))]))
  refine go (fun _ k => by refine XS.icmpYes X4.here hx rfl (pc0 := 16) (pc' := 20) rfl (hb hby d_prog_69_method_2_code_16) rfl (feq ne1).2 (by decide) (by decide) ?_; exact k) ?_
  show OwnEnd _ _ _ _ _ _ _ (T4.setTop (mkF m 20 #[.val (.ref a0'), .val (.int p1), .val (.int (1 : Int32))] []))
  refine go (fun _ k => by refine XS.iinc X4.here hx rfl (hb hby d_prog_69_method_2_code_20) rfl (l' := #[.val (.ref a0'), .val (.int p1), .val (.int ((1 : Int32) + (1 : Int32)))]) rfl ?_; exact k) ?_
  show OwnEnd _ _ _ _ _ _ _ (T4.setTop (mkF m 23 #[.val (.ref a0'), .val (.int p1), .val (.int ((1 : Int32) + (1 : Int32)))] []))
  rw [show ((1 : Int32) + (1 : Int32)) = (2 : Int32) from by decide]
  refine go (fun _ k => by refine XS.goto X4.here hx rfl (pc0 := 23) (pc' := 2) rfl (hb hby d_prog_69_method_2_code_23) (by decide) (by decide) ?_; exact k) ?_
  refine go (fun _ k => by refine XS.iloadN X4.here hx rfl (hb hby d_prog_69_method_2_code_2) rfl ?_; exact k) ?_
  refine go (fun _ k => by refine XS.aloadN X4.here hx rfl (hb hby d_prog_69_method_2_code_3) rfl rfl ?_; exact k) ?_
  show OwnEnd _ _ _ _ _ _ _ (T4.setTop (mkF m 4 #[.val (.ref a0'), .val (.int p1), .val (.int (2 : Int32))] [(.ref a0'), (.int (2 : Int32))]))
  obtain ⟨T5, X5, e5, st5⟩ := getF X4 hx hZ hown (host := "") (Or.inl (hw _ (List.mem_of_getElem? (i := 19) rfl))) Via.refl eq4 FS (g := (mkF m 4 #[.val (.ref a0'), .val (.int p1), .val (.int (2 : Int32))] [(.ref a0'), (.int (2 : Int32))])) rfl rfl (hb hby d_prog_69_method_2_code_4)
  refine go st5 ?_
  show OwnEnd _ _ _ _ _ _ _ (T5.setTop (mkF m 7 #[.val (.ref a0'), .val (.int p1), .val (.int (2 : Int32))] [(.int (2 : Int32)), (.int (2 : Int32))]))
  refine go (fun _ k => by refine XS.icmpYes X5.here hx rfl (pc0 := 7) (pc' := 26) rfl (hb hby d_prog_69_method_2_code_7) rfl (flt (by decide)).2.1 (by decide) (by decide) ?_; exact k) ?_
  refine go (fun _ k => by refine XS.aloadN X5.here hx rfl (hb hby d_prog_69_method_2_code_26) rfl rfl ?_; exact k) ?_
  show OwnEnd _ _ _ _ _ _ _ (T5.setTop (mkF m 27 #[.val (.ref a0'), .val (.int p1), .val (.int (2 : Int32))] [(.ref a0')]))
  obtain ⟨T6, X6, e6, st6⟩ := getF X5 hx hZ hown (host := "") (Or.inl (hw _ (List.mem_of_getElem? (i := 19) rfl))) Via.refl e5 FS (g := (mkF m 27 #[.val (.ref a0'), .val (.int p1), .val (.int (2 : Int32))] [(.ref a0')])) rfl rfl (hb hby d_prog_69_method_2_code_27)
  refine go st6 ?_
  refine go (fun _ k => by refine XS.bipush X6.here hx rfl (hb hby d_prog_69_method_2_code_30) ?_; exact k) ?_
  show OwnEnd _ _ _ _ _ _ _ (T6.setTop (mkF m 32 #[.val (.ref a0'), .val (.int p1), .val (.int (2 : Int32))] [(.int (8 : Int32)), (.int (2 : Int32))]))
  refine go (fun _ k => by refine XS.icmpNo X6.here hx rfl (hb hby d_prog_69_method_2_code_32) rfl (tlt (by decide)).2.1 ?_; exact k) ?_
  refine go (fun _ k => by refine XS.aloadN X6.here hx rfl (hb hby d_prog_69_method_2_code_35) rfl rfl ?_; exact k) ?_
  refine go (fun _ k => by refine XS.dup X6.here hx rfl (hb hby d_prog_69_method_2_code_36) rfl rfl ?_; exact k) ?_
  show OwnEnd _ _ _ _ _ _ _ (T6.setTop (mkF m 37 #[.val (.ref a0'), .val (.int p1), .val (.int (2 : Int32))] [(.ref a0'), (.ref a0')]))
  obtain ⟨T7, X7, e7, st7⟩ := getF X6 hx hZ hown (host := "") (Or.inl (hw _ (List.mem_of_getElem? (i := 21) rfl))) Via.refl e6 FP (g := (mkF m 37 #[.val (.ref a0'), .val (.int p1), .val (.int (2 : Int32))] [(.ref a0'), (.ref a0')])) rfl rfl (hb hby d_prog_69_method_2_code_37)
  refine go st7 ?_
  refine go (fun _ k => by refine XS.iloadN X7.here hx rfl (hb hby d_prog_69_method_2_code_40) rfl ?_; exact k) ?_
  refine go (fun _ k => by refine XS.i2l X7.here hx rfl (hb hby d_prog_69_method_2_code_41) rfl ?_; exact k) ?_
  refine go (fun _ k => by refine XS.bipush X7.here hx rfl (hb hby d_prog_69_method_2_code_42) ?_; exact k) ?_
  show OwnEnd _ _ _ _ _ _ _ (T7.setTop (mkF m 44 #[.val (.ref a0'), .val (.int p1), .val (.int (2 : Int32))] [(.int (8 : Int32)), (.long (p1.toInt64)), (.long P), (.ref a0')]))
  refine go (fun _ k => by refine XS.aloadN X7.here hx rfl (hb hby d_prog_69_method_2_code_44) rfl rfl ?_; exact k) ?_
  show OwnEnd _ _ _ _ _ _ _ (T7.setTop (mkF m 45 #[.val (.ref a0'), .val (.int p1), .val (.int (2 : Int32))] [(.ref a0'), (.int (8 : Int32)), (.long (p1.toInt64)), (.long P), (.ref a0')]))
  obtain ⟨T8, X8, e8, st8⟩ := getF X7 hx hZ hown (host := "") (Or.inl (hw _ (List.mem_of_getElem? (i := 19) rfl))) Via.refl e7 FS (g := (mkF m 45 #[.val (.ref a0'), .val (.int p1), .val (.int (2 : Int32))] [(.ref a0'), (.int (8 : Int32)), (.long (p1.toInt64)), (.long P), (.ref a0')])) rfl rfl (hb hby d_prog_69_method_2_code_45)
  refine go st8 ?_
  refine go (fun _ k => by refine XS.imul X8.here hx rfl (hb hby d_prog_69_method_2_code_48) rfl ?_; exact k) ?_
  show OwnEnd _ _ _ _ _ _ _ (T8.setTop (mkF m 49 #[.val (.ref a0'), .val (.int p1), .val (.int (2 : Int32))] [(.int ((8 : Int32) * (2 : Int32))), (.long (p1.toInt64)), (.long P), (.ref a0')]))
  rw [show ((8 : Int32) * (2 : Int32)) = (16 : Int32) from by decide]
  refine go (fun _ k => by refine XS.lshl X8.here hx rfl (hb hby d_prog_69_method_2_code_49) rfl ?_; exact k) ?_
  refine go (fun _ k => by refine XS.lor X8.here hx rfl (hb hby d_prog_69_method_2_code_50) rfl ?_; exact k) ?_
  show OwnEnd _ _ _ _ _ _ _ (T8.setTop (mkF m 51 #[.val (.ref a0'), .val (.int p1), .val (.int (2 : Int32))] [(.long (P ||| ((p1.toInt64) <<< ((16 : Int32) &&& 0x3f).toInt64))), (.ref a0')]))
  obtain ⟨T9, h9, X9, e9, W9, st9⟩ := putF X8 hx hZ hown (host := "") (Or.inl (hw _ (List.mem_of_getElem? (i := 21) rfl))) Via.refl e8 FP EA (Or.inl (hw _ (List.mem_of_getElem? (i := 22) rfl))) (hw _ (List.mem_of_getElem? (i := 2) rfl)) (ty := .long) (by decide) rfl rfl (g := (mkF m 51 #[.val (.ref a0'), .val (.int p1), .val (.int (2 : Int32))] [(.long (P ||| ((p1.toInt64) <<< ((16 : Int32) &&& 0x3f).toInt64))), (.ref a0')])) rfl rfl (hb hby d_prog_69_method_2_code_51)
  have N9 := Fr.snoc X9 N4 ga
  have EA := EA.wr W9
  have FS := FS.other W9 (Or.inr (slot_ne (Or.inl (hw _ (List.mem_of_getElem? (i := 20) rfl))) (Or.inl (hw _ (List.mem_of_getElem? (i := 22) rfl))) (by decide) (t := .int) (t' := .long) (by decide) (by decide)))
  have FM := FM.other W9 (Or.inr (slot_ne (Or.inl (hw _ (List.mem_of_getElem? (i := 34) rfl))) (Or.inl (hw _ (List.mem_of_getElem? (i := 22) rfl))) (by decide) (t := (.array .int)) (t' := .long) (by decide) (by decide)))
  have Z0 := Nat.le_trans Z0 (Keep.of_wr W9).1
  have KK := Keep.wr KK W9 (Or.inl (List.mem_of_getElem? (i := 0) rfl))
  have FP := FP.same W9
  refine go st9 ?_
  refine go (fun _ k => by refine XS.goto X9.here hx rfl (pc0 := 54) (pc' := 62) rfl (hb hby d_prog_69_method_2_code_54) (by decide) (by decide) ?_; exact k) ?_
  refine go (fun _ k => by refine XS.aloadN X9.here hx rfl (hb hby d_prog_69_method_2_code_62) rfl rfl ?_; exact k) ?_
  refine go (fun _ k => by refine XS.dup X9.here hx rfl (hb hby d_prog_69_method_2_code_63) rfl rfl ?_; exact k) ?_
  show OwnEnd _ _ _ _ _ _ _ (T9.setTop (mkF m 64 #[.val (.ref a0'), .val (.int p1), .val (.int (2 : Int32))] [(.ref a0'), (.ref a0')]))
  obtain ⟨T10, X10, e10, st10⟩ := getF X9 hx hZ hown (host := "") (Or.inl (hw _ (List.mem_of_getElem? (i := 19) rfl))) Via.refl e9 FS (g := (mkF m 64 #[.val (.ref a0'), .val (.int p1), .val (.int (2 : Int32))] [(.ref a0'), (.ref a0')])) rfl rfl (hb hby d_prog_69_method_2_code_64)
  refine go st10 ?_
  refine go (fun _ k => by refine XS.iconst X10.here hx rfl (hb hby d_prog_69_method_2_code_67) ?_; exact k) ?_
  refine go (fun _ k => by refine XS.iadd X10.here hx rfl (hb hby d_prog_69_method_2_code_68) rfl ?_; exact k) ?_
  show OwnEnd _ _ _ _ _ _ _ (T10.setTop (mkF m 69 #[.val (.ref a0'), .val (.int p1), .val (.int (2 : Int32))] [(.int ((2 : Int32) + (1 : Int32))), (.ref a0')]))
  rw [show ((2 : Int32) + (1 : Int32)) = (3 : Int32) from by decide]
  show OwnEnd _ _ _ _ _ _ _ (T10.setTop (mkF m 69 #[.val (.ref a0'), .val (.int p1), .val (.int (2 : Int32))] [(.int (3 : Int32)), (.ref a0')]))
  obtain ⟨T11, h11, X11, e11, W11, st11⟩ := putF X10 hx hZ hown (host := "") (Or.inl (hw _ (List.mem_of_getElem? (i := 19) rfl))) Via.refl e10 FS EA (Or.inl (hw _ (List.mem_of_getElem? (i := 20) rfl))) (hw _ (List.mem_of_getElem? (i := 2) rfl)) (ty := .int) (by decide) rfl rfl (g := (mkF m 69 #[.val (.ref a0'), .val (.int p1), .val (.int (2 : Int32))] [(.int (3 : Int32)), (.ref a0')])) rfl rfl (hb hby d_prog_69_method_2_code_69)
  have N11 := Fr.snoc X11 N9 ga
  have EA := EA.wr W11
  have FP := FP.other W11 (Or.inr (slot_ne (Or.inl (hw _ (List.mem_of_getElem? (i := 22) rfl))) (Or.inl (hw _ (List.mem_of_getElem? (i := 20) rfl))) (by decide) (t := .long) (t' := .int) (by decide) (by decide)))
  have FM := FM.other W11 (Or.inr (slot_ne (Or.inl (hw _ (List.mem_of_getElem? (i := 34) rfl))) (Or.inl (hw _ (List.mem_of_getElem? (i := 20) rfl))) (by decide) (t := (.array .int)) (t' := .int) (by decide) (by decide)))
  have Z0 := Nat.le_trans Z0 (Keep.of_wr W11).1
  have KK := Keep.wr KK W11 (Or.inl (List.mem_of_getElem? (i := 0) rfl))
  have FS := FS.same W11
  refine go st11 ?_
  show OwnEnd _ _ _ _ _ _ _ (T11.setTop (mkF m 72 #[.val (.ref a0'), .val (.int p1), .val (.int (2 : Int32))] []))
  refine endV X11 hx hlk Bd.returns (hb hby d_prog_69_method_2_code_72) e11 (by decide) (by decide) ?_
  exact ⟨rfl, N11, KK, EA, FP, FS, FM⟩
theorem ef_rm_add3 (m : MethodId) (y0 : Addr) (y1 : Int32) : entryFrame m #[(.ref y0), (.int y1)] 3 = mkF m 0 #[.val (.ref y0), .val (.int y1), .unset] [] := by first | (simp [entryFrame, mkF, argsToLocals, Value.category]; done) | rfl
def Q_rm_add3 (Z : State) (a0' : Addr) (p1 : Int32) (P : Int64) (h0 : Heap) (n0 : Nat) (v : Option Value) (h : Heap) (L : List Loc) : Prop := v = none ∧ Fr n0 L ∧ Keep h0 h [a0'] ∧ Exa Z h a0' "com/example/waitsfor/waitsfor/ShardSet" ∧ Fld Z h a0' "com/example/waitsfor/waitsfor/ShardSet" "packed" "J" (.long (P ||| (p1.toInt64 <<< ((24 : Int32) &&& 0x3f).toInt64))) ∧ Fld Z h a0' "com/example/waitsfor/waitsfor/ShardSet" "size" "I" (.int 4) ∧ Fld Z h a0' "com/example/waitsfor/waitsfor/ShardSet" "more" "[I" .null
set_option maxRecDepth 65536 in
set_option maxHeartbeats 40000000 in
theorem rm_add3 (l : Launch) (Z : State) (a0 : Array Value) (hw : ∀ d ∈ tables_1, d.before a0 Z = true) (ws : List Jvm.Cond) (a0' : Addr) (p1 : Int32) (P : Int64) (h0 : Heap) (n0 : Nat) (ga : n0 ≤ a0') (EA : Exa Z h0 a0' "com/example/waitsfor/waitsfor/ShardSet") (FP : Fld Z h0 a0' "com/example/waitsfor/waitsfor/ShardSet" "packed" "J" (.long P)) (FS : Fld Z h0 a0' "com/example/waitsfor/waitsfor/ShardSet" "size" "I" (.int 3)) (FM : Fld Z h0 a0' "com/example/waitsfor/waitsfor/ShardSet" "more" "[I" .null) (ne0 : ¬ own_get P (0 : Int32) = p1) (ne1 : ¬ own_get P (8 : Int32) = p1) (ne2 : ¬ own_get P (16 : Int32) = p1) (Z0 : n0 ≤ h0.size) :
    MetFree l (⟨"com/example/waitsfor/waitsfor/ShardSet", "add", "(I)V"⟩ : MethodName) (head1 (Jvm.Cond.code (⟨"com/example/waitsfor/waitsfor/ShardSet", "add", "(I)V"⟩ : MethodName) prog_69_method_2_code 3 none :: ws) ({ frames := 1, cells := 0, slots := 0, locals := 13 } : Room)) (fun a U => a = #[(.ref a0'), (.int p1)] ∧ Z.Warmed39 U.vm ∧ U.heap = h0) (fun _ _ _ _ _ => True) (fun _ U o U' => ∃ v L, o = .returned v ∧ Q_rm_add3 Z a0' p1 P h0 n0 v U'.heap L ∧ FrameEnd U o U' L 0 0) := by
  refine MetFree.of_bodySF (plainFor_of_name pn_com_example_waitsfor_waitsfor_ShardSet) hisR ?_
  intro p e s m args below meth c s₁ Bd hml0 hP hK
  obtain ⟨rfl, hZ, hh⟩ := hP
  have hx := Bd.exec
  have hby := Bd.bytes
  have hlk := Bd.notSynchronized
  have hml : c.maxLocals = 3 := hml0
  have hown : s.vm.findClass "com/example/waitsfor/waitsfor/ShardSet" = some m.cls := findClass_of_methodNamed Bd.named
  have hnm := (name_of_methodNamed Bd.named Bd.method).1
  have X0 : Stand p l e ({ frames := 1, cells := 0, slots := 0, locals := 13 } : Room) s m #[(.ref a0'), (.int p1)] below meth c s₁ [] 0 0 := Stand.of_body Bd
  have e0 : s₁.heap = h0 := by rw [← hh, Bd.state]; rfl
  have N0 := Fr.nil n0
  show OwnEnd p e below s (Q_rm_add3 Z a0' p1 P h0 n0) 0 0 (s₁.setTop (entryFrame m #[(.ref a0'), (.int p1)] 3))
  refine go (fun t k => castTop (ef_rm_add3 m a0' p1) k) ?_
  have KK := Keep.refl h0 [a0']
  show OwnEnd _ _ _ _ _ _ _ (s₁.setTop (mkF m 0 #[.val (.ref a0'), .val (.int p1), .unset] []))
  refine go (fun _ k => by refine XS.iconst X0.here hx rfl (hb hby d_prog_69_method_2_code_0) ?_; exact k) ?_
  refine go (fun _ k => by refine XS.istoreN X0.here hx rfl (hb hby d_prog_69_method_2_code_1) rfl (l' := #[.val (.ref a0'), .val (.int p1), .val (.int (0 : Int32))]) rfl ?_; exact k) ?_
  refine go (fun _ k => by refine XS.iloadN X0.here hx rfl (hb hby d_prog_69_method_2_code_2) rfl ?_; exact k) ?_
  refine go (fun _ k => by refine XS.aloadN X0.here hx rfl (hb hby d_prog_69_method_2_code_3) rfl rfl ?_; exact k) ?_
  show OwnEnd _ _ _ _ _ _ _ (s₁.setTop (mkF m 4 #[.val (.ref a0'), .val (.int p1), .val (.int (0 : Int32))] [(.ref a0'), (.int (0 : Int32))]))
  obtain ⟨T1, X1, e1, st1⟩ := getF X0 hx hZ hown (host := "") (Or.inl (hw _ (List.mem_of_getElem? (i := 19) rfl))) Via.refl e0 FS (g := (mkF m 4 #[.val (.ref a0'), .val (.int p1), .val (.int (0 : Int32))] [(.ref a0'), (.int (0 : Int32))])) rfl rfl (hb hby d_prog_69_method_2_code_4)
  refine go st1 ?_
  show OwnEnd _ _ _ _ _ _ _ (T1.setTop (mkF m 7 #[.val (.ref a0'), .val (.int p1), .val (.int (0 : Int32))] [(.int (3 : Int32)), (.int (0 : Int32))]))
  refine go (fun _ k => by refine XS.icmpNo X1.here hx rfl (hb hby d_prog_69_method_2_code_7) rfl (tlt (by decide)).2.1 ?_; exact k) ?_
  refine go (fun _ k => by refine XS.aloadN X1.here hx rfl (hb hby d_prog_69_method_2_code_10) rfl rfl ?_; exact k) ?_
  refine go (fun _ k => by refine XS.iloadN X1.here hx rfl (hb hby d_prog_69_method_2_code_11) rfl ?_; exact k) ?_
  show OwnEnd _ _ _ _ _ _ _ (T1.setTop (mkF m 12 #[.val (.ref a0'), .val (.int p1), .val (.int (0 : Int32))] [(.int (0 : Int32)), (.ref a0')]))
  obtain ⟨_, T2, L2, X2, hQ2, st2⟩ := callVirt X1 hx hZ hown (hw _ (List.mem_of_getElem? (i := 23) rfl)) (hw _ (List.mem_of_getElem? (i := 24) rfl)) (notFace_of_selects (args := #[]) (mvT hZ (hw _ (List.mem_of_getElem? (i := 26) rfl)))) (hw _ (List.mem_of_getElem? (i := 26) rfl)) (hw _ (List.mem_of_getElem? (i := 25) rfl)) (hw _ (List.mem_of_getElem? (i := 3) rfl)) (hw _ (List.mem_of_getElem? (i := 27) rfl)) (by decide) (rm_get0 l Z a0 hw [] a0' P h0 n0 FP) (W := 0) (by decide) (by decide) e1 EA (g := (mkF m 12 #[.val (.ref a0'), .val (.int p1), .val (.int (0 : Int32))] [(.int (0 : Int32)), (.ref a0')])) rfl (by rw [hml]; rfl) (argsL := [(.int (0 : Int32))]) (rest := []) rfl (lenOf pd__I_I rfl) rfl (by show 2 * 0 + _ ≤ _; exact Nat.le_of_eq rfl) (hb hby d_prog_69_method_2_code_12) (by decide) (by decide)
  obtain ⟨rfl, Nq2, eq2⟩ := hQ2
  have N2 := Fr.app N0 Nq2
  refine go st2 ?_
  refine go (fun _ k => by refine XS.iloadN X2.here hx rfl (hb hby d_prog_69_method_2_code_15) rfl ?_; exact k) ?_
  show OwnEnd _ _ _ _ _ _ _ (T2.setTop (mkF m 16 #[.val (.ref a0'), .val (.int p1), .val (.int (0 : Int32))] [(.int p1), (.int (own_get P (0 : Int32)))]))
  refine go (fun _ k => by refine XS.icmpYes X2.here hx rfl (pc0 := 16) (pc' := 20) rfl (hb hby d_prog_69_method_2_code_16) rfl (feq ne0).2 (by decide) (by decide) ?_; exact k) ?_
  show OwnEnd _ _ _ _ _ _ _ (T2.setTop (mkF m 20 #[.val (.ref a0'), .val (.int p1), .val (.int (0 : Int32))] []))
  refine go (fun _ k => by refine XS.iinc X2.here hx rfl (hb hby d_prog_69_method_2_code_20) rfl (l' := #[.val (.ref a0'), .val (.int p1), .val (.int ((0 : Int32) + (1 : Int32)))]) rfl ?_; exact k) ?_
  show OwnEnd _ _ _ _ _ _ _ (T2.setTop (mkF m 23 #[.val (.ref a0'), .val (.int p1), .val (.int ((0 : Int32) + (1 : Int32)))] []))
  rw [show ((0 : Int32) + (1 : Int32)) = (1 : Int32) from by decide]
  refine go (fun _ k => by refine XS.goto X2.here hx rfl (pc0 := 23) (pc' := 2) rfl (hb hby d_prog_69_method_2_code_23) (by decide) (by decide) ?_; exact k) ?_
  refine go (fun _ k => by refine XS.iloadN X2.here hx rfl (hb hby d_prog_69_method_2_code_2) rfl ?_; exact k) ?_
  refine go (fun _ k => by refine XS.aloadN X2.here hx rfl (hb hby d_prog_69_method_2_code_3) rfl rfl ?_; exact k) ?_
  show OwnEnd _ _ _ _ _ _ _ (T2.setTop (mkF m 4 #[.val (.ref a0'), .val (.int p1), .val (.int (1 : Int32))] [(.ref a0'), (.int (1 : Int32))]))
  obtain ⟨T3, X3, e3, st3⟩ := getF X2 hx hZ hown (host := "") (Or.inl (hw _ (List.mem_of_getElem? (i := 19) rfl))) Via.refl eq2 FS (g := (mkF m 4 #[.val (.ref a0'), .val (.int p1), .val (.int (1 : Int32))] [(.ref a0'), (.int (1 : Int32))])) rfl rfl (hb hby d_prog_69_method_2_code_4)
  refine go st3 ?_
  show OwnEnd _ _ _ _ _ _ _ (T3.setTop (mkF m 7 #[.val (.ref a0'), .val (.int p1), .val (.int (1 : Int32))] [(.int (3 : Int32)), (.int (1 : Int32))]))
  refine go (fun _ k => by refine XS.icmpNo X3.here hx rfl (hb hby d_prog_69_method_2_code_7) rfl (tlt (by decide)).2.1 ?_; exact k) ?_
  refine go (fun _ k => by refine XS.aloadN X3.here hx rfl (hb hby d_prog_69_method_2_code_10) rfl rfl ?_; exact k) ?_
  refine go (fun _ k => by refine XS.iloadN X3.here hx rfl (hb hby d_prog_69_method_2_code_11) rfl ?_; exact k) ?_
  show OwnEnd _ _ _ _ _ _ _ (T3.setTop (mkF m 12 #[.val (.ref a0'), .val (.int p1), .val (.int (1 : Int32))] [(.int (1 : Int32)), (.ref a0')]))
  obtain ⟨_, T4, L4, X4, hQ4, st4⟩ := callVirt X3 hx hZ hown (hw _ (List.mem_of_getElem? (i := 23) rfl)) (hw _ (List.mem_of_getElem? (i := 24) rfl)) (notFace_of_selects (args := #[]) (mvT hZ (hw _ (List.mem_of_getElem? (i := 26) rfl)))) (hw _ (List.mem_of_getElem? (i := 26) rfl)) (hw _ (List.mem_of_getElem? (i := 25) rfl)) (hw _ (List.mem_of_getElem? (i := 3) rfl)) (hw _ (List.mem_of_getElem? (i := 27) rfl)) (by decide) (rm_get1 l Z a0 hw [] a0' P h0 n0 FP) (W := 0) (by decide) (by decide) e3 EA (g := (mkF m 12 #[.val (.ref a0'), .val (.int p1), .val (.int (1 : Int32))] [(.int (1 : Int32)), (.ref a0')])) rfl (by rw [hml]; rfl) (argsL := [(.int (1 : Int32))]) (rest := []) rfl (lenOf pd__I_I rfl) rfl (by show 2 * 0 + _ ≤ _; exact Nat.le_of_eq rfl) (hb hby d_prog_69_method_2_code_12) (by decide) (by decide)
  obtain ⟨rfl, Nq4, eq4⟩ := hQ4
  have N4 := Fr.app N2 Nq4
  refine go st4 ?_
  refine go (fun _ k => by refine XS.iloadN X4.here hx rfl (hb hby d_prog_69_method_2_code_15) rfl ?_; exact k) ?_
  show OwnEnd _ _ _ _ _ _ _ (T4.setTop (mkF m 16 #[.val (.ref a0'), .val (.int p1), .val (.int (1 : Int32))] [(.int p1), (.int (own_get P (8 : Int32)))]))
  refine go (fun _ k => by refine XS.icmpYes X4.here hx rfl (pc0 := 16) (pc' := 20) rfl (hb hby d_prog_69_method_2_code_16) rfl (feq ne1).2 (by decide) (by decide) ?_; exact k) ?_
  show OwnEnd _ _ _ _ _ _ _ (T4.setTop (mkF m 20 #[.val (.ref a0'), .val (.int p1), .val (.int (1 : Int32))] []))
  refine go (fun _ k => by refine XS.iinc X4.here hx rfl (hb hby d_prog_69_method_2_code_20) rfl (l' := #[.val (.ref a0'), .val (.int p1), .val (.int ((1 : Int32) + (1 : Int32)))]) rfl ?_; exact k) ?_
  show OwnEnd _ _ _ _ _ _ _ (T4.setTop (mkF m 23 #[.val (.ref a0'), .val (.int p1), .val (.int ((1 : Int32) + (1 : Int32)))] []))
  rw [show ((1 : Int32) + (1 : Int32)) = (2 : Int32) from by decide]
  refine go (fun _ k => by refine XS.goto X4.here hx rfl (pc0 := 23) (pc' := 2) rfl (hb hby d_prog_69_method_2_code_23) (by decide) (by decide) ?_; exact k) ?_
  refine go (fun _ k => by refine XS.iloadN X4.here hx rfl (hb hby d_prog_69_method_2_code_2) rfl ?_; exact k) ?_
  refine go (fun _ k => by refine XS.aloadN X4.here hx rfl (hb hby d_prog_69_method_2_code_3) rfl rfl ?_; exact k) ?_
  show OwnEnd _ _ _ _ _ _ _ (T4.setTop (mkF m 4 #[.val (.ref a0'), .val (.int p1), .val (.int (2 : Int32))] [(.ref a0'), (.int (2 : Int32))]))
  obtain ⟨T5, X5, e5, st5⟩ := getF X4 hx hZ hown (host := "") (Or.inl (hw _ (List.mem_of_getElem? (i := 19) rfl))) Via.refl eq4 FS (g := (mkF m 4 #[.val (.ref a0'), .val (.int p1), .val (.int (2 : Int32))] [(.ref a0'), (.int (2 : Int32))])) rfl rfl (hb hby d_prog_69_method_2_code_4)
  refine go st5 ?_
  show OwnEnd _ _ _ _ _ _ _ (T5.setTop (mkF m 7 #[.val (.ref a0'), .val (.int p1), .val (.int (2 : Int32))] [(.int (3 : Int32)), (.int (2 : Int32))]))
  refine go (fun _ k => by refine XS.icmpNo X5.here hx rfl (hb hby d_prog_69_method_2_code_7) rfl (tlt (by decide)).2.1 ?_; exact k) ?_
  refine go (fun _ k => by refine XS.aloadN X5.here hx rfl (hb hby d_prog_69_method_2_code_10) rfl rfl ?_; exact k) ?_
  refine go (fun _ k => by refine XS.iloadN X5.here hx rfl (hb hby d_prog_69_method_2_code_11) rfl ?_; exact k) ?_
  show OwnEnd _ _ _ _ _ _ _ (T5.setTop (mkF m 12 #[.val (.ref a0'), .val (.int p1), .val (.int (2 : Int32))] [(.int (2 : Int32)), (.ref a0')]))
  obtain ⟨_, T6, L6, X6, hQ6, st6⟩ := callVirt X5 hx hZ hown (hw _ (List.mem_of_getElem? (i := 23) rfl)) (hw _ (List.mem_of_getElem? (i := 24) rfl)) (notFace_of_selects (args := #[]) (mvT hZ (hw _ (List.mem_of_getElem? (i := 26) rfl)))) (hw _ (List.mem_of_getElem? (i := 26) rfl)) (hw _ (List.mem_of_getElem? (i := 25) rfl)) (hw _ (List.mem_of_getElem? (i := 3) rfl)) (hw _ (List.mem_of_getElem? (i := 27) rfl)) (by decide) (rm_get2 l Z a0 hw [] a0' P h0 n0 FP) (W := 0) (by decide) (by decide) e5 EA (g := (mkF m 12 #[.val (.ref a0'), .val (.int p1), .val (.int (2 : Int32))] [(.int (2 : Int32)), (.ref a0')])) rfl (by rw [hml]; rfl) (argsL := [(.int (2 : Int32))]) (rest := []) rfl (lenOf pd__I_I rfl) rfl (by show 2 * 0 + _ ≤ _; exact Nat.le_of_eq rfl) (hb hby d_prog_69_method_2_code_12) (by decide) (by decide)
  obtain ⟨rfl, Nq6, eq6⟩ := hQ6
  have N6 := Fr.app N4 Nq6
  refine go st6 ?_
  refine go (fun _ k => by refine XS.iloadN X6.here hx rfl (hb hby d_prog_69_method_2_code_15) rfl ?_; exact k) ?_
  show OwnEnd _ _ _ _ _ _ _ (T6.setTop (mkF m 16 #[.val (.ref a0'), .val (.int p1), .val (.int (2 : Int32))] [(.int p1), (.int (own_get P (16 : Int32)))]))
  refine go (fun _ k => by refine XS.icmpYes X6.here hx rfl (pc0 := 16) (pc' := 20) rfl (hb hby d_prog_69_method_2_code_16) rfl (feq ne2).2 (by decide) (by decide) ?_; exact k) ?_
  show OwnEnd _ _ _ _ _ _ _ (T6.setTop (mkF m 20 #[.val (.ref a0'), .val (.int p1), .val (.int (2 : Int32))] []))
  refine go (fun _ k => by refine XS.iinc X6.here hx rfl (hb hby d_prog_69_method_2_code_20) rfl (l' := #[.val (.ref a0'), .val (.int p1), .val (.int ((2 : Int32) + (1 : Int32)))]) rfl ?_; exact k) ?_
  show OwnEnd _ _ _ _ _ _ _ (T6.setTop (mkF m 23 #[.val (.ref a0'), .val (.int p1), .val (.int ((2 : Int32) + (1 : Int32)))] []))
  rw [show ((2 : Int32) + (1 : Int32)) = (3 : Int32) from by decide]
  refine go (fun _ k => by refine XS.goto X6.here hx rfl (pc0 := 23) (pc' := 2) rfl (hb hby d_prog_69_method_2_code_23) (by decide) (by decide) ?_; exact k) ?_
  refine go (fun _ k => by refine XS.iloadN X6.here hx rfl (hb hby d_prog_69_method_2_code_2) rfl ?_; exact k) ?_
  refine go (fun _ k => by refine XS.aloadN X6.here hx rfl (hb hby d_prog_69_method_2_code_3) rfl rfl ?_; exact k) ?_
  show OwnEnd _ _ _ _ _ _ _ (T6.setTop (mkF m 4 #[.val (.ref a0'), .val (.int p1), .val (.int (3 : Int32))] [(.ref a0'), (.int (3 : Int32))]))
  obtain ⟨T7, X7, e7, st7⟩ := getF X6 hx hZ hown (host := "") (Or.inl (hw _ (List.mem_of_getElem? (i := 19) rfl))) Via.refl eq6 FS (g := (mkF m 4 #[.val (.ref a0'), .val (.int p1), .val (.int (3 : Int32))] [(.ref a0'), (.int (3 : Int32))])) rfl rfl (hb hby d_prog_69_method_2_code_4)
  refine go st7 ?_
  show OwnEnd _ _ _ _ _ _ _ (T7.setTop (mkF m 7 #[.val (.ref a0'), .val (.int p1), .val (.int (3 : Int32))] [(.int (3 : Int32)), (.int (3 : Int32))]))
  refine go (fun _ k => by refine XS.icmpYes X7.here hx rfl (pc0 := 7) (pc' := 26) rfl (hb hby d_prog_69_method_2_code_7) rfl (flt (by decide)).2.1 (by decide) (by decide) ?_; exact k) ?_
  refine go (fun _ k => by refine XS.aloadN X7.here hx rfl (hb hby d_prog_69_method_2_code_26) rfl rfl ?_; exact k) ?_
  show OwnEnd _ _ _ _ _ _ _ (T7.setTop (mkF m 27 #[.val (.ref a0'), .val (.int p1), .val (.int (3 : Int32))] [(.ref a0')]))
  obtain ⟨T8, X8, e8, st8⟩ := getF X7 hx hZ hown (host := "") (Or.inl (hw _ (List.mem_of_getElem? (i := 19) rfl))) Via.refl e7 FS (g := (mkF m 27 #[.val (.ref a0'), .val (.int p1), .val (.int (3 : Int32))] [(.ref a0')])) rfl rfl (hb hby d_prog_69_method_2_code_27)
  refine go st8 ?_
  refine go (fun _ k => by refine XS.bipush X8.here hx rfl (hb hby d_prog_69_method_2_code_30) ?_; exact k) ?_
  show OwnEnd _ _ _ _ _ _ _ (T8.setTop (mkF m 32 #[.val (.ref a0'), .val (.int p1), .val (.int (3 : Int32))] [(.int (8 : Int32)), (.int (3 : Int32))]))
  refine go (fun _ k => by refine XS.icmpNo X8.here hx rfl (hb hby d_prog_69_method_2_code_32) rfl (tlt (by decide)).2.1 ?_; exact k) ?_
  refine go (fun _ k => by refine XS.aloadN X8.here hx rfl (hb hby d_prog_69_method_2_code_35) rfl rfl ?_; exact k) ?_
  refine go (fun _ k => by refine XS.dup X8.here hx rfl (hb hby d_prog_69_method_2_code_36) rfl rfl ?_; exact k) ?_
  show OwnEnd _ _ _ _ _ _ _ (T8.setTop (mkF m 37 #[.val (.ref a0'), .val (.int p1), .val (.int (3 : Int32))] [(.ref a0'), (.ref a0')]))
  obtain ⟨T9, X9, e9, st9⟩ := getF X8 hx hZ hown (host := "") (Or.inl (hw _ (List.mem_of_getElem? (i := 21) rfl))) Via.refl e8 FP (g := (mkF m 37 #[.val (.ref a0'), .val (.int p1), .val (.int (3 : Int32))] [(.ref a0'), (.ref a0')])) rfl rfl (hb hby d_prog_69_method_2_code_37)
  refine go st9 ?_
  refine go (fun _ k => by refine XS.iloadN X9.here hx rfl (hb hby d_prog_69_method_2_code_40) rfl ?_; exact k) ?_
  refine go (fun _ k => by refine XS.i2l X9.here hx rfl (hb hby d_prog_69_method_2_code_41) rfl ?_; exact k) ?_
  refine go (fun _ k => by refine XS.bipush X9.here hx rfl (hb hby d_prog_69_method_2_code_42) ?_; exact k) ?_
  show OwnEnd _ _ _ _ _ _ _ (T9.setTop (mkF m 44 #[.val (.ref a0'), .val (.int p1), .val (.int (3 : Int32))] [(.int (8 : Int32)), (.long (p1.toInt64)), (.long P), (.ref a0')]))
  refine go (fun _ k => by refine XS.aloadN X9.here hx rfl (hb hby d_prog_69_method_2_code_44) rfl rfl ?_; exact k) ?_
  show OwnEnd _ _ _ _ _ _ _ (T9.setTop (mkF m 45 #[.val (.ref a0'), .val (.int p1), .val (.int (3 : Int32))] [(.ref a0'), (.int (8 : Int32)), (.long (p1.toInt64)), (.long P), (.ref a0')]))
  obtain ⟨T10, X10, e10, st10⟩ := getF X9 hx hZ hown (host := "") (Or.inl (hw _ (List.mem_of_getElem? (i := 19) rfl))) Via.refl e9 FS (g := (mkF m 45 #[.val (.ref a0'), .val (.int p1), .val (.int (3 : Int32))] [(.ref a0'), (.int (8 : Int32)), (.long (p1.toInt64)), (.long P), (.ref a0')])) rfl rfl (hb hby d_prog_69_method_2_code_45)
  refine go st10 ?_
  refine go (fun _ k => by refine XS.imul X10.here hx rfl (hb hby d_prog_69_method_2_code_48) rfl ?_; exact k) ?_
  show OwnEnd _ _ _ _ _ _ _ (T10.setTop (mkF m 49 #[.val (.ref a0'), .val (.int p1), .val (.int (3 : Int32))] [(.int ((8 : Int32) * (3 : Int32))), (.long (p1.toInt64)), (.long P), (.ref a0')]))
  rw [show ((8 : Int32) * (3 : Int32)) = (24 : Int32) from by decide]
  refine go (fun _ k => by refine XS.lshl X10.here hx rfl (hb hby d_prog_69_method_2_code_49) rfl ?_; exact k) ?_
  refine go (fun _ k => by refine XS.lor X10.here hx rfl (hb hby d_prog_69_method_2_code_50) rfl ?_; exact k) ?_
  show OwnEnd _ _ _ _ _ _ _ (T10.setTop (mkF m 51 #[.val (.ref a0'), .val (.int p1), .val (.int (3 : Int32))] [(.long (P ||| ((p1.toInt64) <<< ((24 : Int32) &&& 0x3f).toInt64))), (.ref a0')]))
  obtain ⟨T11, h11, X11, e11, W11, st11⟩ := putF X10 hx hZ hown (host := "") (Or.inl (hw _ (List.mem_of_getElem? (i := 21) rfl))) Via.refl e10 FP EA (Or.inl (hw _ (List.mem_of_getElem? (i := 22) rfl))) (hw _ (List.mem_of_getElem? (i := 2) rfl)) (ty := .long) (by decide) rfl rfl (g := (mkF m 51 #[.val (.ref a0'), .val (.int p1), .val (.int (3 : Int32))] [(.long (P ||| ((p1.toInt64) <<< ((24 : Int32) &&& 0x3f).toInt64))), (.ref a0')])) rfl rfl (hb hby d_prog_69_method_2_code_51)
  have N11 := Fr.snoc X11 N6 ga
  have EA := EA.wr W11
  have FS := FS.other W11 (Or.inr (slot_ne (Or.inl (hw _ (List.mem_of_getElem? (i := 20) rfl))) (Or.inl (hw _ (List.mem_of_getElem? (i := 22) rfl))) (by decide) (t := .int) (t' := .long) (by decide) (by decide)))
  have FM := FM.other W11 (Or.inr (slot_ne (Or.inl (hw _ (List.mem_of_getElem? (i := 34) rfl))) (Or.inl (hw _ (List.mem_of_getElem? (i := 22) rfl))) (by decide) (t := (.array .int)) (t' := .long) (by decide) (by decide)))
  have Z0 := Nat.le_trans Z0 (Keep.of_wr W11).1
  have KK := Keep.wr KK W11 (Or.inl (List.mem_of_getElem? (i := 0) rfl))
  have FP := FP.same W11
  refine go st11 ?_
  refine go (fun _ k => by refine XS.goto X11.here hx rfl (pc0 := 54) (pc' := 62) rfl (hb hby d_prog_69_method_2_code_54) (by decide) (by decide) ?_; exact k) ?_
  refine go (fun _ k => by refine XS.aloadN X11.here hx rfl (hb hby d_prog_69_method_2_code_62) rfl rfl ?_; exact k) ?_
  refine go (fun _ k => by refine XS.dup X11.here hx rfl (hb hby d_prog_69_method_2_code_63) rfl rfl ?_; exact k) ?_
  show OwnEnd _ _ _ _ _ _ _ (T11.setTop (mkF m 64 #[.val (.ref a0'), .val (.int p1), .val (.int (3 : Int32))] [(.ref a0'), (.ref a0')]))
  obtain ⟨T12, X12, e12, st12⟩ := getF X11 hx hZ hown (host := "") (Or.inl (hw _ (List.mem_of_getElem? (i := 19) rfl))) Via.refl e11 FS (g := (mkF m 64 #[.val (.ref a0'), .val (.int p1), .val (.int (3 : Int32))] [(.ref a0'), (.ref a0')])) rfl rfl (hb hby d_prog_69_method_2_code_64)
  refine go st12 ?_
  refine go (fun _ k => by refine XS.iconst X12.here hx rfl (hb hby d_prog_69_method_2_code_67) ?_; exact k) ?_
  refine go (fun _ k => by refine XS.iadd X12.here hx rfl (hb hby d_prog_69_method_2_code_68) rfl ?_; exact k) ?_
  show OwnEnd _ _ _ _ _ _ _ (T12.setTop (mkF m 69 #[.val (.ref a0'), .val (.int p1), .val (.int (3 : Int32))] [(.int ((3 : Int32) + (1 : Int32))), (.ref a0')]))
  rw [show ((3 : Int32) + (1 : Int32)) = (4 : Int32) from by decide]
  show OwnEnd _ _ _ _ _ _ _ (T12.setTop (mkF m 69 #[.val (.ref a0'), .val (.int p1), .val (.int (3 : Int32))] [(.int (4 : Int32)), (.ref a0')]))
  obtain ⟨T13, h13, X13, e13, W13, st13⟩ := putF X12 hx hZ hown (host := "") (Or.inl (hw _ (List.mem_of_getElem? (i := 19) rfl))) Via.refl e12 FS EA (Or.inl (hw _ (List.mem_of_getElem? (i := 20) rfl))) (hw _ (List.mem_of_getElem? (i := 2) rfl)) (ty := .int) (by decide) rfl rfl (g := (mkF m 69 #[.val (.ref a0'), .val (.int p1), .val (.int (3 : Int32))] [(.int (4 : Int32)), (.ref a0')])) rfl rfl (hb hby d_prog_69_method_2_code_69)
  have N13 := Fr.snoc X13 N11 ga
  have EA := EA.wr W13
  have FP := FP.other W13 (Or.inr (slot_ne (Or.inl (hw _ (List.mem_of_getElem? (i := 22) rfl))) (Or.inl (hw _ (List.mem_of_getElem? (i := 20) rfl))) (by decide) (t := .long) (t' := .int) (by decide) (by decide)))
  have FM := FM.other W13 (Or.inr (slot_ne (Or.inl (hw _ (List.mem_of_getElem? (i := 34) rfl))) (Or.inl (hw _ (List.mem_of_getElem? (i := 20) rfl))) (by decide) (t := (.array .int)) (t' := .int) (by decide) (by decide)))
  have Z0 := Nat.le_trans Z0 (Keep.of_wr W13).1
  have KK := Keep.wr KK W13 (Or.inl (List.mem_of_getElem? (i := 0) rfl))
  have FS := FS.same W13
  refine go st13 ?_
  show OwnEnd _ _ _ _ _ _ _ (T13.setTop (mkF m 72 #[.val (.ref a0'), .val (.int p1), .val (.int (3 : Int32))] []))
  refine endV X13 hx hlk Bd.returns (hb hby d_prog_69_method_2_code_72) e13 (by decide) (by decide) ?_
  exact ⟨rfl, N13, KK, EA, FP, FS, FM⟩
theorem ef_rm_add4 (m : MethodId) (y0 : Addr) (y1 : Int32) : entryFrame m #[(.ref y0), (.int y1)] 3 = mkF m 0 #[.val (.ref y0), .val (.int y1), .unset] [] := by first | (simp [entryFrame, mkF, argsToLocals, Value.category]; done) | rfl
def Q_rm_add4 (Z : State) (a0' : Addr) (p1 : Int32) (P : Int64) (h0 : Heap) (n0 : Nat) (v : Option Value) (h : Heap) (L : List Loc) : Prop := v = none ∧ Fr n0 L ∧ Keep h0 h [a0'] ∧ Exa Z h a0' "com/example/waitsfor/waitsfor/ShardSet" ∧ Fld Z h a0' "com/example/waitsfor/waitsfor/ShardSet" "packed" "J" (.long (P ||| (p1.toInt64 <<< ((32 : Int32) &&& 0x3f).toInt64))) ∧ Fld Z h a0' "com/example/waitsfor/waitsfor/ShardSet" "size" "I" (.int 5) ∧ Fld Z h a0' "com/example/waitsfor/waitsfor/ShardSet" "more" "[I" .null
set_option maxRecDepth 65536 in
set_option maxHeartbeats 40000000 in
theorem rm_add4 (l : Launch) (Z : State) (a0 : Array Value) (hw : ∀ d ∈ tables_1, d.before a0 Z = true) (ws : List Jvm.Cond) (a0' : Addr) (p1 : Int32) (P : Int64) (h0 : Heap) (n0 : Nat) (ga : n0 ≤ a0') (EA : Exa Z h0 a0' "com/example/waitsfor/waitsfor/ShardSet") (FP : Fld Z h0 a0' "com/example/waitsfor/waitsfor/ShardSet" "packed" "J" (.long P)) (FS : Fld Z h0 a0' "com/example/waitsfor/waitsfor/ShardSet" "size" "I" (.int 4)) (FM : Fld Z h0 a0' "com/example/waitsfor/waitsfor/ShardSet" "more" "[I" .null) (ne0 : ¬ own_get P (0 : Int32) = p1) (ne1 : ¬ own_get P (8 : Int32) = p1) (ne2 : ¬ own_get P (16 : Int32) = p1) (ne3 : ¬ own_get P (24 : Int32) = p1) (Z0 : n0 ≤ h0.size) :
    MetFree l (⟨"com/example/waitsfor/waitsfor/ShardSet", "add", "(I)V"⟩ : MethodName) (head1 (Jvm.Cond.code (⟨"com/example/waitsfor/waitsfor/ShardSet", "add", "(I)V"⟩ : MethodName) prog_69_method_2_code 3 none :: ws) ({ frames := 1, cells := 0, slots := 0, locals := 13 } : Room)) (fun a U => a = #[(.ref a0'), (.int p1)] ∧ Z.Warmed39 U.vm ∧ U.heap = h0) (fun _ _ _ _ _ => True) (fun _ U o U' => ∃ v L, o = .returned v ∧ Q_rm_add4 Z a0' p1 P h0 n0 v U'.heap L ∧ FrameEnd U o U' L 0 0) := by
  refine MetFree.of_bodySF (plainFor_of_name pn_com_example_waitsfor_waitsfor_ShardSet) hisR ?_
  intro p e s m args below meth c s₁ Bd hml0 hP hK
  obtain ⟨rfl, hZ, hh⟩ := hP
  have hx := Bd.exec
  have hby := Bd.bytes
  have hlk := Bd.notSynchronized
  have hml : c.maxLocals = 3 := hml0
  have hown : s.vm.findClass "com/example/waitsfor/waitsfor/ShardSet" = some m.cls := findClass_of_methodNamed Bd.named
  have hnm := (name_of_methodNamed Bd.named Bd.method).1
  have X0 : Stand p l e ({ frames := 1, cells := 0, slots := 0, locals := 13 } : Room) s m #[(.ref a0'), (.int p1)] below meth c s₁ [] 0 0 := Stand.of_body Bd
  have e0 : s₁.heap = h0 := by rw [← hh, Bd.state]; rfl
  have N0 := Fr.nil n0
  show OwnEnd p e below s (Q_rm_add4 Z a0' p1 P h0 n0) 0 0 (s₁.setTop (entryFrame m #[(.ref a0'), (.int p1)] 3))
  refine go (fun t k => castTop (ef_rm_add4 m a0' p1) k) ?_
  have KK := Keep.refl h0 [a0']
  show OwnEnd _ _ _ _ _ _ _ (s₁.setTop (mkF m 0 #[.val (.ref a0'), .val (.int p1), .unset] []))
  refine go (fun _ k => by refine XS.iconst X0.here hx rfl (hb hby d_prog_69_method_2_code_0) ?_; exact k) ?_
  refine go (fun _ k => by refine XS.istoreN X0.here hx rfl (hb hby d_prog_69_method_2_code_1) rfl (l' := #[.val (.ref a0'), .val (.int p1), .val (.int (0 : Int32))]) rfl ?_; exact k) ?_
  refine go (fun _ k => by refine XS.iloadN X0.here hx rfl (hb hby d_prog_69_method_2_code_2) rfl ?_; exact k) ?_
  refine go (fun _ k => by refine XS.aloadN X0.here hx rfl (hb hby d_prog_69_method_2_code_3) rfl rfl ?_; exact k) ?_
  show OwnEnd _ _ _ _ _ _ _ (s₁.setTop (mkF m 4 #[.val (.ref a0'), .val (.int p1), .val (.int (0 : Int32))] [(.ref a0'), (.int (0 : Int32))]))
  obtain ⟨T1, X1, e1, st1⟩ := getF X0 hx hZ hown (host := "") (Or.inl (hw _ (List.mem_of_getElem? (i := 19) rfl))) Via.refl e0 FS (g := (mkF m 4 #[.val (.ref a0'), .val (.int p1), .val (.int (0 : Int32))] [(.ref a0'), (.int (0 : Int32))])) rfl rfl (hb hby d_prog_69_method_2_code_4)
  refine go st1 ?_
  show OwnEnd _ _ _ _ _ _ _ (T1.setTop (mkF m 7 #[.val (.ref a0'), .val (.int p1), .val (.int (0 : Int32))] [(.int (4 : Int32)), (.int (0 : Int32))]))
  refine go (fun _ k => by refine XS.icmpNo X1.here hx rfl (hb hby d_prog_69_method_2_code_7) rfl (tlt (by decide)).2.1 ?_; exact k) ?_
  refine go (fun _ k => by refine XS.aloadN X1.here hx rfl (hb hby d_prog_69_method_2_code_10) rfl rfl ?_; exact k) ?_
  refine go (fun _ k => by refine XS.iloadN X1.here hx rfl (hb hby d_prog_69_method_2_code_11) rfl ?_; exact k) ?_
  show OwnEnd _ _ _ _ _ _ _ (T1.setTop (mkF m 12 #[.val (.ref a0'), .val (.int p1), .val (.int (0 : Int32))] [(.int (0 : Int32)), (.ref a0')]))
  obtain ⟨_, T2, L2, X2, hQ2, st2⟩ := callVirt X1 hx hZ hown (hw _ (List.mem_of_getElem? (i := 23) rfl)) (hw _ (List.mem_of_getElem? (i := 24) rfl)) (notFace_of_selects (args := #[]) (mvT hZ (hw _ (List.mem_of_getElem? (i := 26) rfl)))) (hw _ (List.mem_of_getElem? (i := 26) rfl)) (hw _ (List.mem_of_getElem? (i := 25) rfl)) (hw _ (List.mem_of_getElem? (i := 3) rfl)) (hw _ (List.mem_of_getElem? (i := 27) rfl)) (by decide) (rm_get0 l Z a0 hw [] a0' P h0 n0 FP) (W := 0) (by decide) (by decide) e1 EA (g := (mkF m 12 #[.val (.ref a0'), .val (.int p1), .val (.int (0 : Int32))] [(.int (0 : Int32)), (.ref a0')])) rfl (by rw [hml]; rfl) (argsL := [(.int (0 : Int32))]) (rest := []) rfl (lenOf pd__I_I rfl) rfl (by show 2 * 0 + _ ≤ _; exact Nat.le_of_eq rfl) (hb hby d_prog_69_method_2_code_12) (by decide) (by decide)
  obtain ⟨rfl, Nq2, eq2⟩ := hQ2
  have N2 := Fr.app N0 Nq2
  refine go st2 ?_
  refine go (fun _ k => by refine XS.iloadN X2.here hx rfl (hb hby d_prog_69_method_2_code_15) rfl ?_; exact k) ?_
  show OwnEnd _ _ _ _ _ _ _ (T2.setTop (mkF m 16 #[.val (.ref a0'), .val (.int p1), .val (.int (0 : Int32))] [(.int p1), (.int (own_get P (0 : Int32)))]))
  refine go (fun _ k => by refine XS.icmpYes X2.here hx rfl (pc0 := 16) (pc' := 20) rfl (hb hby d_prog_69_method_2_code_16) rfl (feq ne0).2 (by decide) (by decide) ?_; exact k) ?_
  show OwnEnd _ _ _ _ _ _ _ (T2.setTop (mkF m 20 #[.val (.ref a0'), .val (.int p1), .val (.int (0 : Int32))] []))
  refine go (fun _ k => by refine XS.iinc X2.here hx rfl (hb hby d_prog_69_method_2_code_20) rfl (l' := #[.val (.ref a0'), .val (.int p1), .val (.int ((0 : Int32) + (1 : Int32)))]) rfl ?_; exact k) ?_
  show OwnEnd _ _ _ _ _ _ _ (T2.setTop (mkF m 23 #[.val (.ref a0'), .val (.int p1), .val (.int ((0 : Int32) + (1 : Int32)))] []))
  rw [show ((0 : Int32) + (1 : Int32)) = (1 : Int32) from by decide]
  refine go (fun _ k => by refine XS.goto X2.here hx rfl (pc0 := 23) (pc' := 2) rfl (hb hby d_prog_69_method_2_code_23) (by decide) (by decide) ?_; exact k) ?_
  refine go (fun _ k => by refine XS.iloadN X2.here hx rfl (hb hby d_prog_69_method_2_code_2) rfl ?_; exact k) ?_
  refine go (fun _ k => by refine XS.aloadN X2.here hx rfl (hb hby d_prog_69_method_2_code_3) rfl rfl ?_; exact k) ?_
  show OwnEnd _ _ _ _ _ _ _ (T2.setTop (mkF m 4 #[.val (.ref a0'), .val (.int p1), .val (.int (1 : Int32))] [(.ref a0'), (.int (1 : Int32))]))
  obtain ⟨T3, X3, e3, st3⟩ := getF X2 hx hZ hown (host := "") (Or.inl (hw _ (List.mem_of_getElem? (i := 19) rfl))) Via.refl eq2 FS (g := (mkF m 4 #[.val (.ref a0'), .val (.int p1), .val (.int (1 : Int32))] [(.ref a0'), (.int (1 : Int32))])) rfl rfl (hb hby d_prog_69_method_2_code_4)
  refine go st3 ?_
  show OwnEnd _ _ _ _ _ _ _ (T3.setTop (mkF m 7 #[.val (.ref a0'), .val (.int p1), .val (.int (1 : Int32))] [(.int (4 : Int32)), (.int (1 : Int32))]))
  refine go (fun _ k => by refine XS.icmpNo X3.here hx rfl (hb hby d_prog_69_method_2_code_7) rfl (tlt (by decide)).2.1 ?_; exact k) ?_
  refine go (fun _ k => by refine XS.aloadN X3.here hx rfl (hb hby d_prog_69_method_2_code_10) rfl rfl ?_; exact k) ?_
  refine go (fun _ k => by refine XS.iloadN X3.here hx rfl (hb hby d_prog_69_method_2_code_11) rfl ?_; exact k) ?_
  show OwnEnd _ _ _ _ _ _ _ (T3.setTop (mkF m 12 #[.val (.ref a0'), .val (.int p1), .val (.int (1 : Int32))] [(.int (1 : Int32)), (.ref a0')]))
  obtain ⟨_, T4, L4, X4, hQ4, st4⟩ := callVirt X3 hx hZ hown (hw _ (List.mem_of_getElem? (i := 23) rfl)) (hw _ (List.mem_of_getElem? (i := 24) rfl)) (notFace_of_selects (args := #[]) (mvT hZ (hw _ (List.mem_of_getElem? (i := 26) rfl)))) (hw _ (List.mem_of_getElem? (i := 26) rfl)) (hw _ (List.mem_of_getElem? (i := 25) rfl)) (hw _ (List.mem_of_getElem? (i := 3) rfl)) (hw _ (List.mem_of_getElem? (i := 27) rfl)) (by decide) (rm_get1 l Z a0 hw [] a0' P h0 n0 FP) (W := 0) (by decide) (by decide) e3 EA (g := (mkF m 12 #[.val (.ref a0'), .val (.int p1), .val (.int (1 : Int32))] [(.int (1 : Int32)), (.ref a0')])) rfl (by rw [hml]; rfl) (argsL := [(.int (1 : Int32))]) (rest := []) rfl (lenOf pd__I_I rfl) rfl (by show 2 * 0 + _ ≤ _; exact Nat.le_of_eq rfl) (hb hby d_prog_69_method_2_code_12) (by decide) (by decide)
  obtain ⟨rfl, Nq4, eq4⟩ := hQ4
  have N4 := Fr.app N2 Nq4
  refine go st4 ?_
  refine go (fun _ k => by refine XS.iloadN X4.here hx rfl (hb hby d_prog_69_method_2_code_15) rfl ?_; exact k) ?_
  show OwnEnd _ _ _ _ _ _ _ (T4.setTop (mkF m 16 #[.val (.ref a0'), .val (.int p1), .val (.int (1 : Int32))] [(.int p1), (.int (own_get P (8 : Int32)))]))
  refine go (fun _ k => by refine XS.icmpYes X4.here hx rfl (pc0 := 16) (pc' := 20) rfl (hb hby d_prog_69_method_2_code_16) rfl (feq ne1).2 (by decide) (by decide) ?_; exact k) ?_
  show OwnEnd _ _ _ _ _ _ _ (T4.setTop (mkF m 20 #[.val (.ref a0'), .val (.int p1), .val (.int (1 : Int32))] []))
  refine go (fun _ k => by refine XS.iinc X4.here hx rfl (hb hby d_prog_69_method_2_code_20) rfl (l' := #[.val (.ref a0'), .val (.int p1), .val (.int ((1 : Int32) + (1 : Int32)))]) rfl ?_; exact k) ?_
  show OwnEnd _ _ _ _ _ _ _ (T4.setTop (mkF m 23 #[.val (.ref a0'), .val (.int p1), .val (.int ((1 : Int32) + (1 : Int32)))] []))
  rw [show ((1 : Int32) + (1 : Int32)) = (2 : Int32) from by decide]
  refine go (fun _ k => by refine XS.goto X4.here hx rfl (pc0 := 23) (pc' := 2) rfl (hb hby d_prog_69_method_2_code_23) (by decide) (by decide) ?_; exact k) ?_
  refine go (fun _ k => by refine XS.iloadN X4.here hx rfl (hb hby d_prog_69_method_2_code_2) rfl ?_; exact k) ?_
  refine go (fun _ k => by refine XS.aloadN X4.here hx rfl (hb hby d_prog_69_method_2_code_3) rfl rfl ?_; exact k) ?_
  show OwnEnd _ _ _ _ _ _ _ (T4.setTop (mkF m 4 #[.val (.ref a0'), .val (.int p1), .val (.int (2 : Int32))] [(.ref a0'), (.int (2 : Int32))]))
  obtain ⟨T5, X5, e5, st5⟩ := getF X4 hx hZ hown (host := "") (Or.inl (hw _ (List.mem_of_getElem? (i := 19) rfl))) Via.refl eq4 FS (g := (mkF m 4 #[.val (.ref a0'), .val (.int p1), .val (.int (2 : Int32))] [(.ref a0'), (.int (2 : Int32))])) rfl rfl (hb hby d_prog_69_method_2_code_4)
  refine go st5 ?_
  show OwnEnd _ _ _ _ _ _ _ (T5.setTop (mkF m 7 #[.val (.ref a0'), .val (.int p1), .val (.int (2 : Int32))] [(.int (4 : Int32)), (.int (2 : Int32))]))
  refine go (fun _ k => by refine XS.icmpNo X5.here hx rfl (hb hby d_prog_69_method_2_code_7) rfl (tlt (by decide)).2.1 ?_; exact k) ?_
  refine go (fun _ k => by refine XS.aloadN X5.here hx rfl (hb hby d_prog_69_method_2_code_10) rfl rfl ?_; exact k) ?_
  refine go (fun _ k => by refine XS.iloadN X5.here hx rfl (hb hby d_prog_69_method_2_code_11) rfl ?_; exact k) ?_
  show OwnEnd _ _ _ _ _ _ _ (T5.setTop (mkF m 12 #[.val (.ref a0'), .val (.int p1), .val (.int (2 : Int32))] [(.int (2 : Int32)), (.ref a0')]))
  obtain ⟨_, T6, L6, X6, hQ6, st6⟩ := callVirt X5 hx hZ hown (hw _ (List.mem_of_getElem? (i := 23) rfl)) (hw _ (List.mem_of_getElem? (i := 24) rfl)) (notFace_of_selects (args := #[]) (mvT hZ (hw _ (List.mem_of_getElem? (i := 26) rfl)))) (hw _ (List.mem_of_getElem? (i := 26) rfl)) (hw _ (List.mem_of_getElem? (i := 25) rfl)) (hw _ (List.mem_of_getElem? (i := 3) rfl)) (hw _ (List.mem_of_getElem? (i := 27) rfl)) (by decide) (rm_get2 l Z a0 hw [] a0' P h0 n0 FP) (W := 0) (by decide) (by decide) e5 EA (g := (mkF m 12 #[.val (.ref a0'), .val (.int p1), .val (.int (2 : Int32))] [(.int (2 : Int32)), (.ref a0')])) rfl (by rw [hml]; rfl) (argsL := [(.int (2 : Int32))]) (rest := []) rfl (lenOf pd__I_I rfl) rfl (by show 2 * 0 + _ ≤ _; exact Nat.le_of_eq rfl) (hb hby d_prog_69_method_2_code_12) (by decide) (by decide)
  obtain ⟨rfl, Nq6, eq6⟩ := hQ6
  have N6 := Fr.app N4 Nq6
  refine go st6 ?_
  refine go (fun _ k => by refine XS.iloadN X6.here hx rfl (hb hby d_prog_69_method_2_code_15) rfl ?_; exact k) ?_
  show OwnEnd _ _ _ _ _ _ _ (T6.setTop (mkF m 16 #[.val (.ref a0'), .val (.int p1), .val (.int (2 : Int32))] [(.int p1), (.int (own_get P (16 : Int32)))]))
  refine go (fun _ k => by refine XS.icmpYes X6.here hx rfl (pc0 := 16) (pc' := 20) rfl (hb hby d_prog_69_method_2_code_16) rfl (feq ne2).2 (by decide) (by decide) ?_; exact k) ?_
  show OwnEnd _ _ _ _ _ _ _ (T6.setTop (mkF m 20 #[.val (.ref a0'), .val (.int p1), .val (.int (2 : Int32))] []))
  refine go (fun _ k => by refine XS.iinc X6.here hx rfl (hb hby d_prog_69_method_2_code_20) rfl (l' := #[.val (.ref a0'), .val (.int p1), .val (.int ((2 : Int32) + (1 : Int32)))]) rfl ?_; exact k) ?_
  show OwnEnd _ _ _ _ _ _ _ (T6.setTop (mkF m 23 #[.val (.ref a0'), .val (.int p1), .val (.int ((2 : Int32) + (1 : Int32)))] []))
  rw [show ((2 : Int32) + (1 : Int32)) = (3 : Int32) from by decide]
  refine go (fun _ k => by refine XS.goto X6.here hx rfl (pc0 := 23) (pc' := 2) rfl (hb hby d_prog_69_method_2_code_23) (by decide) (by decide) ?_; exact k) ?_
  refine go (fun _ k => by refine XS.iloadN X6.here hx rfl (hb hby d_prog_69_method_2_code_2) rfl ?_; exact k) ?_
  refine go (fun _ k => by refine XS.aloadN X6.here hx rfl (hb hby d_prog_69_method_2_code_3) rfl rfl ?_; exact k) ?_
  show OwnEnd _ _ _ _ _ _ _ (T6.setTop (mkF m 4 #[.val (.ref a0'), .val (.int p1), .val (.int (3 : Int32))] [(.ref a0'), (.int (3 : Int32))]))
  obtain ⟨T7, X7, e7, st7⟩ := getF X6 hx hZ hown (host := "") (Or.inl (hw _ (List.mem_of_getElem? (i := 19) rfl))) Via.refl eq6 FS (g := (mkF m 4 #[.val (.ref a0'), .val (.int p1), .val (.int (3 : Int32))] [(.ref a0'), (.int (3 : Int32))])) rfl rfl (hb hby d_prog_69_method_2_code_4)
  refine go st7 ?_
  show OwnEnd _ _ _ _ _ _ _ (T7.setTop (mkF m 7 #[.val (.ref a0'), .val (.int p1), .val (.int (3 : Int32))] [(.int (4 : Int32)), (.int (3 : Int32))]))
  refine go (fun _ k => by refine XS.icmpNo X7.here hx rfl (hb hby d_prog_69_method_2_code_7) rfl (tlt (by decide)).2.1 ?_; exact k) ?_
  refine go (fun _ k => by refine XS.aloadN X7.here hx rfl (hb hby d_prog_69_method_2_code_10) rfl rfl ?_; exact k) ?_
  refine go (fun _ k => by refine XS.iloadN X7.here hx rfl (hb hby d_prog_69_method_2_code_11) rfl ?_; exact k) ?_
  show OwnEnd _ _ _ _ _ _ _ (T7.setTop (mkF m 12 #[.val (.ref a0'), .val (.int p1), .val (.int (3 : Int32))] [(.int (3 : Int32)), (.ref a0')]))
  obtain ⟨_, T8, L8, X8, hQ8, st8⟩ := callVirt X7 hx hZ hown (hw _ (List.mem_of_getElem? (i := 23) rfl)) (hw _ (List.mem_of_getElem? (i := 24) rfl)) (notFace_of_selects (args := #[]) (mvT hZ (hw _ (List.mem_of_getElem? (i := 26) rfl)))) (hw _ (List.mem_of_getElem? (i := 26) rfl)) (hw _ (List.mem_of_getElem? (i := 25) rfl)) (hw _ (List.mem_of_getElem? (i := 3) rfl)) (hw _ (List.mem_of_getElem? (i := 27) rfl)) (by decide) (rm_get3 l Z a0 hw [] a0' P h0 n0 FP) (W := 0) (by decide) (by decide) e7 EA (g := (mkF m 12 #[.val (.ref a0'), .val (.int p1), .val (.int (3 : Int32))] [(.int (3 : Int32)), (.ref a0')])) rfl (by rw [hml]; rfl) (argsL := [(.int (3 : Int32))]) (rest := []) rfl (lenOf pd__I_I rfl) rfl (by show 2 * 0 + _ ≤ _; exact Nat.le_of_eq rfl) (hb hby d_prog_69_method_2_code_12) (by decide) (by decide)
  obtain ⟨rfl, Nq8, eq8⟩ := hQ8
  have N8 := Fr.app N6 Nq8
  refine go st8 ?_
  refine go (fun _ k => by refine XS.iloadN X8.here hx rfl (hb hby d_prog_69_method_2_code_15) rfl ?_; exact k) ?_
  show OwnEnd _ _ _ _ _ _ _ (T8.setTop (mkF m 16 #[.val (.ref a0'), .val (.int p1), .val (.int (3 : Int32))] [(.int p1), (.int (own_get P (24 : Int32)))]))
  refine go (fun _ k => by refine XS.icmpYes X8.here hx rfl (pc0 := 16) (pc' := 20) rfl (hb hby d_prog_69_method_2_code_16) rfl (feq ne3).2 (by decide) (by decide) ?_; exact k) ?_
  show OwnEnd _ _ _ _ _ _ _ (T8.setTop (mkF m 20 #[.val (.ref a0'), .val (.int p1), .val (.int (3 : Int32))] []))
  refine go (fun _ k => by refine XS.iinc X8.here hx rfl (hb hby d_prog_69_method_2_code_20) rfl (l' := #[.val (.ref a0'), .val (.int p1), .val (.int ((3 : Int32) + (1 : Int32)))]) rfl ?_; exact k) ?_
  show OwnEnd _ _ _ _ _ _ _ (T8.setTop (mkF m 23 #[.val (.ref a0'), .val (.int p1), .val (.int ((3 : Int32) + (1 : Int32)))] []))
  rw [show ((3 : Int32) + (1 : Int32)) = (4 : Int32) from by decide]
  refine go (fun _ k => by refine XS.goto X8.here hx rfl (pc0 := 23) (pc' := 2) rfl (hb hby d_prog_69_method_2_code_23) (by decide) (by decide) ?_; exact k) ?_
  refine go (fun _ k => by refine XS.iloadN X8.here hx rfl (hb hby d_prog_69_method_2_code_2) rfl ?_; exact k) ?_
  refine go (fun _ k => by refine XS.aloadN X8.here hx rfl (hb hby d_prog_69_method_2_code_3) rfl rfl ?_; exact k) ?_
  show OwnEnd _ _ _ _ _ _ _ (T8.setTop (mkF m 4 #[.val (.ref a0'), .val (.int p1), .val (.int (4 : Int32))] [(.ref a0'), (.int (4 : Int32))]))
  obtain ⟨T9, X9, e9, st9⟩ := getF X8 hx hZ hown (host := "") (Or.inl (hw _ (List.mem_of_getElem? (i := 19) rfl))) Via.refl eq8 FS (g := (mkF m 4 #[.val (.ref a0'), .val (.int p1), .val (.int (4 : Int32))] [(.ref a0'), (.int (4 : Int32))])) rfl rfl (hb hby d_prog_69_method_2_code_4)
  refine go st9 ?_
  show OwnEnd _ _ _ _ _ _ _ (T9.setTop (mkF m 7 #[.val (.ref a0'), .val (.int p1), .val (.int (4 : Int32))] [(.int (4 : Int32)), (.int (4 : Int32))]))
  refine go (fun _ k => by refine XS.icmpYes X9.here hx rfl (pc0 := 7) (pc' := 26) rfl (hb hby d_prog_69_method_2_code_7) rfl (flt (by decide)).2.1 (by decide) (by decide) ?_; exact k) ?_
  refine go (fun _ k => by refine XS.aloadN X9.here hx rfl (hb hby d_prog_69_method_2_code_26) rfl rfl ?_; exact k) ?_
  show OwnEnd _ _ _ _ _ _ _ (T9.setTop (mkF m 27 #[.val (.ref a0'), .val (.int p1), .val (.int (4 : Int32))] [(.ref a0')]))
  obtain ⟨T10, X10, e10, st10⟩ := getF X9 hx hZ hown (host := "") (Or.inl (hw _ (List.mem_of_getElem? (i := 19) rfl))) Via.refl e9 FS (g := (mkF m 27 #[.val (.ref a0'), .val (.int p1), .val (.int (4 : Int32))] [(.ref a0')])) rfl rfl (hb hby d_prog_69_method_2_code_27)
  refine go st10 ?_
  refine go (fun _ k => by refine XS.bipush X10.here hx rfl (hb hby d_prog_69_method_2_code_30) ?_; exact k) ?_
  show OwnEnd _ _ _ _ _ _ _ (T10.setTop (mkF m 32 #[.val (.ref a0'), .val (.int p1), .val (.int (4 : Int32))] [(.int (8 : Int32)), (.int (4 : Int32))]))
  refine go (fun _ k => by refine XS.icmpNo X10.here hx rfl (hb hby d_prog_69_method_2_code_32) rfl (tlt (by decide)).2.1 ?_; exact k) ?_
  refine go (fun _ k => by refine XS.aloadN X10.here hx rfl (hb hby d_prog_69_method_2_code_35) rfl rfl ?_; exact k) ?_
  refine go (fun _ k => by refine XS.dup X10.here hx rfl (hb hby d_prog_69_method_2_code_36) rfl rfl ?_; exact k) ?_
  show OwnEnd _ _ _ _ _ _ _ (T10.setTop (mkF m 37 #[.val (.ref a0'), .val (.int p1), .val (.int (4 : Int32))] [(.ref a0'), (.ref a0')]))
  obtain ⟨T11, X11, e11, st11⟩ := getF X10 hx hZ hown (host := "") (Or.inl (hw _ (List.mem_of_getElem? (i := 21) rfl))) Via.refl e10 FP (g := (mkF m 37 #[.val (.ref a0'), .val (.int p1), .val (.int (4 : Int32))] [(.ref a0'), (.ref a0')])) rfl rfl (hb hby d_prog_69_method_2_code_37)
  refine go st11 ?_
  refine go (fun _ k => by refine XS.iloadN X11.here hx rfl (hb hby d_prog_69_method_2_code_40) rfl ?_; exact k) ?_
  refine go (fun _ k => by refine XS.i2l X11.here hx rfl (hb hby d_prog_69_method_2_code_41) rfl ?_; exact k) ?_
  refine go (fun _ k => by refine XS.bipush X11.here hx rfl (hb hby d_prog_69_method_2_code_42) ?_; exact k) ?_
  show OwnEnd _ _ _ _ _ _ _ (T11.setTop (mkF m 44 #[.val (.ref a0'), .val (.int p1), .val (.int (4 : Int32))] [(.int (8 : Int32)), (.long (p1.toInt64)), (.long P), (.ref a0')]))
  refine go (fun _ k => by refine XS.aloadN X11.here hx rfl (hb hby d_prog_69_method_2_code_44) rfl rfl ?_; exact k) ?_
  show OwnEnd _ _ _ _ _ _ _ (T11.setTop (mkF m 45 #[.val (.ref a0'), .val (.int p1), .val (.int (4 : Int32))] [(.ref a0'), (.int (8 : Int32)), (.long (p1.toInt64)), (.long P), (.ref a0')]))
  obtain ⟨T12, X12, e12, st12⟩ := getF X11 hx hZ hown (host := "") (Or.inl (hw _ (List.mem_of_getElem? (i := 19) rfl))) Via.refl e11 FS (g := (mkF m 45 #[.val (.ref a0'), .val (.int p1), .val (.int (4 : Int32))] [(.ref a0'), (.int (8 : Int32)), (.long (p1.toInt64)), (.long P), (.ref a0')])) rfl rfl (hb hby d_prog_69_method_2_code_45)
  refine go st12 ?_
  refine go (fun _ k => by refine XS.imul X12.here hx rfl (hb hby d_prog_69_method_2_code_48) rfl ?_; exact k) ?_
  show OwnEnd _ _ _ _ _ _ _ (T12.setTop (mkF m 49 #[.val (.ref a0'), .val (.int p1), .val (.int (4 : Int32))] [(.int ((8 : Int32) * (4 : Int32))), (.long (p1.toInt64)), (.long P), (.ref a0')]))
  rw [show ((8 : Int32) * (4 : Int32)) = (32 : Int32) from by decide]
  refine go (fun _ k => by refine XS.lshl X12.here hx rfl (hb hby d_prog_69_method_2_code_49) rfl ?_; exact k) ?_
  refine go (fun _ k => by refine XS.lor X12.here hx rfl (hb hby d_prog_69_method_2_code_50) rfl ?_; exact k) ?_
  show OwnEnd _ _ _ _ _ _ _ (T12.setTop (mkF m 51 #[.val (.ref a0'), .val (.int p1), .val (.int (4 : Int32))] [(.long (P ||| ((p1.toInt64) <<< ((32 : Int32) &&& 0x3f).toInt64))), (.ref a0')]))
  obtain ⟨T13, h13, X13, e13, W13, st13⟩ := putF X12 hx hZ hown (host := "") (Or.inl (hw _ (List.mem_of_getElem? (i := 21) rfl))) Via.refl e12 FP EA (Or.inl (hw _ (List.mem_of_getElem? (i := 22) rfl))) (hw _ (List.mem_of_getElem? (i := 2) rfl)) (ty := .long) (by decide) rfl rfl (g := (mkF m 51 #[.val (.ref a0'), .val (.int p1), .val (.int (4 : Int32))] [(.long (P ||| ((p1.toInt64) <<< ((32 : Int32) &&& 0x3f).toInt64))), (.ref a0')])) rfl rfl (hb hby d_prog_69_method_2_code_51)
  have N13 := Fr.snoc X13 N8 ga
  have EA := EA.wr W13
  have FS := FS.other W13 (Or.inr (slot_ne (Or.inl (hw _ (List.mem_of_getElem? (i := 20) rfl))) (Or.inl (hw _ (List.mem_of_getElem? (i := 22) rfl))) (by decide) (t := .int) (t' := .long) (by decide) (by decide)))
  have FM := FM.other W13 (Or.inr (slot_ne (Or.inl (hw _ (List.mem_of_getElem? (i := 34) rfl))) (Or.inl (hw _ (List.mem_of_getElem? (i := 22) rfl))) (by decide) (t := (.array .int)) (t' := .long) (by decide) (by decide)))
  have Z0 := Nat.le_trans Z0 (Keep.of_wr W13).1
  have KK := Keep.wr KK W13 (Or.inl (List.mem_of_getElem? (i := 0) rfl))
  have FP := FP.same W13
  refine go st13 ?_
  refine go (fun _ k => by refine XS.goto X13.here hx rfl (pc0 := 54) (pc' := 62) rfl (hb hby d_prog_69_method_2_code_54) (by decide) (by decide) ?_; exact k) ?_
  refine go (fun _ k => by refine XS.aloadN X13.here hx rfl (hb hby d_prog_69_method_2_code_62) rfl rfl ?_; exact k) ?_
  refine go (fun _ k => by refine XS.dup X13.here hx rfl (hb hby d_prog_69_method_2_code_63) rfl rfl ?_; exact k) ?_
  show OwnEnd _ _ _ _ _ _ _ (T13.setTop (mkF m 64 #[.val (.ref a0'), .val (.int p1), .val (.int (4 : Int32))] [(.ref a0'), (.ref a0')]))
  obtain ⟨T14, X14, e14, st14⟩ := getF X13 hx hZ hown (host := "") (Or.inl (hw _ (List.mem_of_getElem? (i := 19) rfl))) Via.refl e13 FS (g := (mkF m 64 #[.val (.ref a0'), .val (.int p1), .val (.int (4 : Int32))] [(.ref a0'), (.ref a0')])) rfl rfl (hb hby d_prog_69_method_2_code_64)
  refine go st14 ?_
  refine go (fun _ k => by refine XS.iconst X14.here hx rfl (hb hby d_prog_69_method_2_code_67) ?_; exact k) ?_
  refine go (fun _ k => by refine XS.iadd X14.here hx rfl (hb hby d_prog_69_method_2_code_68) rfl ?_; exact k) ?_
  show OwnEnd _ _ _ _ _ _ _ (T14.setTop (mkF m 69 #[.val (.ref a0'), .val (.int p1), .val (.int (4 : Int32))] [(.int ((4 : Int32) + (1 : Int32))), (.ref a0')]))
  rw [show ((4 : Int32) + (1 : Int32)) = (5 : Int32) from by decide]
  show OwnEnd _ _ _ _ _ _ _ (T14.setTop (mkF m 69 #[.val (.ref a0'), .val (.int p1), .val (.int (4 : Int32))] [(.int (5 : Int32)), (.ref a0')]))
  obtain ⟨T15, h15, X15, e15, W15, st15⟩ := putF X14 hx hZ hown (host := "") (Or.inl (hw _ (List.mem_of_getElem? (i := 19) rfl))) Via.refl e14 FS EA (Or.inl (hw _ (List.mem_of_getElem? (i := 20) rfl))) (hw _ (List.mem_of_getElem? (i := 2) rfl)) (ty := .int) (by decide) rfl rfl (g := (mkF m 69 #[.val (.ref a0'), .val (.int p1), .val (.int (4 : Int32))] [(.int (5 : Int32)), (.ref a0')])) rfl rfl (hb hby d_prog_69_method_2_code_69)
  have N15 := Fr.snoc X15 N13 ga
  have EA := EA.wr W15
  have FP := FP.other W15 (Or.inr (slot_ne (Or.inl (hw _ (List.mem_of_getElem? (i := 22) rfl))) (Or.inl (hw _ (List.mem_of_getElem? (i := 20) rfl))) (by decide) (t := .long) (t' := .int) (by decide) (by decide)))
  have FM := FM.other W15 (Or.inr (slot_ne (Or.inl (hw _ (List.mem_of_getElem? (i := 34) rfl))) (Or.inl (hw _ (List.mem_of_getElem? (i := 20) rfl))) (by decide) (t := (.array .int)) (t' := .int) (by decide) (by decide)))
  have Z0 := Nat.le_trans Z0 (Keep.of_wr W15).1
  have KK := Keep.wr KK W15 (Or.inl (List.mem_of_getElem? (i := 0) rfl))
  have FS := FS.same W15
  refine go st15 ?_
  show OwnEnd _ _ _ _ _ _ _ (T15.setTop (mkF m 72 #[.val (.ref a0'), .val (.int p1), .val (.int (4 : Int32))] []))
  refine endV X15 hx hlk Bd.returns (hb hby d_prog_69_method_2_code_72) e15 (by decide) (by decide) ?_
  exact ⟨rfl, N15, KK, EA, FP, FS, FM⟩
theorem ef_rm_add5 (m : MethodId) (y0 : Addr) (y1 : Int32) : entryFrame m #[(.ref y0), (.int y1)] 3 = mkF m 0 #[.val (.ref y0), .val (.int y1), .unset] [] := by first | (simp [entryFrame, mkF, argsToLocals, Value.category]; done) | rfl
def Q_rm_add5 (Z : State) (a0' : Addr) (p1 : Int32) (P : Int64) (h0 : Heap) (n0 : Nat) (v : Option Value) (h : Heap) (L : List Loc) : Prop := v = none ∧ Fr n0 L ∧ Keep h0 h [a0'] ∧ Exa Z h a0' "com/example/waitsfor/waitsfor/ShardSet" ∧ Fld Z h a0' "com/example/waitsfor/waitsfor/ShardSet" "packed" "J" (.long (P ||| (p1.toInt64 <<< ((40 : Int32) &&& 0x3f).toInt64))) ∧ Fld Z h a0' "com/example/waitsfor/waitsfor/ShardSet" "size" "I" (.int 6) ∧ Fld Z h a0' "com/example/waitsfor/waitsfor/ShardSet" "more" "[I" .null
set_option maxRecDepth 65536 in
set_option maxHeartbeats 40000000 in
theorem rm_add5 (l : Launch) (Z : State) (a0 : Array Value) (hw : ∀ d ∈ tables_1, d.before a0 Z = true) (ws : List Jvm.Cond) (a0' : Addr) (p1 : Int32) (P : Int64) (h0 : Heap) (n0 : Nat) (ga : n0 ≤ a0') (EA : Exa Z h0 a0' "com/example/waitsfor/waitsfor/ShardSet") (FP : Fld Z h0 a0' "com/example/waitsfor/waitsfor/ShardSet" "packed" "J" (.long P)) (FS : Fld Z h0 a0' "com/example/waitsfor/waitsfor/ShardSet" "size" "I" (.int 5)) (FM : Fld Z h0 a0' "com/example/waitsfor/waitsfor/ShardSet" "more" "[I" .null) (ne0 : ¬ own_get P (0 : Int32) = p1) (ne1 : ¬ own_get P (8 : Int32) = p1) (ne2 : ¬ own_get P (16 : Int32) = p1) (ne3 : ¬ own_get P (24 : Int32) = p1) (ne4 : ¬ own_get P (32 : Int32) = p1) (Z0 : n0 ≤ h0.size) :
    MetFree l (⟨"com/example/waitsfor/waitsfor/ShardSet", "add", "(I)V"⟩ : MethodName) (head1 (Jvm.Cond.code (⟨"com/example/waitsfor/waitsfor/ShardSet", "add", "(I)V"⟩ : MethodName) prog_69_method_2_code 3 none :: ws) ({ frames := 1, cells := 0, slots := 0, locals := 13 } : Room)) (fun a U => a = #[(.ref a0'), (.int p1)] ∧ Z.Warmed39 U.vm ∧ U.heap = h0) (fun _ _ _ _ _ => True) (fun _ U o U' => ∃ v L, o = .returned v ∧ Q_rm_add5 Z a0' p1 P h0 n0 v U'.heap L ∧ FrameEnd U o U' L 0 0) := by
  refine MetFree.of_bodySF (plainFor_of_name pn_com_example_waitsfor_waitsfor_ShardSet) hisR ?_
  intro p e s m args below meth c s₁ Bd hml0 hP hK
  obtain ⟨rfl, hZ, hh⟩ := hP
  have hx := Bd.exec
  have hby := Bd.bytes
  have hlk := Bd.notSynchronized
  have hml : c.maxLocals = 3 := hml0
  have hown : s.vm.findClass "com/example/waitsfor/waitsfor/ShardSet" = some m.cls := findClass_of_methodNamed Bd.named
  have hnm := (name_of_methodNamed Bd.named Bd.method).1
  have X0 : Stand p l e ({ frames := 1, cells := 0, slots := 0, locals := 13 } : Room) s m #[(.ref a0'), (.int p1)] below meth c s₁ [] 0 0 := Stand.of_body Bd
  have e0 : s₁.heap = h0 := by rw [← hh, Bd.state]; rfl
  have N0 := Fr.nil n0
  show OwnEnd p e below s (Q_rm_add5 Z a0' p1 P h0 n0) 0 0 (s₁.setTop (entryFrame m #[(.ref a0'), (.int p1)] 3))
  refine go (fun t k => castTop (ef_rm_add5 m a0' p1) k) ?_
  have KK := Keep.refl h0 [a0']
  show OwnEnd _ _ _ _ _ _ _ (s₁.setTop (mkF m 0 #[.val (.ref a0'), .val (.int p1), .unset] []))
  refine go (fun _ k => by refine XS.iconst X0.here hx rfl (hb hby d_prog_69_method_2_code_0) ?_; exact k) ?_
  refine go (fun _ k => by refine XS.istoreN X0.here hx rfl (hb hby d_prog_69_method_2_code_1) rfl (l' := #[.val (.ref a0'), .val (.int p1), .val (.int (0 : Int32))]) rfl ?_; exact k) ?_
  refine go (fun _ k => by refine XS.iloadN X0.here hx rfl (hb hby d_prog_69_method_2_code_2) rfl ?_; exact k) ?_
  refine go (fun _ k => by refine XS.aloadN X0.here hx rfl (hb hby d_prog_69_method_2_code_3) rfl rfl ?_; exact k) ?_
  show OwnEnd _ _ _ _ _ _ _ (s₁.setTop (mkF m 4 #[.val (.ref a0'), .val (.int p1), .val (.int (0 : Int32))] [(.ref a0'), (.int (0 : Int32))]))
  obtain ⟨T1, X1, e1, st1⟩ := getF X0 hx hZ hown (host := "") (Or.inl (hw _ (List.mem_of_getElem? (i := 19) rfl))) Via.refl e0 FS (g := (mkF m 4 #[.val (.ref a0'), .val (.int p1), .val (.int (0 : Int32))] [(.ref a0'), (.int (0 : Int32))])) rfl rfl (hb hby d_prog_69_method_2_code_4)
  refine go st1 ?_
  show OwnEnd _ _ _ _ _ _ _ (T1.setTop (mkF m 7 #[.val (.ref a0'), .val (.int p1), .val (.int (0 : Int32))] [(.int (5 : Int32)), (.int (0 : Int32))]))
  refine go (fun _ k => by refine XS.icmpNo X1.here hx rfl (hb hby d_prog_69_method_2_code_7) rfl (tlt (by decide)).2.1 ?_; exact k) ?_
  refine go (fun _ k => by refine XS.aloadN X1.here hx rfl (hb hby d_prog_69_method_2_code_10) rfl rfl ?_; exact k) ?_
  refine go (fun _ k => by refine XS.iloadN X1.here hx rfl (hb hby d_prog_69_method_2_code_11) rfl ?_; exact k) ?_
  show OwnEnd _ _ _ _ _ _ _ (T1.setTop (mkF m 12 #[.val (.ref a0'), .val (.int p1), .val (.int (0 : Int32))] [(.int (0 : Int32)), (.ref a0')]))
  obtain ⟨_, T2, L2, X2, hQ2, st2⟩ := callVirt X1 hx hZ hown (hw _ (List.mem_of_getElem? (i := 23) rfl)) (hw _ (List.mem_of_getElem? (i := 24) rfl)) (notFace_of_selects (args := #[]) (mvT hZ (hw _ (List.mem_of_getElem? (i := 26) rfl)))) (hw _ (List.mem_of_getElem? (i := 26) rfl)) (hw _ (List.mem_of_getElem? (i := 25) rfl)) (hw _ (List.mem_of_getElem? (i := 3) rfl)) (hw _ (List.mem_of_getElem? (i := 27) rfl)) (by decide) (rm_get0 l Z a0 hw [] a0' P h0 n0 FP) (W := 0) (by decide) (by decide) e1 EA (g := (mkF m 12 #[.val (.ref a0'), .val (.int p1), .val (.int (0 : Int32))] [(.int (0 : Int32)), (.ref a0')])) rfl (by rw [hml]; rfl) (argsL := [(.int (0 : Int32))]) (rest := []) rfl (lenOf pd__I_I rfl) rfl (by show 2 * 0 + _ ≤ _; exact Nat.le_of_eq rfl) (hb hby d_prog_69_method_2_code_12) (by decide) (by decide)
  obtain ⟨rfl, Nq2, eq2⟩ := hQ2
  have N2 := Fr.app N0 Nq2
  refine go st2 ?_
  refine go (fun _ k => by refine XS.iloadN X2.here hx rfl (hb hby d_prog_69_method_2_code_15) rfl ?_; exact k) ?_
  show OwnEnd _ _ _ _ _ _ _ (T2.setTop (mkF m 16 #[.val (.ref a0'), .val (.int p1), .val (.int (0 : Int32))] [(.int p1), (.int (own_get P (0 : Int32)))]))
  refine go (fun _ k => by refine XS.icmpYes X2.here hx rfl (pc0 := 16) (pc' := 20) rfl (hb hby d_prog_69_method_2_code_16) rfl (feq ne0).2 (by decide) (by decide) ?_; exact k) ?_
  show OwnEnd _ _ _ _ _ _ _ (T2.setTop (mkF m 20 #[.val (.ref a0'), .val (.int p1), .val (.int (0 : Int32))] []))
  refine go (fun _ k => by refine XS.iinc X2.here hx rfl (hb hby d_prog_69_method_2_code_20) rfl (l' := #[.val (.ref a0'), .val (.int p1), .val (.int ((0 : Int32) + (1 : Int32)))]) rfl ?_; exact k) ?_
  show OwnEnd _ _ _ _ _ _ _ (T2.setTop (mkF m 23 #[.val (.ref a0'), .val (.int p1), .val (.int ((0 : Int32) + (1 : Int32)))] []))
  rw [show ((0 : Int32) + (1 : Int32)) = (1 : Int32) from by decide]
  refine go (fun _ k => by refine XS.goto X2.here hx rfl (pc0 := 23) (pc' := 2) rfl (hb hby d_prog_69_method_2_code_23) (by decide) (by decide) ?_; exact k) ?_
  refine go (fun _ k => by refine XS.iloadN X2.here hx rfl (hb hby d_prog_69_method_2_code_2) rfl ?_; exact k) ?_
  refine go (fun _ k => by refine XS.aloadN X2.here hx rfl (hb hby d_prog_69_method_2_code_3) rfl rfl ?_; exact k) ?_
  show OwnEnd _ _ _ _ _ _ _ (T2.setTop (mkF m 4 #[.val (.ref a0'), .val (.int p1), .val (.int (1 : Int32))] [(.ref a0'), (.int (1 : Int32))]))
  obtain ⟨T3, X3, e3, st3⟩ := getF X2 hx hZ hown (host := "") (Or.inl (hw _ (List.mem_of_getElem? (i := 19) rfl))) Via.refl eq2 FS (g := (mkF m 4 #[.val (.ref a0'), .val (.int p1), .val (.int (1 : Int32))] [(.ref a0'), (.int (1 : Int32))])) rfl rfl (hb hby d_prog_69_method_2_code_4)
  refine go st3 ?_
  show OwnEnd _ _ _ _ _ _ _ (T3.setTop (mkF m 7 #[.val (.ref a0'), .val (.int p1), .val (.int (1 : Int32))] [(.int (5 : Int32)), (.int (1 : Int32))]))
  refine go (fun _ k => by refine XS.icmpNo X3.here hx rfl (hb hby d_prog_69_method_2_code_7) rfl (tlt (by decide)).2.1 ?_; exact k) ?_
  refine go (fun _ k => by refine XS.aloadN X3.here hx rfl (hb hby d_prog_69_method_2_code_10) rfl rfl ?_; exact k) ?_
  refine go (fun _ k => by refine XS.iloadN X3.here hx rfl (hb hby d_prog_69_method_2_code_11) rfl ?_; exact k) ?_
  show OwnEnd _ _ _ _ _ _ _ (T3.setTop (mkF m 12 #[.val (.ref a0'), .val (.int p1), .val (.int (1 : Int32))] [(.int (1 : Int32)), (.ref a0')]))
  obtain ⟨_, T4, L4, X4, hQ4, st4⟩ := callVirt X3 hx hZ hown (hw _ (List.mem_of_getElem? (i := 23) rfl)) (hw _ (List.mem_of_getElem? (i := 24) rfl)) (notFace_of_selects (args := #[]) (mvT hZ (hw _ (List.mem_of_getElem? (i := 26) rfl)))) (hw _ (List.mem_of_getElem? (i := 26) rfl)) (hw _ (List.mem_of_getElem? (i := 25) rfl)) (hw _ (List.mem_of_getElem? (i := 3) rfl)) (hw _ (List.mem_of_getElem? (i := 27) rfl)) (by decide) (rm_get1 l Z a0 hw [] a0' P h0 n0 FP) (W := 0) (by decide) (by decide) e3 EA (g := (mkF m 12 #[.val (.ref a0'), .val (.int p1), .val (.int (1 : Int32))] [(.int (1 : Int32)), (.ref a0')])) rfl (by rw [hml]; rfl) (argsL := [(.int (1 : Int32))]) (rest := []) rfl (lenOf pd__I_I rfl) rfl (by show 2 * 0 + _ ≤ _; exact Nat.le_of_eq rfl) (hb hby d_prog_69_method_2_code_12) (by decide) (by decide)
  obtain ⟨rfl, Nq4, eq4⟩ := hQ4
  have N4 := Fr.app N2 Nq4
  refine go st4 ?_
  refine go (fun _ k => by refine XS.iloadN X4.here hx rfl (hb hby d_prog_69_method_2_code_15) rfl ?_; exact k) ?_
  show OwnEnd _ _ _ _ _ _ _ (T4.setTop (mkF m 16 #[.val (.ref a0'), .val (.int p1), .val (.int (1 : Int32))] [(.int p1), (.int (own_get P (8 : Int32)))]))
  refine go (fun _ k => by refine XS.icmpYes X4.here hx rfl (pc0 := 16) (pc' := 20) rfl (hb hby d_prog_69_method_2_code_16) rfl (feq ne1).2 (by decide) (by decide) ?_; exact k) ?_
  show OwnEnd _ _ _ _ _ _ _ (T4.setTop (mkF m 20 #[.val (.ref a0'), .val (.int p1), .val (.int (1 : Int32))] []))
  refine go (fun _ k => by refine XS.iinc X4.here hx rfl (hb hby d_prog_69_method_2_code_20) rfl (l' := #[.val (.ref a0'), .val (.int p1), .val (.int ((1 : Int32) + (1 : Int32)))]) rfl ?_; exact k) ?_
  show OwnEnd _ _ _ _ _ _ _ (T4.setTop (mkF m 23 #[.val (.ref a0'), .val (.int p1), .val (.int ((1 : Int32) + (1 : Int32)))] []))
  rw [show ((1 : Int32) + (1 : Int32)) = (2 : Int32) from by decide]
  refine go (fun _ k => by refine XS.goto X4.here hx rfl (pc0 := 23) (pc' := 2) rfl (hb hby d_prog_69_method_2_code_23) (by decide) (by decide) ?_; exact k) ?_
  refine go (fun _ k => by refine XS.iloadN X4.here hx rfl (hb hby d_prog_69_method_2_code_2) rfl ?_; exact k) ?_
  refine go (fun _ k => by refine XS.aloadN X4.here hx rfl (hb hby d_prog_69_method_2_code_3) rfl rfl ?_; exact k) ?_
  show OwnEnd _ _ _ _ _ _ _ (T4.setTop (mkF m 4 #[.val (.ref a0'), .val (.int p1), .val (.int (2 : Int32))] [(.ref a0'), (.int (2 : Int32))]))
  obtain ⟨T5, X5, e5, st5⟩ := getF X4 hx hZ hown (host := "") (Or.inl (hw _ (List.mem_of_getElem? (i := 19) rfl))) Via.refl eq4 FS (g := (mkF m 4 #[.val (.ref a0'), .val (.int p1), .val (.int (2 : Int32))] [(.ref a0'), (.int (2 : Int32))])) rfl rfl (hb hby d_prog_69_method_2_code_4)
  refine go st5 ?_
  show OwnEnd _ _ _ _ _ _ _ (T5.setTop (mkF m 7 #[.val (.ref a0'), .val (.int p1), .val (.int (2 : Int32))] [(.int (5 : Int32)), (.int (2 : Int32))]))
  refine go (fun _ k => by refine XS.icmpNo X5.here hx rfl (hb hby d_prog_69_method_2_code_7) rfl (tlt (by decide)).2.1 ?_; exact k) ?_
  refine go (fun _ k => by refine XS.aloadN X5.here hx rfl (hb hby d_prog_69_method_2_code_10) rfl rfl ?_; exact k) ?_
  refine go (fun _ k => by refine XS.iloadN X5.here hx rfl (hb hby d_prog_69_method_2_code_11) rfl ?_; exact k) ?_
  show OwnEnd _ _ _ _ _ _ _ (T5.setTop (mkF m 12 #[.val (.ref a0'), .val (.int p1), .val (.int (2 : Int32))] [(.int (2 : Int32)), (.ref a0')]))
  obtain ⟨_, T6, L6, X6, hQ6, st6⟩ := callVirt X5 hx hZ hown (hw _ (List.mem_of_getElem? (i := 23) rfl)) (hw _ (List.mem_of_getElem? (i := 24) rfl)) (notFace_of_selects (args := #[]) (mvT hZ (hw _ (List.mem_of_getElem? (i := 26) rfl)))) (hw _ (List.mem_of_getElem? (i := 26) rfl)) (hw _ (List.mem_of_getElem? (i := 25) rfl)) (hw _ (List.mem_of_getElem? (i := 3) rfl)) (hw _ (List.mem_of_getElem? (i := 27) rfl)) (by decide) (rm_get2 l Z a0 hw [] a0' P h0 n0 FP) (W := 0) (by decide) (by decide) e5 EA (g := (mkF m 12 #[.val (.ref a0'), .val (.int p1), .val (.int (2 : Int32))] [(.int (2 : Int32)), (.ref a0')])) rfl (by rw [hml]; rfl) (argsL := [(.int (2 : Int32))]) (rest := []) rfl (lenOf pd__I_I rfl) rfl (by show 2 * 0 + _ ≤ _; exact Nat.le_of_eq rfl) (hb hby d_prog_69_method_2_code_12) (by decide) (by decide)
  obtain ⟨rfl, Nq6, eq6⟩ := hQ6
  have N6 := Fr.app N4 Nq6
  refine go st6 ?_
  refine go (fun _ k => by refine XS.iloadN X6.here hx rfl (hb hby d_prog_69_method_2_code_15) rfl ?_; exact k) ?_
  show OwnEnd _ _ _ _ _ _ _ (T6.setTop (mkF m 16 #[.val (.ref a0'), .val (.int p1), .val (.int (2 : Int32))] [(.int p1), (.int (own_get P (16 : Int32)))]))
  refine go (fun _ k => by refine XS.icmpYes X6.here hx rfl (pc0 := 16) (pc' := 20) rfl (hb hby d_prog_69_method_2_code_16) rfl (feq ne2).2 (by decide) (by decide) ?_; exact k) ?_
  show OwnEnd _ _ _ _ _ _ _ (T6.setTop (mkF m 20 #[.val (.ref a0'), .val (.int p1), .val (.int (2 : Int32))] []))
  refine go (fun _ k => by refine XS.iinc X6.here hx rfl (hb hby d_prog_69_method_2_code_20) rfl (l' := #[.val (.ref a0'), .val (.int p1), .val (.int ((2 : Int32) + (1 : Int32)))]) rfl ?_; exact k) ?_
  show OwnEnd _ _ _ _ _ _ _ (T6.setTop (mkF m 23 #[.val (.ref a0'), .val (.int p1), .val (.int ((2 : Int32) + (1 : Int32)))] []))
  rw [show ((2 : Int32) + (1 : Int32)) = (3 : Int32) from by decide]
  refine go (fun _ k => by refine XS.goto X6.here hx rfl (pc0 := 23) (pc' := 2) rfl (hb hby d_prog_69_method_2_code_23) (by decide) (by decide) ?_; exact k) ?_
  refine go (fun _ k => by refine XS.iloadN X6.here hx rfl (hb hby d_prog_69_method_2_code_2) rfl ?_; exact k) ?_
  refine go (fun _ k => by refine XS.aloadN X6.here hx rfl (hb hby d_prog_69_method_2_code_3) rfl rfl ?_; exact k) ?_
  show OwnEnd _ _ _ _ _ _ _ (T6.setTop (mkF m 4 #[.val (.ref a0'), .val (.int p1), .val (.int (3 : Int32))] [(.ref a0'), (.int (3 : Int32))]))
  obtain ⟨T7, X7, e7, st7⟩ := getF X6 hx hZ hown (host := "") (Or.inl (hw _ (List.mem_of_getElem? (i := 19) rfl))) Via.refl eq6 FS (g := (mkF m 4 #[.val (.ref a0'), .val (.int p1), .val (.int (3 : Int32))] [(.ref a0'), (.int (3 : Int32))])) rfl rfl (hb hby d_prog_69_method_2_code_4)
  refine go st7 ?_
  show OwnEnd _ _ _ _ _ _ _ (T7.setTop (mkF m 7 #[.val (.ref a0'), .val (.int p1), .val (.int (3 : Int32))] [(.int (5 : Int32)), (.int (3 : Int32))]))
  refine go (fun _ k => by refine XS.icmpNo X7.here hx rfl (hb hby d_prog_69_method_2_code_7) rfl (tlt (by decide)).2.1 ?_; exact k) ?_
  refine go (fun _ k => by refine XS.aloadN X7.here hx rfl (hb hby d_prog_69_method_2_code_10) rfl rfl ?_; exact k) ?_
  refine go (fun _ k => by refine XS.iloadN X7.here hx rfl (hb hby d_prog_69_method_2_code_11) rfl ?_; exact k) ?_
  show OwnEnd _ _ _ _ _ _ _ (T7.setTop (mkF m 12 #[.val (.ref a0'), .val (.int p1), .val (.int (3 : Int32))] [(.int (3 : Int32)), (.ref a0')]))
  obtain ⟨_, T8, L8, X8, hQ8, st8⟩ := callVirt X7 hx hZ hown (hw _ (List.mem_of_getElem? (i := 23) rfl)) (hw _ (List.mem_of_getElem? (i := 24) rfl)) (notFace_of_selects (args := #[]) (mvT hZ (hw _ (List.mem_of_getElem? (i := 26) rfl)))) (hw _ (List.mem_of_getElem? (i := 26) rfl)) (hw _ (List.mem_of_getElem? (i := 25) rfl)) (hw _ (List.mem_of_getElem? (i := 3) rfl)) (hw _ (List.mem_of_getElem? (i := 27) rfl)) (by decide) (rm_get3 l Z a0 hw [] a0' P h0 n0 FP) (W := 0) (by decide) (by decide) e7 EA (g := (mkF m 12 #[.val (.ref a0'), .val (.int p1), .val (.int (3 : Int32))] [(.int (3 : Int32)), (.ref a0')])) rfl (by rw [hml]; rfl) (argsL := [(.int (3 : Int32))]) (rest := []) rfl (lenOf pd__I_I rfl) rfl (by show 2 * 0 + _ ≤ _; exact Nat.le_of_eq rfl) (hb hby d_prog_69_method_2_code_12) (by decide) (by decide)
  obtain ⟨rfl, Nq8, eq8⟩ := hQ8
  have N8 := Fr.app N6 Nq8
  refine go st8 ?_
  refine go (fun _ k => by refine XS.iloadN X8.here hx rfl (hb hby d_prog_69_method_2_code_15) rfl ?_; exact k) ?_
  show OwnEnd _ _ _ _ _ _ _ (T8.setTop (mkF m 16 #[.val (.ref a0'), .val (.int p1), .val (.int (3 : Int32))] [(.int p1), (.int (own_get P (24 : Int32)))]))
  refine go (fun _ k => by refine XS.icmpYes X8.here hx rfl (pc0 := 16) (pc' := 20) rfl (hb hby d_prog_69_method_2_code_16) rfl (feq ne3).2 (by decide) (by decide) ?_; exact k) ?_
  show OwnEnd _ _ _ _ _ _ _ (T8.setTop (mkF m 20 #[.val (.ref a0'), .val (.int p1), .val (.int (3 : Int32))] []))
  refine go (fun _ k => by refine XS.iinc X8.here hx rfl (hb hby d_prog_69_method_2_code_20) rfl (l' := #[.val (.ref a0'), .val (.int p1), .val (.int ((3 : Int32) + (1 : Int32)))]) rfl ?_; exact k) ?_
  show OwnEnd _ _ _ _ _ _ _ (T8.setTop (mkF m 23 #[.val (.ref a0'), .val (.int p1), .val (.int ((3 : Int32) + (1 : Int32)))] []))
  rw [show ((3 : Int32) + (1 : Int32)) = (4 : Int32) from by decide]
  refine go (fun _ k => by refine XS.goto X8.here hx rfl (pc0 := 23) (pc' := 2) rfl (hb hby d_prog_69_method_2_code_23) (by decide) (by decide) ?_; exact k) ?_
  refine go (fun _ k => by refine XS.iloadN X8.here hx rfl (hb hby d_prog_69_method_2_code_2) rfl ?_; exact k) ?_
  refine go (fun _ k => by refine XS.aloadN X8.here hx rfl (hb hby d_prog_69_method_2_code_3) rfl rfl ?_; exact k) ?_
  show OwnEnd _ _ _ _ _ _ _ (T8.setTop (mkF m 4 #[.val (.ref a0'), .val (.int p1), .val (.int (4 : Int32))] [(.ref a0'), (.int (4 : Int32))]))
  obtain ⟨T9, X9, e9, st9⟩ := getF X8 hx hZ hown (host := "") (Or.inl (hw _ (List.mem_of_getElem? (i := 19) rfl))) Via.refl eq8 FS (g := (mkF m 4 #[.val (.ref a0'), .val (.int p1), .val (.int (4 : Int32))] [(.ref a0'), (.int (4 : Int32))])) rfl rfl (hb hby d_prog_69_method_2_code_4)
  refine go st9 ?_
  show OwnEnd _ _ _ _ _ _ _ (T9.setTop (mkF m 7 #[.val (.ref a0'), .val (.int p1), .val (.int (4 : Int32))] [(.int (5 : Int32)), (.int (4 : Int32))]))
  refine go (fun _ k => by refine XS.icmpNo X9.here hx rfl (hb hby d_prog_69_method_2_code_7) rfl (tlt (by decide)).2.1 ?_; exact k) ?_
  refine go (fun _ k => by refine XS.aloadN X9.here hx rfl (hb hby d_prog_69_method_2_code_10) rfl rfl ?_; exact k) ?_
  refine go (fun _ k => by refine XS.iloadN X9.here hx rfl (hb hby d_prog_69_method_2_code_11) rfl ?_; exact k) ?_
  show OwnEnd _ _ _ _ _ _ _ (T9.setTop (mkF m 12 #[.val (.ref a0'), .val (.int p1), .val (.int (4 : Int32))] [(.int (4 : Int32)), (.ref a0')]))
  obtain ⟨_, T10, L10, X10, hQ10, st10⟩ := callVirt X9 hx hZ hown (hw _ (List.mem_of_getElem? (i := 23) rfl)) (hw _ (List.mem_of_getElem? (i := 24) rfl)) (notFace_of_selects (args := #[]) (mvT hZ (hw _ (List.mem_of_getElem? (i := 26) rfl)))) (hw _ (List.mem_of_getElem? (i := 26) rfl)) (hw _ (List.mem_of_getElem? (i := 25) rfl)) (hw _ (List.mem_of_getElem? (i := 3) rfl)) (hw _ (List.mem_of_getElem? (i := 27) rfl)) (by decide) (rm_get4 l Z a0 hw [] a0' P h0 n0 FP) (W := 0) (by decide) (by decide) e9 EA (g := (mkF m 12 #[.val (.ref a0'), .val (.int p1), .val (.int (4 : Int32))] [(.int (4 : Int32)), (.ref a0')])) rfl (by rw [hml]; rfl) (argsL := [(.int (4 : Int32))]) (rest := []) rfl (lenOf pd__I_I rfl) rfl (by show 2 * 0 + _ ≤ _; exact Nat.le_of_eq rfl) (hb hby d_prog_69_method_2_code_12) (by decide) (by decide)
  obtain ⟨rfl, Nq10, eq10⟩ := hQ10
  have N10 := Fr.app N8 Nq10
  refine go st10 ?_
  refine go (fun _ k => by refine XS.iloadN X10.here hx rfl (hb hby d_prog_69_method_2_code_15) rfl ?_; exact k) ?_
  show OwnEnd _ _ _ _ _ _ _ (T10.setTop (mkF m 16 #[.val (.ref a0'), .val (.int p1), .val (.int (4 : Int32))] [(.int p1), (.int (own_get P (32 : Int32)))]))
  refine go (fun _ k => by refine XS.icmpYes X10.here hx rfl (pc0 := 16) (pc' := 20) rfl (hb hby d_prog_69_method_2_code_16) rfl (feq ne4).2 (by decide) (by decide) ?_; exact k) ?_
  show OwnEnd _ _ _ _ _ _ _ (T10.setTop (mkF m 20 #[.val (.ref a0'), .val (.int p1), .val (.int (4 : Int32))] []))
  refine go (fun _ k => by refine XS.iinc X10.here hx rfl (hb hby d_prog_69_method_2_code_20) rfl (l' := #[.val (.ref a0'), .val (.int p1), .val (.int ((4 : Int32) + (1 : Int32)))]) rfl ?_; exact k) ?_
  show OwnEnd _ _ _ _ _ _ _ (T10.setTop (mkF m 23 #[.val (.ref a0'), .val (.int p1), .val (.int ((4 : Int32) + (1 : Int32)))] []))
  rw [show ((4 : Int32) + (1 : Int32)) = (5 : Int32) from by decide]
  refine go (fun _ k => by refine XS.goto X10.here hx rfl (pc0 := 23) (pc' := 2) rfl (hb hby d_prog_69_method_2_code_23) (by decide) (by decide) ?_; exact k) ?_
  refine go (fun _ k => by refine XS.iloadN X10.here hx rfl (hb hby d_prog_69_method_2_code_2) rfl ?_; exact k) ?_
  refine go (fun _ k => by refine XS.aloadN X10.here hx rfl (hb hby d_prog_69_method_2_code_3) rfl rfl ?_; exact k) ?_
  show OwnEnd _ _ _ _ _ _ _ (T10.setTop (mkF m 4 #[.val (.ref a0'), .val (.int p1), .val (.int (5 : Int32))] [(.ref a0'), (.int (5 : Int32))]))
  obtain ⟨T11, X11, e11, st11⟩ := getF X10 hx hZ hown (host := "") (Or.inl (hw _ (List.mem_of_getElem? (i := 19) rfl))) Via.refl eq10 FS (g := (mkF m 4 #[.val (.ref a0'), .val (.int p1), .val (.int (5 : Int32))] [(.ref a0'), (.int (5 : Int32))])) rfl rfl (hb hby d_prog_69_method_2_code_4)
  refine go st11 ?_
  show OwnEnd _ _ _ _ _ _ _ (T11.setTop (mkF m 7 #[.val (.ref a0'), .val (.int p1), .val (.int (5 : Int32))] [(.int (5 : Int32)), (.int (5 : Int32))]))
  refine go (fun _ k => by refine XS.icmpYes X11.here hx rfl (pc0 := 7) (pc' := 26) rfl (hb hby d_prog_69_method_2_code_7) rfl (flt (by decide)).2.1 (by decide) (by decide) ?_; exact k) ?_
  refine go (fun _ k => by refine XS.aloadN X11.here hx rfl (hb hby d_prog_69_method_2_code_26) rfl rfl ?_; exact k) ?_
  show OwnEnd _ _ _ _ _ _ _ (T11.setTop (mkF m 27 #[.val (.ref a0'), .val (.int p1), .val (.int (5 : Int32))] [(.ref a0')]))
  obtain ⟨T12, X12, e12, st12⟩ := getF X11 hx hZ hown (host := "") (Or.inl (hw _ (List.mem_of_getElem? (i := 19) rfl))) Via.refl e11 FS (g := (mkF m 27 #[.val (.ref a0'), .val (.int p1), .val (.int (5 : Int32))] [(.ref a0')])) rfl rfl (hb hby d_prog_69_method_2_code_27)
  refine go st12 ?_
  refine go (fun _ k => by refine XS.bipush X12.here hx rfl (hb hby d_prog_69_method_2_code_30) ?_; exact k) ?_
  show OwnEnd _ _ _ _ _ _ _ (T12.setTop (mkF m 32 #[.val (.ref a0'), .val (.int p1), .val (.int (5 : Int32))] [(.int (8 : Int32)), (.int (5 : Int32))]))
  refine go (fun _ k => by refine XS.icmpNo X12.here hx rfl (hb hby d_prog_69_method_2_code_32) rfl (tlt (by decide)).2.1 ?_; exact k) ?_
  refine go (fun _ k => by refine XS.aloadN X12.here hx rfl (hb hby d_prog_69_method_2_code_35) rfl rfl ?_; exact k) ?_
  refine go (fun _ k => by refine XS.dup X12.here hx rfl (hb hby d_prog_69_method_2_code_36) rfl rfl ?_; exact k) ?_
  show OwnEnd _ _ _ _ _ _ _ (T12.setTop (mkF m 37 #[.val (.ref a0'), .val (.int p1), .val (.int (5 : Int32))] [(.ref a0'), (.ref a0')]))
  obtain ⟨T13, X13, e13, st13⟩ := getF X12 hx hZ hown (host := "") (Or.inl (hw _ (List.mem_of_getElem? (i := 21) rfl))) Via.refl e12 FP (g := (mkF m 37 #[.val (.ref a0'), .val (.int p1), .val (.int (5 : Int32))] [(.ref a0'), (.ref a0')])) rfl rfl (hb hby d_prog_69_method_2_code_37)
  refine go st13 ?_
  refine go (fun _ k => by refine XS.iloadN X13.here hx rfl (hb hby d_prog_69_method_2_code_40) rfl ?_; exact k) ?_
  refine go (fun _ k => by refine XS.i2l X13.here hx rfl (hb hby d_prog_69_method_2_code_41) rfl ?_; exact k) ?_
  refine go (fun _ k => by refine XS.bipush X13.here hx rfl (hb hby d_prog_69_method_2_code_42) ?_; exact k) ?_
  show OwnEnd _ _ _ _ _ _ _ (T13.setTop (mkF m 44 #[.val (.ref a0'), .val (.int p1), .val (.int (5 : Int32))] [(.int (8 : Int32)), (.long (p1.toInt64)), (.long P), (.ref a0')]))
  refine go (fun _ k => by refine XS.aloadN X13.here hx rfl (hb hby d_prog_69_method_2_code_44) rfl rfl ?_; exact k) ?_
  show OwnEnd _ _ _ _ _ _ _ (T13.setTop (mkF m 45 #[.val (.ref a0'), .val (.int p1), .val (.int (5 : Int32))] [(.ref a0'), (.int (8 : Int32)), (.long (p1.toInt64)), (.long P), (.ref a0')]))
  obtain ⟨T14, X14, e14, st14⟩ := getF X13 hx hZ hown (host := "") (Or.inl (hw _ (List.mem_of_getElem? (i := 19) rfl))) Via.refl e13 FS (g := (mkF m 45 #[.val (.ref a0'), .val (.int p1), .val (.int (5 : Int32))] [(.ref a0'), (.int (8 : Int32)), (.long (p1.toInt64)), (.long P), (.ref a0')])) rfl rfl (hb hby d_prog_69_method_2_code_45)
  refine go st14 ?_
  refine go (fun _ k => by refine XS.imul X14.here hx rfl (hb hby d_prog_69_method_2_code_48) rfl ?_; exact k) ?_
  show OwnEnd _ _ _ _ _ _ _ (T14.setTop (mkF m 49 #[.val (.ref a0'), .val (.int p1), .val (.int (5 : Int32))] [(.int ((8 : Int32) * (5 : Int32))), (.long (p1.toInt64)), (.long P), (.ref a0')]))
  rw [show ((8 : Int32) * (5 : Int32)) = (40 : Int32) from by decide]
  refine go (fun _ k => by refine XS.lshl X14.here hx rfl (hb hby d_prog_69_method_2_code_49) rfl ?_; exact k) ?_
  refine go (fun _ k => by refine XS.lor X14.here hx rfl (hb hby d_prog_69_method_2_code_50) rfl ?_; exact k) ?_
  show OwnEnd _ _ _ _ _ _ _ (T14.setTop (mkF m 51 #[.val (.ref a0'), .val (.int p1), .val (.int (5 : Int32))] [(.long (P ||| ((p1.toInt64) <<< ((40 : Int32) &&& 0x3f).toInt64))), (.ref a0')]))
  obtain ⟨T15, h15, X15, e15, W15, st15⟩ := putF X14 hx hZ hown (host := "") (Or.inl (hw _ (List.mem_of_getElem? (i := 21) rfl))) Via.refl e14 FP EA (Or.inl (hw _ (List.mem_of_getElem? (i := 22) rfl))) (hw _ (List.mem_of_getElem? (i := 2) rfl)) (ty := .long) (by decide) rfl rfl (g := (mkF m 51 #[.val (.ref a0'), .val (.int p1), .val (.int (5 : Int32))] [(.long (P ||| ((p1.toInt64) <<< ((40 : Int32) &&& 0x3f).toInt64))), (.ref a0')])) rfl rfl (hb hby d_prog_69_method_2_code_51)
  have N15 := Fr.snoc X15 N10 ga
  have EA := EA.wr W15
  have FS := FS.other W15 (Or.inr (slot_ne (Or.inl (hw _ (List.mem_of_getElem? (i := 20) rfl))) (Or.inl (hw _ (List.mem_of_getElem? (i := 22) rfl))) (by decide) (t := .int) (t' := .long) (by decide) (by decide)))
  have FM := FM.other W15 (Or.inr (slot_ne (Or.inl (hw _ (List.mem_of_getElem? (i := 34) rfl))) (Or.inl (hw _ (List.mem_of_getElem? (i := 22) rfl))) (by decide) (t := (.array .int)) (t' := .long) (by decide) (by decide)))
  have Z0 := Nat.le_trans Z0 (Keep.of_wr W15).1
  have KK := Keep.wr KK W15 (Or.inl (List.mem_of_getElem? (i := 0) rfl))
  have FP := FP.same W15
  refine go st15 ?_
  refine go (fun _ k => by refine XS.goto X15.here hx rfl (pc0 := 54) (pc' := 62) rfl (hb hby d_prog_69_method_2_code_54) (by decide) (by decide) ?_; exact k) ?_
  refine go (fun _ k => by refine XS.aloadN X15.here hx rfl (hb hby d_prog_69_method_2_code_62) rfl rfl ?_; exact k) ?_
  refine go (fun _ k => by refine XS.dup X15.here hx rfl (hb hby d_prog_69_method_2_code_63) rfl rfl ?_; exact k) ?_
  show OwnEnd _ _ _ _ _ _ _ (T15.setTop (mkF m 64 #[.val (.ref a0'), .val (.int p1), .val (.int (5 : Int32))] [(.ref a0'), (.ref a0')]))
  obtain ⟨T16, X16, e16, st16⟩ := getF X15 hx hZ hown (host := "") (Or.inl (hw _ (List.mem_of_getElem? (i := 19) rfl))) Via.refl e15 FS (g := (mkF m 64 #[.val (.ref a0'), .val (.int p1), .val (.int (5 : Int32))] [(.ref a0'), (.ref a0')])) rfl rfl (hb hby d_prog_69_method_2_code_64)
  refine go st16 ?_
  refine go (fun _ k => by refine XS.iconst X16.here hx rfl (hb hby d_prog_69_method_2_code_67) ?_; exact k) ?_
  refine go (fun _ k => by refine XS.iadd X16.here hx rfl (hb hby d_prog_69_method_2_code_68) rfl ?_; exact k) ?_
  show OwnEnd _ _ _ _ _ _ _ (T16.setTop (mkF m 69 #[.val (.ref a0'), .val (.int p1), .val (.int (5 : Int32))] [(.int ((5 : Int32) + (1 : Int32))), (.ref a0')]))
  rw [show ((5 : Int32) + (1 : Int32)) = (6 : Int32) from by decide]
  show OwnEnd _ _ _ _ _ _ _ (T16.setTop (mkF m 69 #[.val (.ref a0'), .val (.int p1), .val (.int (5 : Int32))] [(.int (6 : Int32)), (.ref a0')]))
  obtain ⟨T17, h17, X17, e17, W17, st17⟩ := putF X16 hx hZ hown (host := "") (Or.inl (hw _ (List.mem_of_getElem? (i := 19) rfl))) Via.refl e16 FS EA (Or.inl (hw _ (List.mem_of_getElem? (i := 20) rfl))) (hw _ (List.mem_of_getElem? (i := 2) rfl)) (ty := .int) (by decide) rfl rfl (g := (mkF m 69 #[.val (.ref a0'), .val (.int p1), .val (.int (5 : Int32))] [(.int (6 : Int32)), (.ref a0')])) rfl rfl (hb hby d_prog_69_method_2_code_69)
  have N17 := Fr.snoc X17 N15 ga
  have EA := EA.wr W17
  have FP := FP.other W17 (Or.inr (slot_ne (Or.inl (hw _ (List.mem_of_getElem? (i := 22) rfl))) (Or.inl (hw _ (List.mem_of_getElem? (i := 20) rfl))) (by decide) (t := .long) (t' := .int) (by decide) (by decide)))
  have FM := FM.other W17 (Or.inr (slot_ne (Or.inl (hw _ (List.mem_of_getElem? (i := 34) rfl))) (Or.inl (hw _ (List.mem_of_getElem? (i := 20) rfl))) (by decide) (t := (.array .int)) (t' := .int) (by decide) (by decide)))
  have Z0 := Nat.le_trans Z0 (Keep.of_wr W17).1
  have KK := Keep.wr KK W17 (Or.inl (List.mem_of_getElem? (i := 0) rfl))
  have FS := FS.same W17
  refine go st17 ?_
  show OwnEnd _ _ _ _ _ _ _ (T17.setTop (mkF m 72 #[.val (.ref a0'), .val (.int p1), .val (.int (5 : Int32))] []))
  refine endV X17 hx hlk Bd.returns (hb hby d_prog_69_method_2_code_72) e17 (by decide) (by decide) ?_
  exact ⟨rfl, N17, KK, EA, FP, FS, FM⟩
theorem ef_rm_add6 (m : MethodId) (y0 : Addr) (y1 : Int32) : entryFrame m #[(.ref y0), (.int y1)] 3 = mkF m 0 #[.val (.ref y0), .val (.int y1), .unset] [] := by first | (simp [entryFrame, mkF, argsToLocals, Value.category]; done) | rfl
def Q_rm_add6 (Z : State) (a0' : Addr) (p1 : Int32) (P : Int64) (h0 : Heap) (n0 : Nat) (v : Option Value) (h : Heap) (L : List Loc) : Prop := v = none ∧ Fr n0 L ∧ Keep h0 h [a0'] ∧ Exa Z h a0' "com/example/waitsfor/waitsfor/ShardSet" ∧ Fld Z h a0' "com/example/waitsfor/waitsfor/ShardSet" "packed" "J" (.long (P ||| (p1.toInt64 <<< ((48 : Int32) &&& 0x3f).toInt64))) ∧ Fld Z h a0' "com/example/waitsfor/waitsfor/ShardSet" "size" "I" (.int 7) ∧ Fld Z h a0' "com/example/waitsfor/waitsfor/ShardSet" "more" "[I" .null
set_option maxRecDepth 65536 in
set_option maxHeartbeats 40000000 in
theorem rm_add6 (l : Launch) (Z : State) (a0 : Array Value) (hw : ∀ d ∈ tables_1, d.before a0 Z = true) (ws : List Jvm.Cond) (a0' : Addr) (p1 : Int32) (P : Int64) (h0 : Heap) (n0 : Nat) (ga : n0 ≤ a0') (EA : Exa Z h0 a0' "com/example/waitsfor/waitsfor/ShardSet") (FP : Fld Z h0 a0' "com/example/waitsfor/waitsfor/ShardSet" "packed" "J" (.long P)) (FS : Fld Z h0 a0' "com/example/waitsfor/waitsfor/ShardSet" "size" "I" (.int 6)) (FM : Fld Z h0 a0' "com/example/waitsfor/waitsfor/ShardSet" "more" "[I" .null) (ne0 : ¬ own_get P (0 : Int32) = p1) (ne1 : ¬ own_get P (8 : Int32) = p1) (ne2 : ¬ own_get P (16 : Int32) = p1) (ne3 : ¬ own_get P (24 : Int32) = p1) (ne4 : ¬ own_get P (32 : Int32) = p1) (ne5 : ¬ own_get P (40 : Int32) = p1) (Z0 : n0 ≤ h0.size) :
    MetFree l (⟨"com/example/waitsfor/waitsfor/ShardSet", "add", "(I)V"⟩ : MethodName) (head1 (Jvm.Cond.code (⟨"com/example/waitsfor/waitsfor/ShardSet", "add", "(I)V"⟩ : MethodName) prog_69_method_2_code 3 none :: ws) ({ frames := 1, cells := 0, slots := 0, locals := 13 } : Room)) (fun a U => a = #[(.ref a0'), (.int p1)] ∧ Z.Warmed39 U.vm ∧ U.heap = h0) (fun _ _ _ _ _ => True) (fun _ U o U' => ∃ v L, o = .returned v ∧ Q_rm_add6 Z a0' p1 P h0 n0 v U'.heap L ∧ FrameEnd U o U' L 0 0) := by
  refine MetFree.of_bodySF (plainFor_of_name pn_com_example_waitsfor_waitsfor_ShardSet) hisR ?_
  intro p e s m args below meth c s₁ Bd hml0 hP hK
  obtain ⟨rfl, hZ, hh⟩ := hP
  have hx := Bd.exec
  have hby := Bd.bytes
  have hlk := Bd.notSynchronized
  have hml : c.maxLocals = 3 := hml0
  have hown : s.vm.findClass "com/example/waitsfor/waitsfor/ShardSet" = some m.cls := findClass_of_methodNamed Bd.named
  have hnm := (name_of_methodNamed Bd.named Bd.method).1
  have X0 : Stand p l e ({ frames := 1, cells := 0, slots := 0, locals := 13 } : Room) s m #[(.ref a0'), (.int p1)] below meth c s₁ [] 0 0 := Stand.of_body Bd
  have e0 : s₁.heap = h0 := by rw [← hh, Bd.state]; rfl
  have N0 := Fr.nil n0
  show OwnEnd p e below s (Q_rm_add6 Z a0' p1 P h0 n0) 0 0 (s₁.setTop (entryFrame m #[(.ref a0'), (.int p1)] 3))
  refine go (fun t k => castTop (ef_rm_add6 m a0' p1) k) ?_
  have KK := Keep.refl h0 [a0']
  show OwnEnd _ _ _ _ _ _ _ (s₁.setTop (mkF m 0 #[.val (.ref a0'), .val (.int p1), .unset] []))
  refine go (fun _ k => by refine XS.iconst X0.here hx rfl (hb hby d_prog_69_method_2_code_0) ?_; exact k) ?_
  refine go (fun _ k => by refine XS.istoreN X0.here hx rfl (hb hby d_prog_69_method_2_code_1) rfl (l' := #[.val (.ref a0'), .val (.int p1), .val (.int (0 : Int32))]) rfl ?_; exact k) ?_
  refine go (fun _ k => by refine XS.iloadN X0.here hx rfl (hb hby d_prog_69_method_2_code_2) rfl ?_; exact k) ?_
  refine go (fun _ k => by refine XS.aloadN X0.here hx rfl (hb hby d_prog_69_method_2_code_3) rfl rfl ?_; exact k) ?_
  show OwnEnd _ _ _ _ _ _ _ (s₁.setTop (mkF m 4 #[.val (.ref a0'), .val (.int p1), .val (.int (0 : Int32))] [(.ref a0'), (.int (0 : Int32))]))
  obtain ⟨T1, X1, e1, st1⟩ := getF X0 hx hZ hown (host := "") (Or.inl (hw _ (List.mem_of_getElem? (i := 19) rfl))) Via.refl e0 FS (g := (mkF m 4 #[.val (.ref a0'), .val (.int p1), .val (.int (0 : Int32))] [(.ref a0'), (.int (0 : Int32))])) rfl rfl (hb hby d_prog_69_method_2_code_4)
  refine go st1 ?_
  show OwnEnd _ _ _ _ _ _ _ (T1.setTop (mkF m 7 #[.val (.ref a0'), .val (.int p1), .val (.int (0 : Int32))] [(.int (6 : Int32)), (.int (0 : Int32))]))
  refine go (fun _ k => by refine XS.icmpNo X1.here hx rfl (hb hby d_prog_69_method_2_code_7) rfl (tlt (by decide)).2.1 ?_; exact k) ?_
  refine go (fun _ k => by refine XS.aloadN X1.here hx rfl (hb hby d_prog_69_method_2_code_10) rfl rfl ?_; exact k) ?_
  refine go (fun _ k => by refine XS.iloadN X1.here hx rfl (hb hby d_prog_69_method_2_code_11) rfl ?_; exact k) ?_
  show OwnEnd _ _ _ _ _ _ _ (T1.setTop (mkF m 12 #[.val (.ref a0'), .val (.int p1), .val (.int (0 : Int32))] [(.int (0 : Int32)), (.ref a0')]))
  obtain ⟨_, T2, L2, X2, hQ2, st2⟩ := callVirt X1 hx hZ hown (hw _ (List.mem_of_getElem? (i := 23) rfl)) (hw _ (List.mem_of_getElem? (i := 24) rfl)) (notFace_of_selects (args := #[]) (mvT hZ (hw _ (List.mem_of_getElem? (i := 26) rfl)))) (hw _ (List.mem_of_getElem? (i := 26) rfl)) (hw _ (List.mem_of_getElem? (i := 25) rfl)) (hw _ (List.mem_of_getElem? (i := 3) rfl)) (hw _ (List.mem_of_getElem? (i := 27) rfl)) (by decide) (rm_get0 l Z a0 hw [] a0' P h0 n0 FP) (W := 0) (by decide) (by decide) e1 EA (g := (mkF m 12 #[.val (.ref a0'), .val (.int p1), .val (.int (0 : Int32))] [(.int (0 : Int32)), (.ref a0')])) rfl (by rw [hml]; rfl) (argsL := [(.int (0 : Int32))]) (rest := []) rfl (lenOf pd__I_I rfl) rfl (by show 2 * 0 + _ ≤ _; exact Nat.le_of_eq rfl) (hb hby d_prog_69_method_2_code_12) (by decide) (by decide)
  obtain ⟨rfl, Nq2, eq2⟩ := hQ2
  have N2 := Fr.app N0 Nq2
  refine go st2 ?_
  refine go (fun _ k => by refine XS.iloadN X2.here hx rfl (hb hby d_prog_69_method_2_code_15) rfl ?_; exact k) ?_
  show OwnEnd _ _ _ _ _ _ _ (T2.setTop (mkF m 16 #[.val (.ref a0'), .val (.int p1), .val (.int (0 : Int32))] [(.int p1), (.int (own_get P (0 : Int32)))]))
  refine go (fun _ k => by refine XS.icmpYes X2.here hx rfl (pc0 := 16) (pc' := 20) rfl (hb hby d_prog_69_method_2_code_16) rfl (feq ne0).2 (by decide) (by decide) ?_; exact k) ?_
  show OwnEnd _ _ _ _ _ _ _ (T2.setTop (mkF m 20 #[.val (.ref a0'), .val (.int p1), .val (.int (0 : Int32))] []))
  refine go (fun _ k => by refine XS.iinc X2.here hx rfl (hb hby d_prog_69_method_2_code_20) rfl (l' := #[.val (.ref a0'), .val (.int p1), .val (.int ((0 : Int32) + (1 : Int32)))]) rfl ?_; exact k) ?_
  show OwnEnd _ _ _ _ _ _ _ (T2.setTop (mkF m 23 #[.val (.ref a0'), .val (.int p1), .val (.int ((0 : Int32) + (1 : Int32)))] []))
  rw [show ((0 : Int32) + (1 : Int32)) = (1 : Int32) from by decide]
  refine go (fun _ k => by refine XS.goto X2.here hx rfl (pc0 := 23) (pc' := 2) rfl (hb hby d_prog_69_method_2_code_23) (by decide) (by decide) ?_; exact k) ?_
  refine go (fun _ k => by refine XS.iloadN X2.here hx rfl (hb hby d_prog_69_method_2_code_2) rfl ?_; exact k) ?_
  refine go (fun _ k => by refine XS.aloadN X2.here hx rfl (hb hby d_prog_69_method_2_code_3) rfl rfl ?_; exact k) ?_
  show OwnEnd _ _ _ _ _ _ _ (T2.setTop (mkF m 4 #[.val (.ref a0'), .val (.int p1), .val (.int (1 : Int32))] [(.ref a0'), (.int (1 : Int32))]))
  obtain ⟨T3, X3, e3, st3⟩ := getF X2 hx hZ hown (host := "") (Or.inl (hw _ (List.mem_of_getElem? (i := 19) rfl))) Via.refl eq2 FS (g := (mkF m 4 #[.val (.ref a0'), .val (.int p1), .val (.int (1 : Int32))] [(.ref a0'), (.int (1 : Int32))])) rfl rfl (hb hby d_prog_69_method_2_code_4)
  refine go st3 ?_
  show OwnEnd _ _ _ _ _ _ _ (T3.setTop (mkF m 7 #[.val (.ref a0'), .val (.int p1), .val (.int (1 : Int32))] [(.int (6 : Int32)), (.int (1 : Int32))]))
  refine go (fun _ k => by refine XS.icmpNo X3.here hx rfl (hb hby d_prog_69_method_2_code_7) rfl (tlt (by decide)).2.1 ?_; exact k) ?_
  refine go (fun _ k => by refine XS.aloadN X3.here hx rfl (hb hby d_prog_69_method_2_code_10) rfl rfl ?_; exact k) ?_
  refine go (fun _ k => by refine XS.iloadN X3.here hx rfl (hb hby d_prog_69_method_2_code_11) rfl ?_; exact k) ?_
  show OwnEnd _ _ _ _ _ _ _ (T3.setTop (mkF m 12 #[.val (.ref a0'), .val (.int p1), .val (.int (1 : Int32))] [(.int (1 : Int32)), (.ref a0')]))
  obtain ⟨_, T4, L4, X4, hQ4, st4⟩ := callVirt X3 hx hZ hown (hw _ (List.mem_of_getElem? (i := 23) rfl)) (hw _ (List.mem_of_getElem? (i := 24) rfl)) (notFace_of_selects (args := #[]) (mvT hZ (hw _ (List.mem_of_getElem? (i := 26) rfl)))) (hw _ (List.mem_of_getElem? (i := 26) rfl)) (hw _ (List.mem_of_getElem? (i := 25) rfl)) (hw _ (List.mem_of_getElem? (i := 3) rfl)) (hw _ (List.mem_of_getElem? (i := 27) rfl)) (by decide) (rm_get1 l Z a0 hw [] a0' P h0 n0 FP) (W := 0) (by decide) (by decide) e3 EA (g := (mkF m 12 #[.val (.ref a0'), .val (.int p1), .val (.int (1 : Int32))] [(.int (1 : Int32)), (.ref a0')])) rfl (by rw [hml]; rfl) (argsL := [(.int (1 : Int32))]) (rest := []) rfl (lenOf pd__I_I rfl) rfl (by show 2 * 0 + _ ≤ _; exact Nat.le_of_eq rfl) (hb hby d_prog_69_method_2_code_12) (by decide) (by decide)
  obtain ⟨rfl, Nq4, eq4⟩ := hQ4
  have N4 := Fr.app N2 Nq4
  refine go st4 ?_
  refine go (fun _ k => by refine XS.iloadN X4.here hx rfl (hb hby d_prog_69_method_2_code_15) rfl ?_; exact k) ?_
  show OwnEnd _ _ _ _ _ _ _ (T4.setTop (mkF m 16 #[.val (.ref a0'), .val (.int p1), .val (.int (1 : Int32))] [(.int p1), (.int (own_get P (8 : Int32)))]))
  refine go (fun _ k => by refine XS.icmpYes X4.here hx rfl (pc0 := 16) (pc' := 20) rfl (hb hby d_prog_69_method_2_code_16) rfl (feq ne1).2 (by decide) (by decide) ?_; exact k) ?_
  show OwnEnd _ _ _ _ _ _ _ (T4.setTop (mkF m 20 #[.val (.ref a0'), .val (.int p1), .val (.int (1 : Int32))] []))
  refine go (fun _ k => by refine XS.iinc X4.here hx rfl (hb hby d_prog_69_method_2_code_20) rfl (l' := #[.val (.ref a0'), .val (.int p1), .val (.int ((1 : Int32) + (1 : Int32)))]) rfl ?_; exact k) ?_
  show OwnEnd _ _ _ _ _ _ _ (T4.setTop (mkF m 23 #[.val (.ref a0'), .val (.int p1), .val (.int ((1 : Int32) + (1 : Int32)))] []))
  rw [show ((1 : Int32) + (1 : Int32)) = (2 : Int32) from by decide]
  refine go (fun _ k => by refine XS.goto X4.here hx rfl (pc0 := 23) (pc' := 2) rfl (hb hby d_prog_69_method_2_code_23) (by decide) (by decide) ?_; exact k) ?_
  refine go (fun _ k => by refine XS.iloadN X4.here hx rfl (hb hby d_prog_69_method_2_code_2) rfl ?_; exact k) ?_
  refine go (fun _ k => by refine XS.aloadN X4.here hx rfl (hb hby d_prog_69_method_2_code_3) rfl rfl ?_; exact k) ?_
  show OwnEnd _ _ _ _ _ _ _ (T4.setTop (mkF m 4 #[.val (.ref a0'), .val (.int p1), .val (.int (2 : Int32))] [(.ref a0'), (.int (2 : Int32))]))
  obtain ⟨T5, X5, e5, st5⟩ := getF X4 hx hZ hown (host := "") (Or.inl (hw _ (List.mem_of_getElem? (i := 19) rfl))) Via.refl eq4 FS (g := (mkF m 4 #[.val (.ref a0'), .val (.int p1), .val (.int (2 : Int32))] [(.ref a0'), (.int (2 : Int32))])) rfl rfl (hb hby d_prog_69_method_2_code_4)
  refine go st5 ?_
  show OwnEnd _ _ _ _ _ _ _ (T5.setTop (mkF m 7 #[.val (.ref a0'), .val (.int p1), .val (.int (2 : Int32))] [(.int (6 : Int32)), (.int (2 : Int32))]))
  refine go (fun _ k => by refine XS.icmpNo X5.here hx rfl (hb hby d_prog_69_method_2_code_7) rfl (tlt (by decide)).2.1 ?_; exact k) ?_
  refine go (fun _ k => by refine XS.aloadN X5.here hx rfl (hb hby d_prog_69_method_2_code_10) rfl rfl ?_; exact k) ?_
  refine go (fun _ k => by refine XS.iloadN X5.here hx rfl (hb hby d_prog_69_method_2_code_11) rfl ?_; exact k) ?_
  show OwnEnd _ _ _ _ _ _ _ (T5.setTop (mkF m 12 #[.val (.ref a0'), .val (.int p1), .val (.int (2 : Int32))] [(.int (2 : Int32)), (.ref a0')]))
  obtain ⟨_, T6, L6, X6, hQ6, st6⟩ := callVirt X5 hx hZ hown (hw _ (List.mem_of_getElem? (i := 23) rfl)) (hw _ (List.mem_of_getElem? (i := 24) rfl)) (notFace_of_selects (args := #[]) (mvT hZ (hw _ (List.mem_of_getElem? (i := 26) rfl)))) (hw _ (List.mem_of_getElem? (i := 26) rfl)) (hw _ (List.mem_of_getElem? (i := 25) rfl)) (hw _ (List.mem_of_getElem? (i := 3) rfl)) (hw _ (List.mem_of_getElem? (i := 27) rfl)) (by decide) (rm_get2 l Z a0 hw [] a0' P h0 n0 FP) (W := 0) (by decide) (by decide) e5 EA (g := (mkF m 12 #[.val (.ref a0'), .val (.int p1), .val (.int (2 : Int32))] [(.int (2 : Int32)), (.ref a0')])) rfl (by rw [hml]; rfl) (argsL := [(.int (2 : Int32))]) (rest := []) rfl (lenOf pd__I_I rfl) rfl (by show 2 * 0 + _ ≤ _; exact Nat.le_of_eq rfl) (hb hby d_prog_69_method_2_code_12) (by decide) (by decide)
  obtain ⟨rfl, Nq6, eq6⟩ := hQ6
  have N6 := Fr.app N4 Nq6
  refine go st6 ?_
  refine go (fun _ k => by refine XS.iloadN X6.here hx rfl (hb hby d_prog_69_method_2_code_15) rfl ?_; exact k) ?_
  show OwnEnd _ _ _ _ _ _ _ (T6.setTop (mkF m 16 #[.val (.ref a0'), .val (.int p1), .val (.int (2 : Int32))] [(.int p1), (.int (own_get P (16 : Int32)))]))
  refine go (fun _ k => by refine XS.icmpYes X6.here hx rfl (pc0 := 16) (pc' := 20) rfl (hb hby d_prog_69_method_2_code_16) rfl (feq ne2).2 (by decide) (by decide) ?_; exact k) ?_
  show OwnEnd _ _ _ _ _ _ _ (T6.setTop (mkF m 20 #[.val (.ref a0'), .val (.int p1), .val (.int (2 : Int32))] []))
  refine go (fun _ k => by refine XS.iinc X6.here hx rfl (hb hby d_prog_69_method_2_code_20) rfl (l' := #[.val (.ref a0'), .val (.int p1), .val (.int ((2 : Int32) + (1 : Int32)))]) rfl ?_; exact k) ?_
  show OwnEnd _ _ _ _ _ _ _ (T6.setTop (mkF m 23 #[.val (.ref a0'), .val (.int p1), .val (.int ((2 : Int32) + (1 : Int32)))] []))
  rw [show ((2 : Int32) + (1 : Int32)) = (3 : Int32) from by decide]
  refine go (fun _ k => by refine XS.goto X6.here hx rfl (pc0 := 23) (pc' := 2) rfl (hb hby d_prog_69_method_2_code_23) (by decide) (by decide) ?_; exact k) ?_
  refine go (fun _ k => by refine XS.iloadN X6.here hx rfl (hb hby d_prog_69_method_2_code_2) rfl ?_; exact k) ?_
  refine go (fun _ k => by refine XS.aloadN X6.here hx rfl (hb hby d_prog_69_method_2_code_3) rfl rfl ?_; exact k) ?_
  show OwnEnd _ _ _ _ _ _ _ (T6.setTop (mkF m 4 #[.val (.ref a0'), .val (.int p1), .val (.int (3 : Int32))] [(.ref a0'), (.int (3 : Int32))]))
  obtain ⟨T7, X7, e7, st7⟩ := getF X6 hx hZ hown (host := "") (Or.inl (hw _ (List.mem_of_getElem? (i := 19) rfl))) Via.refl eq6 FS (g := (mkF m 4 #[.val (.ref a0'), .val (.int p1), .val (.int (3 : Int32))] [(.ref a0'), (.int (3 : Int32))])) rfl rfl (hb hby d_prog_69_method_2_code_4)
  refine go st7 ?_
  show OwnEnd _ _ _ _ _ _ _ (T7.setTop (mkF m 7 #[.val (.ref a0'), .val (.int p1), .val (.int (3 : Int32))] [(.int (6 : Int32)), (.int (3 : Int32))]))
  refine go (fun _ k => by refine XS.icmpNo X7.here hx rfl (hb hby d_prog_69_method_2_code_7) rfl (tlt (by decide)).2.1 ?_; exact k) ?_
  refine go (fun _ k => by refine XS.aloadN X7.here hx rfl (hb hby d_prog_69_method_2_code_10) rfl rfl ?_; exact k) ?_
  refine go (fun _ k => by refine XS.iloadN X7.here hx rfl (hb hby d_prog_69_method_2_code_11) rfl ?_; exact k) ?_
  show OwnEnd _ _ _ _ _ _ _ (T7.setTop (mkF m 12 #[.val (.ref a0'), .val (.int p1), .val (.int (3 : Int32))] [(.int (3 : Int32)), (.ref a0')]))
  obtain ⟨_, T8, L8, X8, hQ8, st8⟩ := callVirt X7 hx hZ hown (hw _ (List.mem_of_getElem? (i := 23) rfl)) (hw _ (List.mem_of_getElem? (i := 24) rfl)) (notFace_of_selects (args := #[]) (mvT hZ (hw _ (List.mem_of_getElem? (i := 26) rfl)))) (hw _ (List.mem_of_getElem? (i := 26) rfl)) (hw _ (List.mem_of_getElem? (i := 25) rfl)) (hw _ (List.mem_of_getElem? (i := 3) rfl)) (hw _ (List.mem_of_getElem? (i := 27) rfl)) (by decide) (rm_get3 l Z a0 hw [] a0' P h0 n0 FP) (W := 0) (by decide) (by decide) e7 EA (g := (mkF m 12 #[.val (.ref a0'), .val (.int p1), .val (.int (3 : Int32))] [(.int (3 : Int32)), (.ref a0')])) rfl (by rw [hml]; rfl) (argsL := [(.int (3 : Int32))]) (rest := []) rfl (lenOf pd__I_I rfl) rfl (by show 2 * 0 + _ ≤ _; exact Nat.le_of_eq rfl) (hb hby d_prog_69_method_2_code_12) (by decide) (by decide)
  obtain ⟨rfl, Nq8, eq8⟩ := hQ8
  have N8 := Fr.app N6 Nq8
  refine go st8 ?_
  refine go (fun _ k => by refine XS.iloadN X8.here hx rfl (hb hby d_prog_69_method_2_code_15) rfl ?_; exact k) ?_
  show OwnEnd _ _ _ _ _ _ _ (T8.setTop (mkF m 16 #[.val (.ref a0'), .val (.int p1), .val (.int (3 : Int32))] [(.int p1), (.int (own_get P (24 : Int32)))]))
  refine go (fun _ k => by refine XS.icmpYes X8.here hx rfl (pc0 := 16) (pc' := 20) rfl (hb hby d_prog_69_method_2_code_16) rfl (feq ne3).2 (by decide) (by decide) ?_; exact k) ?_
  show OwnEnd _ _ _ _ _ _ _ (T8.setTop (mkF m 20 #[.val (.ref a0'), .val (.int p1), .val (.int (3 : Int32))] []))
  refine go (fun _ k => by refine XS.iinc X8.here hx rfl (hb hby d_prog_69_method_2_code_20) rfl (l' := #[.val (.ref a0'), .val (.int p1), .val (.int ((3 : Int32) + (1 : Int32)))]) rfl ?_; exact k) ?_
  show OwnEnd _ _ _ _ _ _ _ (T8.setTop (mkF m 23 #[.val (.ref a0'), .val (.int p1), .val (.int ((3 : Int32) + (1 : Int32)))] []))
  rw [show ((3 : Int32) + (1 : Int32)) = (4 : Int32) from by decide]
  refine go (fun _ k => by refine XS.goto X8.here hx rfl (pc0 := 23) (pc' := 2) rfl (hb hby d_prog_69_method_2_code_23) (by decide) (by decide) ?_; exact k) ?_
  refine go (fun _ k => by refine XS.iloadN X8.here hx rfl (hb hby d_prog_69_method_2_code_2) rfl ?_; exact k) ?_
  refine go (fun _ k => by refine XS.aloadN X8.here hx rfl (hb hby d_prog_69_method_2_code_3) rfl rfl ?_; exact k) ?_
  show OwnEnd _ _ _ _ _ _ _ (T8.setTop (mkF m 4 #[.val (.ref a0'), .val (.int p1), .val (.int (4 : Int32))] [(.ref a0'), (.int (4 : Int32))]))
  obtain ⟨T9, X9, e9, st9⟩ := getF X8 hx hZ hown (host := "") (Or.inl (hw _ (List.mem_of_getElem? (i := 19) rfl))) Via.refl eq8 FS (g := (mkF m 4 #[.val (.ref a0'), .val (.int p1), .val (.int (4 : Int32))] [(.ref a0'), (.int (4 : Int32))])) rfl rfl (hb hby d_prog_69_method_2_code_4)
  refine go st9 ?_
  show OwnEnd _ _ _ _ _ _ _ (T9.setTop (mkF m 7 #[.val (.ref a0'), .val (.int p1), .val (.int (4 : Int32))] [(.int (6 : Int32)), (.int (4 : Int32))]))
  refine go (fun _ k => by refine XS.icmpNo X9.here hx rfl (hb hby d_prog_69_method_2_code_7) rfl (tlt (by decide)).2.1 ?_; exact k) ?_
  refine go (fun _ k => by refine XS.aloadN X9.here hx rfl (hb hby d_prog_69_method_2_code_10) rfl rfl ?_; exact k) ?_
  refine go (fun _ k => by refine XS.iloadN X9.here hx rfl (hb hby d_prog_69_method_2_code_11) rfl ?_; exact k) ?_
  show OwnEnd _ _ _ _ _ _ _ (T9.setTop (mkF m 12 #[.val (.ref a0'), .val (.int p1), .val (.int (4 : Int32))] [(.int (4 : Int32)), (.ref a0')]))
  obtain ⟨_, T10, L10, X10, hQ10, st10⟩ := callVirt X9 hx hZ hown (hw _ (List.mem_of_getElem? (i := 23) rfl)) (hw _ (List.mem_of_getElem? (i := 24) rfl)) (notFace_of_selects (args := #[]) (mvT hZ (hw _ (List.mem_of_getElem? (i := 26) rfl)))) (hw _ (List.mem_of_getElem? (i := 26) rfl)) (hw _ (List.mem_of_getElem? (i := 25) rfl)) (hw _ (List.mem_of_getElem? (i := 3) rfl)) (hw _ (List.mem_of_getElem? (i := 27) rfl)) (by decide) (rm_get4 l Z a0 hw [] a0' P h0 n0 FP) (W := 0) (by decide) (by decide) e9 EA (g := (mkF m 12 #[.val (.ref a0'), .val (.int p1), .val (.int (4 : Int32))] [(.int (4 : Int32)), (.ref a0')])) rfl (by rw [hml]; rfl) (argsL := [(.int (4 : Int32))]) (rest := []) rfl (lenOf pd__I_I rfl) rfl (by show 2 * 0 + _ ≤ _; exact Nat.le_of_eq rfl) (hb hby d_prog_69_method_2_code_12) (by decide) (by decide)
  obtain ⟨rfl, Nq10, eq10⟩ := hQ10
  have N10 := Fr.app N8 Nq10
  refine go st10 ?_
  refine go (fun _ k => by refine XS.iloadN X10.here hx rfl (hb hby d_prog_69_method_2_code_15) rfl ?_; exact k) ?_
  show OwnEnd _ _ _ _ _ _ _ (T10.setTop (mkF m 16 #[.val (.ref a0'), .val (.int p1), .val (.int (4 : Int32))] [(.int p1), (.int (own_get P (32 : Int32)))]))
  refine go (fun _ k => by refine XS.icmpYes X10.here hx rfl (pc0 := 16) (pc' := 20) rfl (hb hby d_prog_69_method_2_code_16) rfl (feq ne4).2 (by decide) (by decide) ?_; exact k) ?_
  show OwnEnd _ _ _ _ _ _ _ (T10.setTop (mkF m 20 #[.val (.ref a0'), .val (.int p1), .val (.int (4 : Int32))] []))
  refine go (fun _ k => by refine XS.iinc X10.here hx rfl (hb hby d_prog_69_method_2_code_20) rfl (l' := #[.val (.ref a0'), .val (.int p1), .val (.int ((4 : Int32) + (1 : Int32)))]) rfl ?_; exact k) ?_
  show OwnEnd _ _ _ _ _ _ _ (T10.setTop (mkF m 23 #[.val (.ref a0'), .val (.int p1), .val (.int ((4 : Int32) + (1 : Int32)))] []))
  rw [show ((4 : Int32) + (1 : Int32)) = (5 : Int32) from by decide]
  refine go (fun _ k => by refine XS.goto X10.here hx rfl (pc0 := 23) (pc' := 2) rfl (hb hby d_prog_69_method_2_code_23) (by decide) (by decide) ?_; exact k) ?_
  refine go (fun _ k => by refine XS.iloadN X10.here hx rfl (hb hby d_prog_69_method_2_code_2) rfl ?_; exact k) ?_
  refine go (fun _ k => by refine XS.aloadN X10.here hx rfl (hb hby d_prog_69_method_2_code_3) rfl rfl ?_; exact k) ?_
  show OwnEnd _ _ _ _ _ _ _ (T10.setTop (mkF m 4 #[.val (.ref a0'), .val (.int p1), .val (.int (5 : Int32))] [(.ref a0'), (.int (5 : Int32))]))
  obtain ⟨T11, X11, e11, st11⟩ := getF X10 hx hZ hown (host := "") (Or.inl (hw _ (List.mem_of_getElem? (i := 19) rfl))) Via.refl eq10 FS (g := (mkF m 4 #[.val (.ref a0'), .val (.int p1), .val (.int (5 : Int32))] [(.ref a0'), (.int (5 : Int32))])) rfl rfl (hb hby d_prog_69_method_2_code_4)
  refine go st11 ?_
  show OwnEnd _ _ _ _ _ _ _ (T11.setTop (mkF m 7 #[.val (.ref a0'), .val (.int p1), .val (.int (5 : Int32))] [(.int (6 : Int32)), (.int (5 : Int32))]))
  refine go (fun _ k => by refine XS.icmpNo X11.here hx rfl (hb hby d_prog_69_method_2_code_7) rfl (tlt (by decide)).2.1 ?_; exact k) ?_
  refine go (fun _ k => by refine XS.aloadN X11.here hx rfl (hb hby d_prog_69_method_2_code_10) rfl rfl ?_; exact k) ?_
  refine go (fun _ k => by refine XS.iloadN X11.here hx rfl (hb hby d_prog_69_method_2_code_11) rfl ?_; exact k) ?_
  show OwnEnd _ _ _ _ _ _ _ (T11.setTop (mkF m 12 #[.val (.ref a0'), .val (.int p1), .val (.int (5 : Int32))] [(.int (5 : Int32)), (.ref a0')]))
  obtain ⟨_, T12, L12, X12, hQ12, st12⟩ := callVirt X11 hx hZ hown (hw _ (List.mem_of_getElem? (i := 23) rfl)) (hw _ (List.mem_of_getElem? (i := 24) rfl)) (notFace_of_selects (args := #[]) (mvT hZ (hw _ (List.mem_of_getElem? (i := 26) rfl)))) (hw _ (List.mem_of_getElem? (i := 26) rfl)) (hw _ (List.mem_of_getElem? (i := 25) rfl)) (hw _ (List.mem_of_getElem? (i := 3) rfl)) (hw _ (List.mem_of_getElem? (i := 27) rfl)) (by decide) (rm_get5 l Z a0 hw [] a0' P h0 n0 FP) (W := 0) (by decide) (by decide) e11 EA (g := (mkF m 12 #[.val (.ref a0'), .val (.int p1), .val (.int (5 : Int32))] [(.int (5 : Int32)), (.ref a0')])) rfl (by rw [hml]; rfl) (argsL := [(.int (5 : Int32))]) (rest := []) rfl (lenOf pd__I_I rfl) rfl (by show 2 * 0 + _ ≤ _; exact Nat.le_of_eq rfl) (hb hby d_prog_69_method_2_code_12) (by decide) (by decide)
  obtain ⟨rfl, Nq12, eq12⟩ := hQ12
  have N12 := Fr.app N10 Nq12
  refine go st12 ?_
  refine go (fun _ k => by refine XS.iloadN X12.here hx rfl (hb hby d_prog_69_method_2_code_15) rfl ?_; exact k) ?_
  show OwnEnd _ _ _ _ _ _ _ (T12.setTop (mkF m 16 #[.val (.ref a0'), .val (.int p1), .val (.int (5 : Int32))] [(.int p1), (.int (own_get P (40 : Int32)))]))
  refine go (fun _ k => by refine XS.icmpYes X12.here hx rfl (pc0 := 16) (pc' := 20) rfl (hb hby d_prog_69_method_2_code_16) rfl (feq ne5).2 (by decide) (by decide) ?_; exact k) ?_
  show OwnEnd _ _ _ _ _ _ _ (T12.setTop (mkF m 20 #[.val (.ref a0'), .val (.int p1), .val (.int (5 : Int32))] []))
  refine go (fun _ k => by refine XS.iinc X12.here hx rfl (hb hby d_prog_69_method_2_code_20) rfl (l' := #[.val (.ref a0'), .val (.int p1), .val (.int ((5 : Int32) + (1 : Int32)))]) rfl ?_; exact k) ?_
  show OwnEnd _ _ _ _ _ _ _ (T12.setTop (mkF m 23 #[.val (.ref a0'), .val (.int p1), .val (.int ((5 : Int32) + (1 : Int32)))] []))
  rw [show ((5 : Int32) + (1 : Int32)) = (6 : Int32) from by decide]
  refine go (fun _ k => by refine XS.goto X12.here hx rfl (pc0 := 23) (pc' := 2) rfl (hb hby d_prog_69_method_2_code_23) (by decide) (by decide) ?_; exact k) ?_
  refine go (fun _ k => by refine XS.iloadN X12.here hx rfl (hb hby d_prog_69_method_2_code_2) rfl ?_; exact k) ?_
  refine go (fun _ k => by refine XS.aloadN X12.here hx rfl (hb hby d_prog_69_method_2_code_3) rfl rfl ?_; exact k) ?_
  show OwnEnd _ _ _ _ _ _ _ (T12.setTop (mkF m 4 #[.val (.ref a0'), .val (.int p1), .val (.int (6 : Int32))] [(.ref a0'), (.int (6 : Int32))]))
  obtain ⟨T13, X13, e13, st13⟩ := getF X12 hx hZ hown (host := "") (Or.inl (hw _ (List.mem_of_getElem? (i := 19) rfl))) Via.refl eq12 FS (g := (mkF m 4 #[.val (.ref a0'), .val (.int p1), .val (.int (6 : Int32))] [(.ref a0'), (.int (6 : Int32))])) rfl rfl (hb hby d_prog_69_method_2_code_4)
  refine go st13 ?_
  show OwnEnd _ _ _ _ _ _ _ (T13.setTop (mkF m 7 #[.val (.ref a0'), .val (.int p1), .val (.int (6 : Int32))] [(.int (6 : Int32)), (.int (6 : Int32))]))
  refine go (fun _ k => by refine XS.icmpYes X13.here hx rfl (pc0 := 7) (pc' := 26) rfl (hb hby d_prog_69_method_2_code_7) rfl (flt (by decide)).2.1 (by decide) (by decide) ?_; exact k) ?_
  refine go (fun _ k => by refine XS.aloadN X13.here hx rfl (hb hby d_prog_69_method_2_code_26) rfl rfl ?_; exact k) ?_
  show OwnEnd _ _ _ _ _ _ _ (T13.setTop (mkF m 27 #[.val (.ref a0'), .val (.int p1), .val (.int (6 : Int32))] [(.ref a0')]))
  obtain ⟨T14, X14, e14, st14⟩ := getF X13 hx hZ hown (host := "") (Or.inl (hw _ (List.mem_of_getElem? (i := 19) rfl))) Via.refl e13 FS (g := (mkF m 27 #[.val (.ref a0'), .val (.int p1), .val (.int (6 : Int32))] [(.ref a0')])) rfl rfl (hb hby d_prog_69_method_2_code_27)
  refine go st14 ?_
  refine go (fun _ k => by refine XS.bipush X14.here hx rfl (hb hby d_prog_69_method_2_code_30) ?_; exact k) ?_
  show OwnEnd _ _ _ _ _ _ _ (T14.setTop (mkF m 32 #[.val (.ref a0'), .val (.int p1), .val (.int (6 : Int32))] [(.int (8 : Int32)), (.int (6 : Int32))]))
  refine go (fun _ k => by refine XS.icmpNo X14.here hx rfl (hb hby d_prog_69_method_2_code_32) rfl (tlt (by decide)).2.1 ?_; exact k) ?_
  refine go (fun _ k => by refine XS.aloadN X14.here hx rfl (hb hby d_prog_69_method_2_code_35) rfl rfl ?_; exact k) ?_
  refine go (fun _ k => by refine XS.dup X14.here hx rfl (hb hby d_prog_69_method_2_code_36) rfl rfl ?_; exact k) ?_
  show OwnEnd _ _ _ _ _ _ _ (T14.setTop (mkF m 37 #[.val (.ref a0'), .val (.int p1), .val (.int (6 : Int32))] [(.ref a0'), (.ref a0')]))
  obtain ⟨T15, X15, e15, st15⟩ := getF X14 hx hZ hown (host := "") (Or.inl (hw _ (List.mem_of_getElem? (i := 21) rfl))) Via.refl e14 FP (g := (mkF m 37 #[.val (.ref a0'), .val (.int p1), .val (.int (6 : Int32))] [(.ref a0'), (.ref a0')])) rfl rfl (hb hby d_prog_69_method_2_code_37)
  refine go st15 ?_
  refine go (fun _ k => by refine XS.iloadN X15.here hx rfl (hb hby d_prog_69_method_2_code_40) rfl ?_; exact k) ?_
  refine go (fun _ k => by refine XS.i2l X15.here hx rfl (hb hby d_prog_69_method_2_code_41) rfl ?_; exact k) ?_
  refine go (fun _ k => by refine XS.bipush X15.here hx rfl (hb hby d_prog_69_method_2_code_42) ?_; exact k) ?_
  show OwnEnd _ _ _ _ _ _ _ (T15.setTop (mkF m 44 #[.val (.ref a0'), .val (.int p1), .val (.int (6 : Int32))] [(.int (8 : Int32)), (.long (p1.toInt64)), (.long P), (.ref a0')]))
  refine go (fun _ k => by refine XS.aloadN X15.here hx rfl (hb hby d_prog_69_method_2_code_44) rfl rfl ?_; exact k) ?_
  show OwnEnd _ _ _ _ _ _ _ (T15.setTop (mkF m 45 #[.val (.ref a0'), .val (.int p1), .val (.int (6 : Int32))] [(.ref a0'), (.int (8 : Int32)), (.long (p1.toInt64)), (.long P), (.ref a0')]))
  obtain ⟨T16, X16, e16, st16⟩ := getF X15 hx hZ hown (host := "") (Or.inl (hw _ (List.mem_of_getElem? (i := 19) rfl))) Via.refl e15 FS (g := (mkF m 45 #[.val (.ref a0'), .val (.int p1), .val (.int (6 : Int32))] [(.ref a0'), (.int (8 : Int32)), (.long (p1.toInt64)), (.long P), (.ref a0')])) rfl rfl (hb hby d_prog_69_method_2_code_45)
  refine go st16 ?_
  refine go (fun _ k => by refine XS.imul X16.here hx rfl (hb hby d_prog_69_method_2_code_48) rfl ?_; exact k) ?_
  show OwnEnd _ _ _ _ _ _ _ (T16.setTop (mkF m 49 #[.val (.ref a0'), .val (.int p1), .val (.int (6 : Int32))] [(.int ((8 : Int32) * (6 : Int32))), (.long (p1.toInt64)), (.long P), (.ref a0')]))
  rw [show ((8 : Int32) * (6 : Int32)) = (48 : Int32) from by decide]
  refine go (fun _ k => by refine XS.lshl X16.here hx rfl (hb hby d_prog_69_method_2_code_49) rfl ?_; exact k) ?_
  refine go (fun _ k => by refine XS.lor X16.here hx rfl (hb hby d_prog_69_method_2_code_50) rfl ?_; exact k) ?_
  show OwnEnd _ _ _ _ _ _ _ (T16.setTop (mkF m 51 #[.val (.ref a0'), .val (.int p1), .val (.int (6 : Int32))] [(.long (P ||| ((p1.toInt64) <<< ((48 : Int32) &&& 0x3f).toInt64))), (.ref a0')]))
  obtain ⟨T17, h17, X17, e17, W17, st17⟩ := putF X16 hx hZ hown (host := "") (Or.inl (hw _ (List.mem_of_getElem? (i := 21) rfl))) Via.refl e16 FP EA (Or.inl (hw _ (List.mem_of_getElem? (i := 22) rfl))) (hw _ (List.mem_of_getElem? (i := 2) rfl)) (ty := .long) (by decide) rfl rfl (g := (mkF m 51 #[.val (.ref a0'), .val (.int p1), .val (.int (6 : Int32))] [(.long (P ||| ((p1.toInt64) <<< ((48 : Int32) &&& 0x3f).toInt64))), (.ref a0')])) rfl rfl (hb hby d_prog_69_method_2_code_51)
  have N17 := Fr.snoc X17 N12 ga
  have EA := EA.wr W17
  have FS := FS.other W17 (Or.inr (slot_ne (Or.inl (hw _ (List.mem_of_getElem? (i := 20) rfl))) (Or.inl (hw _ (List.mem_of_getElem? (i := 22) rfl))) (by decide) (t := .int) (t' := .long) (by decide) (by decide)))
  have FM := FM.other W17 (Or.inr (slot_ne (Or.inl (hw _ (List.mem_of_getElem? (i := 34) rfl))) (Or.inl (hw _ (List.mem_of_getElem? (i := 22) rfl))) (by decide) (t := (.array .int)) (t' := .long) (by decide) (by decide)))
  have Z0 := Nat.le_trans Z0 (Keep.of_wr W17).1
  have KK := Keep.wr KK W17 (Or.inl (List.mem_of_getElem? (i := 0) rfl))
  have FP := FP.same W17
  refine go st17 ?_
  refine go (fun _ k => by refine XS.goto X17.here hx rfl (pc0 := 54) (pc' := 62) rfl (hb hby d_prog_69_method_2_code_54) (by decide) (by decide) ?_; exact k) ?_
  refine go (fun _ k => by refine XS.aloadN X17.here hx rfl (hb hby d_prog_69_method_2_code_62) rfl rfl ?_; exact k) ?_
  refine go (fun _ k => by refine XS.dup X17.here hx rfl (hb hby d_prog_69_method_2_code_63) rfl rfl ?_; exact k) ?_
  show OwnEnd _ _ _ _ _ _ _ (T17.setTop (mkF m 64 #[.val (.ref a0'), .val (.int p1), .val (.int (6 : Int32))] [(.ref a0'), (.ref a0')]))
  obtain ⟨T18, X18, e18, st18⟩ := getF X17 hx hZ hown (host := "") (Or.inl (hw _ (List.mem_of_getElem? (i := 19) rfl))) Via.refl e17 FS (g := (mkF m 64 #[.val (.ref a0'), .val (.int p1), .val (.int (6 : Int32))] [(.ref a0'), (.ref a0')])) rfl rfl (hb hby d_prog_69_method_2_code_64)
  refine go st18 ?_
  refine go (fun _ k => by refine XS.iconst X18.here hx rfl (hb hby d_prog_69_method_2_code_67) ?_; exact k) ?_
  refine go (fun _ k => by refine XS.iadd X18.here hx rfl (hb hby d_prog_69_method_2_code_68) rfl ?_; exact k) ?_
  show OwnEnd _ _ _ _ _ _ _ (T18.setTop (mkF m 69 #[.val (.ref a0'), .val (.int p1), .val (.int (6 : Int32))] [(.int ((6 : Int32) + (1 : Int32))), (.ref a0')]))
  rw [show ((6 : Int32) + (1 : Int32)) = (7 : Int32) from by decide]
  show OwnEnd _ _ _ _ _ _ _ (T18.setTop (mkF m 69 #[.val (.ref a0'), .val (.int p1), .val (.int (6 : Int32))] [(.int (7 : Int32)), (.ref a0')]))
  obtain ⟨T19, h19, X19, e19, W19, st19⟩ := putF X18 hx hZ hown (host := "") (Or.inl (hw _ (List.mem_of_getElem? (i := 19) rfl))) Via.refl e18 FS EA (Or.inl (hw _ (List.mem_of_getElem? (i := 20) rfl))) (hw _ (List.mem_of_getElem? (i := 2) rfl)) (ty := .int) (by decide) rfl rfl (g := (mkF m 69 #[.val (.ref a0'), .val (.int p1), .val (.int (6 : Int32))] [(.int (7 : Int32)), (.ref a0')])) rfl rfl (hb hby d_prog_69_method_2_code_69)
  have N19 := Fr.snoc X19 N17 ga
  have EA := EA.wr W19
  have FP := FP.other W19 (Or.inr (slot_ne (Or.inl (hw _ (List.mem_of_getElem? (i := 22) rfl))) (Or.inl (hw _ (List.mem_of_getElem? (i := 20) rfl))) (by decide) (t := .long) (t' := .int) (by decide) (by decide)))
  have FM := FM.other W19 (Or.inr (slot_ne (Or.inl (hw _ (List.mem_of_getElem? (i := 34) rfl))) (Or.inl (hw _ (List.mem_of_getElem? (i := 20) rfl))) (by decide) (t := (.array .int)) (t' := .int) (by decide) (by decide)))
  have Z0 := Nat.le_trans Z0 (Keep.of_wr W19).1
  have KK := Keep.wr KK W19 (Or.inl (List.mem_of_getElem? (i := 0) rfl))
  have FS := FS.same W19
  refine go st19 ?_
  show OwnEnd _ _ _ _ _ _ _ (T19.setTop (mkF m 72 #[.val (.ref a0'), .val (.int p1), .val (.int (6 : Int32))] []))
  refine endV X19 hx hlk Bd.returns (hb hby d_prog_69_method_2_code_72) e19 (by decide) (by decide) ?_
  exact ⟨rfl, N19, KK, EA, FP, FS, FM⟩
theorem ef_rm_add7 (m : MethodId) (y0 : Addr) (y1 : Int32) : entryFrame m #[(.ref y0), (.int y1)] 3 = mkF m 0 #[.val (.ref y0), .val (.int y1), .unset] [] := by first | (simp [entryFrame, mkF, argsToLocals, Value.category]; done) | rfl
def Q_rm_add7 (Z : State) (a0' : Addr) (p1 : Int32) (P : Int64) (h0 : Heap) (n0 : Nat) (v : Option Value) (h : Heap) (L : List Loc) : Prop := v = none ∧ Fr n0 L ∧ Keep h0 h [a0'] ∧ Exa Z h a0' "com/example/waitsfor/waitsfor/ShardSet" ∧ Fld Z h a0' "com/example/waitsfor/waitsfor/ShardSet" "packed" "J" (.long (P ||| (p1.toInt64 <<< ((56 : Int32) &&& 0x3f).toInt64))) ∧ Fld Z h a0' "com/example/waitsfor/waitsfor/ShardSet" "size" "I" (.int 8) ∧ Fld Z h a0' "com/example/waitsfor/waitsfor/ShardSet" "more" "[I" .null
set_option maxRecDepth 65536 in
set_option maxHeartbeats 40000000 in
theorem rm_add7 (l : Launch) (Z : State) (a0 : Array Value) (hw : ∀ d ∈ tables_1, d.before a0 Z = true) (ws : List Jvm.Cond) (a0' : Addr) (p1 : Int32) (P : Int64) (h0 : Heap) (n0 : Nat) (ga : n0 ≤ a0') (EA : Exa Z h0 a0' "com/example/waitsfor/waitsfor/ShardSet") (FP : Fld Z h0 a0' "com/example/waitsfor/waitsfor/ShardSet" "packed" "J" (.long P)) (FS : Fld Z h0 a0' "com/example/waitsfor/waitsfor/ShardSet" "size" "I" (.int 7)) (FM : Fld Z h0 a0' "com/example/waitsfor/waitsfor/ShardSet" "more" "[I" .null) (ne0 : ¬ own_get P (0 : Int32) = p1) (ne1 : ¬ own_get P (8 : Int32) = p1) (ne2 : ¬ own_get P (16 : Int32) = p1) (ne3 : ¬ own_get P (24 : Int32) = p1) (ne4 : ¬ own_get P (32 : Int32) = p1) (ne5 : ¬ own_get P (40 : Int32) = p1) (ne6 : ¬ own_get P (48 : Int32) = p1) (Z0 : n0 ≤ h0.size) :
    MetFree l (⟨"com/example/waitsfor/waitsfor/ShardSet", "add", "(I)V"⟩ : MethodName) (head1 (Jvm.Cond.code (⟨"com/example/waitsfor/waitsfor/ShardSet", "add", "(I)V"⟩ : MethodName) prog_69_method_2_code 3 none :: ws) ({ frames := 1, cells := 0, slots := 0, locals := 13 } : Room)) (fun a U => a = #[(.ref a0'), (.int p1)] ∧ Z.Warmed39 U.vm ∧ U.heap = h0) (fun _ _ _ _ _ => True) (fun _ U o U' => ∃ v L, o = .returned v ∧ Q_rm_add7 Z a0' p1 P h0 n0 v U'.heap L ∧ FrameEnd U o U' L 0 0) := by
  refine MetFree.of_bodySF (plainFor_of_name pn_com_example_waitsfor_waitsfor_ShardSet) hisR ?_
  intro p e s m args below meth c s₁ Bd hml0 hP hK
  obtain ⟨rfl, hZ, hh⟩ := hP
  have hx := Bd.exec
  have hby := Bd.bytes
  have hlk := Bd.notSynchronized
  have hml : c.maxLocals = 3 := hml0
  have hown : s.vm.findClass "com/example/waitsfor/waitsfor/ShardSet" = some m.cls := findClass_of_methodNamed Bd.named
  have hnm := (name_of_methodNamed Bd.named Bd.method).1
  have X0 : Stand p l e ({ frames := 1, cells := 0, slots := 0, locals := 13 } : Room) s m #[(.ref a0'), (.int p1)] below meth c s₁ [] 0 0 := Stand.of_body Bd
  have e0 : s₁.heap = h0 := by rw [← hh, Bd.state]; rfl
  have N0 := Fr.nil n0
  show OwnEnd p e below s (Q_rm_add7 Z a0' p1 P h0 n0) 0 0 (s₁.setTop (entryFrame m #[(.ref a0'), (.int p1)] 3))
  refine go (fun t k => castTop (ef_rm_add7 m a0' p1) k) ?_
  have KK := Keep.refl h0 [a0']
  show OwnEnd _ _ _ _ _ _ _ (s₁.setTop (mkF m 0 #[.val (.ref a0'), .val (.int p1), .unset] []))
  refine go (fun _ k => by refine XS.iconst X0.here hx rfl (hb hby d_prog_69_method_2_code_0) ?_; exact k) ?_
  refine go (fun _ k => by refine XS.istoreN X0.here hx rfl (hb hby d_prog_69_method_2_code_1) rfl (l' := #[.val (.ref a0'), .val (.int p1), .val (.int (0 : Int32))]) rfl ?_; exact k) ?_
  refine go (fun _ k => by refine XS.iloadN X0.here hx rfl (hb hby d_prog_69_method_2_code_2) rfl ?_; exact k) ?_
  refine go (fun _ k => by refine XS.aloadN X0.here hx rfl (hb hby d_prog_69_method_2_code_3) rfl rfl ?_; exact k) ?_
  show OwnEnd _ _ _ _ _ _ _ (s₁.setTop (mkF m 4 #[.val (.ref a0'), .val (.int p1), .val (.int (0 : Int32))] [(.ref a0'), (.int (0 : Int32))]))
  obtain ⟨T1, X1, e1, st1⟩ := getF X0 hx hZ hown (host := "") (Or.inl (hw _ (List.mem_of_getElem? (i := 19) rfl))) Via.refl e0 FS (g := (mkF m 4 #[.val (.ref a0'), .val (.int p1), .val (.int (0 : Int32))] [(.ref a0'), (.int (0 : Int32))])) rfl rfl (hb hby d_prog_69_method_2_code_4)
  refine go st1 ?_
  show OwnEnd _ _ _ _ _ _ _ (T1.setTop (mkF m 7 #[.val (.ref a0'), .val (.int p1), .val (.int (0 : Int32))] [(.int (7 : Int32)), (.int (0 : Int32))]))
  refine go (fun _ k => by refine XS.icmpNo X1.here hx rfl (hb hby d_prog_69_method_2_code_7) rfl (tlt (by decide)).2.1 ?_; exact k) ?_
  refine go (fun _ k => by refine XS.aloadN X1.here hx rfl (hb hby d_prog_69_method_2_code_10) rfl rfl ?_; exact k) ?_
  refine go (fun _ k => by refine XS.iloadN X1.here hx rfl (hb hby d_prog_69_method_2_code_11) rfl ?_; exact k) ?_
  show OwnEnd _ _ _ _ _ _ _ (T1.setTop (mkF m 12 #[.val (.ref a0'), .val (.int p1), .val (.int (0 : Int32))] [(.int (0 : Int32)), (.ref a0')]))
  obtain ⟨_, T2, L2, X2, hQ2, st2⟩ := callVirt X1 hx hZ hown (hw _ (List.mem_of_getElem? (i := 23) rfl)) (hw _ (List.mem_of_getElem? (i := 24) rfl)) (notFace_of_selects (args := #[]) (mvT hZ (hw _ (List.mem_of_getElem? (i := 26) rfl)))) (hw _ (List.mem_of_getElem? (i := 26) rfl)) (hw _ (List.mem_of_getElem? (i := 25) rfl)) (hw _ (List.mem_of_getElem? (i := 3) rfl)) (hw _ (List.mem_of_getElem? (i := 27) rfl)) (by decide) (rm_get0 l Z a0 hw [] a0' P h0 n0 FP) (W := 0) (by decide) (by decide) e1 EA (g := (mkF m 12 #[.val (.ref a0'), .val (.int p1), .val (.int (0 : Int32))] [(.int (0 : Int32)), (.ref a0')])) rfl (by rw [hml]; rfl) (argsL := [(.int (0 : Int32))]) (rest := []) rfl (lenOf pd__I_I rfl) rfl (by show 2 * 0 + _ ≤ _; exact Nat.le_of_eq rfl) (hb hby d_prog_69_method_2_code_12) (by decide) (by decide)
  obtain ⟨rfl, Nq2, eq2⟩ := hQ2
  have N2 := Fr.app N0 Nq2
  refine go st2 ?_
  refine go (fun _ k => by refine XS.iloadN X2.here hx rfl (hb hby d_prog_69_method_2_code_15) rfl ?_; exact k) ?_
  show OwnEnd _ _ _ _ _ _ _ (T2.setTop (mkF m 16 #[.val (.ref a0'), .val (.int p1), .val (.int (0 : Int32))] [(.int p1), (.int (own_get P (0 : Int32)))]))
  refine go (fun _ k => by refine XS.icmpYes X2.here hx rfl (pc0 := 16) (pc' := 20) rfl (hb hby d_prog_69_method_2_code_16) rfl (feq ne0).2 (by decide) (by decide) ?_; exact k) ?_
  show OwnEnd _ _ _ _ _ _ _ (T2.setTop (mkF m 20 #[.val (.ref a0'), .val (.int p1), .val (.int (0 : Int32))] []))
  refine go (fun _ k => by refine XS.iinc X2.here hx rfl (hb hby d_prog_69_method_2_code_20) rfl (l' := #[.val (.ref a0'), .val (.int p1), .val (.int ((0 : Int32) + (1 : Int32)))]) rfl ?_; exact k) ?_
  show OwnEnd _ _ _ _ _ _ _ (T2.setTop (mkF m 23 #[.val (.ref a0'), .val (.int p1), .val (.int ((0 : Int32) + (1 : Int32)))] []))
  rw [show ((0 : Int32) + (1 : Int32)) = (1 : Int32) from by decide]
  refine go (fun _ k => by refine XS.goto X2.here hx rfl (pc0 := 23) (pc' := 2) rfl (hb hby d_prog_69_method_2_code_23) (by decide) (by decide) ?_; exact k) ?_
  refine go (fun _ k => by refine XS.iloadN X2.here hx rfl (hb hby d_prog_69_method_2_code_2) rfl ?_; exact k) ?_
  refine go (fun _ k => by refine XS.aloadN X2.here hx rfl (hb hby d_prog_69_method_2_code_3) rfl rfl ?_; exact k) ?_
  show OwnEnd _ _ _ _ _ _ _ (T2.setTop (mkF m 4 #[.val (.ref a0'), .val (.int p1), .val (.int (1 : Int32))] [(.ref a0'), (.int (1 : Int32))]))
  obtain ⟨T3, X3, e3, st3⟩ := getF X2 hx hZ hown (host := "") (Or.inl (hw _ (List.mem_of_getElem? (i := 19) rfl))) Via.refl eq2 FS (g := (mkF m 4 #[.val (.ref a0'), .val (.int p1), .val (.int (1 : Int32))] [(.ref a0'), (.int (1 : Int32))])) rfl rfl (hb hby d_prog_69_method_2_code_4)
  refine go st3 ?_
  show OwnEnd _ _ _ _ _ _ _ (T3.setTop (mkF m 7 #[.val (.ref a0'), .val (.int p1), .val (.int (1 : Int32))] [(.int (7 : Int32)), (.int (1 : Int32))]))
  refine go (fun _ k => by refine XS.icmpNo X3.here hx rfl (hb hby d_prog_69_method_2_code_7) rfl (tlt (by decide)).2.1 ?_; exact k) ?_
  refine go (fun _ k => by refine XS.aloadN X3.here hx rfl (hb hby d_prog_69_method_2_code_10) rfl rfl ?_; exact k) ?_
  refine go (fun _ k => by refine XS.iloadN X3.here hx rfl (hb hby d_prog_69_method_2_code_11) rfl ?_; exact k) ?_
  show OwnEnd _ _ _ _ _ _ _ (T3.setTop (mkF m 12 #[.val (.ref a0'), .val (.int p1), .val (.int (1 : Int32))] [(.int (1 : Int32)), (.ref a0')]))
  obtain ⟨_, T4, L4, X4, hQ4, st4⟩ := callVirt X3 hx hZ hown (hw _ (List.mem_of_getElem? (i := 23) rfl)) (hw _ (List.mem_of_getElem? (i := 24) rfl)) (notFace_of_selects (args := #[]) (mvT hZ (hw _ (List.mem_of_getElem? (i := 26) rfl)))) (hw _ (List.mem_of_getElem? (i := 26) rfl)) (hw _ (List.mem_of_getElem? (i := 25) rfl)) (hw _ (List.mem_of_getElem? (i := 3) rfl)) (hw _ (List.mem_of_getElem? (i := 27) rfl)) (by decide) (rm_get1 l Z a0 hw [] a0' P h0 n0 FP) (W := 0) (by decide) (by decide) e3 EA (g := (mkF m 12 #[.val (.ref a0'), .val (.int p1), .val (.int (1 : Int32))] [(.int (1 : Int32)), (.ref a0')])) rfl (by rw [hml]; rfl) (argsL := [(.int (1 : Int32))]) (rest := []) rfl (lenOf pd__I_I rfl) rfl (by show 2 * 0 + _ ≤ _; exact Nat.le_of_eq rfl) (hb hby d_prog_69_method_2_code_12) (by decide) (by decide)
  obtain ⟨rfl, Nq4, eq4⟩ := hQ4
  have N4 := Fr.app N2 Nq4
  refine go st4 ?_
  refine go (fun _ k => by refine XS.iloadN X4.here hx rfl (hb hby d_prog_69_method_2_code_15) rfl ?_; exact k) ?_
  show OwnEnd _ _ _ _ _ _ _ (T4.setTop (mkF m 16 #[.val (.ref a0'), .val (.int p1), .val (.int (1 : Int32))] [(.int p1), (.int (own_get P (8 : Int32)))]))
  refine go (fun _ k => by refine XS.icmpYes X4.here hx rfl (pc0 := 16) (pc' := 20) rfl (hb hby d_prog_69_method_2_code_16) rfl (feq ne1).2 (by decide) (by decide) ?_; exact k) ?_
  show OwnEnd _ _ _ _ _ _ _ (T4.setTop (mkF m 20 #[.val (.ref a0'), .val (.int p1), .val (.int (1 : Int32))] []))
  refine go (fun _ k => by refine XS.iinc X4.here hx rfl (hb hby d_prog_69_method_2_code_20) rfl (l' := #[.val (.ref a0'), .val (.int p1), .val (.int ((1 : Int32) + (1 : Int32)))]) rfl ?_; exact k) ?_
  show OwnEnd _ _ _ _ _ _ _ (T4.setTop (mkF m 23 #[.val (.ref a0'), .val (.int p1), .val (.int ((1 : Int32) + (1 : Int32)))] []))
  rw [show ((1 : Int32) + (1 : Int32)) = (2 : Int32) from by decide]
  refine go (fun _ k => by refine XS.goto X4.here hx rfl (pc0 := 23) (pc' := 2) rfl (hb hby d_prog_69_method_2_code_23) (by decide) (by decide) ?_; exact k) ?_
  refine go (fun _ k => by refine XS.iloadN X4.here hx rfl (hb hby d_prog_69_method_2_code_2) rfl ?_; exact k) ?_
  refine go (fun _ k => by refine XS.aloadN X4.here hx rfl (hb hby d_prog_69_method_2_code_3) rfl rfl ?_; exact k) ?_
  show OwnEnd _ _ _ _ _ _ _ (T4.setTop (mkF m 4 #[.val (.ref a0'), .val (.int p1), .val (.int (2 : Int32))] [(.ref a0'), (.int (2 : Int32))]))
  obtain ⟨T5, X5, e5, st5⟩ := getF X4 hx hZ hown (host := "") (Or.inl (hw _ (List.mem_of_getElem? (i := 19) rfl))) Via.refl eq4 FS (g := (mkF m 4 #[.val (.ref a0'), .val (.int p1), .val (.int (2 : Int32))] [(.ref a0'), (.int (2 : Int32))])) rfl rfl (hb hby d_prog_69_method_2_code_4)
  refine go st5 ?_
  show OwnEnd _ _ _ _ _ _ _ (T5.setTop (mkF m 7 #[.val (.ref a0'), .val (.int p1), .val (.int (2 : Int32))] [(.int (7 : Int32)), (.int (2 : Int32))]))
  refine go (fun _ k => by refine XS.icmpNo X5.here hx rfl (hb hby d_prog_69_method_2_code_7) rfl (tlt (by decide)).2.1 ?_; exact k) ?_
  refine go (fun _ k => by refine XS.aloadN X5.here hx rfl (hb hby d_prog_69_method_2_code_10) rfl rfl ?_; exact k) ?_
  refine go (fun _ k => by refine XS.iloadN X5.here hx rfl (hb hby d_prog_69_method_2_code_11) rfl ?_; exact k) ?_
  show OwnEnd _ _ _ _ _ _ _ (T5.setTop (mkF m 12 #[.val (.ref a0'), .val (.int p1), .val (.int (2 : Int32))] [(.int (2 : Int32)), (.ref a0')]))
  obtain ⟨_, T6, L6, X6, hQ6, st6⟩ := callVirt X5 hx hZ hown (hw _ (List.mem_of_getElem? (i := 23) rfl)) (hw _ (List.mem_of_getElem? (i := 24) rfl)) (notFace_of_selects (args := #[]) (mvT hZ (hw _ (List.mem_of_getElem? (i := 26) rfl)))) (hw _ (List.mem_of_getElem? (i := 26) rfl)) (hw _ (List.mem_of_getElem? (i := 25) rfl)) (hw _ (List.mem_of_getElem? (i := 3) rfl)) (hw _ (List.mem_of_getElem? (i := 27) rfl)) (by decide) (rm_get2 l Z a0 hw [] a0' P h0 n0 FP) (W := 0) (by decide) (by decide) e5 EA (g := (mkF m 12 #[.val (.ref a0'), .val (.int p1), .val (.int (2 : Int32))] [(.int (2 : Int32)), (.ref a0')])) rfl (by rw [hml]; rfl) (argsL := [(.int (2 : Int32))]) (rest := []) rfl (lenOf pd__I_I rfl) rfl (by show 2 * 0 + _ ≤ _; exact Nat.le_of_eq rfl) (hb hby d_prog_69_method_2_code_12) (by decide) (by decide)
  obtain ⟨rfl, Nq6, eq6⟩ := hQ6
  have N6 := Fr.app N4 Nq6
  refine go st6 ?_
  refine go (fun _ k => by refine XS.iloadN X6.here hx rfl (hb hby d_prog_69_method_2_code_15) rfl ?_; exact k) ?_
  show OwnEnd _ _ _ _ _ _ _ (T6.setTop (mkF m 16 #[.val (.ref a0'), .val (.int p1), .val (.int (2 : Int32))] [(.int p1), (.int (own_get P (16 : Int32)))]))
  refine go (fun _ k => by refine XS.icmpYes X6.here hx rfl (pc0 := 16) (pc' := 20) rfl (hb hby d_prog_69_method_2_code_16) rfl (feq ne2).2 (by decide) (by decide) ?_; exact k) ?_
  show OwnEnd _ _ _ _ _ _ _ (T6.setTop (mkF m 20 #[.val (.ref a0'), .val (.int p1), .val (.int (2 : Int32))] []))
  refine go (fun _ k => by refine XS.iinc X6.here hx rfl (hb hby d_prog_69_method_2_code_20) rfl (l' := #[.val (.ref a0'), .val (.int p1), .val (.int ((2 : Int32) + (1 : Int32)))]) rfl ?_; exact k) ?_
  show OwnEnd _ _ _ _ _ _ _ (T6.setTop (mkF m 23 #[.val (.ref a0'), .val (.int p1), .val (.int ((2 : Int32) + (1 : Int32)))] []))
  rw [show ((2 : Int32) + (1 : Int32)) = (3 : Int32) from by decide]
  refine go (fun _ k => by refine XS.goto X6.here hx rfl (pc0 := 23) (pc' := 2) rfl (hb hby d_prog_69_method_2_code_23) (by decide) (by decide) ?_; exact k) ?_
  refine go (fun _ k => by refine XS.iloadN X6.here hx rfl (hb hby d_prog_69_method_2_code_2) rfl ?_; exact k) ?_
  refine go (fun _ k => by refine XS.aloadN X6.here hx rfl (hb hby d_prog_69_method_2_code_3) rfl rfl ?_; exact k) ?_
  show OwnEnd _ _ _ _ _ _ _ (T6.setTop (mkF m 4 #[.val (.ref a0'), .val (.int p1), .val (.int (3 : Int32))] [(.ref a0'), (.int (3 : Int32))]))
  obtain ⟨T7, X7, e7, st7⟩ := getF X6 hx hZ hown (host := "") (Or.inl (hw _ (List.mem_of_getElem? (i := 19) rfl))) Via.refl eq6 FS (g := (mkF m 4 #[.val (.ref a0'), .val (.int p1), .val (.int (3 : Int32))] [(.ref a0'), (.int (3 : Int32))])) rfl rfl (hb hby d_prog_69_method_2_code_4)
  refine go st7 ?_
  show OwnEnd _ _ _ _ _ _ _ (T7.setTop (mkF m 7 #[.val (.ref a0'), .val (.int p1), .val (.int (3 : Int32))] [(.int (7 : Int32)), (.int (3 : Int32))]))
  refine go (fun _ k => by refine XS.icmpNo X7.here hx rfl (hb hby d_prog_69_method_2_code_7) rfl (tlt (by decide)).2.1 ?_; exact k) ?_
  refine go (fun _ k => by refine XS.aloadN X7.here hx rfl (hb hby d_prog_69_method_2_code_10) rfl rfl ?_; exact k) ?_
  refine go (fun _ k => by refine XS.iloadN X7.here hx rfl (hb hby d_prog_69_method_2_code_11) rfl ?_; exact k) ?_
  show OwnEnd _ _ _ _ _ _ _ (T7.setTop (mkF m 12 #[.val (.ref a0'), .val (.int p1), .val (.int (3 : Int32))] [(.int (3 : Int32)), (.ref a0')]))
  obtain ⟨_, T8, L8, X8, hQ8, st8⟩ := callVirt X7 hx hZ hown (hw _ (List.mem_of_getElem? (i := 23) rfl)) (hw _ (List.mem_of_getElem? (i := 24) rfl)) (notFace_of_selects (args := #[]) (mvT hZ (hw _ (List.mem_of_getElem? (i := 26) rfl)))) (hw _ (List.mem_of_getElem? (i := 26) rfl)) (hw _ (List.mem_of_getElem? (i := 25) rfl)) (hw _ (List.mem_of_getElem? (i := 3) rfl)) (hw _ (List.mem_of_getElem? (i := 27) rfl)) (by decide) (rm_get3 l Z a0 hw [] a0' P h0 n0 FP) (W := 0) (by decide) (by decide) e7 EA (g := (mkF m 12 #[.val (.ref a0'), .val (.int p1), .val (.int (3 : Int32))] [(.int (3 : Int32)), (.ref a0')])) rfl (by rw [hml]; rfl) (argsL := [(.int (3 : Int32))]) (rest := []) rfl (lenOf pd__I_I rfl) rfl (by show 2 * 0 + _ ≤ _; exact Nat.le_of_eq rfl) (hb hby d_prog_69_method_2_code_12) (by decide) (by decide)
  obtain ⟨rfl, Nq8, eq8⟩ := hQ8
  have N8 := Fr.app N6 Nq8
  refine go st8 ?_
  refine go (fun _ k => by refine XS.iloadN X8.here hx rfl (hb hby d_prog_69_method_2_code_15) rfl ?_; exact k) ?_
  show OwnEnd _ _ _ _ _ _ _ (T8.setTop (mkF m 16 #[.val (.ref a0'), .val (.int p1), .val (.int (3 : Int32))] [(.int p1), (.int (own_get P (24 : Int32)))]))
  refine go (fun _ k => by refine XS.icmpYes X8.here hx rfl (pc0 := 16) (pc' := 20) rfl (hb hby d_prog_69_method_2_code_16) rfl (feq ne3).2 (by decide) (by decide) ?_; exact k) ?_
  show OwnEnd _ _ _ _ _ _ _ (T8.setTop (mkF m 20 #[.val (.ref a0'), .val (.int p1), .val (.int (3 : Int32))] []))
  refine go (fun _ k => by refine XS.iinc X8.here hx rfl (hb hby d_prog_69_method_2_code_20) rfl (l' := #[.val (.ref a0'), .val (.int p1), .val (.int ((3 : Int32) + (1 : Int32)))]) rfl ?_; exact k) ?_
  show OwnEnd _ _ _ _ _ _ _ (T8.setTop (mkF m 23 #[.val (.ref a0'), .val (.int p1), .val (.int ((3 : Int32) + (1 : Int32)))] []))
  rw [show ((3 : Int32) + (1 : Int32)) = (4 : Int32) from by decide]
  refine go (fun _ k => by refine XS.goto X8.here hx rfl (pc0 := 23) (pc' := 2) rfl (hb hby d_prog_69_method_2_code_23) (by decide) (by decide) ?_; exact k) ?_
  refine go (fun _ k => by refine XS.iloadN X8.here hx rfl (hb hby d_prog_69_method_2_code_2) rfl ?_; exact k) ?_
  refine go (fun _ k => by refine XS.aloadN X8.here hx rfl (hb hby d_prog_69_method_2_code_3) rfl rfl ?_; exact k) ?_
  show OwnEnd _ _ _ _ _ _ _ (T8.setTop (mkF m 4 #[.val (.ref a0'), .val (.int p1), .val (.int (4 : Int32))] [(.ref a0'), (.int (4 : Int32))]))
  obtain ⟨T9, X9, e9, st9⟩ := getF X8 hx hZ hown (host := "") (Or.inl (hw _ (List.mem_of_getElem? (i := 19) rfl))) Via.refl eq8 FS (g := (mkF m 4 #[.val (.ref a0'), .val (.int p1), .val (.int (4 : Int32))] [(.ref a0'), (.int (4 : Int32))])) rfl rfl (hb hby d_prog_69_method_2_code_4)
  refine go st9 ?_
  show OwnEnd _ _ _ _ _ _ _ (T9.setTop (mkF m 7 #[.val (.ref a0'), .val (.int p1), .val (.int (4 : Int32))] [(.int (7 : Int32)), (.int (4 : Int32))]))
  refine go (fun _ k => by refine XS.icmpNo X9.here hx rfl (hb hby d_prog_69_method_2_code_7) rfl (tlt (by decide)).2.1 ?_; exact k) ?_
  refine go (fun _ k => by refine XS.aloadN X9.here hx rfl (hb hby d_prog_69_method_2_code_10) rfl rfl ?_; exact k) ?_
  refine go (fun _ k => by refine XS.iloadN X9.here hx rfl (hb hby d_prog_69_method_2_code_11) rfl ?_; exact k) ?_
  show OwnEnd _ _ _ _ _ _ _ (T9.setTop (mkF m 12 #[.val (.ref a0'), .val (.int p1), .val (.int (4 : Int32))] [(.int (4 : Int32)), (.ref a0')]))
  obtain ⟨_, T10, L10, X10, hQ10, st10⟩ := callVirt X9 hx hZ hown (hw _ (List.mem_of_getElem? (i := 23) rfl)) (hw _ (List.mem_of_getElem? (i := 24) rfl)) (notFace_of_selects (args := #[]) (mvT hZ (hw _ (List.mem_of_getElem? (i := 26) rfl)))) (hw _ (List.mem_of_getElem? (i := 26) rfl)) (hw _ (List.mem_of_getElem? (i := 25) rfl)) (hw _ (List.mem_of_getElem? (i := 3) rfl)) (hw _ (List.mem_of_getElem? (i := 27) rfl)) (by decide) (rm_get4 l Z a0 hw [] a0' P h0 n0 FP) (W := 0) (by decide) (by decide) e9 EA (g := (mkF m 12 #[.val (.ref a0'), .val (.int p1), .val (.int (4 : Int32))] [(.int (4 : Int32)), (.ref a0')])) rfl (by rw [hml]; rfl) (argsL := [(.int (4 : Int32))]) (rest := []) rfl (lenOf pd__I_I rfl) rfl (by show 2 * 0 + _ ≤ _; exact Nat.le_of_eq rfl) (hb hby d_prog_69_method_2_code_12) (by decide) (by decide)
  obtain ⟨rfl, Nq10, eq10⟩ := hQ10
  have N10 := Fr.app N8 Nq10
  refine go st10 ?_
  refine go (fun _ k => by refine XS.iloadN X10.here hx rfl (hb hby d_prog_69_method_2_code_15) rfl ?_; exact k) ?_
  show OwnEnd _ _ _ _ _ _ _ (T10.setTop (mkF m 16 #[.val (.ref a0'), .val (.int p1), .val (.int (4 : Int32))] [(.int p1), (.int (own_get P (32 : Int32)))]))
  refine go (fun _ k => by refine XS.icmpYes X10.here hx rfl (pc0 := 16) (pc' := 20) rfl (hb hby d_prog_69_method_2_code_16) rfl (feq ne4).2 (by decide) (by decide) ?_; exact k) ?_
  show OwnEnd _ _ _ _ _ _ _ (T10.setTop (mkF m 20 #[.val (.ref a0'), .val (.int p1), .val (.int (4 : Int32))] []))
  refine go (fun _ k => by refine XS.iinc X10.here hx rfl (hb hby d_prog_69_method_2_code_20) rfl (l' := #[.val (.ref a0'), .val (.int p1), .val (.int ((4 : Int32) + (1 : Int32)))]) rfl ?_; exact k) ?_
  show OwnEnd _ _ _ _ _ _ _ (T10.setTop (mkF m 23 #[.val (.ref a0'), .val (.int p1), .val (.int ((4 : Int32) + (1 : Int32)))] []))
  rw [show ((4 : Int32) + (1 : Int32)) = (5 : Int32) from by decide]
  refine go (fun _ k => by refine XS.goto X10.here hx rfl (pc0 := 23) (pc' := 2) rfl (hb hby d_prog_69_method_2_code_23) (by decide) (by decide) ?_; exact k) ?_
  refine go (fun _ k => by refine XS.iloadN X10.here hx rfl (hb hby d_prog_69_method_2_code_2) rfl ?_; exact k) ?_
  refine go (fun _ k => by refine XS.aloadN X10.here hx rfl (hb hby d_prog_69_method_2_code_3) rfl rfl ?_; exact k) ?_
  show OwnEnd _ _ _ _ _ _ _ (T10.setTop (mkF m 4 #[.val (.ref a0'), .val (.int p1), .val (.int (5 : Int32))] [(.ref a0'), (.int (5 : Int32))]))
  obtain ⟨T11, X11, e11, st11⟩ := getF X10 hx hZ hown (host := "") (Or.inl (hw _ (List.mem_of_getElem? (i := 19) rfl))) Via.refl eq10 FS (g := (mkF m 4 #[.val (.ref a0'), .val (.int p1), .val (.int (5 : Int32))] [(.ref a0'), (.int (5 : Int32))])) rfl rfl (hb hby d_prog_69_method_2_code_4)
  refine go st11 ?_
  show OwnEnd _ _ _ _ _ _ _ (T11.setTop (mkF m 7 #[.val (.ref a0'), .val (.int p1), .val (.int (5 : Int32))] [(.int (7 : Int32)), (.int (5 : Int32))]))
  refine go (fun _ k => by refine XS.icmpNo X11.here hx rfl (hb hby d_prog_69_method_2_code_7) rfl (tlt (by decide)).2.1 ?_; exact k) ?_
  refine go (fun _ k => by refine XS.aloadN X11.here hx rfl (hb hby d_prog_69_method_2_code_10) rfl rfl ?_; exact k) ?_
  refine go (fun _ k => by refine XS.iloadN X11.here hx rfl (hb hby d_prog_69_method_2_code_11) rfl ?_; exact k) ?_
  show OwnEnd _ _ _ _ _ _ _ (T11.setTop (mkF m 12 #[.val (.ref a0'), .val (.int p1), .val (.int (5 : Int32))] [(.int (5 : Int32)), (.ref a0')]))
  obtain ⟨_, T12, L12, X12, hQ12, st12⟩ := callVirt X11 hx hZ hown (hw _ (List.mem_of_getElem? (i := 23) rfl)) (hw _ (List.mem_of_getElem? (i := 24) rfl)) (notFace_of_selects (args := #[]) (mvT hZ (hw _ (List.mem_of_getElem? (i := 26) rfl)))) (hw _ (List.mem_of_getElem? (i := 26) rfl)) (hw _ (List.mem_of_getElem? (i := 25) rfl)) (hw _ (List.mem_of_getElem? (i := 3) rfl)) (hw _ (List.mem_of_getElem? (i := 27) rfl)) (by decide) (rm_get5 l Z a0 hw [] a0' P h0 n0 FP) (W := 0) (by decide) (by decide) e11 EA (g := (mkF m 12 #[.val (.ref a0'), .val (.int p1), .val (.int (5 : Int32))] [(.int (5 : Int32)), (.ref a0')])) rfl (by rw [hml]; rfl) (argsL := [(.int (5 : Int32))]) (rest := []) rfl (lenOf pd__I_I rfl) rfl (by show 2 * 0 + _ ≤ _; exact Nat.le_of_eq rfl) (hb hby d_prog_69_method_2_code_12) (by decide) (by decide)
  obtain ⟨rfl, Nq12, eq12⟩ := hQ12
  have N12 := Fr.app N10 Nq12
  refine go st12 ?_
  refine go (fun _ k => by refine XS.iloadN X12.here hx rfl (hb hby d_prog_69_method_2_code_15) rfl ?_; exact k) ?_
  show OwnEnd _ _ _ _ _ _ _ (T12.setTop (mkF m 16 #[.val (.ref a0'), .val (.int p1), .val (.int (5 : Int32))] [(.int p1), (.int (own_get P (40 : Int32)))]))
  refine go (fun _ k => by refine XS.icmpYes X12.here hx rfl (pc0 := 16) (pc' := 20) rfl (hb hby d_prog_69_method_2_code_16) rfl (feq ne5).2 (by decide) (by decide) ?_; exact k) ?_
  show OwnEnd _ _ _ _ _ _ _ (T12.setTop (mkF m 20 #[.val (.ref a0'), .val (.int p1), .val (.int (5 : Int32))] []))
  refine go (fun _ k => by refine XS.iinc X12.here hx rfl (hb hby d_prog_69_method_2_code_20) rfl (l' := #[.val (.ref a0'), .val (.int p1), .val (.int ((5 : Int32) + (1 : Int32)))]) rfl ?_; exact k) ?_
  show OwnEnd _ _ _ _ _ _ _ (T12.setTop (mkF m 23 #[.val (.ref a0'), .val (.int p1), .val (.int ((5 : Int32) + (1 : Int32)))] []))
  rw [show ((5 : Int32) + (1 : Int32)) = (6 : Int32) from by decide]
  refine go (fun _ k => by refine XS.goto X12.here hx rfl (pc0 := 23) (pc' := 2) rfl (hb hby d_prog_69_method_2_code_23) (by decide) (by decide) ?_; exact k) ?_
  refine go (fun _ k => by refine XS.iloadN X12.here hx rfl (hb hby d_prog_69_method_2_code_2) rfl ?_; exact k) ?_
  refine go (fun _ k => by refine XS.aloadN X12.here hx rfl (hb hby d_prog_69_method_2_code_3) rfl rfl ?_; exact k) ?_
  show OwnEnd _ _ _ _ _ _ _ (T12.setTop (mkF m 4 #[.val (.ref a0'), .val (.int p1), .val (.int (6 : Int32))] [(.ref a0'), (.int (6 : Int32))]))
  obtain ⟨T13, X13, e13, st13⟩ := getF X12 hx hZ hown (host := "") (Or.inl (hw _ (List.mem_of_getElem? (i := 19) rfl))) Via.refl eq12 FS (g := (mkF m 4 #[.val (.ref a0'), .val (.int p1), .val (.int (6 : Int32))] [(.ref a0'), (.int (6 : Int32))])) rfl rfl (hb hby d_prog_69_method_2_code_4)
  refine go st13 ?_
  show OwnEnd _ _ _ _ _ _ _ (T13.setTop (mkF m 7 #[.val (.ref a0'), .val (.int p1), .val (.int (6 : Int32))] [(.int (7 : Int32)), (.int (6 : Int32))]))
  refine go (fun _ k => by refine XS.icmpNo X13.here hx rfl (hb hby d_prog_69_method_2_code_7) rfl (tlt (by decide)).2.1 ?_; exact k) ?_
  refine go (fun _ k => by refine XS.aloadN X13.here hx rfl (hb hby d_prog_69_method_2_code_10) rfl rfl ?_; exact k) ?_
  refine go (fun _ k => by refine XS.iloadN X13.here hx rfl (hb hby d_prog_69_method_2_code_11) rfl ?_; exact k) ?_
  show OwnEnd _ _ _ _ _ _ _ (T13.setTop (mkF m 12 #[.val (.ref a0'), .val (.int p1), .val (.int (6 : Int32))] [(.int (6 : Int32)), (.ref a0')]))
  obtain ⟨_, T14, L14, X14, hQ14, st14⟩ := callVirt X13 hx hZ hown (hw _ (List.mem_of_getElem? (i := 23) rfl)) (hw _ (List.mem_of_getElem? (i := 24) rfl)) (notFace_of_selects (args := #[]) (mvT hZ (hw _ (List.mem_of_getElem? (i := 26) rfl)))) (hw _ (List.mem_of_getElem? (i := 26) rfl)) (hw _ (List.mem_of_getElem? (i := 25) rfl)) (hw _ (List.mem_of_getElem? (i := 3) rfl)) (hw _ (List.mem_of_getElem? (i := 27) rfl)) (by decide) (rm_get6 l Z a0 hw [] a0' P h0 n0 FP) (W := 0) (by decide) (by decide) e13 EA (g := (mkF m 12 #[.val (.ref a0'), .val (.int p1), .val (.int (6 : Int32))] [(.int (6 : Int32)), (.ref a0')])) rfl (by rw [hml]; rfl) (argsL := [(.int (6 : Int32))]) (rest := []) rfl (lenOf pd__I_I rfl) rfl (by show 2 * 0 + _ ≤ _; exact Nat.le_of_eq rfl) (hb hby d_prog_69_method_2_code_12) (by decide) (by decide)
  obtain ⟨rfl, Nq14, eq14⟩ := hQ14
  have N14 := Fr.app N12 Nq14
  refine go st14 ?_
  refine go (fun _ k => by refine XS.iloadN X14.here hx rfl (hb hby d_prog_69_method_2_code_15) rfl ?_; exact k) ?_
  show OwnEnd _ _ _ _ _ _ _ (T14.setTop (mkF m 16 #[.val (.ref a0'), .val (.int p1), .val (.int (6 : Int32))] [(.int p1), (.int (own_get P (48 : Int32)))]))
  refine go (fun _ k => by refine XS.icmpYes X14.here hx rfl (pc0 := 16) (pc' := 20) rfl (hb hby d_prog_69_method_2_code_16) rfl (feq ne6).2 (by decide) (by decide) ?_; exact k) ?_
  show OwnEnd _ _ _ _ _ _ _ (T14.setTop (mkF m 20 #[.val (.ref a0'), .val (.int p1), .val (.int (6 : Int32))] []))
  refine go (fun _ k => by refine XS.iinc X14.here hx rfl (hb hby d_prog_69_method_2_code_20) rfl (l' := #[.val (.ref a0'), .val (.int p1), .val (.int ((6 : Int32) + (1 : Int32)))]) rfl ?_; exact k) ?_
  show OwnEnd _ _ _ _ _ _ _ (T14.setTop (mkF m 23 #[.val (.ref a0'), .val (.int p1), .val (.int ((6 : Int32) + (1 : Int32)))] []))
  rw [show ((6 : Int32) + (1 : Int32)) = (7 : Int32) from by decide]
  refine go (fun _ k => by refine XS.goto X14.here hx rfl (pc0 := 23) (pc' := 2) rfl (hb hby d_prog_69_method_2_code_23) (by decide) (by decide) ?_; exact k) ?_
  refine go (fun _ k => by refine XS.iloadN X14.here hx rfl (hb hby d_prog_69_method_2_code_2) rfl ?_; exact k) ?_
  refine go (fun _ k => by refine XS.aloadN X14.here hx rfl (hb hby d_prog_69_method_2_code_3) rfl rfl ?_; exact k) ?_
  show OwnEnd _ _ _ _ _ _ _ (T14.setTop (mkF m 4 #[.val (.ref a0'), .val (.int p1), .val (.int (7 : Int32))] [(.ref a0'), (.int (7 : Int32))]))
  obtain ⟨T15, X15, e15, st15⟩ := getF X14 hx hZ hown (host := "") (Or.inl (hw _ (List.mem_of_getElem? (i := 19) rfl))) Via.refl eq14 FS (g := (mkF m 4 #[.val (.ref a0'), .val (.int p1), .val (.int (7 : Int32))] [(.ref a0'), (.int (7 : Int32))])) rfl rfl (hb hby d_prog_69_method_2_code_4)
  refine go st15 ?_
  show OwnEnd _ _ _ _ _ _ _ (T15.setTop (mkF m 7 #[.val (.ref a0'), .val (.int p1), .val (.int (7 : Int32))] [(.int (7 : Int32)), (.int (7 : Int32))]))
  refine go (fun _ k => by refine XS.icmpYes X15.here hx rfl (pc0 := 7) (pc' := 26) rfl (hb hby d_prog_69_method_2_code_7) rfl (flt (by decide)).2.1 (by decide) (by decide) ?_; exact k) ?_
  refine go (fun _ k => by refine XS.aloadN X15.here hx rfl (hb hby d_prog_69_method_2_code_26) rfl rfl ?_; exact k) ?_
  show OwnEnd _ _ _ _ _ _ _ (T15.setTop (mkF m 27 #[.val (.ref a0'), .val (.int p1), .val (.int (7 : Int32))] [(.ref a0')]))
  obtain ⟨T16, X16, e16, st16⟩ := getF X15 hx hZ hown (host := "") (Or.inl (hw _ (List.mem_of_getElem? (i := 19) rfl))) Via.refl e15 FS (g := (mkF m 27 #[.val (.ref a0'), .val (.int p1), .val (.int (7 : Int32))] [(.ref a0')])) rfl rfl (hb hby d_prog_69_method_2_code_27)
  refine go st16 ?_
  refine go (fun _ k => by refine XS.bipush X16.here hx rfl (hb hby d_prog_69_method_2_code_30) ?_; exact k) ?_
  show OwnEnd _ _ _ _ _ _ _ (T16.setTop (mkF m 32 #[.val (.ref a0'), .val (.int p1), .val (.int (7 : Int32))] [(.int (8 : Int32)), (.int (7 : Int32))]))
  refine go (fun _ k => by refine XS.icmpNo X16.here hx rfl (hb hby d_prog_69_method_2_code_32) rfl (tlt (by decide)).2.1 ?_; exact k) ?_
  refine go (fun _ k => by refine XS.aloadN X16.here hx rfl (hb hby d_prog_69_method_2_code_35) rfl rfl ?_; exact k) ?_
  refine go (fun _ k => by refine XS.dup X16.here hx rfl (hb hby d_prog_69_method_2_code_36) rfl rfl ?_; exact k) ?_
  show OwnEnd _ _ _ _ _ _ _ (T16.setTop (mkF m 37 #[.val (.ref a0'), .val (.int p1), .val (.int (7 : Int32))] [(.ref a0'), (.ref a0')]))
  obtain ⟨T17, X17, e17, st17⟩ := getF X16 hx hZ hown (host := "") (Or.inl (hw _ (List.mem_of_getElem? (i := 21) rfl))) Via.refl e16 FP (g := (mkF m 37 #[.val (.ref a0'), .val (.int p1), .val (.int (7 : Int32))] [(.ref a0'), (.ref a0')])) rfl rfl (hb hby d_prog_69_method_2_code_37)
  refine go st17 ?_
  refine go (fun _ k => by refine XS.iloadN X17.here hx rfl (hb hby d_prog_69_method_2_code_40) rfl ?_; exact k) ?_
  refine go (fun _ k => by refine XS.i2l X17.here hx rfl (hb hby d_prog_69_method_2_code_41) rfl ?_; exact k) ?_
  refine go (fun _ k => by refine XS.bipush X17.here hx rfl (hb hby d_prog_69_method_2_code_42) ?_; exact k) ?_
  show OwnEnd _ _ _ _ _ _ _ (T17.setTop (mkF m 44 #[.val (.ref a0'), .val (.int p1), .val (.int (7 : Int32))] [(.int (8 : Int32)), (.long (p1.toInt64)), (.long P), (.ref a0')]))
  refine go (fun _ k => by refine XS.aloadN X17.here hx rfl (hb hby d_prog_69_method_2_code_44) rfl rfl ?_; exact k) ?_
  show OwnEnd _ _ _ _ _ _ _ (T17.setTop (mkF m 45 #[.val (.ref a0'), .val (.int p1), .val (.int (7 : Int32))] [(.ref a0'), (.int (8 : Int32)), (.long (p1.toInt64)), (.long P), (.ref a0')]))
  obtain ⟨T18, X18, e18, st18⟩ := getF X17 hx hZ hown (host := "") (Or.inl (hw _ (List.mem_of_getElem? (i := 19) rfl))) Via.refl e17 FS (g := (mkF m 45 #[.val (.ref a0'), .val (.int p1), .val (.int (7 : Int32))] [(.ref a0'), (.int (8 : Int32)), (.long (p1.toInt64)), (.long P), (.ref a0')])) rfl rfl (hb hby d_prog_69_method_2_code_45)
  refine go st18 ?_
  refine go (fun _ k => by refine XS.imul X18.here hx rfl (hb hby d_prog_69_method_2_code_48) rfl ?_; exact k) ?_
  show OwnEnd _ _ _ _ _ _ _ (T18.setTop (mkF m 49 #[.val (.ref a0'), .val (.int p1), .val (.int (7 : Int32))] [(.int ((8 : Int32) * (7 : Int32))), (.long (p1.toInt64)), (.long P), (.ref a0')]))
  rw [show ((8 : Int32) * (7 : Int32)) = (56 : Int32) from by decide]
  refine go (fun _ k => by refine XS.lshl X18.here hx rfl (hb hby d_prog_69_method_2_code_49) rfl ?_; exact k) ?_
  refine go (fun _ k => by refine XS.lor X18.here hx rfl (hb hby d_prog_69_method_2_code_50) rfl ?_; exact k) ?_
  show OwnEnd _ _ _ _ _ _ _ (T18.setTop (mkF m 51 #[.val (.ref a0'), .val (.int p1), .val (.int (7 : Int32))] [(.long (P ||| ((p1.toInt64) <<< ((56 : Int32) &&& 0x3f).toInt64))), (.ref a0')]))
  obtain ⟨T19, h19, X19, e19, W19, st19⟩ := putF X18 hx hZ hown (host := "") (Or.inl (hw _ (List.mem_of_getElem? (i := 21) rfl))) Via.refl e18 FP EA (Or.inl (hw _ (List.mem_of_getElem? (i := 22) rfl))) (hw _ (List.mem_of_getElem? (i := 2) rfl)) (ty := .long) (by decide) rfl rfl (g := (mkF m 51 #[.val (.ref a0'), .val (.int p1), .val (.int (7 : Int32))] [(.long (P ||| ((p1.toInt64) <<< ((56 : Int32) &&& 0x3f).toInt64))), (.ref a0')])) rfl rfl (hb hby d_prog_69_method_2_code_51)
  have N19 := Fr.snoc X19 N14 ga
  have EA := EA.wr W19
  have FS := FS.other W19 (Or.inr (slot_ne (Or.inl (hw _ (List.mem_of_getElem? (i := 20) rfl))) (Or.inl (hw _ (List.mem_of_getElem? (i := 22) rfl))) (by decide) (t := .int) (t' := .long) (by decide) (by decide)))
  have FM := FM.other W19 (Or.inr (slot_ne (Or.inl (hw _ (List.mem_of_getElem? (i := 34) rfl))) (Or.inl (hw _ (List.mem_of_getElem? (i := 22) rfl))) (by decide) (t := (.array .int)) (t' := .long) (by decide) (by decide)))
  have Z0 := Nat.le_trans Z0 (Keep.of_wr W19).1
  have KK := Keep.wr KK W19 (Or.inl (List.mem_of_getElem? (i := 0) rfl))
  have FP := FP.same W19
  refine go st19 ?_
  refine go (fun _ k => by refine XS.goto X19.here hx rfl (pc0 := 54) (pc' := 62) rfl (hb hby d_prog_69_method_2_code_54) (by decide) (by decide) ?_; exact k) ?_
  refine go (fun _ k => by refine XS.aloadN X19.here hx rfl (hb hby d_prog_69_method_2_code_62) rfl rfl ?_; exact k) ?_
  refine go (fun _ k => by refine XS.dup X19.here hx rfl (hb hby d_prog_69_method_2_code_63) rfl rfl ?_; exact k) ?_
  show OwnEnd _ _ _ _ _ _ _ (T19.setTop (mkF m 64 #[.val (.ref a0'), .val (.int p1), .val (.int (7 : Int32))] [(.ref a0'), (.ref a0')]))
  obtain ⟨T20, X20, e20, st20⟩ := getF X19 hx hZ hown (host := "") (Or.inl (hw _ (List.mem_of_getElem? (i := 19) rfl))) Via.refl e19 FS (g := (mkF m 64 #[.val (.ref a0'), .val (.int p1), .val (.int (7 : Int32))] [(.ref a0'), (.ref a0')])) rfl rfl (hb hby d_prog_69_method_2_code_64)
  refine go st20 ?_
  refine go (fun _ k => by refine XS.iconst X20.here hx rfl (hb hby d_prog_69_method_2_code_67) ?_; exact k) ?_
  refine go (fun _ k => by refine XS.iadd X20.here hx rfl (hb hby d_prog_69_method_2_code_68) rfl ?_; exact k) ?_
  show OwnEnd _ _ _ _ _ _ _ (T20.setTop (mkF m 69 #[.val (.ref a0'), .val (.int p1), .val (.int (7 : Int32))] [(.int ((7 : Int32) + (1 : Int32))), (.ref a0')]))
  rw [show ((7 : Int32) + (1 : Int32)) = (8 : Int32) from by decide]
  show OwnEnd _ _ _ _ _ _ _ (T20.setTop (mkF m 69 #[.val (.ref a0'), .val (.int p1), .val (.int (7 : Int32))] [(.int (8 : Int32)), (.ref a0')]))
  obtain ⟨T21, h21, X21, e21, W21, st21⟩ := putF X20 hx hZ hown (host := "") (Or.inl (hw _ (List.mem_of_getElem? (i := 19) rfl))) Via.refl e20 FS EA (Or.inl (hw _ (List.mem_of_getElem? (i := 20) rfl))) (hw _ (List.mem_of_getElem? (i := 2) rfl)) (ty := .int) (by decide) rfl rfl (g := (mkF m 69 #[.val (.ref a0'), .val (.int p1), .val (.int (7 : Int32))] [(.int (8 : Int32)), (.ref a0')])) rfl rfl (hb hby d_prog_69_method_2_code_69)
  have N21 := Fr.snoc X21 N19 ga
  have EA := EA.wr W21
  have FP := FP.other W21 (Or.inr (slot_ne (Or.inl (hw _ (List.mem_of_getElem? (i := 22) rfl))) (Or.inl (hw _ (List.mem_of_getElem? (i := 20) rfl))) (by decide) (t := .long) (t' := .int) (by decide) (by decide)))
  have FM := FM.other W21 (Or.inr (slot_ne (Or.inl (hw _ (List.mem_of_getElem? (i := 34) rfl))) (Or.inl (hw _ (List.mem_of_getElem? (i := 20) rfl))) (by decide) (t := (.array .int)) (t' := .int) (by decide) (by decide)))
  have Z0 := Nat.le_trans Z0 (Keep.of_wr W21).1
  have KK := Keep.wr KK W21 (Or.inl (List.mem_of_getElem? (i := 0) rfl))
  have FS := FS.same W21
  refine go st21 ?_
  show OwnEnd _ _ _ _ _ _ _ (T21.setTop (mkF m 72 #[.val (.ref a0'), .val (.int p1), .val (.int (7 : Int32))] []))
  refine endV X21 hx hlk Bd.returns (hb hby d_prog_69_method_2_code_72) e21 (by decide) (by decide) ?_
  exact ⟨rfl, N21, KK, EA, FP, FS, FM⟩
theorem d_prog_69_method_2_code_57 : decode prog_69_method_2_code 57 = .ok (.aload_n 0, 1) := by decide +kernel
theorem d_prog_69_method_2_code_58 : decode prog_69_method_2_code 58 = .ok (.iload_n 1, 1) := by decide +kernel
theorem d_prog_69_method_2_code_59 : decode prog_69_method_2_code 59 = .ok (.invokevirtual 25, 3) := by decide +kernel
theorem pd__I_V : parseMethodDescriptor "(I)V" = some ⟨[.int], none⟩ := by decide +kernel
theorem ef_rm_add8 (m : MethodId) (y0 : Addr) (y1 : Int32) : entryFrame m #[(.ref y0), (.int y1)] 3 = mkF m 0 #[.val (.ref y0), .val (.int y1), .unset] [] := by first | (simp [entryFrame, mkF, argsToLocals, Value.category]; done) | rfl
def Q_rm_add8 (Z : State) (a0' : Addr) (p1 : Int32) (P : Int64) (h0 : Heap) (n0 : Nat) (v : Option Value) (h : Heap) (L : List Loc) : Prop := v = none ∧ Fr n0 L ∧ Keep h0 h [a0'] ∧ Exa Z h a0' "com/example/waitsfor/waitsfor/ShardSet" ∧ Fld Z h a0' "com/example/waitsfor/waitsfor/ShardSet" "packed" "J" (.long (P)) ∧ Fld Z h a0' "com/example/waitsfor/waitsfor/ShardSet" "size" "I" (.int 9) ∧ ∃ mb k, n0 ≤ mb ∧ h0.size ≤ mb ∧ Fld Z h a0' "com/example/waitsfor/waitsfor/ShardSet" "more" "[I" (.ref mb) ∧ Arv Z h mb k .int 8 [.int p1, .int 0, .int 0, .int 0, .int 0, .int 0, .int 0, .int 0] (.int 0)
set_option maxRecDepth 65536 in
set_option maxHeartbeats 40000000 in
theorem rm_add8 (l : Launch) (Z : State) (a0 : Array Value) (hw : ∀ d ∈ tables_1, d.before a0 Z = true) (ws : List Jvm.Cond) (a0' : Addr) (p1 : Int32) (P : Int64) (h0 : Heap) (n0 : Nat) (ga : n0 ≤ a0') (EA : Exa Z h0 a0' "com/example/waitsfor/waitsfor/ShardSet") (FP : Fld Z h0 a0' "com/example/waitsfor/waitsfor/ShardSet" "packed" "J" (.long P)) (FS : Fld Z h0 a0' "com/example/waitsfor/waitsfor/ShardSet" "size" "I" (.int 8)) (FM : Fld Z h0 a0' "com/example/waitsfor/waitsfor/ShardSet" "more" "[I" .null) (ne0 : ¬ own_get P (0 : Int32) = p1) (ne1 : ¬ own_get P (8 : Int32) = p1) (ne2 : ¬ own_get P (16 : Int32) = p1) (ne3 : ¬ own_get P (24 : Int32) = p1) (ne4 : ¬ own_get P (32 : Int32) = p1) (ne5 : ¬ own_get P (40 : Int32) = p1) (ne6 : ¬ own_get P (48 : Int32) = p1) (ne7 : ¬ own_get P (56 : Int32) = p1) (Z0 : n0 ≤ h0.size) :
    MetFree l (⟨"com/example/waitsfor/waitsfor/ShardSet", "add", "(I)V"⟩ : MethodName) (head1 (Jvm.Cond.code (⟨"com/example/waitsfor/waitsfor/ShardSet", "add", "(I)V"⟩ : MethodName) prog_69_method_2_code 3 none :: ws) ({ frames := 1, cells := 1, slots := 8, locals := 14 } : Room)) (fun a U => a = #[(.ref a0'), (.int p1)] ∧ Z.Warmed39 U.vm ∧ U.heap = h0) (fun _ _ _ _ _ => True) (fun _ U o U' => ∃ v L, o = .returned v ∧ Q_rm_add8 Z a0' p1 P h0 n0 v U'.heap L ∧ FrameEnd U o U' L 1 8) := by
  refine MetFree.of_bodySF (plainFor_of_name pn_com_example_waitsfor_waitsfor_ShardSet) hisR ?_
  intro p e s m args below meth c s₁ Bd hml0 hP hK
  obtain ⟨rfl, hZ, hh⟩ := hP
  have hx := Bd.exec
  have hby := Bd.bytes
  have hlk := Bd.notSynchronized
  have hml : c.maxLocals = 3 := hml0
  have hown : s.vm.findClass "com/example/waitsfor/waitsfor/ShardSet" = some m.cls := findClass_of_methodNamed Bd.named
  have hnm := (name_of_methodNamed Bd.named Bd.method).1
  have X0 : Stand p l e ({ frames := 1, cells := 1, slots := 8, locals := 14 } : Room) s m #[(.ref a0'), (.int p1)] below meth c s₁ [] 0 0 := Stand.of_body Bd
  have e0 : s₁.heap = h0 := by rw [← hh, Bd.state]; rfl
  have N0 := Fr.nil n0
  show OwnEnd p e below s (Q_rm_add8 Z a0' p1 P h0 n0) 1 8 (s₁.setTop (entryFrame m #[(.ref a0'), (.int p1)] 3))
  refine go (fun t k => castTop (ef_rm_add8 m a0' p1) k) ?_
  have KK := Keep.refl h0 [a0']
  show OwnEnd _ _ _ _ _ _ _ (s₁.setTop (mkF m 0 #[.val (.ref a0'), .val (.int p1), .unset] []))
  refine go (fun _ k => by refine XS.iconst X0.here hx rfl (hb hby d_prog_69_method_2_code_0) ?_; exact k) ?_
  refine go (fun _ k => by refine XS.istoreN X0.here hx rfl (hb hby d_prog_69_method_2_code_1) rfl (l' := #[.val (.ref a0'), .val (.int p1), .val (.int (0 : Int32))]) rfl ?_; exact k) ?_
  refine go (fun _ k => by refine XS.iloadN X0.here hx rfl (hb hby d_prog_69_method_2_code_2) rfl ?_; exact k) ?_
  refine go (fun _ k => by refine XS.aloadN X0.here hx rfl (hb hby d_prog_69_method_2_code_3) rfl rfl ?_; exact k) ?_
  show OwnEnd _ _ _ _ _ _ _ (s₁.setTop (mkF m 4 #[.val (.ref a0'), .val (.int p1), .val (.int (0 : Int32))] [(.ref a0'), (.int (0 : Int32))]))
  obtain ⟨T1, X1, e1, st1⟩ := getF X0 hx hZ hown (host := "") (Or.inl (hw _ (List.mem_of_getElem? (i := 19) rfl))) Via.refl e0 FS (g := (mkF m 4 #[.val (.ref a0'), .val (.int p1), .val (.int (0 : Int32))] [(.ref a0'), (.int (0 : Int32))])) rfl rfl (hb hby d_prog_69_method_2_code_4)
  refine go st1 ?_
  show OwnEnd _ _ _ _ _ _ _ (T1.setTop (mkF m 7 #[.val (.ref a0'), .val (.int p1), .val (.int (0 : Int32))] [(.int (8 : Int32)), (.int (0 : Int32))]))
  refine go (fun _ k => by refine XS.icmpNo X1.here hx rfl (hb hby d_prog_69_method_2_code_7) rfl (tlt (by decide)).2.1 ?_; exact k) ?_
  refine go (fun _ k => by refine XS.aloadN X1.here hx rfl (hb hby d_prog_69_method_2_code_10) rfl rfl ?_; exact k) ?_
  refine go (fun _ k => by refine XS.iloadN X1.here hx rfl (hb hby d_prog_69_method_2_code_11) rfl ?_; exact k) ?_
  show OwnEnd _ _ _ _ _ _ _ (T1.setTop (mkF m 12 #[.val (.ref a0'), .val (.int p1), .val (.int (0 : Int32))] [(.int (0 : Int32)), (.ref a0')]))
  obtain ⟨_, T2, L2, X2, hQ2, st2⟩ := callVirt X1 hx hZ hown (hw _ (List.mem_of_getElem? (i := 23) rfl)) (hw _ (List.mem_of_getElem? (i := 24) rfl)) (notFace_of_selects (args := #[]) (mvT hZ (hw _ (List.mem_of_getElem? (i := 26) rfl)))) (hw _ (List.mem_of_getElem? (i := 26) rfl)) (hw _ (List.mem_of_getElem? (i := 25) rfl)) (hw _ (List.mem_of_getElem? (i := 3) rfl)) (hw _ (List.mem_of_getElem? (i := 27) rfl)) (by decide) (rm_get0 l Z a0 hw [] a0' P h0 n0 FP) (W := 0) (by decide) (by decide) e1 EA (g := (mkF m 12 #[.val (.ref a0'), .val (.int p1), .val (.int (0 : Int32))] [(.int (0 : Int32)), (.ref a0')])) rfl (by rw [hml]; rfl) (argsL := [(.int (0 : Int32))]) (rest := []) rfl (lenOf pd__I_I rfl) rfl (by show 2 * 0 + _ ≤ _; exact Nat.le_of_eq rfl) (hb hby d_prog_69_method_2_code_12) (by decide) (by decide)
  obtain ⟨rfl, Nq2, eq2⟩ := hQ2
  have N2 := Fr.app N0 Nq2
  refine go st2 ?_
  refine go (fun _ k => by refine XS.iloadN X2.here hx rfl (hb hby d_prog_69_method_2_code_15) rfl ?_; exact k) ?_
  show OwnEnd _ _ _ _ _ _ _ (T2.setTop (mkF m 16 #[.val (.ref a0'), .val (.int p1), .val (.int (0 : Int32))] [(.int p1), (.int (own_get P (0 : Int32)))]))
  refine go (fun _ k => by refine XS.icmpYes X2.here hx rfl (pc0 := 16) (pc' := 20) rfl (hb hby d_prog_69_method_2_code_16) rfl (feq ne0).2 (by decide) (by decide) ?_; exact k) ?_
  show OwnEnd _ _ _ _ _ _ _ (T2.setTop (mkF m 20 #[.val (.ref a0'), .val (.int p1), .val (.int (0 : Int32))] []))
  refine go (fun _ k => by refine XS.iinc X2.here hx rfl (hb hby d_prog_69_method_2_code_20) rfl (l' := #[.val (.ref a0'), .val (.int p1), .val (.int ((0 : Int32) + (1 : Int32)))]) rfl ?_; exact k) ?_
  show OwnEnd _ _ _ _ _ _ _ (T2.setTop (mkF m 23 #[.val (.ref a0'), .val (.int p1), .val (.int ((0 : Int32) + (1 : Int32)))] []))
  rw [show ((0 : Int32) + (1 : Int32)) = (1 : Int32) from by decide]
  refine go (fun _ k => by refine XS.goto X2.here hx rfl (pc0 := 23) (pc' := 2) rfl (hb hby d_prog_69_method_2_code_23) (by decide) (by decide) ?_; exact k) ?_
  refine go (fun _ k => by refine XS.iloadN X2.here hx rfl (hb hby d_prog_69_method_2_code_2) rfl ?_; exact k) ?_
  refine go (fun _ k => by refine XS.aloadN X2.here hx rfl (hb hby d_prog_69_method_2_code_3) rfl rfl ?_; exact k) ?_
  show OwnEnd _ _ _ _ _ _ _ (T2.setTop (mkF m 4 #[.val (.ref a0'), .val (.int p1), .val (.int (1 : Int32))] [(.ref a0'), (.int (1 : Int32))]))
  obtain ⟨T3, X3, e3, st3⟩ := getF X2 hx hZ hown (host := "") (Or.inl (hw _ (List.mem_of_getElem? (i := 19) rfl))) Via.refl eq2 FS (g := (mkF m 4 #[.val (.ref a0'), .val (.int p1), .val (.int (1 : Int32))] [(.ref a0'), (.int (1 : Int32))])) rfl rfl (hb hby d_prog_69_method_2_code_4)
  refine go st3 ?_
  show OwnEnd _ _ _ _ _ _ _ (T3.setTop (mkF m 7 #[.val (.ref a0'), .val (.int p1), .val (.int (1 : Int32))] [(.int (8 : Int32)), (.int (1 : Int32))]))
  refine go (fun _ k => by refine XS.icmpNo X3.here hx rfl (hb hby d_prog_69_method_2_code_7) rfl (tlt (by decide)).2.1 ?_; exact k) ?_
  refine go (fun _ k => by refine XS.aloadN X3.here hx rfl (hb hby d_prog_69_method_2_code_10) rfl rfl ?_; exact k) ?_
  refine go (fun _ k => by refine XS.iloadN X3.here hx rfl (hb hby d_prog_69_method_2_code_11) rfl ?_; exact k) ?_
  show OwnEnd _ _ _ _ _ _ _ (T3.setTop (mkF m 12 #[.val (.ref a0'), .val (.int p1), .val (.int (1 : Int32))] [(.int (1 : Int32)), (.ref a0')]))
  obtain ⟨_, T4, L4, X4, hQ4, st4⟩ := callVirt X3 hx hZ hown (hw _ (List.mem_of_getElem? (i := 23) rfl)) (hw _ (List.mem_of_getElem? (i := 24) rfl)) (notFace_of_selects (args := #[]) (mvT hZ (hw _ (List.mem_of_getElem? (i := 26) rfl)))) (hw _ (List.mem_of_getElem? (i := 26) rfl)) (hw _ (List.mem_of_getElem? (i := 25) rfl)) (hw _ (List.mem_of_getElem? (i := 3) rfl)) (hw _ (List.mem_of_getElem? (i := 27) rfl)) (by decide) (rm_get1 l Z a0 hw [] a0' P h0 n0 FP) (W := 0) (by decide) (by decide) e3 EA (g := (mkF m 12 #[.val (.ref a0'), .val (.int p1), .val (.int (1 : Int32))] [(.int (1 : Int32)), (.ref a0')])) rfl (by rw [hml]; rfl) (argsL := [(.int (1 : Int32))]) (rest := []) rfl (lenOf pd__I_I rfl) rfl (by show 2 * 0 + _ ≤ _; exact Nat.le_of_eq rfl) (hb hby d_prog_69_method_2_code_12) (by decide) (by decide)
  obtain ⟨rfl, Nq4, eq4⟩ := hQ4
  have N4 := Fr.app N2 Nq4
  refine go st4 ?_
  refine go (fun _ k => by refine XS.iloadN X4.here hx rfl (hb hby d_prog_69_method_2_code_15) rfl ?_; exact k) ?_
  show OwnEnd _ _ _ _ _ _ _ (T4.setTop (mkF m 16 #[.val (.ref a0'), .val (.int p1), .val (.int (1 : Int32))] [(.int p1), (.int (own_get P (8 : Int32)))]))
  refine go (fun _ k => by refine XS.icmpYes X4.here hx rfl (pc0 := 16) (pc' := 20) rfl (hb hby d_prog_69_method_2_code_16) rfl (feq ne1).2 (by decide) (by decide) ?_; exact k) ?_
  show OwnEnd _ _ _ _ _ _ _ (T4.setTop (mkF m 20 #[.val (.ref a0'), .val (.int p1), .val (.int (1 : Int32))] []))
  refine go (fun _ k => by refine XS.iinc X4.here hx rfl (hb hby d_prog_69_method_2_code_20) rfl (l' := #[.val (.ref a0'), .val (.int p1), .val (.int ((1 : Int32) + (1 : Int32)))]) rfl ?_; exact k) ?_
  show OwnEnd _ _ _ _ _ _ _ (T4.setTop (mkF m 23 #[.val (.ref a0'), .val (.int p1), .val (.int ((1 : Int32) + (1 : Int32)))] []))
  rw [show ((1 : Int32) + (1 : Int32)) = (2 : Int32) from by decide]
  refine go (fun _ k => by refine XS.goto X4.here hx rfl (pc0 := 23) (pc' := 2) rfl (hb hby d_prog_69_method_2_code_23) (by decide) (by decide) ?_; exact k) ?_
  refine go (fun _ k => by refine XS.iloadN X4.here hx rfl (hb hby d_prog_69_method_2_code_2) rfl ?_; exact k) ?_
  refine go (fun _ k => by refine XS.aloadN X4.here hx rfl (hb hby d_prog_69_method_2_code_3) rfl rfl ?_; exact k) ?_
  show OwnEnd _ _ _ _ _ _ _ (T4.setTop (mkF m 4 #[.val (.ref a0'), .val (.int p1), .val (.int (2 : Int32))] [(.ref a0'), (.int (2 : Int32))]))
  obtain ⟨T5, X5, e5, st5⟩ := getF X4 hx hZ hown (host := "") (Or.inl (hw _ (List.mem_of_getElem? (i := 19) rfl))) Via.refl eq4 FS (g := (mkF m 4 #[.val (.ref a0'), .val (.int p1), .val (.int (2 : Int32))] [(.ref a0'), (.int (2 : Int32))])) rfl rfl (hb hby d_prog_69_method_2_code_4)
  refine go st5 ?_
  show OwnEnd _ _ _ _ _ _ _ (T5.setTop (mkF m 7 #[.val (.ref a0'), .val (.int p1), .val (.int (2 : Int32))] [(.int (8 : Int32)), (.int (2 : Int32))]))
  refine go (fun _ k => by refine XS.icmpNo X5.here hx rfl (hb hby d_prog_69_method_2_code_7) rfl (tlt (by decide)).2.1 ?_; exact k) ?_
  refine go (fun _ k => by refine XS.aloadN X5.here hx rfl (hb hby d_prog_69_method_2_code_10) rfl rfl ?_; exact k) ?_
  refine go (fun _ k => by refine XS.iloadN X5.here hx rfl (hb hby d_prog_69_method_2_code_11) rfl ?_; exact k) ?_
  show OwnEnd _ _ _ _ _ _ _ (T5.setTop (mkF m 12 #[.val (.ref a0'), .val (.int p1), .val (.int (2 : Int32))] [(.int (2 : Int32)), (.ref a0')]))
  obtain ⟨_, T6, L6, X6, hQ6, st6⟩ := callVirt X5 hx hZ hown (hw _ (List.mem_of_getElem? (i := 23) rfl)) (hw _ (List.mem_of_getElem? (i := 24) rfl)) (notFace_of_selects (args := #[]) (mvT hZ (hw _ (List.mem_of_getElem? (i := 26) rfl)))) (hw _ (List.mem_of_getElem? (i := 26) rfl)) (hw _ (List.mem_of_getElem? (i := 25) rfl)) (hw _ (List.mem_of_getElem? (i := 3) rfl)) (hw _ (List.mem_of_getElem? (i := 27) rfl)) (by decide) (rm_get2 l Z a0 hw [] a0' P h0 n0 FP) (W := 0) (by decide) (by decide) e5 EA (g := (mkF m 12 #[.val (.ref a0'), .val (.int p1), .val (.int (2 : Int32))] [(.int (2 : Int32)), (.ref a0')])) rfl (by rw [hml]; rfl) (argsL := [(.int (2 : Int32))]) (rest := []) rfl (lenOf pd__I_I rfl) rfl (by show 2 * 0 + _ ≤ _; exact Nat.le_of_eq rfl) (hb hby d_prog_69_method_2_code_12) (by decide) (by decide)
  obtain ⟨rfl, Nq6, eq6⟩ := hQ6
  have N6 := Fr.app N4 Nq6
  refine go st6 ?_
  refine go (fun _ k => by refine XS.iloadN X6.here hx rfl (hb hby d_prog_69_method_2_code_15) rfl ?_; exact k) ?_
  show OwnEnd _ _ _ _ _ _ _ (T6.setTop (mkF m 16 #[.val (.ref a0'), .val (.int p1), .val (.int (2 : Int32))] [(.int p1), (.int (own_get P (16 : Int32)))]))
  refine go (fun _ k => by refine XS.icmpYes X6.here hx rfl (pc0 := 16) (pc' := 20) rfl (hb hby d_prog_69_method_2_code_16) rfl (feq ne2).2 (by decide) (by decide) ?_; exact k) ?_
  show OwnEnd _ _ _ _ _ _ _ (T6.setTop (mkF m 20 #[.val (.ref a0'), .val (.int p1), .val (.int (2 : Int32))] []))
  refine go (fun _ k => by refine XS.iinc X6.here hx rfl (hb hby d_prog_69_method_2_code_20) rfl (l' := #[.val (.ref a0'), .val (.int p1), .val (.int ((2 : Int32) + (1 : Int32)))]) rfl ?_; exact k) ?_
  show OwnEnd _ _ _ _ _ _ _ (T6.setTop (mkF m 23 #[.val (.ref a0'), .val (.int p1), .val (.int ((2 : Int32) + (1 : Int32)))] []))
  rw [show ((2 : Int32) + (1 : Int32)) = (3 : Int32) from by decide]
  refine go (fun _ k => by refine XS.goto X6.here hx rfl (pc0 := 23) (pc' := 2) rfl (hb hby d_prog_69_method_2_code_23) (by decide) (by decide) ?_; exact k) ?_
  refine go (fun _ k => by refine XS.iloadN X6.here hx rfl (hb hby d_prog_69_method_2_code_2) rfl ?_; exact k) ?_
  refine go (fun _ k => by refine XS.aloadN X6.here hx rfl (hb hby d_prog_69_method_2_code_3) rfl rfl ?_; exact k) ?_
  show OwnEnd _ _ _ _ _ _ _ (T6.setTop (mkF m 4 #[.val (.ref a0'), .val (.int p1), .val (.int (3 : Int32))] [(.ref a0'), (.int (3 : Int32))]))
  obtain ⟨T7, X7, e7, st7⟩ := getF X6 hx hZ hown (host := "") (Or.inl (hw _ (List.mem_of_getElem? (i := 19) rfl))) Via.refl eq6 FS (g := (mkF m 4 #[.val (.ref a0'), .val (.int p1), .val (.int (3 : Int32))] [(.ref a0'), (.int (3 : Int32))])) rfl rfl (hb hby d_prog_69_method_2_code_4)
  refine go st7 ?_
  show OwnEnd _ _ _ _ _ _ _ (T7.setTop (mkF m 7 #[.val (.ref a0'), .val (.int p1), .val (.int (3 : Int32))] [(.int (8 : Int32)), (.int (3 : Int32))]))
  refine go (fun _ k => by refine XS.icmpNo X7.here hx rfl (hb hby d_prog_69_method_2_code_7) rfl (tlt (by decide)).2.1 ?_; exact k) ?_
  refine go (fun _ k => by refine XS.aloadN X7.here hx rfl (hb hby d_prog_69_method_2_code_10) rfl rfl ?_; exact k) ?_
  refine go (fun _ k => by refine XS.iloadN X7.here hx rfl (hb hby d_prog_69_method_2_code_11) rfl ?_; exact k) ?_
  show OwnEnd _ _ _ _ _ _ _ (T7.setTop (mkF m 12 #[.val (.ref a0'), .val (.int p1), .val (.int (3 : Int32))] [(.int (3 : Int32)), (.ref a0')]))
  obtain ⟨_, T8, L8, X8, hQ8, st8⟩ := callVirt X7 hx hZ hown (hw _ (List.mem_of_getElem? (i := 23) rfl)) (hw _ (List.mem_of_getElem? (i := 24) rfl)) (notFace_of_selects (args := #[]) (mvT hZ (hw _ (List.mem_of_getElem? (i := 26) rfl)))) (hw _ (List.mem_of_getElem? (i := 26) rfl)) (hw _ (List.mem_of_getElem? (i := 25) rfl)) (hw _ (List.mem_of_getElem? (i := 3) rfl)) (hw _ (List.mem_of_getElem? (i := 27) rfl)) (by decide) (rm_get3 l Z a0 hw [] a0' P h0 n0 FP) (W := 0) (by decide) (by decide) e7 EA (g := (mkF m 12 #[.val (.ref a0'), .val (.int p1), .val (.int (3 : Int32))] [(.int (3 : Int32)), (.ref a0')])) rfl (by rw [hml]; rfl) (argsL := [(.int (3 : Int32))]) (rest := []) rfl (lenOf pd__I_I rfl) rfl (by show 2 * 0 + _ ≤ _; exact Nat.le_of_eq rfl) (hb hby d_prog_69_method_2_code_12) (by decide) (by decide)
  obtain ⟨rfl, Nq8, eq8⟩ := hQ8
  have N8 := Fr.app N6 Nq8
  refine go st8 ?_
  refine go (fun _ k => by refine XS.iloadN X8.here hx rfl (hb hby d_prog_69_method_2_code_15) rfl ?_; exact k) ?_
  show OwnEnd _ _ _ _ _ _ _ (T8.setTop (mkF m 16 #[.val (.ref a0'), .val (.int p1), .val (.int (3 : Int32))] [(.int p1), (.int (own_get P (24 : Int32)))]))
  refine go (fun _ k => by refine XS.icmpYes X8.here hx rfl (pc0 := 16) (pc' := 20) rfl (hb hby d_prog_69_method_2_code_16) rfl (feq ne3).2 (by decide) (by decide) ?_; exact k) ?_
  show OwnEnd _ _ _ _ _ _ _ (T8.setTop (mkF m 20 #[.val (.ref a0'), .val (.int p1), .val (.int (3 : Int32))] []))
  refine go (fun _ k => by refine XS.iinc X8.here hx rfl (hb hby d_prog_69_method_2_code_20) rfl (l' := #[.val (.ref a0'), .val (.int p1), .val (.int ((3 : Int32) + (1 : Int32)))]) rfl ?_; exact k) ?_
  show OwnEnd _ _ _ _ _ _ _ (T8.setTop (mkF m 23 #[.val (.ref a0'), .val (.int p1), .val (.int ((3 : Int32) + (1 : Int32)))] []))
  rw [show ((3 : Int32) + (1 : Int32)) = (4 : Int32) from by decide]
  refine go (fun _ k => by refine XS.goto X8.here hx rfl (pc0 := 23) (pc' := 2) rfl (hb hby d_prog_69_method_2_code_23) (by decide) (by decide) ?_; exact k) ?_
  refine go (fun _ k => by refine XS.iloadN X8.here hx rfl (hb hby d_prog_69_method_2_code_2) rfl ?_; exact k) ?_
  refine go (fun _ k => by refine XS.aloadN X8.here hx rfl (hb hby d_prog_69_method_2_code_3) rfl rfl ?_; exact k) ?_
  show OwnEnd _ _ _ _ _ _ _ (T8.setTop (mkF m 4 #[.val (.ref a0'), .val (.int p1), .val (.int (4 : Int32))] [(.ref a0'), (.int (4 : Int32))]))
  obtain ⟨T9, X9, e9, st9⟩ := getF X8 hx hZ hown (host := "") (Or.inl (hw _ (List.mem_of_getElem? (i := 19) rfl))) Via.refl eq8 FS (g := (mkF m 4 #[.val (.ref a0'), .val (.int p1), .val (.int (4 : Int32))] [(.ref a0'), (.int (4 : Int32))])) rfl rfl (hb hby d_prog_69_method_2_code_4)
  refine go st9 ?_
  show OwnEnd _ _ _ _ _ _ _ (T9.setTop (mkF m 7 #[.val (.ref a0'), .val (.int p1), .val (.int (4 : Int32))] [(.int (8 : Int32)), (.int (4 : Int32))]))
  refine go (fun _ k => by refine XS.icmpNo X9.here hx rfl (hb hby d_prog_69_method_2_code_7) rfl (tlt (by decide)).2.1 ?_; exact k) ?_
  refine go (fun _ k => by refine XS.aloadN X9.here hx rfl (hb hby d_prog_69_method_2_code_10) rfl rfl ?_; exact k) ?_
  refine go (fun _ k => by refine XS.iloadN X9.here hx rfl (hb hby d_prog_69_method_2_code_11) rfl ?_; exact k) ?_
  show OwnEnd _ _ _ _ _ _ _ (T9.setTop (mkF m 12 #[.val (.ref a0'), .val (.int p1), .val (.int (4 : Int32))] [(.int (4 : Int32)), (.ref a0')]))
  obtain ⟨_, T10, L10, X10, hQ10, st10⟩ := callVirt X9 hx hZ hown (hw _ (List.mem_of_getElem? (i := 23) rfl)) (hw _ (List.mem_of_getElem? (i := 24) rfl)) (notFace_of_selects (args := #[]) (mvT hZ (hw _ (List.mem_of_getElem? (i := 26) rfl)))) (hw _ (List.mem_of_getElem? (i := 26) rfl)) (hw _ (List.mem_of_getElem? (i := 25) rfl)) (hw _ (List.mem_of_getElem? (i := 3) rfl)) (hw _ (List.mem_of_getElem? (i := 27) rfl)) (by decide) (rm_get4 l Z a0 hw [] a0' P h0 n0 FP) (W := 0) (by decide) (by decide) e9 EA (g := (mkF m 12 #[.val (.ref a0'), .val (.int p1), .val (.int (4 : Int32))] [(.int (4 : Int32)), (.ref a0')])) rfl (by rw [hml]; rfl) (argsL := [(.int (4 : Int32))]) (rest := []) rfl (lenOf pd__I_I rfl) rfl (by show 2 * 0 + _ ≤ _; exact Nat.le_of_eq rfl) (hb hby d_prog_69_method_2_code_12) (by decide) (by decide)
  obtain ⟨rfl, Nq10, eq10⟩ := hQ10
  have N10 := Fr.app N8 Nq10
  refine go st10 ?_
  refine go (fun _ k => by refine XS.iloadN X10.here hx rfl (hb hby d_prog_69_method_2_code_15) rfl ?_; exact k) ?_
  show OwnEnd _ _ _ _ _ _ _ (T10.setTop (mkF m 16 #[.val (.ref a0'), .val (.int p1), .val (.int (4 : Int32))] [(.int p1), (.int (own_get P (32 : Int32)))]))
  refine go (fun _ k => by refine XS.icmpYes X10.here hx rfl (pc0 := 16) (pc' := 20) rfl (hb hby d_prog_69_method_2_code_16) rfl (feq ne4).2 (by decide) (by decide) ?_; exact k) ?_
  show OwnEnd _ _ _ _ _ _ _ (T10.setTop (mkF m 20 #[.val (.ref a0'), .val (.int p1), .val (.int (4 : Int32))] []))
  refine go (fun _ k => by refine XS.iinc X10.here hx rfl (hb hby d_prog_69_method_2_code_20) rfl (l' := #[.val (.ref a0'), .val (.int p1), .val (.int ((4 : Int32) + (1 : Int32)))]) rfl ?_; exact k) ?_
  show OwnEnd _ _ _ _ _ _ _ (T10.setTop (mkF m 23 #[.val (.ref a0'), .val (.int p1), .val (.int ((4 : Int32) + (1 : Int32)))] []))
  rw [show ((4 : Int32) + (1 : Int32)) = (5 : Int32) from by decide]
  refine go (fun _ k => by refine XS.goto X10.here hx rfl (pc0 := 23) (pc' := 2) rfl (hb hby d_prog_69_method_2_code_23) (by decide) (by decide) ?_; exact k) ?_
  refine go (fun _ k => by refine XS.iloadN X10.here hx rfl (hb hby d_prog_69_method_2_code_2) rfl ?_; exact k) ?_
  refine go (fun _ k => by refine XS.aloadN X10.here hx rfl (hb hby d_prog_69_method_2_code_3) rfl rfl ?_; exact k) ?_
  show OwnEnd _ _ _ _ _ _ _ (T10.setTop (mkF m 4 #[.val (.ref a0'), .val (.int p1), .val (.int (5 : Int32))] [(.ref a0'), (.int (5 : Int32))]))
  obtain ⟨T11, X11, e11, st11⟩ := getF X10 hx hZ hown (host := "") (Or.inl (hw _ (List.mem_of_getElem? (i := 19) rfl))) Via.refl eq10 FS (g := (mkF m 4 #[.val (.ref a0'), .val (.int p1), .val (.int (5 : Int32))] [(.ref a0'), (.int (5 : Int32))])) rfl rfl (hb hby d_prog_69_method_2_code_4)
  refine go st11 ?_
  show OwnEnd _ _ _ _ _ _ _ (T11.setTop (mkF m 7 #[.val (.ref a0'), .val (.int p1), .val (.int (5 : Int32))] [(.int (8 : Int32)), (.int (5 : Int32))]))
  refine go (fun _ k => by refine XS.icmpNo X11.here hx rfl (hb hby d_prog_69_method_2_code_7) rfl (tlt (by decide)).2.1 ?_; exact k) ?_
  refine go (fun _ k => by refine XS.aloadN X11.here hx rfl (hb hby d_prog_69_method_2_code_10) rfl rfl ?_; exact k) ?_
  refine go (fun _ k => by refine XS.iloadN X11.here hx rfl (hb hby d_prog_69_method_2_code_11) rfl ?_; exact k) ?_
  show OwnEnd _ _ _ _ _ _ _ (T11.setTop (mkF m 12 #[.val (.ref a0'), .val (.int p1), .val (.int (5 : Int32))] [(.int (5 : Int32)), (.ref a0')]))
  obtain ⟨_, T12, L12, X12, hQ12, st12⟩ := callVirt X11 hx hZ hown (hw _ (List.mem_of_getElem? (i := 23) rfl)) (hw _ (List.mem_of_getElem? (i := 24) rfl)) (notFace_of_selects (args := #[]) (mvT hZ (hw _ (List.mem_of_getElem? (i := 26) rfl)))) (hw _ (List.mem_of_getElem? (i := 26) rfl)) (hw _ (List.mem_of_getElem? (i := 25) rfl)) (hw _ (List.mem_of_getElem? (i := 3) rfl)) (hw _ (List.mem_of_getElem? (i := 27) rfl)) (by decide) (rm_get5 l Z a0 hw [] a0' P h0 n0 FP) (W := 0) (by decide) (by decide) e11 EA (g := (mkF m 12 #[.val (.ref a0'), .val (.int p1), .val (.int (5 : Int32))] [(.int (5 : Int32)), (.ref a0')])) rfl (by rw [hml]; rfl) (argsL := [(.int (5 : Int32))]) (rest := []) rfl (lenOf pd__I_I rfl) rfl (by show 2 * 0 + _ ≤ _; exact Nat.le_of_eq rfl) (hb hby d_prog_69_method_2_code_12) (by decide) (by decide)
  obtain ⟨rfl, Nq12, eq12⟩ := hQ12
  have N12 := Fr.app N10 Nq12
  refine go st12 ?_
  refine go (fun _ k => by refine XS.iloadN X12.here hx rfl (hb hby d_prog_69_method_2_code_15) rfl ?_; exact k) ?_
  show OwnEnd _ _ _ _ _ _ _ (T12.setTop (mkF m 16 #[.val (.ref a0'), .val (.int p1), .val (.int (5 : Int32))] [(.int p1), (.int (own_get P (40 : Int32)))]))
  refine go (fun _ k => by refine XS.icmpYes X12.here hx rfl (pc0 := 16) (pc' := 20) rfl (hb hby d_prog_69_method_2_code_16) rfl (feq ne5).2 (by decide) (by decide) ?_; exact k) ?_
  show OwnEnd _ _ _ _ _ _ _ (T12.setTop (mkF m 20 #[.val (.ref a0'), .val (.int p1), .val (.int (5 : Int32))] []))
  refine go (fun _ k => by refine XS.iinc X12.here hx rfl (hb hby d_prog_69_method_2_code_20) rfl (l' := #[.val (.ref a0'), .val (.int p1), .val (.int ((5 : Int32) + (1 : Int32)))]) rfl ?_; exact k) ?_
  show OwnEnd _ _ _ _ _ _ _ (T12.setTop (mkF m 23 #[.val (.ref a0'), .val (.int p1), .val (.int ((5 : Int32) + (1 : Int32)))] []))
  rw [show ((5 : Int32) + (1 : Int32)) = (6 : Int32) from by decide]
  refine go (fun _ k => by refine XS.goto X12.here hx rfl (pc0 := 23) (pc' := 2) rfl (hb hby d_prog_69_method_2_code_23) (by decide) (by decide) ?_; exact k) ?_
  refine go (fun _ k => by refine XS.iloadN X12.here hx rfl (hb hby d_prog_69_method_2_code_2) rfl ?_; exact k) ?_
  refine go (fun _ k => by refine XS.aloadN X12.here hx rfl (hb hby d_prog_69_method_2_code_3) rfl rfl ?_; exact k) ?_
  show OwnEnd _ _ _ _ _ _ _ (T12.setTop (mkF m 4 #[.val (.ref a0'), .val (.int p1), .val (.int (6 : Int32))] [(.ref a0'), (.int (6 : Int32))]))
  obtain ⟨T13, X13, e13, st13⟩ := getF X12 hx hZ hown (host := "") (Or.inl (hw _ (List.mem_of_getElem? (i := 19) rfl))) Via.refl eq12 FS (g := (mkF m 4 #[.val (.ref a0'), .val (.int p1), .val (.int (6 : Int32))] [(.ref a0'), (.int (6 : Int32))])) rfl rfl (hb hby d_prog_69_method_2_code_4)
  refine go st13 ?_
  show OwnEnd _ _ _ _ _ _ _ (T13.setTop (mkF m 7 #[.val (.ref a0'), .val (.int p1), .val (.int (6 : Int32))] [(.int (8 : Int32)), (.int (6 : Int32))]))
  refine go (fun _ k => by refine XS.icmpNo X13.here hx rfl (hb hby d_prog_69_method_2_code_7) rfl (tlt (by decide)).2.1 ?_; exact k) ?_
  refine go (fun _ k => by refine XS.aloadN X13.here hx rfl (hb hby d_prog_69_method_2_code_10) rfl rfl ?_; exact k) ?_
  refine go (fun _ k => by refine XS.iloadN X13.here hx rfl (hb hby d_prog_69_method_2_code_11) rfl ?_; exact k) ?_
  show OwnEnd _ _ _ _ _ _ _ (T13.setTop (mkF m 12 #[.val (.ref a0'), .val (.int p1), .val (.int (6 : Int32))] [(.int (6 : Int32)), (.ref a0')]))
  obtain ⟨_, T14, L14, X14, hQ14, st14⟩ := callVirt X13 hx hZ hown (hw _ (List.mem_of_getElem? (i := 23) rfl)) (hw _ (List.mem_of_getElem? (i := 24) rfl)) (notFace_of_selects (args := #[]) (mvT hZ (hw _ (List.mem_of_getElem? (i := 26) rfl)))) (hw _ (List.mem_of_getElem? (i := 26) rfl)) (hw _ (List.mem_of_getElem? (i := 25) rfl)) (hw _ (List.mem_of_getElem? (i := 3) rfl)) (hw _ (List.mem_of_getElem? (i := 27) rfl)) (by decide) (rm_get6 l Z a0 hw [] a0' P h0 n0 FP) (W := 0) (by decide) (by decide) e13 EA (g := (mkF m 12 #[.val (.ref a0'), .val (.int p1), .val (.int (6 : Int32))] [(.int (6 : Int32)), (.ref a0')])) rfl (by rw [hml]; rfl) (argsL := [(.int (6 : Int32))]) (rest := []) rfl (lenOf pd__I_I rfl) rfl (by show 2 * 0 + _ ≤ _; exact Nat.le_of_eq rfl) (hb hby d_prog_69_method_2_code_12) (by decide) (by decide)
  obtain ⟨rfl, Nq14, eq14⟩ := hQ14
  have N14 := Fr.app N12 Nq14
  refine go st14 ?_
  refine go (fun _ k => by refine XS.iloadN X14.here hx rfl (hb hby d_prog_69_method_2_code_15) rfl ?_; exact k) ?_
  show OwnEnd _ _ _ _ _ _ _ (T14.setTop (mkF m 16 #[.val (.ref a0'), .val (.int p1), .val (.int (6 : Int32))] [(.int p1), (.int (own_get P (48 : Int32)))]))
  refine go (fun _ k => by refine XS.icmpYes X14.here hx rfl (pc0 := 16) (pc' := 20) rfl (hb hby d_prog_69_method_2_code_16) rfl (feq ne6).2 (by decide) (by decide) ?_; exact k) ?_
  show OwnEnd _ _ _ _ _ _ _ (T14.setTop (mkF m 20 #[.val (.ref a0'), .val (.int p1), .val (.int (6 : Int32))] []))
  refine go (fun _ k => by refine XS.iinc X14.here hx rfl (hb hby d_prog_69_method_2_code_20) rfl (l' := #[.val (.ref a0'), .val (.int p1), .val (.int ((6 : Int32) + (1 : Int32)))]) rfl ?_; exact k) ?_
  show OwnEnd _ _ _ _ _ _ _ (T14.setTop (mkF m 23 #[.val (.ref a0'), .val (.int p1), .val (.int ((6 : Int32) + (1 : Int32)))] []))
  rw [show ((6 : Int32) + (1 : Int32)) = (7 : Int32) from by decide]
  refine go (fun _ k => by refine XS.goto X14.here hx rfl (pc0 := 23) (pc' := 2) rfl (hb hby d_prog_69_method_2_code_23) (by decide) (by decide) ?_; exact k) ?_
  refine go (fun _ k => by refine XS.iloadN X14.here hx rfl (hb hby d_prog_69_method_2_code_2) rfl ?_; exact k) ?_
  refine go (fun _ k => by refine XS.aloadN X14.here hx rfl (hb hby d_prog_69_method_2_code_3) rfl rfl ?_; exact k) ?_
  show OwnEnd _ _ _ _ _ _ _ (T14.setTop (mkF m 4 #[.val (.ref a0'), .val (.int p1), .val (.int (7 : Int32))] [(.ref a0'), (.int (7 : Int32))]))
  obtain ⟨T15, X15, e15, st15⟩ := getF X14 hx hZ hown (host := "") (Or.inl (hw _ (List.mem_of_getElem? (i := 19) rfl))) Via.refl eq14 FS (g := (mkF m 4 #[.val (.ref a0'), .val (.int p1), .val (.int (7 : Int32))] [(.ref a0'), (.int (7 : Int32))])) rfl rfl (hb hby d_prog_69_method_2_code_4)
  refine go st15 ?_
  show OwnEnd _ _ _ _ _ _ _ (T15.setTop (mkF m 7 #[.val (.ref a0'), .val (.int p1), .val (.int (7 : Int32))] [(.int (8 : Int32)), (.int (7 : Int32))]))
  refine go (fun _ k => by refine XS.icmpNo X15.here hx rfl (hb hby d_prog_69_method_2_code_7) rfl (tlt (by decide)).2.1 ?_; exact k) ?_
  refine go (fun _ k => by refine XS.aloadN X15.here hx rfl (hb hby d_prog_69_method_2_code_10) rfl rfl ?_; exact k) ?_
  refine go (fun _ k => by refine XS.iloadN X15.here hx rfl (hb hby d_prog_69_method_2_code_11) rfl ?_; exact k) ?_
  show OwnEnd _ _ _ _ _ _ _ (T15.setTop (mkF m 12 #[.val (.ref a0'), .val (.int p1), .val (.int (7 : Int32))] [(.int (7 : Int32)), (.ref a0')]))
  obtain ⟨_, T16, L16, X16, hQ16, st16⟩ := callVirt X15 hx hZ hown (hw _ (List.mem_of_getElem? (i := 23) rfl)) (hw _ (List.mem_of_getElem? (i := 24) rfl)) (notFace_of_selects (args := #[]) (mvT hZ (hw _ (List.mem_of_getElem? (i := 26) rfl)))) (hw _ (List.mem_of_getElem? (i := 26) rfl)) (hw _ (List.mem_of_getElem? (i := 25) rfl)) (hw _ (List.mem_of_getElem? (i := 3) rfl)) (hw _ (List.mem_of_getElem? (i := 27) rfl)) (by decide) (rm_get7 l Z a0 hw [] a0' P h0 n0 FP) (W := 0) (by decide) (by decide) e15 EA (g := (mkF m 12 #[.val (.ref a0'), .val (.int p1), .val (.int (7 : Int32))] [(.int (7 : Int32)), (.ref a0')])) rfl (by rw [hml]; rfl) (argsL := [(.int (7 : Int32))]) (rest := []) rfl (lenOf pd__I_I rfl) rfl (by show 2 * 0 + _ ≤ _; exact Nat.le_of_eq rfl) (hb hby d_prog_69_method_2_code_12) (by decide) (by decide)
  obtain ⟨rfl, Nq16, eq16⟩ := hQ16
  have N16 := Fr.app N14 Nq16
  refine go st16 ?_
  refine go (fun _ k => by refine XS.iloadN X16.here hx rfl (hb hby d_prog_69_method_2_code_15) rfl ?_; exact k) ?_
  show OwnEnd _ _ _ _ _ _ _ (T16.setTop (mkF m 16 #[.val (.ref a0'), .val (.int p1), .val (.int (7 : Int32))] [(.int p1), (.int (own_get P (56 : Int32)))]))
  refine go (fun _ k => by refine XS.icmpYes X16.here hx rfl (pc0 := 16) (pc' := 20) rfl (hb hby d_prog_69_method_2_code_16) rfl (feq ne7).2 (by decide) (by decide) ?_; exact k) ?_
  show OwnEnd _ _ _ _ _ _ _ (T16.setTop (mkF m 20 #[.val (.ref a0'), .val (.int p1), .val (.int (7 : Int32))] []))
  refine go (fun _ k => by refine XS.iinc X16.here hx rfl (hb hby d_prog_69_method_2_code_20) rfl (l' := #[.val (.ref a0'), .val (.int p1), .val (.int ((7 : Int32) + (1 : Int32)))]) rfl ?_; exact k) ?_
  show OwnEnd _ _ _ _ _ _ _ (T16.setTop (mkF m 23 #[.val (.ref a0'), .val (.int p1), .val (.int ((7 : Int32) + (1 : Int32)))] []))
  rw [show ((7 : Int32) + (1 : Int32)) = (8 : Int32) from by decide]
  refine go (fun _ k => by refine XS.goto X16.here hx rfl (pc0 := 23) (pc' := 2) rfl (hb hby d_prog_69_method_2_code_23) (by decide) (by decide) ?_; exact k) ?_
  refine go (fun _ k => by refine XS.iloadN X16.here hx rfl (hb hby d_prog_69_method_2_code_2) rfl ?_; exact k) ?_
  refine go (fun _ k => by refine XS.aloadN X16.here hx rfl (hb hby d_prog_69_method_2_code_3) rfl rfl ?_; exact k) ?_
  show OwnEnd _ _ _ _ _ _ _ (T16.setTop (mkF m 4 #[.val (.ref a0'), .val (.int p1), .val (.int (8 : Int32))] [(.ref a0'), (.int (8 : Int32))]))
  obtain ⟨T17, X17, e17, st17⟩ := getF X16 hx hZ hown (host := "") (Or.inl (hw _ (List.mem_of_getElem? (i := 19) rfl))) Via.refl eq16 FS (g := (mkF m 4 #[.val (.ref a0'), .val (.int p1), .val (.int (8 : Int32))] [(.ref a0'), (.int (8 : Int32))])) rfl rfl (hb hby d_prog_69_method_2_code_4)
  refine go st17 ?_
  show OwnEnd _ _ _ _ _ _ _ (T17.setTop (mkF m 7 #[.val (.ref a0'), .val (.int p1), .val (.int (8 : Int32))] [(.int (8 : Int32)), (.int (8 : Int32))]))
  refine go (fun _ k => by refine XS.icmpYes X17.here hx rfl (pc0 := 7) (pc' := 26) rfl (hb hby d_prog_69_method_2_code_7) rfl (flt (by decide)).2.1 (by decide) (by decide) ?_; exact k) ?_
  refine go (fun _ k => by refine XS.aloadN X17.here hx rfl (hb hby d_prog_69_method_2_code_26) rfl rfl ?_; exact k) ?_
  show OwnEnd _ _ _ _ _ _ _ (T17.setTop (mkF m 27 #[.val (.ref a0'), .val (.int p1), .val (.int (8 : Int32))] [(.ref a0')]))
  obtain ⟨T18, X18, e18, st18⟩ := getF X17 hx hZ hown (host := "") (Or.inl (hw _ (List.mem_of_getElem? (i := 19) rfl))) Via.refl e17 FS (g := (mkF m 27 #[.val (.ref a0'), .val (.int p1), .val (.int (8 : Int32))] [(.ref a0')])) rfl rfl (hb hby d_prog_69_method_2_code_27)
  refine go st18 ?_
  refine go (fun _ k => by refine XS.bipush X18.here hx rfl (hb hby d_prog_69_method_2_code_30) ?_; exact k) ?_
  show OwnEnd _ _ _ _ _ _ _ (T18.setTop (mkF m 32 #[.val (.ref a0'), .val (.int p1), .val (.int (8 : Int32))] [(.int (8 : Int32)), (.int (8 : Int32))]))
  refine go (fun _ k => by refine XS.icmpYes X18.here hx rfl (pc0 := 32) (pc' := 57) rfl (hb hby d_prog_69_method_2_code_32) rfl (flt (by decide)).2.1 (by decide) (by decide) ?_; exact k) ?_
  refine go (fun _ k => by refine XS.aloadN X18.here hx rfl (hb hby d_prog_69_method_2_code_57) rfl rfl ?_; exact k) ?_
  refine go (fun _ k => by refine XS.iloadN X18.here hx rfl (hb hby d_prog_69_method_2_code_58) rfl ?_; exact k) ?_
  show OwnEnd _ _ _ _ _ _ _ (T18.setTop (mkF m 59 #[.val (.ref a0'), .val (.int p1), .val (.int (8 : Int32))] [(.int p1), (.ref a0')]))
  obtain ⟨_, T19, L19, X19, hQ19, st19⟩ := callPriv X18 hx hZ hown (hw _ (List.mem_of_getElem? (i := 29) rfl)) (hw _ (List.mem_of_getElem? (i := 30) rfl)) (hw _ (List.mem_of_getElem? (i := 31) rfl)) (hw _ (List.mem_of_getElem? (i := 2) rfl)) (hw _ (List.mem_of_getElem? (i := 3) rfl)) (hw _ (List.mem_of_getElem? (i := 32) rfl)) (by decide) (rm_am8 l Z a0 hw [] a0' p1 P h0 n0 ga EA FP FS FM Z0) (W := 0) (by decide) (by decide) e18 EA (g := (mkF m 59 #[.val (.ref a0'), .val (.int p1), .val (.int (8 : Int32))] [(.int p1), (.ref a0')])) rfl (by rw [hml]; rfl) (argsL := [(.int p1)]) (rest := []) rfl (lenOf pd__I_V rfl) rfl (by show 2 * 0 + _ ≤ _; exact Nat.le_of_eq rfl) (hb hby d_prog_69_method_2_code_59) (by decide) (by decide)
  have lto19 := EA.lt
  obtain ⟨rfl, Nq19, K19, EA, FP, FS, m19, k19, g_m19, sq19, FM, V_m19⟩ := hQ19
  have ne_m19 : a0' ≠ m19 := fun q => absurd lto19 (by rw [q]; exact Nat.not_lt.mpr sq19)
  have sz_m19 : h0.size ≤ m19 := Nat.le_trans KK.1 sq19
  have N19 := Fr.app N16 Nq19
  have Z0 := Nat.le_trans Z0 K19.1
  have KK := Keep.trans KK K19 (allS (Or.inl (List.mem_of_getElem? (i := 0) rfl)) all0)
  refine go st19 ?_
  refine go (fun _ k => by refine XS.aloadN X19.here hx rfl (hb hby d_prog_69_method_2_code_62) rfl rfl ?_; exact k) ?_
  refine go (fun _ k => by refine XS.dup X19.here hx rfl (hb hby d_prog_69_method_2_code_63) rfl rfl ?_; exact k) ?_
  show OwnEnd _ _ _ _ _ _ _ (T19.setTop (mkF m 64 #[.val (.ref a0'), .val (.int p1), .val (.int (8 : Int32))] [(.ref a0'), (.ref a0')]))
  obtain ⟨T20, X20, e20, st20⟩ := getF X19 hx hZ hown (host := "") (Or.inl (hw _ (List.mem_of_getElem? (i := 19) rfl))) Via.refl rfl FS (g := (mkF m 64 #[.val (.ref a0'), .val (.int p1), .val (.int (8 : Int32))] [(.ref a0'), (.ref a0')])) rfl rfl (hb hby d_prog_69_method_2_code_64)
  refine go st20 ?_
  refine go (fun _ k => by refine XS.iconst X20.here hx rfl (hb hby d_prog_69_method_2_code_67) ?_; exact k) ?_
  refine go (fun _ k => by refine XS.iadd X20.here hx rfl (hb hby d_prog_69_method_2_code_68) rfl ?_; exact k) ?_
  show OwnEnd _ _ _ _ _ _ _ (T20.setTop (mkF m 69 #[.val (.ref a0'), .val (.int p1), .val (.int (8 : Int32))] [(.int ((8 : Int32) + (1 : Int32))), (.ref a0')]))
  rw [show ((8 : Int32) + (1 : Int32)) = (9 : Int32) from by decide]
  show OwnEnd _ _ _ _ _ _ _ (T20.setTop (mkF m 69 #[.val (.ref a0'), .val (.int p1), .val (.int (8 : Int32))] [(.int (9 : Int32)), (.ref a0')]))
  obtain ⟨T21, h21, X21, e21, W21, st21⟩ := putF X20 hx hZ hown (host := "") (Or.inl (hw _ (List.mem_of_getElem? (i := 19) rfl))) Via.refl e20 FS EA (Or.inl (hw _ (List.mem_of_getElem? (i := 20) rfl))) (hw _ (List.mem_of_getElem? (i := 2) rfl)) (ty := .int) (by decide) rfl rfl (g := (mkF m 69 #[.val (.ref a0'), .val (.int p1), .val (.int (8 : Int32))] [(.int (9 : Int32)), (.ref a0')])) rfl rfl (hb hby d_prog_69_method_2_code_69)
  have N21 := Fr.snoc X21 N19 ga
  have Z0 := Nat.le_trans Z0 (Keep.of_wr W21).1
  have KK := Keep.wr KK W21 (Or.inl (List.mem_of_getElem? (i := 0) rfl))
  have EA := EA.wr W21
  have FP := FP.other W21 (Or.inr (slot_ne (Or.inl (hw _ (List.mem_of_getElem? (i := 22) rfl))) (Or.inl (hw _ (List.mem_of_getElem? (i := 20) rfl))) (by decide) (t := .long) (t' := .int) (by decide) (by decide)))
  have FM := FM.other W21 (Or.inr (slot_ne (Or.inl (hw _ (List.mem_of_getElem? (i := 34) rfl))) (Or.inl (hw _ (List.mem_of_getElem? (i := 20) rfl))) (by decide) (t := (.array .int)) (t' := .int) (by decide) (by decide)))
  have V_m19 := V_m19.other W21 (Ne.symm ne_m19)
  have FS := FS.same W21
  refine go st21 ?_
  show OwnEnd _ _ _ _ _ _ _ (T21.setTop (mkF m 72 #[.val (.ref a0'), .val (.int p1), .val (.int (8 : Int32))] []))
  refine endV X21 hx hlk Bd.returns (hb hby d_prog_69_method_2_code_72) e21 (by decide) (by decide) ?_
  exact ⟨rfl, N21, KK, EA, FP, FS, m19, _, g_m19, sz_m19, FM, V_m19⟩
theorem ef_rm_add9 (m : MethodId) (y0 : Addr) (y1 : Int32) : entryFrame m #[(.ref y0), (.int y1)] 3 = mkF m 0 #[.val (.ref y0), .val (.int y1), .unset] [] := by first | (simp [entryFrame, mkF, argsToLocals, Value.category]; done) | rfl
def Q_rm_add9 (Z : State) (a0' : Addr) (p1 : Int32) (P : Int64) (mb : Addr) (k : ClassId) (w0 : Int32) (h0 : Heap) (n0 : Nat) (v : Option Value) (h : Heap) (L : List Loc) : Prop := v = none ∧ Fr n0 L ∧ Keep h0 h [a0', mb] ∧ Exa Z h a0' "com/example/waitsfor/waitsfor/ShardSet" ∧ Fld Z h a0' "com/example/waitsfor/waitsfor/ShardSet" "packed" "J" (.long (P)) ∧ Fld Z h a0' "com/example/waitsfor/waitsfor/ShardSet" "size" "I" (.int 10) ∧ Fld Z h a0' "com/example/waitsfor/waitsfor/ShardSet" "more" "[I" (.ref mb) ∧ Arv Z h mb k .int 8 [.int w0, .int p1, .int 0, .int 0, .int 0, .int 0, .int 0, .int 0] (.int 0)
set_option maxRecDepth 65536 in
set_option maxHeartbeats 40000000 in
theorem rm_add9 (l : Launch) (Z : State) (a0 : Array Value) (hw : ∀ d ∈ tables_1, d.before a0 Z = true) (ws : List Jvm.Cond) (a0' : Addr) (p1 : Int32) (P : Int64) (mb : Addr) (k : ClassId) (w0 : Int32) (h0 : Heap) (n0 : Nat) (ga : n0 ≤ a0') (EA : Exa Z h0 a0' "com/example/waitsfor/waitsfor/ShardSet") (FP : Fld Z h0 a0' "com/example/waitsfor/waitsfor/ShardSet" "packed" "J" (.long P)) (FS : Fld Z h0 a0' "com/example/waitsfor/waitsfor/ShardSet" "size" "I" (.int 9)) (FM : Fld Z h0 a0' "com/example/waitsfor/waitsfor/ShardSet" "more" "[I" (.ref mb)) (ne0 : ¬ own_get P (0 : Int32) = p1) (ne1 : ¬ own_get P (8 : Int32) = p1) (ne2 : ¬ own_get P (16 : Int32) = p1) (ne3 : ¬ own_get P (24 : Int32) = p1) (ne4 : ¬ own_get P (32 : Int32) = p1) (ne5 : ¬ own_get P (40 : Int32) = p1) (ne6 : ¬ own_get P (48 : Int32) = p1) (ne7 : ¬ own_get P (56 : Int32) = p1) (ne8 : ¬ w0 = p1) (Z0 : n0 ≤ h0.size) (gm : n0 ≤ mb) (nm : a0' ≠ mb) (VM : Arv Z h0 mb k .int 8 [.int w0, .int 0, .int 0, .int 0, .int 0, .int 0, .int 0, .int 0] (.int 0)) :
    MetFree l (⟨"com/example/waitsfor/waitsfor/ShardSet", "add", "(I)V"⟩ : MethodName) (head1 (Jvm.Cond.code (⟨"com/example/waitsfor/waitsfor/ShardSet", "add", "(I)V"⟩ : MethodName) prog_69_method_2_code 3 none :: ws) ({ frames := 1, cells := 1, slots := 8, locals := 14 } : Room)) (fun a U => a = #[(.ref a0'), (.int p1)] ∧ Z.Warmed39 U.vm ∧ U.heap = h0) (fun _ _ _ _ _ => True) (fun _ U o U' => ∃ v L, o = .returned v ∧ Q_rm_add9 Z a0' p1 P mb k w0 h0 n0 v U'.heap L ∧ FrameEnd U o U' L 1 8) := by
  refine MetFree.of_bodySF (plainFor_of_name pn_com_example_waitsfor_waitsfor_ShardSet) hisR ?_
  intro p e s m args below meth c s₁ Bd hml0 hP hK
  obtain ⟨rfl, hZ, hh⟩ := hP
  have hx := Bd.exec
  have hby := Bd.bytes
  have hlk := Bd.notSynchronized
  have hml : c.maxLocals = 3 := hml0
  have hown : s.vm.findClass "com/example/waitsfor/waitsfor/ShardSet" = some m.cls := findClass_of_methodNamed Bd.named
  have hnm := (name_of_methodNamed Bd.named Bd.method).1
  have X0 : Stand p l e ({ frames := 1, cells := 1, slots := 8, locals := 14 } : Room) s m #[(.ref a0'), (.int p1)] below meth c s₁ [] 0 0 := Stand.of_body Bd
  have e0 : s₁.heap = h0 := by rw [← hh, Bd.state]; rfl
  have N0 := Fr.nil n0
  show OwnEnd p e below s (Q_rm_add9 Z a0' p1 P mb k w0 h0 n0) 1 8 (s₁.setTop (entryFrame m #[(.ref a0'), (.int p1)] 3))
  refine go (fun t k => castTop (ef_rm_add9 m a0' p1) k) ?_
  have KK := Keep.refl h0 [a0', mb]
  show OwnEnd _ _ _ _ _ _ _ (s₁.setTop (mkF m 0 #[.val (.ref a0'), .val (.int p1), .unset] []))
  refine go (fun _ k => by refine XS.iconst X0.here hx rfl (hb hby d_prog_69_method_2_code_0) ?_; exact k) ?_
  refine go (fun _ k => by refine XS.istoreN X0.here hx rfl (hb hby d_prog_69_method_2_code_1) rfl (l' := #[.val (.ref a0'), .val (.int p1), .val (.int (0 : Int32))]) rfl ?_; exact k) ?_
  refine go (fun _ k => by refine XS.iloadN X0.here hx rfl (hb hby d_prog_69_method_2_code_2) rfl ?_; exact k) ?_
  refine go (fun _ k => by refine XS.aloadN X0.here hx rfl (hb hby d_prog_69_method_2_code_3) rfl rfl ?_; exact k) ?_
  show OwnEnd _ _ _ _ _ _ _ (s₁.setTop (mkF m 4 #[.val (.ref a0'), .val (.int p1), .val (.int (0 : Int32))] [(.ref a0'), (.int (0 : Int32))]))
  obtain ⟨T1, X1, e1, st1⟩ := getF X0 hx hZ hown (host := "") (Or.inl (hw _ (List.mem_of_getElem? (i := 19) rfl))) Via.refl e0 FS (g := (mkF m 4 #[.val (.ref a0'), .val (.int p1), .val (.int (0 : Int32))] [(.ref a0'), (.int (0 : Int32))])) rfl rfl (hb hby d_prog_69_method_2_code_4)
  refine go st1 ?_
  show OwnEnd _ _ _ _ _ _ _ (T1.setTop (mkF m 7 #[.val (.ref a0'), .val (.int p1), .val (.int (0 : Int32))] [(.int (9 : Int32)), (.int (0 : Int32))]))
  refine go (fun _ k => by refine XS.icmpNo X1.here hx rfl (hb hby d_prog_69_method_2_code_7) rfl (tlt (by decide)).2.1 ?_; exact k) ?_
  refine go (fun _ k => by refine XS.aloadN X1.here hx rfl (hb hby d_prog_69_method_2_code_10) rfl rfl ?_; exact k) ?_
  refine go (fun _ k => by refine XS.iloadN X1.here hx rfl (hb hby d_prog_69_method_2_code_11) rfl ?_; exact k) ?_
  show OwnEnd _ _ _ _ _ _ _ (T1.setTop (mkF m 12 #[.val (.ref a0'), .val (.int p1), .val (.int (0 : Int32))] [(.int (0 : Int32)), (.ref a0')]))
  obtain ⟨_, T2, L2, X2, hQ2, st2⟩ := callVirt X1 hx hZ hown (hw _ (List.mem_of_getElem? (i := 23) rfl)) (hw _ (List.mem_of_getElem? (i := 24) rfl)) (notFace_of_selects (args := #[]) (mvT hZ (hw _ (List.mem_of_getElem? (i := 26) rfl)))) (hw _ (List.mem_of_getElem? (i := 26) rfl)) (hw _ (List.mem_of_getElem? (i := 25) rfl)) (hw _ (List.mem_of_getElem? (i := 3) rfl)) (hw _ (List.mem_of_getElem? (i := 27) rfl)) (by decide) (rm_get0 l Z a0 hw [] a0' P h0 n0 FP) (W := 0) (by decide) (by decide) e1 EA (g := (mkF m 12 #[.val (.ref a0'), .val (.int p1), .val (.int (0 : Int32))] [(.int (0 : Int32)), (.ref a0')])) rfl (by rw [hml]; rfl) (argsL := [(.int (0 : Int32))]) (rest := []) rfl (lenOf pd__I_I rfl) rfl (by show 2 * 0 + _ ≤ _; exact Nat.le_of_eq rfl) (hb hby d_prog_69_method_2_code_12) (by decide) (by decide)
  obtain ⟨rfl, Nq2, eq2⟩ := hQ2
  have N2 := Fr.app N0 Nq2
  refine go st2 ?_
  refine go (fun _ k => by refine XS.iloadN X2.here hx rfl (hb hby d_prog_69_method_2_code_15) rfl ?_; exact k) ?_
  show OwnEnd _ _ _ _ _ _ _ (T2.setTop (mkF m 16 #[.val (.ref a0'), .val (.int p1), .val (.int (0 : Int32))] [(.int p1), (.int (own_get P (0 : Int32)))]))
  refine go (fun _ k => by refine XS.icmpYes X2.here hx rfl (pc0 := 16) (pc' := 20) rfl (hb hby d_prog_69_method_2_code_16) rfl (feq ne0).2 (by decide) (by decide) ?_; exact k) ?_
  show OwnEnd _ _ _ _ _ _ _ (T2.setTop (mkF m 20 #[.val (.ref a0'), .val (.int p1), .val (.int (0 : Int32))] []))
  refine go (fun _ k => by refine XS.iinc X2.here hx rfl (hb hby d_prog_69_method_2_code_20) rfl (l' := #[.val (.ref a0'), .val (.int p1), .val (.int ((0 : Int32) + (1 : Int32)))]) rfl ?_; exact k) ?_
  show OwnEnd _ _ _ _ _ _ _ (T2.setTop (mkF m 23 #[.val (.ref a0'), .val (.int p1), .val (.int ((0 : Int32) + (1 : Int32)))] []))
  rw [show ((0 : Int32) + (1 : Int32)) = (1 : Int32) from by decide]
  refine go (fun _ k => by refine XS.goto X2.here hx rfl (pc0 := 23) (pc' := 2) rfl (hb hby d_prog_69_method_2_code_23) (by decide) (by decide) ?_; exact k) ?_
  refine go (fun _ k => by refine XS.iloadN X2.here hx rfl (hb hby d_prog_69_method_2_code_2) rfl ?_; exact k) ?_
  refine go (fun _ k => by refine XS.aloadN X2.here hx rfl (hb hby d_prog_69_method_2_code_3) rfl rfl ?_; exact k) ?_
  show OwnEnd _ _ _ _ _ _ _ (T2.setTop (mkF m 4 #[.val (.ref a0'), .val (.int p1), .val (.int (1 : Int32))] [(.ref a0'), (.int (1 : Int32))]))
  obtain ⟨T3, X3, e3, st3⟩ := getF X2 hx hZ hown (host := "") (Or.inl (hw _ (List.mem_of_getElem? (i := 19) rfl))) Via.refl eq2 FS (g := (mkF m 4 #[.val (.ref a0'), .val (.int p1), .val (.int (1 : Int32))] [(.ref a0'), (.int (1 : Int32))])) rfl rfl (hb hby d_prog_69_method_2_code_4)
  refine go st3 ?_
  show OwnEnd _ _ _ _ _ _ _ (T3.setTop (mkF m 7 #[.val (.ref a0'), .val (.int p1), .val (.int (1 : Int32))] [(.int (9 : Int32)), (.int (1 : Int32))]))
  refine go (fun _ k => by refine XS.icmpNo X3.here hx rfl (hb hby d_prog_69_method_2_code_7) rfl (tlt (by decide)).2.1 ?_; exact k) ?_
  refine go (fun _ k => by refine XS.aloadN X3.here hx rfl (hb hby d_prog_69_method_2_code_10) rfl rfl ?_; exact k) ?_
  refine go (fun _ k => by refine XS.iloadN X3.here hx rfl (hb hby d_prog_69_method_2_code_11) rfl ?_; exact k) ?_
  show OwnEnd _ _ _ _ _ _ _ (T3.setTop (mkF m 12 #[.val (.ref a0'), .val (.int p1), .val (.int (1 : Int32))] [(.int (1 : Int32)), (.ref a0')]))
  obtain ⟨_, T4, L4, X4, hQ4, st4⟩ := callVirt X3 hx hZ hown (hw _ (List.mem_of_getElem? (i := 23) rfl)) (hw _ (List.mem_of_getElem? (i := 24) rfl)) (notFace_of_selects (args := #[]) (mvT hZ (hw _ (List.mem_of_getElem? (i := 26) rfl)))) (hw _ (List.mem_of_getElem? (i := 26) rfl)) (hw _ (List.mem_of_getElem? (i := 25) rfl)) (hw _ (List.mem_of_getElem? (i := 3) rfl)) (hw _ (List.mem_of_getElem? (i := 27) rfl)) (by decide) (rm_get1 l Z a0 hw [] a0' P h0 n0 FP) (W := 0) (by decide) (by decide) e3 EA (g := (mkF m 12 #[.val (.ref a0'), .val (.int p1), .val (.int (1 : Int32))] [(.int (1 : Int32)), (.ref a0')])) rfl (by rw [hml]; rfl) (argsL := [(.int (1 : Int32))]) (rest := []) rfl (lenOf pd__I_I rfl) rfl (by show 2 * 0 + _ ≤ _; exact Nat.le_of_eq rfl) (hb hby d_prog_69_method_2_code_12) (by decide) (by decide)
  obtain ⟨rfl, Nq4, eq4⟩ := hQ4
  have N4 := Fr.app N2 Nq4
  refine go st4 ?_
  refine go (fun _ k => by refine XS.iloadN X4.here hx rfl (hb hby d_prog_69_method_2_code_15) rfl ?_; exact k) ?_
  show OwnEnd _ _ _ _ _ _ _ (T4.setTop (mkF m 16 #[.val (.ref a0'), .val (.int p1), .val (.int (1 : Int32))] [(.int p1), (.int (own_get P (8 : Int32)))]))
  refine go (fun _ k => by refine XS.icmpYes X4.here hx rfl (pc0 := 16) (pc' := 20) rfl (hb hby d_prog_69_method_2_code_16) rfl (feq ne1).2 (by decide) (by decide) ?_; exact k) ?_
  show OwnEnd _ _ _ _ _ _ _ (T4.setTop (mkF m 20 #[.val (.ref a0'), .val (.int p1), .val (.int (1 : Int32))] []))
  refine go (fun _ k => by refine XS.iinc X4.here hx rfl (hb hby d_prog_69_method_2_code_20) rfl (l' := #[.val (.ref a0'), .val (.int p1), .val (.int ((1 : Int32) + (1 : Int32)))]) rfl ?_; exact k) ?_
  show OwnEnd _ _ _ _ _ _ _ (T4.setTop (mkF m 23 #[.val (.ref a0'), .val (.int p1), .val (.int ((1 : Int32) + (1 : Int32)))] []))
  rw [show ((1 : Int32) + (1 : Int32)) = (2 : Int32) from by decide]
  refine go (fun _ k => by refine XS.goto X4.here hx rfl (pc0 := 23) (pc' := 2) rfl (hb hby d_prog_69_method_2_code_23) (by decide) (by decide) ?_; exact k) ?_
  refine go (fun _ k => by refine XS.iloadN X4.here hx rfl (hb hby d_prog_69_method_2_code_2) rfl ?_; exact k) ?_
  refine go (fun _ k => by refine XS.aloadN X4.here hx rfl (hb hby d_prog_69_method_2_code_3) rfl rfl ?_; exact k) ?_
  show OwnEnd _ _ _ _ _ _ _ (T4.setTop (mkF m 4 #[.val (.ref a0'), .val (.int p1), .val (.int (2 : Int32))] [(.ref a0'), (.int (2 : Int32))]))
  obtain ⟨T5, X5, e5, st5⟩ := getF X4 hx hZ hown (host := "") (Or.inl (hw _ (List.mem_of_getElem? (i := 19) rfl))) Via.refl eq4 FS (g := (mkF m 4 #[.val (.ref a0'), .val (.int p1), .val (.int (2 : Int32))] [(.ref a0'), (.int (2 : Int32))])) rfl rfl (hb hby d_prog_69_method_2_code_4)
  refine go st5 ?_
  show OwnEnd _ _ _ _ _ _ _ (T5.setTop (mkF m 7 #[.val (.ref a0'), .val (.int p1), .val (.int (2 : Int32))] [(.int (9 : Int32)), (.int (2 : Int32))]))
  refine go (fun _ k => by refine XS.icmpNo X5.here hx rfl (hb hby d_prog_69_method_2_code_7) rfl (tlt (by decide)).2.1 ?_; exact k) ?_
  refine go (fun _ k => by refine XS.aloadN X5.here hx rfl (hb hby d_prog_69_method_2_code_10) rfl rfl ?_; exact k) ?_
  refine go (fun _ k => by refine XS.iloadN X5.here hx rfl (hb hby d_prog_69_method_2_code_11) rfl ?_; exact k) ?_
  show OwnEnd _ _ _ _ _ _ _ (T5.setTop (mkF m 12 #[.val (.ref a0'), .val (.int p1), .val (.int (2 : Int32))] [(.int (2 : Int32)), (.ref a0')]))
  obtain ⟨_, T6, L6, X6, hQ6, st6⟩ := callVirt X5 hx hZ hown (hw _ (List.mem_of_getElem? (i := 23) rfl)) (hw _ (List.mem_of_getElem? (i := 24) rfl)) (notFace_of_selects (args := #[]) (mvT hZ (hw _ (List.mem_of_getElem? (i := 26) rfl)))) (hw _ (List.mem_of_getElem? (i := 26) rfl)) (hw _ (List.mem_of_getElem? (i := 25) rfl)) (hw _ (List.mem_of_getElem? (i := 3) rfl)) (hw _ (List.mem_of_getElem? (i := 27) rfl)) (by decide) (rm_get2 l Z a0 hw [] a0' P h0 n0 FP) (W := 0) (by decide) (by decide) e5 EA (g := (mkF m 12 #[.val (.ref a0'), .val (.int p1), .val (.int (2 : Int32))] [(.int (2 : Int32)), (.ref a0')])) rfl (by rw [hml]; rfl) (argsL := [(.int (2 : Int32))]) (rest := []) rfl (lenOf pd__I_I rfl) rfl (by show 2 * 0 + _ ≤ _; exact Nat.le_of_eq rfl) (hb hby d_prog_69_method_2_code_12) (by decide) (by decide)
  obtain ⟨rfl, Nq6, eq6⟩ := hQ6
  have N6 := Fr.app N4 Nq6
  refine go st6 ?_
  refine go (fun _ k => by refine XS.iloadN X6.here hx rfl (hb hby d_prog_69_method_2_code_15) rfl ?_; exact k) ?_
  show OwnEnd _ _ _ _ _ _ _ (T6.setTop (mkF m 16 #[.val (.ref a0'), .val (.int p1), .val (.int (2 : Int32))] [(.int p1), (.int (own_get P (16 : Int32)))]))
  refine go (fun _ k => by refine XS.icmpYes X6.here hx rfl (pc0 := 16) (pc' := 20) rfl (hb hby d_prog_69_method_2_code_16) rfl (feq ne2).2 (by decide) (by decide) ?_; exact k) ?_
  show OwnEnd _ _ _ _ _ _ _ (T6.setTop (mkF m 20 #[.val (.ref a0'), .val (.int p1), .val (.int (2 : Int32))] []))
  refine go (fun _ k => by refine XS.iinc X6.here hx rfl (hb hby d_prog_69_method_2_code_20) rfl (l' := #[.val (.ref a0'), .val (.int p1), .val (.int ((2 : Int32) + (1 : Int32)))]) rfl ?_; exact k) ?_
  show OwnEnd _ _ _ _ _ _ _ (T6.setTop (mkF m 23 #[.val (.ref a0'), .val (.int p1), .val (.int ((2 : Int32) + (1 : Int32)))] []))
  rw [show ((2 : Int32) + (1 : Int32)) = (3 : Int32) from by decide]
  refine go (fun _ k => by refine XS.goto X6.here hx rfl (pc0 := 23) (pc' := 2) rfl (hb hby d_prog_69_method_2_code_23) (by decide) (by decide) ?_; exact k) ?_
  refine go (fun _ k => by refine XS.iloadN X6.here hx rfl (hb hby d_prog_69_method_2_code_2) rfl ?_; exact k) ?_
  refine go (fun _ k => by refine XS.aloadN X6.here hx rfl (hb hby d_prog_69_method_2_code_3) rfl rfl ?_; exact k) ?_
  show OwnEnd _ _ _ _ _ _ _ (T6.setTop (mkF m 4 #[.val (.ref a0'), .val (.int p1), .val (.int (3 : Int32))] [(.ref a0'), (.int (3 : Int32))]))
  obtain ⟨T7, X7, e7, st7⟩ := getF X6 hx hZ hown (host := "") (Or.inl (hw _ (List.mem_of_getElem? (i := 19) rfl))) Via.refl eq6 FS (g := (mkF m 4 #[.val (.ref a0'), .val (.int p1), .val (.int (3 : Int32))] [(.ref a0'), (.int (3 : Int32))])) rfl rfl (hb hby d_prog_69_method_2_code_4)
  refine go st7 ?_
  show OwnEnd _ _ _ _ _ _ _ (T7.setTop (mkF m 7 #[.val (.ref a0'), .val (.int p1), .val (.int (3 : Int32))] [(.int (9 : Int32)), (.int (3 : Int32))]))
  refine go (fun _ k => by refine XS.icmpNo X7.here hx rfl (hb hby d_prog_69_method_2_code_7) rfl (tlt (by decide)).2.1 ?_; exact k) ?_
  refine go (fun _ k => by refine XS.aloadN X7.here hx rfl (hb hby d_prog_69_method_2_code_10) rfl rfl ?_; exact k) ?_
  refine go (fun _ k => by refine XS.iloadN X7.here hx rfl (hb hby d_prog_69_method_2_code_11) rfl ?_; exact k) ?_
  show OwnEnd _ _ _ _ _ _ _ (T7.setTop (mkF m 12 #[.val (.ref a0'), .val (.int p1), .val (.int (3 : Int32))] [(.int (3 : Int32)), (.ref a0')]))
  obtain ⟨_, T8, L8, X8, hQ8, st8⟩ := callVirt X7 hx hZ hown (hw _ (List.mem_of_getElem? (i := 23) rfl)) (hw _ (List.mem_of_getElem? (i := 24) rfl)) (notFace_of_selects (args := #[]) (mvT hZ (hw _ (List.mem_of_getElem? (i := 26) rfl)))) (hw _ (List.mem_of_getElem? (i := 26) rfl)) (hw _ (List.mem_of_getElem? (i := 25) rfl)) (hw _ (List.mem_of_getElem? (i := 3) rfl)) (hw _ (List.mem_of_getElem? (i := 27) rfl)) (by decide) (rm_get3 l Z a0 hw [] a0' P h0 n0 FP) (W := 0) (by decide) (by decide) e7 EA (g := (mkF m 12 #[.val (.ref a0'), .val (.int p1), .val (.int (3 : Int32))] [(.int (3 : Int32)), (.ref a0')])) rfl (by rw [hml]; rfl) (argsL := [(.int (3 : Int32))]) (rest := []) rfl (lenOf pd__I_I rfl) rfl (by show 2 * 0 + _ ≤ _; exact Nat.le_of_eq rfl) (hb hby d_prog_69_method_2_code_12) (by decide) (by decide)
  obtain ⟨rfl, Nq8, eq8⟩ := hQ8
  have N8 := Fr.app N6 Nq8
  refine go st8 ?_
  refine go (fun _ k => by refine XS.iloadN X8.here hx rfl (hb hby d_prog_69_method_2_code_15) rfl ?_; exact k) ?_
  show OwnEnd _ _ _ _ _ _ _ (T8.setTop (mkF m 16 #[.val (.ref a0'), .val (.int p1), .val (.int (3 : Int32))] [(.int p1), (.int (own_get P (24 : Int32)))]))
  refine go (fun _ k => by refine XS.icmpYes X8.here hx rfl (pc0 := 16) (pc' := 20) rfl (hb hby d_prog_69_method_2_code_16) rfl (feq ne3).2 (by decide) (by decide) ?_; exact k) ?_
  show OwnEnd _ _ _ _ _ _ _ (T8.setTop (mkF m 20 #[.val (.ref a0'), .val (.int p1), .val (.int (3 : Int32))] []))
  refine go (fun _ k => by refine XS.iinc X8.here hx rfl (hb hby d_prog_69_method_2_code_20) rfl (l' := #[.val (.ref a0'), .val (.int p1), .val (.int ((3 : Int32) + (1 : Int32)))]) rfl ?_; exact k) ?_
  show OwnEnd _ _ _ _ _ _ _ (T8.setTop (mkF m 23 #[.val (.ref a0'), .val (.int p1), .val (.int ((3 : Int32) + (1 : Int32)))] []))
  rw [show ((3 : Int32) + (1 : Int32)) = (4 : Int32) from by decide]
  refine go (fun _ k => by refine XS.goto X8.here hx rfl (pc0 := 23) (pc' := 2) rfl (hb hby d_prog_69_method_2_code_23) (by decide) (by decide) ?_; exact k) ?_
  refine go (fun _ k => by refine XS.iloadN X8.here hx rfl (hb hby d_prog_69_method_2_code_2) rfl ?_; exact k) ?_
  refine go (fun _ k => by refine XS.aloadN X8.here hx rfl (hb hby d_prog_69_method_2_code_3) rfl rfl ?_; exact k) ?_
  show OwnEnd _ _ _ _ _ _ _ (T8.setTop (mkF m 4 #[.val (.ref a0'), .val (.int p1), .val (.int (4 : Int32))] [(.ref a0'), (.int (4 : Int32))]))
  obtain ⟨T9, X9, e9, st9⟩ := getF X8 hx hZ hown (host := "") (Or.inl (hw _ (List.mem_of_getElem? (i := 19) rfl))) Via.refl eq8 FS (g := (mkF m 4 #[.val (.ref a0'), .val (.int p1), .val (.int (4 : Int32))] [(.ref a0'), (.int (4 : Int32))])) rfl rfl (hb hby d_prog_69_method_2_code_4)
  refine go st9 ?_
  show OwnEnd _ _ _ _ _ _ _ (T9.setTop (mkF m 7 #[.val (.ref a0'), .val (.int p1), .val (.int (4 : Int32))] [(.int (9 : Int32)), (.int (4 : Int32))]))
  refine go (fun _ k => by refine XS.icmpNo X9.here hx rfl (hb hby d_prog_69_method_2_code_7) rfl (tlt (by decide)).2.1 ?_; exact k) ?_
  refine go (fun _ k => by refine XS.aloadN X9.here hx rfl (hb hby d_prog_69_method_2_code_10) rfl rfl ?_; exact k) ?_
  refine go (fun _ k => by refine XS.iloadN X9.here hx rfl (hb hby d_prog_69_method_2_code_11) rfl ?_; exact k) ?_
  show OwnEnd _ _ _ _ _ _ _ (T9.setTop (mkF m 12 #[.val (.ref a0'), .val (.int p1), .val (.int (4 : Int32))] [(.int (4 : Int32)), (.ref a0')]))
  obtain ⟨_, T10, L10, X10, hQ10, st10⟩ := callVirt X9 hx hZ hown (hw _ (List.mem_of_getElem? (i := 23) rfl)) (hw _ (List.mem_of_getElem? (i := 24) rfl)) (notFace_of_selects (args := #[]) (mvT hZ (hw _ (List.mem_of_getElem? (i := 26) rfl)))) (hw _ (List.mem_of_getElem? (i := 26) rfl)) (hw _ (List.mem_of_getElem? (i := 25) rfl)) (hw _ (List.mem_of_getElem? (i := 3) rfl)) (hw _ (List.mem_of_getElem? (i := 27) rfl)) (by decide) (rm_get4 l Z a0 hw [] a0' P h0 n0 FP) (W := 0) (by decide) (by decide) e9 EA (g := (mkF m 12 #[.val (.ref a0'), .val (.int p1), .val (.int (4 : Int32))] [(.int (4 : Int32)), (.ref a0')])) rfl (by rw [hml]; rfl) (argsL := [(.int (4 : Int32))]) (rest := []) rfl (lenOf pd__I_I rfl) rfl (by show 2 * 0 + _ ≤ _; exact Nat.le_of_eq rfl) (hb hby d_prog_69_method_2_code_12) (by decide) (by decide)
  obtain ⟨rfl, Nq10, eq10⟩ := hQ10
  have N10 := Fr.app N8 Nq10
  refine go st10 ?_
  refine go (fun _ k => by refine XS.iloadN X10.here hx rfl (hb hby d_prog_69_method_2_code_15) rfl ?_; exact k) ?_
  show OwnEnd _ _ _ _ _ _ _ (T10.setTop (mkF m 16 #[.val (.ref a0'), .val (.int p1), .val (.int (4 : Int32))] [(.int p1), (.int (own_get P (32 : Int32)))]))
  refine go (fun _ k => by refine XS.icmpYes X10.here hx rfl (pc0 := 16) (pc' := 20) rfl (hb hby d_prog_69_method_2_code_16) rfl (feq ne4).2 (by decide) (by decide) ?_; exact k) ?_
  show OwnEnd _ _ _ _ _ _ _ (T10.setTop (mkF m 20 #[.val (.ref a0'), .val (.int p1), .val (.int (4 : Int32))] []))
  refine go (fun _ k => by refine XS.iinc X10.here hx rfl (hb hby d_prog_69_method_2_code_20) rfl (l' := #[.val (.ref a0'), .val (.int p1), .val (.int ((4 : Int32) + (1 : Int32)))]) rfl ?_; exact k) ?_
  show OwnEnd _ _ _ _ _ _ _ (T10.setTop (mkF m 23 #[.val (.ref a0'), .val (.int p1), .val (.int ((4 : Int32) + (1 : Int32)))] []))
  rw [show ((4 : Int32) + (1 : Int32)) = (5 : Int32) from by decide]
  refine go (fun _ k => by refine XS.goto X10.here hx rfl (pc0 := 23) (pc' := 2) rfl (hb hby d_prog_69_method_2_code_23) (by decide) (by decide) ?_; exact k) ?_
  refine go (fun _ k => by refine XS.iloadN X10.here hx rfl (hb hby d_prog_69_method_2_code_2) rfl ?_; exact k) ?_
  refine go (fun _ k => by refine XS.aloadN X10.here hx rfl (hb hby d_prog_69_method_2_code_3) rfl rfl ?_; exact k) ?_
  show OwnEnd _ _ _ _ _ _ _ (T10.setTop (mkF m 4 #[.val (.ref a0'), .val (.int p1), .val (.int (5 : Int32))] [(.ref a0'), (.int (5 : Int32))]))
  obtain ⟨T11, X11, e11, st11⟩ := getF X10 hx hZ hown (host := "") (Or.inl (hw _ (List.mem_of_getElem? (i := 19) rfl))) Via.refl eq10 FS (g := (mkF m 4 #[.val (.ref a0'), .val (.int p1), .val (.int (5 : Int32))] [(.ref a0'), (.int (5 : Int32))])) rfl rfl (hb hby d_prog_69_method_2_code_4)
  refine go st11 ?_
  show OwnEnd _ _ _ _ _ _ _ (T11.setTop (mkF m 7 #[.val (.ref a0'), .val (.int p1), .val (.int (5 : Int32))] [(.int (9 : Int32)), (.int (5 : Int32))]))
  refine go (fun _ k => by refine XS.icmpNo X11.here hx rfl (hb hby d_prog_69_method_2_code_7) rfl (tlt (by decide)).2.1 ?_; exact k) ?_
  refine go (fun _ k => by refine XS.aloadN X11.here hx rfl (hb hby d_prog_69_method_2_code_10) rfl rfl ?_; exact k) ?_
  refine go (fun _ k => by refine XS.iloadN X11.here hx rfl (hb hby d_prog_69_method_2_code_11) rfl ?_; exact k) ?_
  show OwnEnd _ _ _ _ _ _ _ (T11.setTop (mkF m 12 #[.val (.ref a0'), .val (.int p1), .val (.int (5 : Int32))] [(.int (5 : Int32)), (.ref a0')]))
  obtain ⟨_, T12, L12, X12, hQ12, st12⟩ := callVirt X11 hx hZ hown (hw _ (List.mem_of_getElem? (i := 23) rfl)) (hw _ (List.mem_of_getElem? (i := 24) rfl)) (notFace_of_selects (args := #[]) (mvT hZ (hw _ (List.mem_of_getElem? (i := 26) rfl)))) (hw _ (List.mem_of_getElem? (i := 26) rfl)) (hw _ (List.mem_of_getElem? (i := 25) rfl)) (hw _ (List.mem_of_getElem? (i := 3) rfl)) (hw _ (List.mem_of_getElem? (i := 27) rfl)) (by decide) (rm_get5 l Z a0 hw [] a0' P h0 n0 FP) (W := 0) (by decide) (by decide) e11 EA (g := (mkF m 12 #[.val (.ref a0'), .val (.int p1), .val (.int (5 : Int32))] [(.int (5 : Int32)), (.ref a0')])) rfl (by rw [hml]; rfl) (argsL := [(.int (5 : Int32))]) (rest := []) rfl (lenOf pd__I_I rfl) rfl (by show 2 * 0 + _ ≤ _; exact Nat.le_of_eq rfl) (hb hby d_prog_69_method_2_code_12) (by decide) (by decide)
  obtain ⟨rfl, Nq12, eq12⟩ := hQ12
  have N12 := Fr.app N10 Nq12
  refine go st12 ?_
  refine go (fun _ k => by refine XS.iloadN X12.here hx rfl (hb hby d_prog_69_method_2_code_15) rfl ?_; exact k) ?_
  show OwnEnd _ _ _ _ _ _ _ (T12.setTop (mkF m 16 #[.val (.ref a0'), .val (.int p1), .val (.int (5 : Int32))] [(.int p1), (.int (own_get P (40 : Int32)))]))
  refine go (fun _ k => by refine XS.icmpYes X12.here hx rfl (pc0 := 16) (pc' := 20) rfl (hb hby d_prog_69_method_2_code_16) rfl (feq ne5).2 (by decide) (by decide) ?_; exact k) ?_
  show OwnEnd _ _ _ _ _ _ _ (T12.setTop (mkF m 20 #[.val (.ref a0'), .val (.int p1), .val (.int (5 : Int32))] []))
  refine go (fun _ k => by refine XS.iinc X12.here hx rfl (hb hby d_prog_69_method_2_code_20) rfl (l' := #[.val (.ref a0'), .val (.int p1), .val (.int ((5 : Int32) + (1 : Int32)))]) rfl ?_; exact k) ?_
  show OwnEnd _ _ _ _ _ _ _ (T12.setTop (mkF m 23 #[.val (.ref a0'), .val (.int p1), .val (.int ((5 : Int32) + (1 : Int32)))] []))
  rw [show ((5 : Int32) + (1 : Int32)) = (6 : Int32) from by decide]
  refine go (fun _ k => by refine XS.goto X12.here hx rfl (pc0 := 23) (pc' := 2) rfl (hb hby d_prog_69_method_2_code_23) (by decide) (by decide) ?_; exact k) ?_
  refine go (fun _ k => by refine XS.iloadN X12.here hx rfl (hb hby d_prog_69_method_2_code_2) rfl ?_; exact k) ?_
  refine go (fun _ k => by refine XS.aloadN X12.here hx rfl (hb hby d_prog_69_method_2_code_3) rfl rfl ?_; exact k) ?_
  show OwnEnd _ _ _ _ _ _ _ (T12.setTop (mkF m 4 #[.val (.ref a0'), .val (.int p1), .val (.int (6 : Int32))] [(.ref a0'), (.int (6 : Int32))]))
  obtain ⟨T13, X13, e13, st13⟩ := getF X12 hx hZ hown (host := "") (Or.inl (hw _ (List.mem_of_getElem? (i := 19) rfl))) Via.refl eq12 FS (g := (mkF m 4 #[.val (.ref a0'), .val (.int p1), .val (.int (6 : Int32))] [(.ref a0'), (.int (6 : Int32))])) rfl rfl (hb hby d_prog_69_method_2_code_4)
  refine go st13 ?_
  show OwnEnd _ _ _ _ _ _ _ (T13.setTop (mkF m 7 #[.val (.ref a0'), .val (.int p1), .val (.int (6 : Int32))] [(.int (9 : Int32)), (.int (6 : Int32))]))
  refine go (fun _ k => by refine XS.icmpNo X13.here hx rfl (hb hby d_prog_69_method_2_code_7) rfl (tlt (by decide)).2.1 ?_; exact k) ?_
  refine go (fun _ k => by refine XS.aloadN X13.here hx rfl (hb hby d_prog_69_method_2_code_10) rfl rfl ?_; exact k) ?_
  refine go (fun _ k => by refine XS.iloadN X13.here hx rfl (hb hby d_prog_69_method_2_code_11) rfl ?_; exact k) ?_
  show OwnEnd _ _ _ _ _ _ _ (T13.setTop (mkF m 12 #[.val (.ref a0'), .val (.int p1), .val (.int (6 : Int32))] [(.int (6 : Int32)), (.ref a0')]))
  obtain ⟨_, T14, L14, X14, hQ14, st14⟩ := callVirt X13 hx hZ hown (hw _ (List.mem_of_getElem? (i := 23) rfl)) (hw _ (List.mem_of_getElem? (i := 24) rfl)) (notFace_of_selects (args := #[]) (mvT hZ (hw _ (List.mem_of_getElem? (i := 26) rfl)))) (hw _ (List.mem_of_getElem? (i := 26) rfl)) (hw _ (List.mem_of_getElem? (i := 25) rfl)) (hw _ (List.mem_of_getElem? (i := 3) rfl)) (hw _ (List.mem_of_getElem? (i := 27) rfl)) (by decide) (rm_get6 l Z a0 hw [] a0' P h0 n0 FP) (W := 0) (by decide) (by decide) e13 EA (g := (mkF m 12 #[.val (.ref a0'), .val (.int p1), .val (.int (6 : Int32))] [(.int (6 : Int32)), (.ref a0')])) rfl (by rw [hml]; rfl) (argsL := [(.int (6 : Int32))]) (rest := []) rfl (lenOf pd__I_I rfl) rfl (by show 2 * 0 + _ ≤ _; exact Nat.le_of_eq rfl) (hb hby d_prog_69_method_2_code_12) (by decide) (by decide)
  obtain ⟨rfl, Nq14, eq14⟩ := hQ14
  have N14 := Fr.app N12 Nq14
  refine go st14 ?_
  refine go (fun _ k => by refine XS.iloadN X14.here hx rfl (hb hby d_prog_69_method_2_code_15) rfl ?_; exact k) ?_
  show OwnEnd _ _ _ _ _ _ _ (T14.setTop (mkF m 16 #[.val (.ref a0'), .val (.int p1), .val (.int (6 : Int32))] [(.int p1), (.int (own_get P (48 : Int32)))]))
  refine go (fun _ k => by refine XS.icmpYes X14.here hx rfl (pc0 := 16) (pc' := 20) rfl (hb hby d_prog_69_method_2_code_16) rfl (feq ne6).2 (by decide) (by decide) ?_; exact k) ?_
  show OwnEnd _ _ _ _ _ _ _ (T14.setTop (mkF m 20 #[.val (.ref a0'), .val (.int p1), .val (.int (6 : Int32))] []))
  refine go (fun _ k => by refine XS.iinc X14.here hx rfl (hb hby d_prog_69_method_2_code_20) rfl (l' := #[.val (.ref a0'), .val (.int p1), .val (.int ((6 : Int32) + (1 : Int32)))]) rfl ?_; exact k) ?_
  show OwnEnd _ _ _ _ _ _ _ (T14.setTop (mkF m 23 #[.val (.ref a0'), .val (.int p1), .val (.int ((6 : Int32) + (1 : Int32)))] []))
  rw [show ((6 : Int32) + (1 : Int32)) = (7 : Int32) from by decide]
  refine go (fun _ k => by refine XS.goto X14.here hx rfl (pc0 := 23) (pc' := 2) rfl (hb hby d_prog_69_method_2_code_23) (by decide) (by decide) ?_; exact k) ?_
  refine go (fun _ k => by refine XS.iloadN X14.here hx rfl (hb hby d_prog_69_method_2_code_2) rfl ?_; exact k) ?_
  refine go (fun _ k => by refine XS.aloadN X14.here hx rfl (hb hby d_prog_69_method_2_code_3) rfl rfl ?_; exact k) ?_
  show OwnEnd _ _ _ _ _ _ _ (T14.setTop (mkF m 4 #[.val (.ref a0'), .val (.int p1), .val (.int (7 : Int32))] [(.ref a0'), (.int (7 : Int32))]))
  obtain ⟨T15, X15, e15, st15⟩ := getF X14 hx hZ hown (host := "") (Or.inl (hw _ (List.mem_of_getElem? (i := 19) rfl))) Via.refl eq14 FS (g := (mkF m 4 #[.val (.ref a0'), .val (.int p1), .val (.int (7 : Int32))] [(.ref a0'), (.int (7 : Int32))])) rfl rfl (hb hby d_prog_69_method_2_code_4)
  refine go st15 ?_
  show OwnEnd _ _ _ _ _ _ _ (T15.setTop (mkF m 7 #[.val (.ref a0'), .val (.int p1), .val (.int (7 : Int32))] [(.int (9 : Int32)), (.int (7 : Int32))]))
  refine go (fun _ k => by refine XS.icmpNo X15.here hx rfl (hb hby d_prog_69_method_2_code_7) rfl (tlt (by decide)).2.1 ?_; exact k) ?_
  refine go (fun _ k => by refine XS.aloadN X15.here hx rfl (hb hby d_prog_69_method_2_code_10) rfl rfl ?_; exact k) ?_
  refine go (fun _ k => by refine XS.iloadN X15.here hx rfl (hb hby d_prog_69_method_2_code_11) rfl ?_; exact k) ?_
  show OwnEnd _ _ _ _ _ _ _ (T15.setTop (mkF m 12 #[.val (.ref a0'), .val (.int p1), .val (.int (7 : Int32))] [(.int (7 : Int32)), (.ref a0')]))
  obtain ⟨_, T16, L16, X16, hQ16, st16⟩ := callVirt X15 hx hZ hown (hw _ (List.mem_of_getElem? (i := 23) rfl)) (hw _ (List.mem_of_getElem? (i := 24) rfl)) (notFace_of_selects (args := #[]) (mvT hZ (hw _ (List.mem_of_getElem? (i := 26) rfl)))) (hw _ (List.mem_of_getElem? (i := 26) rfl)) (hw _ (List.mem_of_getElem? (i := 25) rfl)) (hw _ (List.mem_of_getElem? (i := 3) rfl)) (hw _ (List.mem_of_getElem? (i := 27) rfl)) (by decide) (rm_get7 l Z a0 hw [] a0' P h0 n0 FP) (W := 0) (by decide) (by decide) e15 EA (g := (mkF m 12 #[.val (.ref a0'), .val (.int p1), .val (.int (7 : Int32))] [(.int (7 : Int32)), (.ref a0')])) rfl (by rw [hml]; rfl) (argsL := [(.int (7 : Int32))]) (rest := []) rfl (lenOf pd__I_I rfl) rfl (by show 2 * 0 + _ ≤ _; exact Nat.le_of_eq rfl) (hb hby d_prog_69_method_2_code_12) (by decide) (by decide)
  obtain ⟨rfl, Nq16, eq16⟩ := hQ16
  have N16 := Fr.app N14 Nq16
  refine go st16 ?_
  refine go (fun _ k => by refine XS.iloadN X16.here hx rfl (hb hby d_prog_69_method_2_code_15) rfl ?_; exact k) ?_
  show OwnEnd _ _ _ _ _ _ _ (T16.setTop (mkF m 16 #[.val (.ref a0'), .val (.int p1), .val (.int (7 : Int32))] [(.int p1), (.int (own_get P (56 : Int32)))]))
  refine go (fun _ k => by refine XS.icmpYes X16.here hx rfl (pc0 := 16) (pc' := 20) rfl (hb hby d_prog_69_method_2_code_16) rfl (feq ne7).2 (by decide) (by decide) ?_; exact k) ?_
  show OwnEnd _ _ _ _ _ _ _ (T16.setTop (mkF m 20 #[.val (.ref a0'), .val (.int p1), .val (.int (7 : Int32))] []))
  refine go (fun _ k => by refine XS.iinc X16.here hx rfl (hb hby d_prog_69_method_2_code_20) rfl (l' := #[.val (.ref a0'), .val (.int p1), .val (.int ((7 : Int32) + (1 : Int32)))]) rfl ?_; exact k) ?_
  show OwnEnd _ _ _ _ _ _ _ (T16.setTop (mkF m 23 #[.val (.ref a0'), .val (.int p1), .val (.int ((7 : Int32) + (1 : Int32)))] []))
  rw [show ((7 : Int32) + (1 : Int32)) = (8 : Int32) from by decide]
  refine go (fun _ k => by refine XS.goto X16.here hx rfl (pc0 := 23) (pc' := 2) rfl (hb hby d_prog_69_method_2_code_23) (by decide) (by decide) ?_; exact k) ?_
  refine go (fun _ k => by refine XS.iloadN X16.here hx rfl (hb hby d_prog_69_method_2_code_2) rfl ?_; exact k) ?_
  refine go (fun _ k => by refine XS.aloadN X16.here hx rfl (hb hby d_prog_69_method_2_code_3) rfl rfl ?_; exact k) ?_
  show OwnEnd _ _ _ _ _ _ _ (T16.setTop (mkF m 4 #[.val (.ref a0'), .val (.int p1), .val (.int (8 : Int32))] [(.ref a0'), (.int (8 : Int32))]))
  obtain ⟨T17, X17, e17, st17⟩ := getF X16 hx hZ hown (host := "") (Or.inl (hw _ (List.mem_of_getElem? (i := 19) rfl))) Via.refl eq16 FS (g := (mkF m 4 #[.val (.ref a0'), .val (.int p1), .val (.int (8 : Int32))] [(.ref a0'), (.int (8 : Int32))])) rfl rfl (hb hby d_prog_69_method_2_code_4)
  refine go st17 ?_
  show OwnEnd _ _ _ _ _ _ _ (T17.setTop (mkF m 7 #[.val (.ref a0'), .val (.int p1), .val (.int (8 : Int32))] [(.int (9 : Int32)), (.int (8 : Int32))]))
  refine go (fun _ k => by refine XS.icmpNo X17.here hx rfl (hb hby d_prog_69_method_2_code_7) rfl (tlt (by decide)).2.1 ?_; exact k) ?_
  refine go (fun _ k => by refine XS.aloadN X17.here hx rfl (hb hby d_prog_69_method_2_code_10) rfl rfl ?_; exact k) ?_
  refine go (fun _ k => by refine XS.iloadN X17.here hx rfl (hb hby d_prog_69_method_2_code_11) rfl ?_; exact k) ?_
  show OwnEnd _ _ _ _ _ _ _ (T17.setTop (mkF m 12 #[.val (.ref a0'), .val (.int p1), .val (.int (8 : Int32))] [(.int (8 : Int32)), (.ref a0')]))
  obtain ⟨_, T18, L18, X18, hQ18, st18⟩ := callVirt X17 hx hZ hown (hw _ (List.mem_of_getElem? (i := 23) rfl)) (hw _ (List.mem_of_getElem? (i := 24) rfl)) (notFace_of_selects (args := #[]) (mvT hZ (hw _ (List.mem_of_getElem? (i := 26) rfl)))) (hw _ (List.mem_of_getElem? (i := 26) rfl)) (hw _ (List.mem_of_getElem? (i := 25) rfl)) (hw _ (List.mem_of_getElem? (i := 3) rfl)) (hw _ (List.mem_of_getElem? (i := 27) rfl)) (by decide) (rm_get8 l Z a0 hw [] a0' mb k w0 (0 : Int32) h0 n0 FM VM) (W := 0) (by decide) (by decide) e17 EA (g := (mkF m 12 #[.val (.ref a0'), .val (.int p1), .val (.int (8 : Int32))] [(.int (8 : Int32)), (.ref a0')])) rfl (by rw [hml]; rfl) (argsL := [(.int (8 : Int32))]) (rest := []) rfl (lenOf pd__I_I rfl) rfl (by show 2 * 0 + _ ≤ _; exact Nat.le_of_eq rfl) (hb hby d_prog_69_method_2_code_12) (by decide) (by decide)
  obtain ⟨rfl, Nq18, eq18⟩ := hQ18
  have N18 := Fr.app N16 Nq18
  refine go st18 ?_
  refine go (fun _ k => by refine XS.iloadN X18.here hx rfl (hb hby d_prog_69_method_2_code_15) rfl ?_; exact k) ?_
  show OwnEnd _ _ _ _ _ _ _ (T18.setTop (mkF m 16 #[.val (.ref a0'), .val (.int p1), .val (.int (8 : Int32))] [(.int p1), (.int w0)]))
  refine go (fun _ k => by refine XS.icmpYes X18.here hx rfl (pc0 := 16) (pc' := 20) rfl (hb hby d_prog_69_method_2_code_16) rfl (feq ne8).2 (by decide) (by decide) ?_; exact k) ?_
  show OwnEnd _ _ _ _ _ _ _ (T18.setTop (mkF m 20 #[.val (.ref a0'), .val (.int p1), .val (.int (8 : Int32))] []))
  refine go (fun _ k => by refine XS.iinc X18.here hx rfl (hb hby d_prog_69_method_2_code_20) rfl (l' := #[.val (.ref a0'), .val (.int p1), .val (.int ((8 : Int32) + (1 : Int32)))]) rfl ?_; exact k) ?_
  show OwnEnd _ _ _ _ _ _ _ (T18.setTop (mkF m 23 #[.val (.ref a0'), .val (.int p1), .val (.int ((8 : Int32) + (1 : Int32)))] []))
  rw [show ((8 : Int32) + (1 : Int32)) = (9 : Int32) from by decide]
  refine go (fun _ k => by refine XS.goto X18.here hx rfl (pc0 := 23) (pc' := 2) rfl (hb hby d_prog_69_method_2_code_23) (by decide) (by decide) ?_; exact k) ?_
  refine go (fun _ k => by refine XS.iloadN X18.here hx rfl (hb hby d_prog_69_method_2_code_2) rfl ?_; exact k) ?_
  refine go (fun _ k => by refine XS.aloadN X18.here hx rfl (hb hby d_prog_69_method_2_code_3) rfl rfl ?_; exact k) ?_
  show OwnEnd _ _ _ _ _ _ _ (T18.setTop (mkF m 4 #[.val (.ref a0'), .val (.int p1), .val (.int (9 : Int32))] [(.ref a0'), (.int (9 : Int32))]))
  obtain ⟨T19, X19, e19, st19⟩ := getF X18 hx hZ hown (host := "") (Or.inl (hw _ (List.mem_of_getElem? (i := 19) rfl))) Via.refl eq18 FS (g := (mkF m 4 #[.val (.ref a0'), .val (.int p1), .val (.int (9 : Int32))] [(.ref a0'), (.int (9 : Int32))])) rfl rfl (hb hby d_prog_69_method_2_code_4)
  refine go st19 ?_
  show OwnEnd _ _ _ _ _ _ _ (T19.setTop (mkF m 7 #[.val (.ref a0'), .val (.int p1), .val (.int (9 : Int32))] [(.int (9 : Int32)), (.int (9 : Int32))]))
  refine go (fun _ k => by refine XS.icmpYes X19.here hx rfl (pc0 := 7) (pc' := 26) rfl (hb hby d_prog_69_method_2_code_7) rfl (flt (by decide)).2.1 (by decide) (by decide) ?_; exact k) ?_
  refine go (fun _ k => by refine XS.aloadN X19.here hx rfl (hb hby d_prog_69_method_2_code_26) rfl rfl ?_; exact k) ?_
  show OwnEnd _ _ _ _ _ _ _ (T19.setTop (mkF m 27 #[.val (.ref a0'), .val (.int p1), .val (.int (9 : Int32))] [(.ref a0')]))
  obtain ⟨T20, X20, e20, st20⟩ := getF X19 hx hZ hown (host := "") (Or.inl (hw _ (List.mem_of_getElem? (i := 19) rfl))) Via.refl e19 FS (g := (mkF m 27 #[.val (.ref a0'), .val (.int p1), .val (.int (9 : Int32))] [(.ref a0')])) rfl rfl (hb hby d_prog_69_method_2_code_27)
  refine go st20 ?_
  refine go (fun _ k => by refine XS.bipush X20.here hx rfl (hb hby d_prog_69_method_2_code_30) ?_; exact k) ?_
  show OwnEnd _ _ _ _ _ _ _ (T20.setTop (mkF m 32 #[.val (.ref a0'), .val (.int p1), .val (.int (9 : Int32))] [(.int (8 : Int32)), (.int (9 : Int32))]))
  refine go (fun _ k => by refine XS.icmpYes X20.here hx rfl (pc0 := 32) (pc' := 57) rfl (hb hby d_prog_69_method_2_code_32) rfl (flt (by decide)).2.1 (by decide) (by decide) ?_; exact k) ?_
  refine go (fun _ k => by refine XS.aloadN X20.here hx rfl (hb hby d_prog_69_method_2_code_57) rfl rfl ?_; exact k) ?_
  refine go (fun _ k => by refine XS.iloadN X20.here hx rfl (hb hby d_prog_69_method_2_code_58) rfl ?_; exact k) ?_
  show OwnEnd _ _ _ _ _ _ _ (T20.setTop (mkF m 59 #[.val (.ref a0'), .val (.int p1), .val (.int (9 : Int32))] [(.int p1), (.ref a0')]))
  obtain ⟨_, T21, L21, X21, hQ21, st21⟩ := callPriv X20 hx hZ hown (hw _ (List.mem_of_getElem? (i := 29) rfl)) (hw _ (List.mem_of_getElem? (i := 30) rfl)) (hw _ (List.mem_of_getElem? (i := 31) rfl)) (hw _ (List.mem_of_getElem? (i := 2) rfl)) (hw _ (List.mem_of_getElem? (i := 3) rfl)) (hw _ (List.mem_of_getElem? (i := 32) rfl)) (by decide) (rm_am9 l Z a0 hw [] a0' p1 P mb k w0 h0 n0 ga EA FP FS FM gm nm VM) (W := 0) (by decide) (by decide) e20 EA (g := (mkF m 59 #[.val (.ref a0'), .val (.int p1), .val (.int (9 : Int32))] [(.int p1), (.ref a0')])) rfl (by rw [hml]; rfl) (argsL := [(.int p1)]) (rest := []) rfl (lenOf pd__I_V rfl) rfl (by show 2 * 0 + _ ≤ _; exact Nat.le_of_eq rfl) (hb hby d_prog_69_method_2_code_59) (by decide) (by decide)
  obtain ⟨rfl, Nq21, K21, EA, FP, FS, FM, VM⟩ := hQ21
  have N21 := Fr.app N18 Nq21
  have Z0 := Nat.le_trans Z0 K21.1
  have KK := Keep.trans KK K21 (allS (Or.inl (List.mem_of_getElem? (i := 0) rfl)) (allS (Or.inl (List.mem_of_getElem? (i := 1) rfl)) all0))
  refine go st21 ?_
  refine go (fun _ k => by refine XS.aloadN X21.here hx rfl (hb hby d_prog_69_method_2_code_62) rfl rfl ?_; exact k) ?_
  refine go (fun _ k => by refine XS.dup X21.here hx rfl (hb hby d_prog_69_method_2_code_63) rfl rfl ?_; exact k) ?_
  show OwnEnd _ _ _ _ _ _ _ (T21.setTop (mkF m 64 #[.val (.ref a0'), .val (.int p1), .val (.int (9 : Int32))] [(.ref a0'), (.ref a0')]))
  obtain ⟨T22, X22, e22, st22⟩ := getF X21 hx hZ hown (host := "") (Or.inl (hw _ (List.mem_of_getElem? (i := 19) rfl))) Via.refl rfl FS (g := (mkF m 64 #[.val (.ref a0'), .val (.int p1), .val (.int (9 : Int32))] [(.ref a0'), (.ref a0')])) rfl rfl (hb hby d_prog_69_method_2_code_64)
  refine go st22 ?_
  refine go (fun _ k => by refine XS.iconst X22.here hx rfl (hb hby d_prog_69_method_2_code_67) ?_; exact k) ?_
  refine go (fun _ k => by refine XS.iadd X22.here hx rfl (hb hby d_prog_69_method_2_code_68) rfl ?_; exact k) ?_
  show OwnEnd _ _ _ _ _ _ _ (T22.setTop (mkF m 69 #[.val (.ref a0'), .val (.int p1), .val (.int (9 : Int32))] [(.int ((9 : Int32) + (1 : Int32))), (.ref a0')]))
  rw [show ((9 : Int32) + (1 : Int32)) = (10 : Int32) from by decide]
  show OwnEnd _ _ _ _ _ _ _ (T22.setTop (mkF m 69 #[.val (.ref a0'), .val (.int p1), .val (.int (9 : Int32))] [(.int (10 : Int32)), (.ref a0')]))
  obtain ⟨T23, h23, X23, e23, W23, st23⟩ := putF X22 hx hZ hown (host := "") (Or.inl (hw _ (List.mem_of_getElem? (i := 19) rfl))) Via.refl e22 FS EA (Or.inl (hw _ (List.mem_of_getElem? (i := 20) rfl))) (hw _ (List.mem_of_getElem? (i := 2) rfl)) (ty := .int) (by decide) rfl rfl (g := (mkF m 69 #[.val (.ref a0'), .val (.int p1), .val (.int (9 : Int32))] [(.int (10 : Int32)), (.ref a0')])) rfl rfl (hb hby d_prog_69_method_2_code_69)
  have N23 := Fr.snoc X23 N21 ga
  have Z0 := Nat.le_trans Z0 (Keep.of_wr W23).1
  have KK := Keep.wr KK W23 (Or.inl (List.mem_of_getElem? (i := 0) rfl))
  have EA := EA.wr W23
  have FP := FP.other W23 (Or.inr (slot_ne (Or.inl (hw _ (List.mem_of_getElem? (i := 22) rfl))) (Or.inl (hw _ (List.mem_of_getElem? (i := 20) rfl))) (by decide) (t := .long) (t' := .int) (by decide) (by decide)))
  have FM := FM.other W23 (Or.inr (slot_ne (Or.inl (hw _ (List.mem_of_getElem? (i := 34) rfl))) (Or.inl (hw _ (List.mem_of_getElem? (i := 20) rfl))) (by decide) (t := (.array .int)) (t' := .int) (by decide) (by decide)))
  have VM := VM.other W23 (Ne.symm nm)
  have FS := FS.same W23
  refine go st23 ?_
  show OwnEnd _ _ _ _ _ _ _ (T23.setTop (mkF m 72 #[.val (.ref a0'), .val (.int p1), .val (.int (9 : Int32))] []))
  refine endV X23 hx hlk Bd.returns (hb hby d_prog_69_method_2_code_72) e23 (by decide) (by decide) ?_
  exact ⟨rfl, N23, KK, EA, FP, FS, FM, VM⟩
theorem pd___V : parseMethodDescriptor "()V" = some ⟨[], none⟩ := by decide +kernel
theorem pd__III_I : parseMethodDescriptor "(III)I" = some ⟨[.int, .int, .int], some .int⟩ := by decide +kernel
theorem ef_rm_law (m : MethodId) (y0 : Int32) (y1 : Int32) (y2 : Int32) (y3 : Int32) : entryFrame m #[(.int y0), (.int y1), (.int y2), (.int y3)] maxLocals = mkF m 0 #[.val (.int y0), .val (.int y1), .val (.int y2), .val (.int y3), .unset, .unset, .unset, .unset] [] := by first | (simp [entryFrame, mkF, argsToLocals, Value.category, maxLocals]; done) | rfl
def Q_rm_law (Z : State) (p0 : Int32) (p1 : Int32) (p2 : Int32) (p3 : Int32) (h0 : Heap) (n0 : Nat) (v : Option Value) (h : Heap) (L : List Loc) : Prop := v = some (.int 1) ∧ Fr n0 L
set_option maxRecDepth 65536 in
set_option maxHeartbeats 40000000 in
theorem rm_law (l : Launch) (Z : State) (a0 : Array Value) (hw : ∀ d ∈ tables_1, d.before a0 Z = true) (ws : List Jvm.Cond) (p0 : Int32) (p1 : Int32) (p2 : Int32) (p3 : Int32) (h0 : Heap) (n0 : Nat) (Z0 : n0 ≤ h0.size) :
    MetFree l x (head1 (Jvm.Cond.code x code maxLocals ret :: ws) room_1) (fun a U => a = #[(.int p0), (.int p1), (.int p2), (.int p3)] ∧ Z.Warmed39 U.vm ∧ U.heap = h0) (fun _ _ _ _ _ => True) (fun _ U o U' => ∃ v L, o = .returned v ∧ Q_rm_law Z p0 p1 p2 p3 h0 n0 v U'.heap L ∧ FrameEnd U o U' L 16 128) := by
  refine MetFree.of_bodySF (plainFor_of_name pn_com_example_waitsfor_waitsfor_ShardSetGetPinLaw) hisR ?_
  intro p e s m args below meth c s₁ Bd hml0 hP hK
  obtain ⟨rfl, hZ, hh⟩ := hP
  have hx := Bd.exec
  have hby := Bd.bytes
  have hlk := Bd.notSynchronized
  have hml : c.maxLocals = 8 := hml0
  have hown : s.vm.findClass "com/example/waitsfor/waitsfor/ShardSetGetPinLaw" = some m.cls := findClass_of_methodNamed Bd.named
  have hnm := (name_of_methodNamed Bd.named Bd.method).1
  have X0 : Stand p l e room_1 s m #[(.int p0), (.int p1), (.int p2), (.int p3)] below meth c s₁ [] 0 0 := Stand.of_body Bd
  have e0 : s₁.heap = h0 := by rw [← hh, Bd.state]; rfl
  have N0 := Fr.nil n0
  show OwnEnd p e below s (Q_rm_law Z p0 p1 p2 p3 h0 n0) 16 128 (s₁.setTop (entryFrame m #[(.int p0), (.int p1), (.int p2), (.int p3)] maxLocals))
  refine go (fun t k => castTop (ef_rm_law m p0 p1 p2 p3) k) ?_
  show OwnEnd _ _ _ _ _ _ _ (s₁.setTop (mkF m 0 (fL0 p0 p1 p2 p3) []))
  refine go (fun _ k => by refine XS.iloadN X0.here hx rfl (hb hby at_0) rfl ?_; exact k) ?_
  refine go (fun _ k => by refine XS.iconst X0.here hx rfl (hb hby at_1) ?_; exact k) ?_
  refine go (fun _ k => by refine XS.ior X0.here hx rfl (hb hby at_2) rfl ?_; exact k) ?_
  refine go (fun _ k => by refine XS.istore X0.here hx rfl (hb hby at_3) rfl (l' := (fL1 p0 p1 p2 p3 (p1 ||| (1 : Int32)))) rfl ?_; exact k) ?_
  show OwnEnd _ _ _ _ _ _ _ (s₁.setTop (mkF m 5 (fL1 p0 p1 p2 p3 (p1 ||| (1 : Int32))) []))
  generalize qx1 : (p1 ||| (1 : Int32)) = x1
  show OwnEnd _ _ _ _ _ _ _ (s₁.setTop (mkF m 5 (fL1 p0 p1 p2 p3 x1) []))
  refine go (fun _ k => by refine XS.iconst X0.here hx rfl (hb hby at_5) ?_; exact k) ?_
  refine go (fun _ k => by refine XS.iloadN X0.here hx rfl (hb hby at_6) rfl ?_; exact k) ?_
  show OwnEnd _ _ _ _ _ _ _ (s₁.setTop (mkF m 7 (fL1 p0 p1 p2 p3 x1) [(.int p2), (.int (1 : Int32))]))
  refine go (X0.ldcInt hx hown (mvT hZ (hw _ (List.mem_of_getElem? (i := 0) rfl))) (g := (mkF m 7 (fL1 p0 p1 p2 p3 x1) [(.int p2), (.int (1 : Int32))])) rfl (hb hby at_7)) ?_
  refine go (fun _ k => by refine XS.iand X0.here hx rfl (hb hby at_9) rfl ?_; exact k) ?_
  refine go (fun _ k => by refine XS.bipush X0.here hx rfl (hb hby at_10) ?_; exact k) ?_
  show OwnEnd _ _ _ _ _ _ _ (s₁.setTop (mkF m 12 (fL1 p0 p1 p2 p3 x1) [(.int (10 : Int32)), (.int (p2 &&& (2147483647 : Int32))), (.int (1 : Int32))]))
  refine go (fun t k => iremM (g := (mkF m 12 (fL1 p0 p1 p2 p3 x1) [(.int (10 : Int32)), (.int (p2 &&& (2147483647 : Int32))), (.int (1 : Int32))])) X0 hx rfl (hb hby at_12) rfl (by decide) k) ?_
  refine go (fun _ k => by refine XS.iadd X0.here hx rfl (hb hby at_13) rfl ?_; exact k) ?_
  refine go (fun _ k => by refine XS.istore X0.here hx rfl (hb hby at_14) rfl (l' := (fL2 p0 p1 p2 p3 x1 ((1 : Int32) + ((p2 &&& (2147483647 : Int32)) % (10 : Int32))))) rfl ?_; exact k) ?_
  show OwnEnd _ _ _ _ _ _ _ (s₁.setTop (mkF m 16 (fL2 p0 p1 p2 p3 x1 ((1 : Int32) + ((p2 &&& (2147483647 : Int32)) % (10 : Int32)))) []))
  generalize qx2 : ((1 : Int32) + ((p2 &&& (2147483647 : Int32)) % (10 : Int32))) = x2
  refine go (fun _ k => by refine XS.iloadN X0.here hx rfl (hb hby at_16) rfl ?_; exact k) ?_
  show OwnEnd _ _ _ _ _ _ _ (s₁.setTop (mkF m 17 (fL2 p0 p1 p2 p3 x1 x2) [(.int p3)]))
  refine go (X0.ldcInt hx hown (mvT hZ (hw _ (List.mem_of_getElem? (i := 0) rfl))) (g := (mkF m 17 (fL2 p0 p1 p2 p3 x1 x2) [(.int p3)])) rfl (hb hby at_17)) ?_
  refine go (fun _ k => by refine XS.iand X0.here hx rfl (hb hby at_19) rfl ?_; exact k) ?_
  refine go (fun _ k => by refine XS.iload X0.here hx rfl (hb hby at_20) rfl ?_; exact k) ?_
  show OwnEnd _ _ _ _ _ _ _ (s₁.setTop (mkF m 22 (fL2 p0 p1 p2 p3 x1 x2) [(.int x2), (.int (p3 &&& (2147483647 : Int32)))]))
  refine go (fun t k => iremM (g := (mkF m 22 (fL2 p0 p1 p2 p3 x1 x2) [(.int x2), (.int (p3 &&& (2147483647 : Int32)))])) X0 hx rfl (hb hby at_22) rfl (own_nz _ _ qx2) k) ?_
  refine go (fun _ k => by refine XS.istore X0.here hx rfl (hb hby at_23) rfl (l' := (fL3 p0 p1 p2 p3 x1 x2 ((p3 &&& (2147483647 : Int32)) % x2))) rfl ?_; exact k) ?_
  show OwnEnd _ _ _ _ _ _ _ (s₁.setTop (mkF m 25 (fL3 p0 p1 p2 p3 x1 x2 ((p3 &&& (2147483647 : Int32)) % x2)) []))
  generalize qx3 : ((p3 &&& (2147483647 : Int32)) % x2) = x3
  show OwnEnd _ _ _ _ _ _ _ (s₁.setTop (mkF m 25 (fL3 p0 p1 p2 p3 x1 x2 x3) []))
  obtain ⟨T4, h4, X4, e4, E4, A4, D4, -, st4⟩ := newO X0 hx hZ hown (hw _ (List.mem_of_getElem? (i := 1) rfl)) (hw _ (List.mem_of_getElem? (i := 2) rfl)) (hw _ (List.mem_of_getElem? (i := 3) rfl)) e0 (g := (mkF m 25 (fL3 p0 p1 p2 p3 x1 x2 x3) [])) rfl (hb hby at_25) (by decide) (by decide)
  obtain ⟨b4, g4⟩ : ∃ z, z = h0.size := ⟨_, rfl⟩
  rw [← g4] at A4 D4 st4
  have g_b4 : n0 ≤ b4 := Nat.le_trans Z0 (Nat.le_of_eq g4.symm)
  have Z0 := Nat.le_trans Z0 E4.1
  have F_size_b4 : Fld Z h4 b4 "com/example/waitsfor/waitsfor/ShardSet" "size" "I" (.int (0 : Int32)) := D4 (Or.inl (hw _ (List.mem_of_getElem? (i := 20) rfl))) (ty := .int) (by decide)
  have F_packed_b4 : Fld Z h4 b4 "com/example/waitsfor/waitsfor/ShardSet" "packed" "J" (.long (0 : Int64)) := D4 (Or.inl (hw _ (List.mem_of_getElem? (i := 22) rfl))) (ty := .long) (by decide)
  have F_more_b4 : Fld Z h4 b4 "com/example/waitsfor/waitsfor/ShardSet" "more" "[I" .null := D4 (Or.inl (hw _ (List.mem_of_getElem? (i := 34) rfl))) (ty := (.array .int)) (by decide)
  have E_b4 := A4
  refine go st4 ?_
  refine go (fun _ k => by refine XS.dup X4.here hx rfl (hb hby at_28) rfl rfl ?_; exact k) ?_
  show OwnEnd _ _ _ _ _ _ _ (T4.setTop (mkF m 29 (fL3 p0 p1 p2 p3 x1 x2 x3) [(.ref b4), (.ref b4)]))
  obtain ⟨_, T5, L5, X5, hQ5, st5⟩ := callInit X4 hx hZ hown rfl (hw _ (List.mem_of_getElem? (i := 4) rfl)) (hw _ (List.mem_of_getElem? (i := 5) rfl)) (hw _ (List.mem_of_getElem? (i := 3) rfl)) (hw _ (List.mem_of_getElem? (i := 6) rfl)) (by decide) (rm_ini l Z a0 hw [] b4 h4 n0 ) (W := 1) (by decide) (by decide) e4 (g := (mkF m 29 (fL3 p0 p1 p2 p3 x1 x2 x3) [(.ref b4), (.ref b4)])) rfl (by rw [hml]; rfl) (argsL := []) (rest := [(.ref b4)]) rfl (lenOf pd___V rfl) rfl (by show 2 * 0 + _ ≤ _; exact Nat.le_of_eq rfl) (hb hby at_29) (by decide) (by decide)
  obtain ⟨rfl, Nq5, eq5⟩ := hQ5
  have N5 := Fr.app N0 Nq5
  refine go st5 ?_
  refine go (fun _ k => by refine XS.astore X5.here hx rfl (hb hby at_32) rfl rfl (l' := (fL4 p0 p1 p2 p3 x1 x2 x3 b4)) rfl ?_; exact k) ?_
  refine go (fun _ k => by refine XS.aload X5.here hx rfl (hb hby at_34) rfl rfl ?_; exact k) ?_
  refine go (fun _ k => by refine XS.iloadN X5.here hx rfl (hb hby at_36) rfl ?_; exact k) ?_
  show OwnEnd _ _ _ _ _ _ _ (T5.setTop (mkF m 37 (fL4 p0 p1 p2 p3 x1 x2 x3 b4) [(.int p0), (.ref b4)]))
  refine go (fun _ k => by refine XS.iload X5.here hx rfl (hb hby at_37) rfl ?_; exact k) ?_
  refine go (fun _ k => by refine XS.iconst X5.here hx rfl (hb hby at_39) ?_; exact k) ?_
  show OwnEnd _ _ _ _ _ _ _ (T5.setTop (mkF m 40 (fL4 p0 p1 p2 p3 x1 x2 x3 b4) [(.int (0 : Int32)), (.int x1), (.int p0), (.ref b4)]))
  obtain ⟨_, T6, L6, X6, hQ6, st6⟩ := callStat X5 hx hZ hown (hw _ (List.mem_of_getElem? (i := 10) rfl)) (hw _ (List.mem_of_getElem? (i := 11) rfl)) (hw _ (List.mem_of_getElem? (i := 12) rfl)) (hw _ (List.mem_of_getElem? (i := 13) rfl)) (by decide) (rm_sh l Z a0 hw [] p0 x1 (0 : Int32) h4 n0 ) (W := 1) (by decide) (by decide) eq5 (g := (mkF m 40 (fL4 p0 p1 p2 p3 x1 x2 x3 b4) [(.int (0 : Int32)), (.int x1), (.int p0), (.ref b4)])) rfl (by rw [hml]; rfl) (argsL := [(.int p0), (.int x1), (.int (0 : Int32))]) (rest := [(.ref b4)]) rfl (lenOf pd__III_I rfl) rfl (by show 2 * 0 + _ ≤ _; exact Nat.le_of_eq rfl) (hb hby at_40) (by decide) (by decide)
  obtain ⟨rfl, Nq6, eq6⟩ := hQ6
  have N6 := Fr.app N5 Nq6
  refine go st6 ?_
  show OwnEnd _ _ _ _ _ _ _ (T6.setTop (mkF m 43 (fL4 p0 p1 p2 p3 x1 x2 x3 b4) [(.int (own_sh p0 x1 0)), (.ref b4)]))
  obtain ⟨_, T7, L7, X7, hQ7, st7⟩ := callVirt X6 hx hZ hown (hw _ (List.mem_of_getElem? (i := 14) rfl)) (hw _ (List.mem_of_getElem? (i := 15) rfl)) (notFace_of_selects (args := #[]) (mvT hZ (hw _ (List.mem_of_getElem? (i := 17) rfl)))) (hw _ (List.mem_of_getElem? (i := 17) rfl)) (hw _ (List.mem_of_getElem? (i := 16) rfl)) (hw _ (List.mem_of_getElem? (i := 3) rfl)) (hw _ (List.mem_of_getElem? (i := 18) rfl)) (by decide) (rm_add0 l Z a0 hw [] b4 (own_sh p0 x1 0) (0 : Int64) h4 n0 g_b4 E_b4 F_packed_b4 F_size_b4 F_more_b4  Z0 ) (W := 0) (by decide) (by decide) eq6 E_b4 (g := (mkF m 43 (fL4 p0 p1 p2 p3 x1 x2 x3 b4) [(.int (own_sh p0 x1 0)), (.ref b4)])) rfl (by rw [hml]; rfl) (argsL := [(.int (own_sh p0 x1 0))]) (rest := []) rfl (lenOf pd__I_V rfl) rfl (by show 2 * 0 + _ ≤ _; exact Nat.le_of_eq rfl) (hb hby at_43) (by decide) (by decide)
  obtain ⟨rfl, Nq7, K7, E_b4, F_packed_b4, F_size_b4, F_more_b4⟩ := hQ7
  have N7 := Fr.app N6 Nq7
  have Z0 := Nat.le_trans Z0 K7.1
  have F_packed_b4 : Fld Z T7.heap b4 "com/example/waitsfor/waitsfor/ShardSet" "packed" "J" (.long (own_pk p0 x1 1)) := F_packed_b4
  refine go st7 ?_
  refine go (fun _ k => by refine XS.iload X7.here hx rfl (hb hby at_46) rfl ?_; exact k) ?_
  refine go (fun _ k => by refine XS.iconst X7.here hx rfl (hb hby at_48) ?_; exact k) ?_
  show OwnEnd _ _ _ _ _ _ _ (T7.setTop (mkF m 49 (fL4 p0 p1 p2 p3 x1 x2 x3 b4) [(.int (1 : Int32)), (.int x2)]))
  by_cases hc49_8 : (1 : Int32) < x2
  · refine go (fun _ k => by refine XS.icmpNo X7.here hx rfl (hb hby at_49) rfl (tlt hc49_8).2.2.2 ?_; exact k) ?_
    show OwnEnd _ _ _ _ _ _ _ (T7.setTop (mkF m 52 (fL4 p0 p1 p2 p3 x1 x2 x3 b4) []))
    refine go (fun _ k => by refine XS.aload X7.here hx rfl (hb hby at_52) rfl rfl ?_; exact k) ?_
    refine go (fun _ k => by refine XS.iloadN X7.here hx rfl (hb hby at_54) rfl ?_; exact k) ?_
    refine go (fun _ k => by refine XS.iload X7.here hx rfl (hb hby at_55) rfl ?_; exact k) ?_
    refine go (fun _ k => by refine XS.iconst X7.here hx rfl (hb hby at_57) ?_; exact k) ?_
    show OwnEnd _ _ _ _ _ _ _ (T7.setTop (mkF m 58 (fL4 p0 p1 p2 p3 x1 x2 x3 b4) [(.int (1 : Int32)), (.int x1), (.int p0), (.ref b4)]))
    obtain ⟨_, T9, L9, X9, hQ9, st9⟩ := callStat X7 hx hZ hown (hw _ (List.mem_of_getElem? (i := 10) rfl)) (hw _ (List.mem_of_getElem? (i := 11) rfl)) (hw _ (List.mem_of_getElem? (i := 12) rfl)) (hw _ (List.mem_of_getElem? (i := 13) rfl)) (by decide) (rm_sh l Z a0 hw [] p0 x1 (1 : Int32) T7.heap n0 ) (W := 1) (by decide) (by decide) rfl (g := (mkF m 58 (fL4 p0 p1 p2 p3 x1 x2 x3 b4) [(.int (1 : Int32)), (.int x1), (.int p0), (.ref b4)])) rfl (by rw [hml]; rfl) (argsL := [(.int p0), (.int x1), (.int (1 : Int32))]) (rest := [(.ref b4)]) rfl (lenOf pd__III_I rfl) rfl (by show 2 * 0 + _ ≤ _; exact Nat.le_of_eq rfl) (hb hby at_58) (by decide) (by decide)
    obtain ⟨rfl, Nq9, eq9⟩ := hQ9
    have N9 := Fr.app N7 Nq9
    refine go st9 ?_
    show OwnEnd _ _ _ _ _ _ _ (T9.setTop (mkF m 61 (fL4 p0 p1 p2 p3 x1 x2 x3 b4) [(.int (own_sh p0 x1 1)), (.ref b4)]))
    obtain ⟨_, T10, L10, X10, hQ10, st10⟩ := callVirt X9 hx hZ hown (hw _ (List.mem_of_getElem? (i := 14) rfl)) (hw _ (List.mem_of_getElem? (i := 15) rfl)) (notFace_of_selects (args := #[]) (mvT hZ (hw _ (List.mem_of_getElem? (i := 17) rfl)))) (hw _ (List.mem_of_getElem? (i := 17) rfl)) (hw _ (List.mem_of_getElem? (i := 16) rfl)) (hw _ (List.mem_of_getElem? (i := 3) rfl)) (hw _ (List.mem_of_getElem? (i := 18) rfl)) (by decide) (rm_add1 l Z a0 hw [] b4 (own_sh p0 x1 1) (own_pk p0 x1 1) T7.heap n0 g_b4 E_b4 F_packed_b4 F_size_b4 F_more_b4 (own_ne0_1 p0 x1 qx1) Z0 ) (W := 0) (by decide) (by decide) eq9 E_b4 (g := (mkF m 61 (fL4 p0 p1 p2 p3 x1 x2 x3 b4) [(.int (own_sh p0 x1 1)), (.ref b4)])) rfl (by rw [hml]; rfl) (argsL := [(.int (own_sh p0 x1 1))]) (rest := []) rfl (lenOf pd__I_V rfl) rfl (by show 2 * 0 + _ ≤ _; exact Nat.le_of_eq rfl) (hb hby at_61) (by decide) (by decide)
    obtain ⟨rfl, Nq10, K10, E_b4, F_packed_b4, F_size_b4, F_more_b4⟩ := hQ10
    have N10 := Fr.app N9 Nq10
    have Z0 := Nat.le_trans Z0 K10.1
    have F_packed_b4 : Fld Z T10.heap b4 "com/example/waitsfor/waitsfor/ShardSet" "packed" "J" (.long (own_pk p0 x1 2)) := F_packed_b4
    refine go st10 ?_
    refine go (fun _ k => by refine XS.iload X10.here hx rfl (hb hby at_64) rfl ?_; exact k) ?_
    refine go (fun _ k => by refine XS.iconst X10.here hx rfl (hb hby at_66) ?_; exact k) ?_
    show OwnEnd _ _ _ _ _ _ _ (T10.setTop (mkF m 67 (fL4 p0 p1 p2 p3 x1 x2 x3 b4) [(.int (2 : Int32)), (.int x2)]))
    by_cases hc67_11 : (2 : Int32) < x2
    · refine go (fun _ k => by refine XS.icmpNo X10.here hx rfl (hb hby at_67) rfl (tlt hc67_11).2.2.2 ?_; exact k) ?_
      show OwnEnd _ _ _ _ _ _ _ (T10.setTop (mkF m 70 (fL4 p0 p1 p2 p3 x1 x2 x3 b4) []))
      refine go (fun _ k => by refine XS.aload X10.here hx rfl (hb hby at_70) rfl rfl ?_; exact k) ?_
      refine go (fun _ k => by refine XS.iloadN X10.here hx rfl (hb hby at_72) rfl ?_; exact k) ?_
      refine go (fun _ k => by refine XS.iload X10.here hx rfl (hb hby at_73) rfl ?_; exact k) ?_
      refine go (fun _ k => by refine XS.iconst X10.here hx rfl (hb hby at_75) ?_; exact k) ?_
      show OwnEnd _ _ _ _ _ _ _ (T10.setTop (mkF m 76 (fL4 p0 p1 p2 p3 x1 x2 x3 b4) [(.int (2 : Int32)), (.int x1), (.int p0), (.ref b4)]))
      obtain ⟨_, T12, L12, X12, hQ12, st12⟩ := callStat X10 hx hZ hown (hw _ (List.mem_of_getElem? (i := 10) rfl)) (hw _ (List.mem_of_getElem? (i := 11) rfl)) (hw _ (List.mem_of_getElem? (i := 12) rfl)) (hw _ (List.mem_of_getElem? (i := 13) rfl)) (by decide) (rm_sh l Z a0 hw [] p0 x1 (2 : Int32) T10.heap n0 ) (W := 1) (by decide) (by decide) rfl (g := (mkF m 76 (fL4 p0 p1 p2 p3 x1 x2 x3 b4) [(.int (2 : Int32)), (.int x1), (.int p0), (.ref b4)])) rfl (by rw [hml]; rfl) (argsL := [(.int p0), (.int x1), (.int (2 : Int32))]) (rest := [(.ref b4)]) rfl (lenOf pd__III_I rfl) rfl (by show 2 * 0 + _ ≤ _; exact Nat.le_of_eq rfl) (hb hby at_76) (by decide) (by decide)
      obtain ⟨rfl, Nq12, eq12⟩ := hQ12
      have N12 := Fr.app N10 Nq12
      refine go st12 ?_
      show OwnEnd _ _ _ _ _ _ _ (T12.setTop (mkF m 79 (fL4 p0 p1 p2 p3 x1 x2 x3 b4) [(.int (own_sh p0 x1 2)), (.ref b4)]))
      obtain ⟨_, T13, L13, X13, hQ13, st13⟩ := callVirt X12 hx hZ hown (hw _ (List.mem_of_getElem? (i := 14) rfl)) (hw _ (List.mem_of_getElem? (i := 15) rfl)) (notFace_of_selects (args := #[]) (mvT hZ (hw _ (List.mem_of_getElem? (i := 17) rfl)))) (hw _ (List.mem_of_getElem? (i := 17) rfl)) (hw _ (List.mem_of_getElem? (i := 16) rfl)) (hw _ (List.mem_of_getElem? (i := 3) rfl)) (hw _ (List.mem_of_getElem? (i := 18) rfl)) (by decide) (rm_add2 l Z a0 hw [] b4 (own_sh p0 x1 2) (own_pk p0 x1 2) T10.heap n0 g_b4 E_b4 F_packed_b4 F_size_b4 F_more_b4 (own_ne0_2 p0 x1 qx1) (own_ne1_2 p0 x1 qx1) Z0 ) (W := 0) (by decide) (by decide) eq12 E_b4 (g := (mkF m 79 (fL4 p0 p1 p2 p3 x1 x2 x3 b4) [(.int (own_sh p0 x1 2)), (.ref b4)])) rfl (by rw [hml]; rfl) (argsL := [(.int (own_sh p0 x1 2))]) (rest := []) rfl (lenOf pd__I_V rfl) rfl (by show 2 * 0 + _ ≤ _; exact Nat.le_of_eq rfl) (hb hby at_79) (by decide) (by decide)
      obtain ⟨rfl, Nq13, K13, E_b4, F_packed_b4, F_size_b4, F_more_b4⟩ := hQ13
      have N13 := Fr.app N12 Nq13
      have Z0 := Nat.le_trans Z0 K13.1
      have F_packed_b4 : Fld Z T13.heap b4 "com/example/waitsfor/waitsfor/ShardSet" "packed" "J" (.long (own_pk p0 x1 3)) := F_packed_b4
      refine go st13 ?_
      refine go (fun _ k => by refine XS.iload X13.here hx rfl (hb hby at_82) rfl ?_; exact k) ?_
      refine go (fun _ k => by refine XS.iconst X13.here hx rfl (hb hby at_84) ?_; exact k) ?_
      show OwnEnd _ _ _ _ _ _ _ (T13.setTop (mkF m 85 (fL4 p0 p1 p2 p3 x1 x2 x3 b4) [(.int (3 : Int32)), (.int x2)]))
      by_cases hc85_14 : (3 : Int32) < x2
      · refine go (fun _ k => by refine XS.icmpNo X13.here hx rfl (hb hby at_85) rfl (tlt hc85_14).2.2.2 ?_; exact k) ?_
        show OwnEnd _ _ _ _ _ _ _ (T13.setTop (mkF m 88 (fL4 p0 p1 p2 p3 x1 x2 x3 b4) []))
        refine go (fun _ k => by refine XS.aload X13.here hx rfl (hb hby at_88) rfl rfl ?_; exact k) ?_
        refine go (fun _ k => by refine XS.iloadN X13.here hx rfl (hb hby at_90) rfl ?_; exact k) ?_
        refine go (fun _ k => by refine XS.iload X13.here hx rfl (hb hby at_91) rfl ?_; exact k) ?_
        refine go (fun _ k => by refine XS.iconst X13.here hx rfl (hb hby at_93) ?_; exact k) ?_
        show OwnEnd _ _ _ _ _ _ _ (T13.setTop (mkF m 94 (fL4 p0 p1 p2 p3 x1 x2 x3 b4) [(.int (3 : Int32)), (.int x1), (.int p0), (.ref b4)]))
        obtain ⟨_, T15, L15, X15, hQ15, st15⟩ := callStat X13 hx hZ hown (hw _ (List.mem_of_getElem? (i := 10) rfl)) (hw _ (List.mem_of_getElem? (i := 11) rfl)) (hw _ (List.mem_of_getElem? (i := 12) rfl)) (hw _ (List.mem_of_getElem? (i := 13) rfl)) (by decide) (rm_sh l Z a0 hw [] p0 x1 (3 : Int32) T13.heap n0 ) (W := 1) (by decide) (by decide) rfl (g := (mkF m 94 (fL4 p0 p1 p2 p3 x1 x2 x3 b4) [(.int (3 : Int32)), (.int x1), (.int p0), (.ref b4)])) rfl (by rw [hml]; rfl) (argsL := [(.int p0), (.int x1), (.int (3 : Int32))]) (rest := [(.ref b4)]) rfl (lenOf pd__III_I rfl) rfl (by show 2 * 0 + _ ≤ _; exact Nat.le_of_eq rfl) (hb hby at_94) (by decide) (by decide)
        obtain ⟨rfl, Nq15, eq15⟩ := hQ15
        have N15 := Fr.app N13 Nq15
        refine go st15 ?_
        show OwnEnd _ _ _ _ _ _ _ (T15.setTop (mkF m 97 (fL4 p0 p1 p2 p3 x1 x2 x3 b4) [(.int (own_sh p0 x1 3)), (.ref b4)]))
        obtain ⟨_, T16, L16, X16, hQ16, st16⟩ := callVirt X15 hx hZ hown (hw _ (List.mem_of_getElem? (i := 14) rfl)) (hw _ (List.mem_of_getElem? (i := 15) rfl)) (notFace_of_selects (args := #[]) (mvT hZ (hw _ (List.mem_of_getElem? (i := 17) rfl)))) (hw _ (List.mem_of_getElem? (i := 17) rfl)) (hw _ (List.mem_of_getElem? (i := 16) rfl)) (hw _ (List.mem_of_getElem? (i := 3) rfl)) (hw _ (List.mem_of_getElem? (i := 18) rfl)) (by decide) (rm_add3 l Z a0 hw [] b4 (own_sh p0 x1 3) (own_pk p0 x1 3) T13.heap n0 g_b4 E_b4 F_packed_b4 F_size_b4 F_more_b4 (own_ne0_3 p0 x1 qx1) (own_ne1_3 p0 x1 qx1) (own_ne2_3 p0 x1 qx1) Z0 ) (W := 0) (by decide) (by decide) eq15 E_b4 (g := (mkF m 97 (fL4 p0 p1 p2 p3 x1 x2 x3 b4) [(.int (own_sh p0 x1 3)), (.ref b4)])) rfl (by rw [hml]; rfl) (argsL := [(.int (own_sh p0 x1 3))]) (rest := []) rfl (lenOf pd__I_V rfl) rfl (by show 2 * 0 + _ ≤ _; exact Nat.le_of_eq rfl) (hb hby at_97) (by decide) (by decide)
        obtain ⟨rfl, Nq16, K16, E_b4, F_packed_b4, F_size_b4, F_more_b4⟩ := hQ16
        have N16 := Fr.app N15 Nq16
        have Z0 := Nat.le_trans Z0 K16.1
        have F_packed_b4 : Fld Z T16.heap b4 "com/example/waitsfor/waitsfor/ShardSet" "packed" "J" (.long (own_pk p0 x1 4)) := F_packed_b4
        refine go st16 ?_
        refine go (fun _ k => by refine XS.iload X16.here hx rfl (hb hby at_100) rfl ?_; exact k) ?_
        refine go (fun _ k => by refine XS.iconst X16.here hx rfl (hb hby at_102) ?_; exact k) ?_
        show OwnEnd _ _ _ _ _ _ _ (T16.setTop (mkF m 103 (fL4 p0 p1 p2 p3 x1 x2 x3 b4) [(.int (4 : Int32)), (.int x2)]))
        by_cases hc103_17 : (4 : Int32) < x2
        · refine go (fun _ k => by refine XS.icmpNo X16.here hx rfl (hb hby at_103) rfl (tlt hc103_17).2.2.2 ?_; exact k) ?_
          show OwnEnd _ _ _ _ _ _ _ (T16.setTop (mkF m 106 (fL4 p0 p1 p2 p3 x1 x2 x3 b4) []))
          refine go (fun _ k => by refine XS.aload X16.here hx rfl (hb hby at_106) rfl rfl ?_; exact k) ?_
          refine go (fun _ k => by refine XS.iloadN X16.here hx rfl (hb hby at_108) rfl ?_; exact k) ?_
          refine go (fun _ k => by refine XS.iload X16.here hx rfl (hb hby at_109) rfl ?_; exact k) ?_
          refine go (fun _ k => by refine XS.iconst X16.here hx rfl (hb hby at_111) ?_; exact k) ?_
          show OwnEnd _ _ _ _ _ _ _ (T16.setTop (mkF m 112 (fL4 p0 p1 p2 p3 x1 x2 x3 b4) [(.int (4 : Int32)), (.int x1), (.int p0), (.ref b4)]))
          obtain ⟨_, T18, L18, X18, hQ18, st18⟩ := callStat X16 hx hZ hown (hw _ (List.mem_of_getElem? (i := 10) rfl)) (hw _ (List.mem_of_getElem? (i := 11) rfl)) (hw _ (List.mem_of_getElem? (i := 12) rfl)) (hw _ (List.mem_of_getElem? (i := 13) rfl)) (by decide) (rm_sh l Z a0 hw [] p0 x1 (4 : Int32) T16.heap n0 ) (W := 1) (by decide) (by decide) rfl (g := (mkF m 112 (fL4 p0 p1 p2 p3 x1 x2 x3 b4) [(.int (4 : Int32)), (.int x1), (.int p0), (.ref b4)])) rfl (by rw [hml]; rfl) (argsL := [(.int p0), (.int x1), (.int (4 : Int32))]) (rest := [(.ref b4)]) rfl (lenOf pd__III_I rfl) rfl (by show 2 * 0 + _ ≤ _; exact Nat.le_of_eq rfl) (hb hby at_112) (by decide) (by decide)
          obtain ⟨rfl, Nq18, eq18⟩ := hQ18
          have N18 := Fr.app N16 Nq18
          refine go st18 ?_
          show OwnEnd _ _ _ _ _ _ _ (T18.setTop (mkF m 115 (fL4 p0 p1 p2 p3 x1 x2 x3 b4) [(.int (own_sh p0 x1 4)), (.ref b4)]))
          obtain ⟨_, T19, L19, X19, hQ19, st19⟩ := callVirt X18 hx hZ hown (hw _ (List.mem_of_getElem? (i := 14) rfl)) (hw _ (List.mem_of_getElem? (i := 15) rfl)) (notFace_of_selects (args := #[]) (mvT hZ (hw _ (List.mem_of_getElem? (i := 17) rfl)))) (hw _ (List.mem_of_getElem? (i := 17) rfl)) (hw _ (List.mem_of_getElem? (i := 16) rfl)) (hw _ (List.mem_of_getElem? (i := 3) rfl)) (hw _ (List.mem_of_getElem? (i := 18) rfl)) (by decide) (rm_add4 l Z a0 hw [] b4 (own_sh p0 x1 4) (own_pk p0 x1 4) T16.heap n0 g_b4 E_b4 F_packed_b4 F_size_b4 F_more_b4 (own_ne0_4 p0 x1 qx1) (own_ne1_4 p0 x1 qx1) (own_ne2_4 p0 x1 qx1) (own_ne3_4 p0 x1 qx1) Z0 ) (W := 0) (by decide) (by decide) eq18 E_b4 (g := (mkF m 115 (fL4 p0 p1 p2 p3 x1 x2 x3 b4) [(.int (own_sh p0 x1 4)), (.ref b4)])) rfl (by rw [hml]; rfl) (argsL := [(.int (own_sh p0 x1 4))]) (rest := []) rfl (lenOf pd__I_V rfl) rfl (by show 2 * 0 + _ ≤ _; exact Nat.le_of_eq rfl) (hb hby at_115) (by decide) (by decide)
          obtain ⟨rfl, Nq19, K19, E_b4, F_packed_b4, F_size_b4, F_more_b4⟩ := hQ19
          have N19 := Fr.app N18 Nq19
          have Z0 := Nat.le_trans Z0 K19.1
          have F_packed_b4 : Fld Z T19.heap b4 "com/example/waitsfor/waitsfor/ShardSet" "packed" "J" (.long (own_pk p0 x1 5)) := F_packed_b4
          refine go st19 ?_
          refine go (fun _ k => by refine XS.iload X19.here hx rfl (hb hby at_118) rfl ?_; exact k) ?_
          refine go (fun _ k => by refine XS.iconst X19.here hx rfl (hb hby at_120) ?_; exact k) ?_
          show OwnEnd _ _ _ _ _ _ _ (T19.setTop (mkF m 121 (fL4 p0 p1 p2 p3 x1 x2 x3 b4) [(.int (5 : Int32)), (.int x2)]))
          by_cases hc121_20 : (5 : Int32) < x2
          · refine go (fun _ k => by refine XS.icmpNo X19.here hx rfl (hb hby at_121) rfl (tlt hc121_20).2.2.2 ?_; exact k) ?_
            show OwnEnd _ _ _ _ _ _ _ (T19.setTop (mkF m 124 (fL4 p0 p1 p2 p3 x1 x2 x3 b4) []))
            refine go (fun _ k => by refine XS.aload X19.here hx rfl (hb hby at_124) rfl rfl ?_; exact k) ?_
            refine go (fun _ k => by refine XS.iloadN X19.here hx rfl (hb hby at_126) rfl ?_; exact k) ?_
            refine go (fun _ k => by refine XS.iload X19.here hx rfl (hb hby at_127) rfl ?_; exact k) ?_
            refine go (fun _ k => by refine XS.iconst X19.here hx rfl (hb hby at_129) ?_; exact k) ?_
            show OwnEnd _ _ _ _ _ _ _ (T19.setTop (mkF m 130 (fL4 p0 p1 p2 p3 x1 x2 x3 b4) [(.int (5 : Int32)), (.int x1), (.int p0), (.ref b4)]))
            obtain ⟨_, T21, L21, X21, hQ21, st21⟩ := callStat X19 hx hZ hown (hw _ (List.mem_of_getElem? (i := 10) rfl)) (hw _ (List.mem_of_getElem? (i := 11) rfl)) (hw _ (List.mem_of_getElem? (i := 12) rfl)) (hw _ (List.mem_of_getElem? (i := 13) rfl)) (by decide) (rm_sh l Z a0 hw [] p0 x1 (5 : Int32) T19.heap n0 ) (W := 1) (by decide) (by decide) rfl (g := (mkF m 130 (fL4 p0 p1 p2 p3 x1 x2 x3 b4) [(.int (5 : Int32)), (.int x1), (.int p0), (.ref b4)])) rfl (by rw [hml]; rfl) (argsL := [(.int p0), (.int x1), (.int (5 : Int32))]) (rest := [(.ref b4)]) rfl (lenOf pd__III_I rfl) rfl (by show 2 * 0 + _ ≤ _; exact Nat.le_of_eq rfl) (hb hby at_130) (by decide) (by decide)
            obtain ⟨rfl, Nq21, eq21⟩ := hQ21
            have N21 := Fr.app N19 Nq21
            refine go st21 ?_
            show OwnEnd _ _ _ _ _ _ _ (T21.setTop (mkF m 133 (fL4 p0 p1 p2 p3 x1 x2 x3 b4) [(.int (own_sh p0 x1 5)), (.ref b4)]))
            obtain ⟨_, T22, L22, X22, hQ22, st22⟩ := callVirt X21 hx hZ hown (hw _ (List.mem_of_getElem? (i := 14) rfl)) (hw _ (List.mem_of_getElem? (i := 15) rfl)) (notFace_of_selects (args := #[]) (mvT hZ (hw _ (List.mem_of_getElem? (i := 17) rfl)))) (hw _ (List.mem_of_getElem? (i := 17) rfl)) (hw _ (List.mem_of_getElem? (i := 16) rfl)) (hw _ (List.mem_of_getElem? (i := 3) rfl)) (hw _ (List.mem_of_getElem? (i := 18) rfl)) (by decide) (rm_add5 l Z a0 hw [] b4 (own_sh p0 x1 5) (own_pk p0 x1 5) T19.heap n0 g_b4 E_b4 F_packed_b4 F_size_b4 F_more_b4 (own_ne0_5 p0 x1 qx1) (own_ne1_5 p0 x1 qx1) (own_ne2_5 p0 x1 qx1) (own_ne3_5 p0 x1 qx1) (own_ne4_5 p0 x1 qx1) Z0 ) (W := 0) (by decide) (by decide) eq21 E_b4 (g := (mkF m 133 (fL4 p0 p1 p2 p3 x1 x2 x3 b4) [(.int (own_sh p0 x1 5)), (.ref b4)])) rfl (by rw [hml]; rfl) (argsL := [(.int (own_sh p0 x1 5))]) (rest := []) rfl (lenOf pd__I_V rfl) rfl (by show 2 * 0 + _ ≤ _; exact Nat.le_of_eq rfl) (hb hby at_133) (by decide) (by decide)
            obtain ⟨rfl, Nq22, K22, E_b4, F_packed_b4, F_size_b4, F_more_b4⟩ := hQ22
            have N22 := Fr.app N21 Nq22
            have Z0 := Nat.le_trans Z0 K22.1
            have F_packed_b4 : Fld Z T22.heap b4 "com/example/waitsfor/waitsfor/ShardSet" "packed" "J" (.long (own_pk p0 x1 6)) := F_packed_b4
            refine go st22 ?_
            refine go (fun _ k => by refine XS.iload X22.here hx rfl (hb hby at_136) rfl ?_; exact k) ?_
            refine go (fun _ k => by refine XS.bipush X22.here hx rfl (hb hby at_138) ?_; exact k) ?_
            show OwnEnd _ _ _ _ _ _ _ (T22.setTop (mkF m 140 (fL4 p0 p1 p2 p3 x1 x2 x3 b4) [(.int (6 : Int32)), (.int x2)]))
            by_cases hc140_23 : (6 : Int32) < x2
            · refine go (fun _ k => by refine XS.icmpNo X22.here hx rfl (hb hby at_140) rfl (tlt hc140_23).2.2.2 ?_; exact k) ?_
              show OwnEnd _ _ _ _ _ _ _ (T22.setTop (mkF m 143 (fL4 p0 p1 p2 p3 x1 x2 x3 b4) []))
              refine go (fun _ k => by refine XS.aload X22.here hx rfl (hb hby at_143) rfl rfl ?_; exact k) ?_
              refine go (fun _ k => by refine XS.iloadN X22.here hx rfl (hb hby at_145) rfl ?_; exact k) ?_
              refine go (fun _ k => by refine XS.iload X22.here hx rfl (hb hby at_146) rfl ?_; exact k) ?_
              refine go (fun _ k => by refine XS.bipush X22.here hx rfl (hb hby at_148) ?_; exact k) ?_
              show OwnEnd _ _ _ _ _ _ _ (T22.setTop (mkF m 150 (fL4 p0 p1 p2 p3 x1 x2 x3 b4) [(.int (6 : Int32)), (.int x1), (.int p0), (.ref b4)]))
              obtain ⟨_, T24, L24, X24, hQ24, st24⟩ := callStat X22 hx hZ hown (hw _ (List.mem_of_getElem? (i := 10) rfl)) (hw _ (List.mem_of_getElem? (i := 11) rfl)) (hw _ (List.mem_of_getElem? (i := 12) rfl)) (hw _ (List.mem_of_getElem? (i := 13) rfl)) (by decide) (rm_sh l Z a0 hw [] p0 x1 (6 : Int32) T22.heap n0 ) (W := 1) (by decide) (by decide) rfl (g := (mkF m 150 (fL4 p0 p1 p2 p3 x1 x2 x3 b4) [(.int (6 : Int32)), (.int x1), (.int p0), (.ref b4)])) rfl (by rw [hml]; rfl) (argsL := [(.int p0), (.int x1), (.int (6 : Int32))]) (rest := [(.ref b4)]) rfl (lenOf pd__III_I rfl) rfl (by show 2 * 0 + _ ≤ _; exact Nat.le_of_eq rfl) (hb hby at_150) (by decide) (by decide)
              obtain ⟨rfl, Nq24, eq24⟩ := hQ24
              have N24 := Fr.app N22 Nq24
              refine go st24 ?_
              show OwnEnd _ _ _ _ _ _ _ (T24.setTop (mkF m 153 (fL4 p0 p1 p2 p3 x1 x2 x3 b4) [(.int (own_sh p0 x1 6)), (.ref b4)]))
              obtain ⟨_, T25, L25, X25, hQ25, st25⟩ := callVirt X24 hx hZ hown (hw _ (List.mem_of_getElem? (i := 14) rfl)) (hw _ (List.mem_of_getElem? (i := 15) rfl)) (notFace_of_selects (args := #[]) (mvT hZ (hw _ (List.mem_of_getElem? (i := 17) rfl)))) (hw _ (List.mem_of_getElem? (i := 17) rfl)) (hw _ (List.mem_of_getElem? (i := 16) rfl)) (hw _ (List.mem_of_getElem? (i := 3) rfl)) (hw _ (List.mem_of_getElem? (i := 18) rfl)) (by decide) (rm_add6 l Z a0 hw [] b4 (own_sh p0 x1 6) (own_pk p0 x1 6) T22.heap n0 g_b4 E_b4 F_packed_b4 F_size_b4 F_more_b4 (own_ne0_6 p0 x1 qx1) (own_ne1_6 p0 x1 qx1) (own_ne2_6 p0 x1 qx1) (own_ne3_6 p0 x1 qx1) (own_ne4_6 p0 x1 qx1) (own_ne5_6 p0 x1 qx1) Z0 ) (W := 0) (by decide) (by decide) eq24 E_b4 (g := (mkF m 153 (fL4 p0 p1 p2 p3 x1 x2 x3 b4) [(.int (own_sh p0 x1 6)), (.ref b4)])) rfl (by rw [hml]; rfl) (argsL := [(.int (own_sh p0 x1 6))]) (rest := []) rfl (lenOf pd__I_V rfl) rfl (by show 2 * 0 + _ ≤ _; exact Nat.le_of_eq rfl) (hb hby at_153) (by decide) (by decide)
              obtain ⟨rfl, Nq25, K25, E_b4, F_packed_b4, F_size_b4, F_more_b4⟩ := hQ25
              have N25 := Fr.app N24 Nq25
              have Z0 := Nat.le_trans Z0 K25.1
              have F_packed_b4 : Fld Z T25.heap b4 "com/example/waitsfor/waitsfor/ShardSet" "packed" "J" (.long (own_pk p0 x1 7)) := F_packed_b4
              refine go st25 ?_
              refine go (fun _ k => by refine XS.iload X25.here hx rfl (hb hby at_156) rfl ?_; exact k) ?_
              refine go (fun _ k => by refine XS.bipush X25.here hx rfl (hb hby at_158) ?_; exact k) ?_
              show OwnEnd _ _ _ _ _ _ _ (T25.setTop (mkF m 160 (fL4 p0 p1 p2 p3 x1 x2 x3 b4) [(.int (7 : Int32)), (.int x2)]))
              by_cases hc160_26 : (7 : Int32) < x2
              · refine go (fun _ k => by refine XS.icmpNo X25.here hx rfl (hb hby at_160) rfl (tlt hc160_26).2.2.2 ?_; exact k) ?_
                show OwnEnd _ _ _ _ _ _ _ (T25.setTop (mkF m 163 (fL4 p0 p1 p2 p3 x1 x2 x3 b4) []))
                refine go (fun _ k => by refine XS.aload X25.here hx rfl (hb hby at_163) rfl rfl ?_; exact k) ?_
                refine go (fun _ k => by refine XS.iloadN X25.here hx rfl (hb hby at_165) rfl ?_; exact k) ?_
                refine go (fun _ k => by refine XS.iload X25.here hx rfl (hb hby at_166) rfl ?_; exact k) ?_
                refine go (fun _ k => by refine XS.bipush X25.here hx rfl (hb hby at_168) ?_; exact k) ?_
                show OwnEnd _ _ _ _ _ _ _ (T25.setTop (mkF m 170 (fL4 p0 p1 p2 p3 x1 x2 x3 b4) [(.int (7 : Int32)), (.int x1), (.int p0), (.ref b4)]))
                obtain ⟨_, T27, L27, X27, hQ27, st27⟩ := callStat X25 hx hZ hown (hw _ (List.mem_of_getElem? (i := 10) rfl)) (hw _ (List.mem_of_getElem? (i := 11) rfl)) (hw _ (List.mem_of_getElem? (i := 12) rfl)) (hw _ (List.mem_of_getElem? (i := 13) rfl)) (by decide) (rm_sh l Z a0 hw [] p0 x1 (7 : Int32) T25.heap n0 ) (W := 1) (by decide) (by decide) rfl (g := (mkF m 170 (fL4 p0 p1 p2 p3 x1 x2 x3 b4) [(.int (7 : Int32)), (.int x1), (.int p0), (.ref b4)])) rfl (by rw [hml]; rfl) (argsL := [(.int p0), (.int x1), (.int (7 : Int32))]) (rest := [(.ref b4)]) rfl (lenOf pd__III_I rfl) rfl (by show 2 * 0 + _ ≤ _; exact Nat.le_of_eq rfl) (hb hby at_170) (by decide) (by decide)
                obtain ⟨rfl, Nq27, eq27⟩ := hQ27
                have N27 := Fr.app N25 Nq27
                refine go st27 ?_
                show OwnEnd _ _ _ _ _ _ _ (T27.setTop (mkF m 173 (fL4 p0 p1 p2 p3 x1 x2 x3 b4) [(.int (own_sh p0 x1 7)), (.ref b4)]))
                obtain ⟨_, T28, L28, X28, hQ28, st28⟩ := callVirt X27 hx hZ hown (hw _ (List.mem_of_getElem? (i := 14) rfl)) (hw _ (List.mem_of_getElem? (i := 15) rfl)) (notFace_of_selects (args := #[]) (mvT hZ (hw _ (List.mem_of_getElem? (i := 17) rfl)))) (hw _ (List.mem_of_getElem? (i := 17) rfl)) (hw _ (List.mem_of_getElem? (i := 16) rfl)) (hw _ (List.mem_of_getElem? (i := 3) rfl)) (hw _ (List.mem_of_getElem? (i := 18) rfl)) (by decide) (rm_add7 l Z a0 hw [] b4 (own_sh p0 x1 7) (own_pk p0 x1 7) T25.heap n0 g_b4 E_b4 F_packed_b4 F_size_b4 F_more_b4 (own_ne0_7 p0 x1 qx1) (own_ne1_7 p0 x1 qx1) (own_ne2_7 p0 x1 qx1) (own_ne3_7 p0 x1 qx1) (own_ne4_7 p0 x1 qx1) (own_ne5_7 p0 x1 qx1) (own_ne6_7 p0 x1 qx1) Z0 ) (W := 0) (by decide) (by decide) eq27 E_b4 (g := (mkF m 173 (fL4 p0 p1 p2 p3 x1 x2 x3 b4) [(.int (own_sh p0 x1 7)), (.ref b4)])) rfl (by rw [hml]; rfl) (argsL := [(.int (own_sh p0 x1 7))]) (rest := []) rfl (lenOf pd__I_V rfl) rfl (by show 2 * 0 + _ ≤ _; exact Nat.le_of_eq rfl) (hb hby at_173) (by decide) (by decide)
                obtain ⟨rfl, Nq28, K28, E_b4, F_packed_b4, F_size_b4, F_more_b4⟩ := hQ28
                have N28 := Fr.app N27 Nq28
                have Z0 := Nat.le_trans Z0 K28.1
                have F_packed_b4 : Fld Z T28.heap b4 "com/example/waitsfor/waitsfor/ShardSet" "packed" "J" (.long (own_pk p0 x1 8)) := F_packed_b4
                refine go st28 ?_
                refine go (fun _ k => by refine XS.iload X28.here hx rfl (hb hby at_176) rfl ?_; exact k) ?_
                refine go (fun _ k => by refine XS.bipush X28.here hx rfl (hb hby at_178) ?_; exact k) ?_
                show OwnEnd _ _ _ _ _ _ _ (T28.setTop (mkF m 180 (fL4 p0 p1 p2 p3 x1 x2 x3 b4) [(.int (8 : Int32)), (.int x2)]))
                by_cases hc180_29 : (8 : Int32) < x2
                · refine go (fun _ k => by refine XS.icmpNo X28.here hx rfl (hb hby at_180) rfl (tlt hc180_29).2.2.2 ?_; exact k) ?_
                  show OwnEnd _ _ _ _ _ _ _ (T28.setTop (mkF m 183 (fL4 p0 p1 p2 p3 x1 x2 x3 b4) []))
                  refine go (fun _ k => by refine XS.aload X28.here hx rfl (hb hby at_183) rfl rfl ?_; exact k) ?_
                  refine go (fun _ k => by refine XS.iloadN X28.here hx rfl (hb hby at_185) rfl ?_; exact k) ?_
                  refine go (fun _ k => by refine XS.iload X28.here hx rfl (hb hby at_186) rfl ?_; exact k) ?_
                  refine go (fun _ k => by refine XS.bipush X28.here hx rfl (hb hby at_188) ?_; exact k) ?_
                  show OwnEnd _ _ _ _ _ _ _ (T28.setTop (mkF m 190 (fL4 p0 p1 p2 p3 x1 x2 x3 b4) [(.int (8 : Int32)), (.int x1), (.int p0), (.ref b4)]))
                  obtain ⟨_, T30, L30, X30, hQ30, st30⟩ := callStat X28 hx hZ hown (hw _ (List.mem_of_getElem? (i := 10) rfl)) (hw _ (List.mem_of_getElem? (i := 11) rfl)) (hw _ (List.mem_of_getElem? (i := 12) rfl)) (hw _ (List.mem_of_getElem? (i := 13) rfl)) (by decide) (rm_sh l Z a0 hw [] p0 x1 (8 : Int32) T28.heap n0 ) (W := 1) (by decide) (by decide) rfl (g := (mkF m 190 (fL4 p0 p1 p2 p3 x1 x2 x3 b4) [(.int (8 : Int32)), (.int x1), (.int p0), (.ref b4)])) rfl (by rw [hml]; rfl) (argsL := [(.int p0), (.int x1), (.int (8 : Int32))]) (rest := [(.ref b4)]) rfl (lenOf pd__III_I rfl) rfl (by show 2 * 0 + _ ≤ _; exact Nat.le_of_eq rfl) (hb hby at_190) (by decide) (by decide)
                  obtain ⟨rfl, Nq30, eq30⟩ := hQ30
                  have N30 := Fr.app N28 Nq30
                  refine go st30 ?_
                  show OwnEnd _ _ _ _ _ _ _ (T30.setTop (mkF m 193 (fL4 p0 p1 p2 p3 x1 x2 x3 b4) [(.int (own_sh p0 x1 8)), (.ref b4)]))
                  obtain ⟨_, T31, L31, X31, hQ31, st31⟩ := callVirt X30 hx hZ hown (hw _ (List.mem_of_getElem? (i := 14) rfl)) (hw _ (List.mem_of_getElem? (i := 15) rfl)) (notFace_of_selects (args := #[]) (mvT hZ (hw _ (List.mem_of_getElem? (i := 17) rfl)))) (hw _ (List.mem_of_getElem? (i := 17) rfl)) (hw _ (List.mem_of_getElem? (i := 16) rfl)) (hw _ (List.mem_of_getElem? (i := 3) rfl)) (hw _ (List.mem_of_getElem? (i := 18) rfl)) (by decide) (rm_add8 l Z a0 hw [] b4 (own_sh p0 x1 8) (own_pk p0 x1 8) T28.heap n0 g_b4 E_b4 F_packed_b4 F_size_b4 F_more_b4 (own_ne0_8 p0 x1 qx1) (own_ne1_8 p0 x1 qx1) (own_ne2_8 p0 x1 qx1) (own_ne3_8 p0 x1 qx1) (own_ne4_8 p0 x1 qx1) (own_ne5_8 p0 x1 qx1) (own_ne6_8 p0 x1 qx1) (own_ne7_8 p0 x1 qx1) Z0 ) (W := 0) (by decide) (by decide) eq30 E_b4 (g := (mkF m 193 (fL4 p0 p1 p2 p3 x1 x2 x3 b4) [(.int (own_sh p0 x1 8)), (.ref b4)])) rfl (by rw [hml]; rfl) (argsL := [(.int (own_sh p0 x1 8))]) (rest := []) rfl (lenOf pd__I_V rfl) rfl (by show 2 * 0 + _ ≤ _; exact Nat.le_of_eq rfl) (hb hby at_193) (by decide) (by decide)
                  have lto31 := E_b4.lt
                  obtain ⟨rfl, Nq31, K31, E_b4, F_packed_b4, F_size_b4, m31, k31, g_m31, sq31, F_more_b4, V_m31⟩ := hQ31
                  have ne_m31 : b4 ≠ m31 := fun q => absurd lto31 (by rw [q]; exact Nat.not_lt.mpr sq31)
                  have N31 := Fr.app N30 Nq31
                  have Z0 := Nat.le_trans Z0 K31.1
                  refine go st31 ?_
                  refine go (fun _ k => by refine XS.iload X31.here hx rfl (hb hby at_196) rfl ?_; exact k) ?_
                  refine go (fun _ k => by refine XS.bipush X31.here hx rfl (hb hby at_198) ?_; exact k) ?_
                  show OwnEnd _ _ _ _ _ _ _ (T31.setTop (mkF m 200 (fL4 p0 p1 p2 p3 x1 x2 x3 b4) [(.int (9 : Int32)), (.int x2)]))
                  by_cases hc200_32 : (9 : Int32) < x2
                  · obtain rfl : x2 = 10 := own_m10 _ _ qx2 hc200_32
                    refine go (fun _ k => by refine XS.icmpNo X31.here hx rfl (hb hby at_200) rfl (tlt hc200_32).2.2.2 ?_; exact k) ?_
                    show OwnEnd _ _ _ _ _ _ _ (T31.setTop (mkF m 203 (fL4 p0 p1 p2 p3 x1 (10 : Int32) x3 b4) []))
                    refine go (fun _ k => by refine XS.aload X31.here hx rfl (hb hby at_203) rfl rfl ?_; exact k) ?_
                    refine go (fun _ k => by refine XS.iloadN X31.here hx rfl (hb hby at_205) rfl ?_; exact k) ?_
                    refine go (fun _ k => by refine XS.iload X31.here hx rfl (hb hby at_206) rfl ?_; exact k) ?_
                    refine go (fun _ k => by refine XS.bipush X31.here hx rfl (hb hby at_208) ?_; exact k) ?_
                    show OwnEnd _ _ _ _ _ _ _ (T31.setTop (mkF m 210 (fL4 p0 p1 p2 p3 x1 (10 : Int32) x3 b4) [(.int (9 : Int32)), (.int x1), (.int p0), (.ref b4)]))
                    obtain ⟨_, T33, L33, X33, hQ33, st33⟩ := callStat X31 hx hZ hown (hw _ (List.mem_of_getElem? (i := 10) rfl)) (hw _ (List.mem_of_getElem? (i := 11) rfl)) (hw _ (List.mem_of_getElem? (i := 12) rfl)) (hw _ (List.mem_of_getElem? (i := 13) rfl)) (by decide) (rm_sh l Z a0 hw [] p0 x1 (9 : Int32) T31.heap n0 ) (W := 1) (by decide) (by decide) rfl (g := (mkF m 210 (fL4 p0 p1 p2 p3 x1 (10 : Int32) x3 b4) [(.int (9 : Int32)), (.int x1), (.int p0), (.ref b4)])) rfl (by rw [hml]; rfl) (argsL := [(.int p0), (.int x1), (.int (9 : Int32))]) (rest := [(.ref b4)]) rfl (lenOf pd__III_I rfl) rfl (by show 2 * 0 + _ ≤ _; exact Nat.le_of_eq rfl) (hb hby at_210) (by decide) (by decide)
                    obtain ⟨rfl, Nq33, eq33⟩ := hQ33
                    have N33 := Fr.app N31 Nq33
                    refine go st33 ?_
                    show OwnEnd _ _ _ _ _ _ _ (T33.setTop (mkF m 213 (fL4 p0 p1 p2 p3 x1 (10 : Int32) x3 b4) [(.int (own_sh p0 x1 9)), (.ref b4)]))
                    obtain ⟨_, T34, L34, X34, hQ34, st34⟩ := callVirt X33 hx hZ hown (hw _ (List.mem_of_getElem? (i := 14) rfl)) (hw _ (List.mem_of_getElem? (i := 15) rfl)) (notFace_of_selects (args := #[]) (mvT hZ (hw _ (List.mem_of_getElem? (i := 17) rfl)))) (hw _ (List.mem_of_getElem? (i := 17) rfl)) (hw _ (List.mem_of_getElem? (i := 16) rfl)) (hw _ (List.mem_of_getElem? (i := 3) rfl)) (hw _ (List.mem_of_getElem? (i := 18) rfl)) (by decide) (rm_add9 l Z a0 hw [] b4 (own_sh p0 x1 9) (own_pk p0 x1 8) m31 k31 (own_sh p0 x1 8) T31.heap n0 g_b4 E_b4 F_packed_b4 F_size_b4 F_more_b4 (own_ne0_9 p0 x1 qx1) (own_ne1_9 p0 x1 qx1) (own_ne2_9 p0 x1 qx1) (own_ne3_9 p0 x1 qx1) (own_ne4_9 p0 x1 qx1) (own_ne5_9 p0 x1 qx1) (own_ne6_9 p0 x1 qx1) (own_ne7_9 p0 x1 qx1) (own_nf p0 x1 qx1) Z0 g_m31 ne_m31 V_m31) (W := 0) (by decide) (by decide) eq33 E_b4 (g := (mkF m 213 (fL4 p0 p1 p2 p3 x1 (10 : Int32) x3 b4) [(.int (own_sh p0 x1 9)), (.ref b4)])) rfl (by rw [hml]; rfl) (argsL := [(.int (own_sh p0 x1 9))]) (rest := []) rfl (lenOf pd__I_V rfl) rfl (by show 2 * 0 + _ ≤ _; exact Nat.le_of_eq rfl) (hb hby at_213) (by decide) (by decide)
                    obtain ⟨rfl, Nq34, K34, E_b4, F_packed_b4, F_size_b4, F_more_b4, V_m31⟩ := hQ34
                    have N34 := Fr.app N33 Nq34
                    have Z0 := Nat.le_trans Z0 K34.1
                    refine go st34 ?_
                    show OwnEnd _ _ _ _ _ _ _ (T34.setTop (mkF m 216 (fL4 p0 p1 p2 p3 x1 (10 : Int32) x3 b4) []))
                    rcases own_i10 _ _ qx3 with rfl | rfl | rfl | rfl | rfl | rfl | rfl | rfl | rfl | rfl
                    · refine go (fun _ k => by refine XS.aload X34.here hx rfl (hb hby at_216) rfl rfl ?_; exact k) ?_
                      refine go (fun _ k => by refine XS.iload X34.here hx rfl (hb hby at_218) rfl ?_; exact k) ?_
                      show OwnEnd _ _ _ _ _ _ _ (T34.setTop (mkF m 220 (fL4 p0 p1 p2 p3 x1 (10 : Int32) (0 : Int32) b4) [(.int (0 : Int32)), (.ref b4)]))
                      obtain ⟨_, T35, L35, X35, hQ35, st35⟩ := callVirt X34 hx hZ hown (hw _ (List.mem_of_getElem? (i := 28) rfl)) (hw _ (List.mem_of_getElem? (i := 24) rfl)) (notFace_of_selects (args := #[]) (mvT hZ (hw _ (List.mem_of_getElem? (i := 26) rfl)))) (hw _ (List.mem_of_getElem? (i := 26) rfl)) (hw _ (List.mem_of_getElem? (i := 25) rfl)) (hw _ (List.mem_of_getElem? (i := 3) rfl)) (hw _ (List.mem_of_getElem? (i := 27) rfl)) (by decide) (rm_get0 l Z a0 hw [] b4 (own_pk p0 x1 8) T34.heap n0 F_packed_b4) (W := 0) (by decide) (by decide) rfl E_b4 (g := (mkF m 220 (fL4 p0 p1 p2 p3 x1 (10 : Int32) (0 : Int32) b4) [(.int (0 : Int32)), (.ref b4)])) rfl (by rw [hml]; rfl) (argsL := [(.int (0 : Int32))]) (rest := []) rfl (lenOf pd__I_I rfl) rfl (by show 2 * 0 + _ ≤ _; exact Nat.le_of_eq rfl) (hb hby at_220) (by decide) (by decide)
                      obtain ⟨rfl, Nq35, eq35⟩ := hQ35
                      have N35 := Fr.app N34 Nq35
                      refine go st35 ?_
                      refine go (fun _ k => by refine XS.iloadN X35.here hx rfl (hb hby at_223) rfl ?_; exact k) ?_
                      refine go (fun _ k => by refine XS.iload X35.here hx rfl (hb hby at_224) rfl ?_; exact k) ?_
                      refine go (fun _ k => by refine XS.iload X35.here hx rfl (hb hby at_226) rfl ?_; exact k) ?_
                      show OwnEnd _ _ _ _ _ _ _ (T35.setTop (mkF m 228 (fL4 p0 p1 p2 p3 x1 (10 : Int32) (0 : Int32) b4) [(.int (0 : Int32)), (.int x1), (.int p0), (.int (own_get (own_pk p0 x1 8) (0 : Int32)))]))
                      obtain ⟨_, T36, L36, X36, hQ36, st36⟩ := callStat X35 hx hZ hown (hw _ (List.mem_of_getElem? (i := 10) rfl)) (hw _ (List.mem_of_getElem? (i := 11) rfl)) (hw _ (List.mem_of_getElem? (i := 12) rfl)) (hw _ (List.mem_of_getElem? (i := 13) rfl)) (by decide) (rm_sh l Z a0 hw [] p0 x1 (0 : Int32) T34.heap n0 ) (W := 1) (by decide) (by decide) eq35 (g := (mkF m 228 (fL4 p0 p1 p2 p3 x1 (10 : Int32) (0 : Int32) b4) [(.int (0 : Int32)), (.int x1), (.int p0), (.int (own_get (own_pk p0 x1 8) (0 : Int32)))])) rfl (by rw [hml]; rfl) (argsL := [(.int p0), (.int x1), (.int (0 : Int32))]) (rest := [(.int (own_get (own_pk p0 x1 8) (0 : Int32)))]) rfl (lenOf pd__III_I rfl) rfl (by show 2 * 0 + _ ≤ _; exact Nat.le_of_eq rfl) (hb hby at_228) (by decide) (by decide)
                      obtain ⟨rfl, Nq36, eq36⟩ := hQ36
                      have N36 := Fr.app N35 Nq36
                      refine go st36 ?_
                      show OwnEnd _ _ _ _ _ _ _ (T36.setTop (mkF m 231 (fL4 p0 p1 p2 p3 x1 (10 : Int32) (0 : Int32) b4) [(.int (own_sh p0 x1 0)), (.int (own_get (own_pk p0 x1 8) (0 : Int32)))]))
                      by_cases hc231_37 : (own_get (own_pk p0 x1 8) (0 : Int32)) = (own_sh p0 x1 0)
                      · refine go (fun _ k => by refine XS.icmpNo X36.here hx rfl (hb hby at_231) rfl (teq hc231_37).2 ?_; exact k) ?_
                        show OwnEnd _ _ _ _ _ _ _ (T36.setTop (mkF m 234 (fL4 p0 p1 p2 p3 x1 (10 : Int32) (0 : Int32) b4) []))
                        refine go (fun _ k => by refine XS.iconst X36.here hx rfl (hb hby at_234) ?_; exact k) ?_
                        refine go (fun _ k => by refine XS.goto X36.here hx rfl (pc0 := 235) (pc' := 239) rfl (hb hby at_235) (by decide) (by decide) ?_; exact k) ?_
                        show OwnEnd _ _ _ _ _ _ _ (T36.setTop (mkF m 239 (fL4 p0 p1 p2 p3 x1 (10 : Int32) (0 : Int32) b4) [(.int (1 : Int32))]))
                        refine endN X36 hx hlk (t := .boolean) (by simp) Bd.returns (hb hby at_239) eq36 (by decide) (by decide) ?_
                        exact ⟨rfl, N36⟩
                      · refine go (fun _ k => by refine XS.icmpYes X36.here hx rfl (pc0 := 231) (pc' := 238) rfl (hb hby at_231) rfl (feq hc231_37).2 (by decide) (by decide) ?_; exact k) ?_
                        show OwnEnd _ _ _ _ _ _ _ (T36.setTop (mkF m 238 (fL4 p0 p1 p2 p3 x1 (10 : Int32) (0 : Int32) b4) []))
                        refine go (fun _ k => by refine XS.iconst X36.here hx rfl (hb hby at_238) ?_; exact k) ?_
                        show OwnEnd _ _ _ _ _ _ _ (T36.setTop (mkF m 239 (fL4 p0 p1 p2 p3 x1 (10 : Int32) (0 : Int32) b4) [(.int (0 : Int32))]))
                        refine endN X36 hx hlk (t := .boolean) (by simp) Bd.returns (hb hby at_239) eq36 (by decide) (by decide) ?_
                        exact absurd (own_at0_8 _ _) hc231_37
                    · refine go (fun _ k => by refine XS.aload X34.here hx rfl (hb hby at_216) rfl rfl ?_; exact k) ?_
                      refine go (fun _ k => by refine XS.iload X34.here hx rfl (hb hby at_218) rfl ?_; exact k) ?_
                      show OwnEnd _ _ _ _ _ _ _ (T34.setTop (mkF m 220 (fL4 p0 p1 p2 p3 x1 (10 : Int32) (1 : Int32) b4) [(.int (1 : Int32)), (.ref b4)]))
                      obtain ⟨_, T38, L38, X38, hQ38, st38⟩ := callVirt X34 hx hZ hown (hw _ (List.mem_of_getElem? (i := 28) rfl)) (hw _ (List.mem_of_getElem? (i := 24) rfl)) (notFace_of_selects (args := #[]) (mvT hZ (hw _ (List.mem_of_getElem? (i := 26) rfl)))) (hw _ (List.mem_of_getElem? (i := 26) rfl)) (hw _ (List.mem_of_getElem? (i := 25) rfl)) (hw _ (List.mem_of_getElem? (i := 3) rfl)) (hw _ (List.mem_of_getElem? (i := 27) rfl)) (by decide) (rm_get1 l Z a0 hw [] b4 (own_pk p0 x1 8) T34.heap n0 F_packed_b4) (W := 0) (by decide) (by decide) rfl E_b4 (g := (mkF m 220 (fL4 p0 p1 p2 p3 x1 (10 : Int32) (1 : Int32) b4) [(.int (1 : Int32)), (.ref b4)])) rfl (by rw [hml]; rfl) (argsL := [(.int (1 : Int32))]) (rest := []) rfl (lenOf pd__I_I rfl) rfl (by show 2 * 0 + _ ≤ _; exact Nat.le_of_eq rfl) (hb hby at_220) (by decide) (by decide)
                      obtain ⟨rfl, Nq38, eq38⟩ := hQ38
                      have N38 := Fr.app N34 Nq38
                      refine go st38 ?_
                      refine go (fun _ k => by refine XS.iloadN X38.here hx rfl (hb hby at_223) rfl ?_; exact k) ?_
                      refine go (fun _ k => by refine XS.iload X38.here hx rfl (hb hby at_224) rfl ?_; exact k) ?_
                      refine go (fun _ k => by refine XS.iload X38.here hx rfl (hb hby at_226) rfl ?_; exact k) ?_
                      show OwnEnd _ _ _ _ _ _ _ (T38.setTop (mkF m 228 (fL4 p0 p1 p2 p3 x1 (10 : Int32) (1 : Int32) b4) [(.int (1 : Int32)), (.int x1), (.int p0), (.int (own_get (own_pk p0 x1 8) (8 : Int32)))]))
                      obtain ⟨_, T39, L39, X39, hQ39, st39⟩ := callStat X38 hx hZ hown (hw _ (List.mem_of_getElem? (i := 10) rfl)) (hw _ (List.mem_of_getElem? (i := 11) rfl)) (hw _ (List.mem_of_getElem? (i := 12) rfl)) (hw _ (List.mem_of_getElem? (i := 13) rfl)) (by decide) (rm_sh l Z a0 hw [] p0 x1 (1 : Int32) T34.heap n0 ) (W := 1) (by decide) (by decide) eq38 (g := (mkF m 228 (fL4 p0 p1 p2 p3 x1 (10 : Int32) (1 : Int32) b4) [(.int (1 : Int32)), (.int x1), (.int p0), (.int (own_get (own_pk p0 x1 8) (8 : Int32)))])) rfl (by rw [hml]; rfl) (argsL := [(.int p0), (.int x1), (.int (1 : Int32))]) (rest := [(.int (own_get (own_pk p0 x1 8) (8 : Int32)))]) rfl (lenOf pd__III_I rfl) rfl (by show 2 * 0 + _ ≤ _; exact Nat.le_of_eq rfl) (hb hby at_228) (by decide) (by decide)
                      obtain ⟨rfl, Nq39, eq39⟩ := hQ39
                      have N39 := Fr.app N38 Nq39
                      refine go st39 ?_
                      show OwnEnd _ _ _ _ _ _ _ (T39.setTop (mkF m 231 (fL4 p0 p1 p2 p3 x1 (10 : Int32) (1 : Int32) b4) [(.int (own_sh p0 x1 1)), (.int (own_get (own_pk p0 x1 8) (8 : Int32)))]))
                      by_cases hc231_40 : (own_get (own_pk p0 x1 8) (8 : Int32)) = (own_sh p0 x1 1)
                      · refine go (fun _ k => by refine XS.icmpNo X39.here hx rfl (hb hby at_231) rfl (teq hc231_40).2 ?_; exact k) ?_
                        show OwnEnd _ _ _ _ _ _ _ (T39.setTop (mkF m 234 (fL4 p0 p1 p2 p3 x1 (10 : Int32) (1 : Int32) b4) []))
                        refine go (fun _ k => by refine XS.iconst X39.here hx rfl (hb hby at_234) ?_; exact k) ?_
                        refine go (fun _ k => by refine XS.goto X39.here hx rfl (pc0 := 235) (pc' := 239) rfl (hb hby at_235) (by decide) (by decide) ?_; exact k) ?_
                        show OwnEnd _ _ _ _ _ _ _ (T39.setTop (mkF m 239 (fL4 p0 p1 p2 p3 x1 (10 : Int32) (1 : Int32) b4) [(.int (1 : Int32))]))
                        refine endN X39 hx hlk (t := .boolean) (by simp) Bd.returns (hb hby at_239) eq39 (by decide) (by decide) ?_
                        exact ⟨rfl, N39⟩
                      · refine go (fun _ k => by refine XS.icmpYes X39.here hx rfl (pc0 := 231) (pc' := 238) rfl (hb hby at_231) rfl (feq hc231_40).2 (by decide) (by decide) ?_; exact k) ?_
                        show OwnEnd _ _ _ _ _ _ _ (T39.setTop (mkF m 238 (fL4 p0 p1 p2 p3 x1 (10 : Int32) (1 : Int32) b4) []))
                        refine go (fun _ k => by refine XS.iconst X39.here hx rfl (hb hby at_238) ?_; exact k) ?_
                        show OwnEnd _ _ _ _ _ _ _ (T39.setTop (mkF m 239 (fL4 p0 p1 p2 p3 x1 (10 : Int32) (1 : Int32) b4) [(.int (0 : Int32))]))
                        refine endN X39 hx hlk (t := .boolean) (by simp) Bd.returns (hb hby at_239) eq39 (by decide) (by decide) ?_
                        exact absurd (own_at1_8 _ _) hc231_40
                    · refine go (fun _ k => by refine XS.aload X34.here hx rfl (hb hby at_216) rfl rfl ?_; exact k) ?_
                      refine go (fun _ k => by refine XS.iload X34.here hx rfl (hb hby at_218) rfl ?_; exact k) ?_
                      show OwnEnd _ _ _ _ _ _ _ (T34.setTop (mkF m 220 (fL4 p0 p1 p2 p3 x1 (10 : Int32) (2 : Int32) b4) [(.int (2 : Int32)), (.ref b4)]))
                      obtain ⟨_, T41, L41, X41, hQ41, st41⟩ := callVirt X34 hx hZ hown (hw _ (List.mem_of_getElem? (i := 28) rfl)) (hw _ (List.mem_of_getElem? (i := 24) rfl)) (notFace_of_selects (args := #[]) (mvT hZ (hw _ (List.mem_of_getElem? (i := 26) rfl)))) (hw _ (List.mem_of_getElem? (i := 26) rfl)) (hw _ (List.mem_of_getElem? (i := 25) rfl)) (hw _ (List.mem_of_getElem? (i := 3) rfl)) (hw _ (List.mem_of_getElem? (i := 27) rfl)) (by decide) (rm_get2 l Z a0 hw [] b4 (own_pk p0 x1 8) T34.heap n0 F_packed_b4) (W := 0) (by decide) (by decide) rfl E_b4 (g := (mkF m 220 (fL4 p0 p1 p2 p3 x1 (10 : Int32) (2 : Int32) b4) [(.int (2 : Int32)), (.ref b4)])) rfl (by rw [hml]; rfl) (argsL := [(.int (2 : Int32))]) (rest := []) rfl (lenOf pd__I_I rfl) rfl (by show 2 * 0 + _ ≤ _; exact Nat.le_of_eq rfl) (hb hby at_220) (by decide) (by decide)
                      obtain ⟨rfl, Nq41, eq41⟩ := hQ41
                      have N41 := Fr.app N34 Nq41
                      refine go st41 ?_
                      refine go (fun _ k => by refine XS.iloadN X41.here hx rfl (hb hby at_223) rfl ?_; exact k) ?_
                      refine go (fun _ k => by refine XS.iload X41.here hx rfl (hb hby at_224) rfl ?_; exact k) ?_
                      refine go (fun _ k => by refine XS.iload X41.here hx rfl (hb hby at_226) rfl ?_; exact k) ?_
                      show OwnEnd _ _ _ _ _ _ _ (T41.setTop (mkF m 228 (fL4 p0 p1 p2 p3 x1 (10 : Int32) (2 : Int32) b4) [(.int (2 : Int32)), (.int x1), (.int p0), (.int (own_get (own_pk p0 x1 8) (16 : Int32)))]))
                      obtain ⟨_, T42, L42, X42, hQ42, st42⟩ := callStat X41 hx hZ hown (hw _ (List.mem_of_getElem? (i := 10) rfl)) (hw _ (List.mem_of_getElem? (i := 11) rfl)) (hw _ (List.mem_of_getElem? (i := 12) rfl)) (hw _ (List.mem_of_getElem? (i := 13) rfl)) (by decide) (rm_sh l Z a0 hw [] p0 x1 (2 : Int32) T34.heap n0 ) (W := 1) (by decide) (by decide) eq41 (g := (mkF m 228 (fL4 p0 p1 p2 p3 x1 (10 : Int32) (2 : Int32) b4) [(.int (2 : Int32)), (.int x1), (.int p0), (.int (own_get (own_pk p0 x1 8) (16 : Int32)))])) rfl (by rw [hml]; rfl) (argsL := [(.int p0), (.int x1), (.int (2 : Int32))]) (rest := [(.int (own_get (own_pk p0 x1 8) (16 : Int32)))]) rfl (lenOf pd__III_I rfl) rfl (by show 2 * 0 + _ ≤ _; exact Nat.le_of_eq rfl) (hb hby at_228) (by decide) (by decide)
                      obtain ⟨rfl, Nq42, eq42⟩ := hQ42
                      have N42 := Fr.app N41 Nq42
                      refine go st42 ?_
                      show OwnEnd _ _ _ _ _ _ _ (T42.setTop (mkF m 231 (fL4 p0 p1 p2 p3 x1 (10 : Int32) (2 : Int32) b4) [(.int (own_sh p0 x1 2)), (.int (own_get (own_pk p0 x1 8) (16 : Int32)))]))
                      by_cases hc231_43 : (own_get (own_pk p0 x1 8) (16 : Int32)) = (own_sh p0 x1 2)
                      · refine go (fun _ k => by refine XS.icmpNo X42.here hx rfl (hb hby at_231) rfl (teq hc231_43).2 ?_; exact k) ?_
                        show OwnEnd _ _ _ _ _ _ _ (T42.setTop (mkF m 234 (fL4 p0 p1 p2 p3 x1 (10 : Int32) (2 : Int32) b4) []))
                        refine go (fun _ k => by refine XS.iconst X42.here hx rfl (hb hby at_234) ?_; exact k) ?_
                        refine go (fun _ k => by refine XS.goto X42.here hx rfl (pc0 := 235) (pc' := 239) rfl (hb hby at_235) (by decide) (by decide) ?_; exact k) ?_
                        show OwnEnd _ _ _ _ _ _ _ (T42.setTop (mkF m 239 (fL4 p0 p1 p2 p3 x1 (10 : Int32) (2 : Int32) b4) [(.int (1 : Int32))]))
                        refine endN X42 hx hlk (t := .boolean) (by simp) Bd.returns (hb hby at_239) eq42 (by decide) (by decide) ?_
                        exact ⟨rfl, N42⟩
                      · refine go (fun _ k => by refine XS.icmpYes X42.here hx rfl (pc0 := 231) (pc' := 238) rfl (hb hby at_231) rfl (feq hc231_43).2 (by decide) (by decide) ?_; exact k) ?_
                        show OwnEnd _ _ _ _ _ _ _ (T42.setTop (mkF m 238 (fL4 p0 p1 p2 p3 x1 (10 : Int32) (2 : Int32) b4) []))
                        refine go (fun _ k => by refine XS.iconst X42.here hx rfl (hb hby at_238) ?_; exact k) ?_
                        show OwnEnd _ _ _ _ _ _ _ (T42.setTop (mkF m 239 (fL4 p0 p1 p2 p3 x1 (10 : Int32) (2 : Int32) b4) [(.int (0 : Int32))]))
                        refine endN X42 hx hlk (t := .boolean) (by simp) Bd.returns (hb hby at_239) eq42 (by decide) (by decide) ?_
                        exact absurd (own_at2_8 _ _) hc231_43
                    · refine go (fun _ k => by refine XS.aload X34.here hx rfl (hb hby at_216) rfl rfl ?_; exact k) ?_
                      refine go (fun _ k => by refine XS.iload X34.here hx rfl (hb hby at_218) rfl ?_; exact k) ?_
                      show OwnEnd _ _ _ _ _ _ _ (T34.setTop (mkF m 220 (fL4 p0 p1 p2 p3 x1 (10 : Int32) (3 : Int32) b4) [(.int (3 : Int32)), (.ref b4)]))
                      obtain ⟨_, T44, L44, X44, hQ44, st44⟩ := callVirt X34 hx hZ hown (hw _ (List.mem_of_getElem? (i := 28) rfl)) (hw _ (List.mem_of_getElem? (i := 24) rfl)) (notFace_of_selects (args := #[]) (mvT hZ (hw _ (List.mem_of_getElem? (i := 26) rfl)))) (hw _ (List.mem_of_getElem? (i := 26) rfl)) (hw _ (List.mem_of_getElem? (i := 25) rfl)) (hw _ (List.mem_of_getElem? (i := 3) rfl)) (hw _ (List.mem_of_getElem? (i := 27) rfl)) (by decide) (rm_get3 l Z a0 hw [] b4 (own_pk p0 x1 8) T34.heap n0 F_packed_b4) (W := 0) (by decide) (by decide) rfl E_b4 (g := (mkF m 220 (fL4 p0 p1 p2 p3 x1 (10 : Int32) (3 : Int32) b4) [(.int (3 : Int32)), (.ref b4)])) rfl (by rw [hml]; rfl) (argsL := [(.int (3 : Int32))]) (rest := []) rfl (lenOf pd__I_I rfl) rfl (by show 2 * 0 + _ ≤ _; exact Nat.le_of_eq rfl) (hb hby at_220) (by decide) (by decide)
                      obtain ⟨rfl, Nq44, eq44⟩ := hQ44
                      have N44 := Fr.app N34 Nq44
                      refine go st44 ?_
                      refine go (fun _ k => by refine XS.iloadN X44.here hx rfl (hb hby at_223) rfl ?_; exact k) ?_
                      refine go (fun _ k => by refine XS.iload X44.here hx rfl (hb hby at_224) rfl ?_; exact k) ?_
                      refine go (fun _ k => by refine XS.iload X44.here hx rfl (hb hby at_226) rfl ?_; exact k) ?_
                      show OwnEnd _ _ _ _ _ _ _ (T44.setTop (mkF m 228 (fL4 p0 p1 p2 p3 x1 (10 : Int32) (3 : Int32) b4) [(.int (3 : Int32)), (.int x1), (.int p0), (.int (own_get (own_pk p0 x1 8) (24 : Int32)))]))
                      obtain ⟨_, T45, L45, X45, hQ45, st45⟩ := callStat X44 hx hZ hown (hw _ (List.mem_of_getElem? (i := 10) rfl)) (hw _ (List.mem_of_getElem? (i := 11) rfl)) (hw _ (List.mem_of_getElem? (i := 12) rfl)) (hw _ (List.mem_of_getElem? (i := 13) rfl)) (by decide) (rm_sh l Z a0 hw [] p0 x1 (3 : Int32) T34.heap n0 ) (W := 1) (by decide) (by decide) eq44 (g := (mkF m 228 (fL4 p0 p1 p2 p3 x1 (10 : Int32) (3 : Int32) b4) [(.int (3 : Int32)), (.int x1), (.int p0), (.int (own_get (own_pk p0 x1 8) (24 : Int32)))])) rfl (by rw [hml]; rfl) (argsL := [(.int p0), (.int x1), (.int (3 : Int32))]) (rest := [(.int (own_get (own_pk p0 x1 8) (24 : Int32)))]) rfl (lenOf pd__III_I rfl) rfl (by show 2 * 0 + _ ≤ _; exact Nat.le_of_eq rfl) (hb hby at_228) (by decide) (by decide)
                      obtain ⟨rfl, Nq45, eq45⟩ := hQ45
                      have N45 := Fr.app N44 Nq45
                      refine go st45 ?_
                      show OwnEnd _ _ _ _ _ _ _ (T45.setTop (mkF m 231 (fL4 p0 p1 p2 p3 x1 (10 : Int32) (3 : Int32) b4) [(.int (own_sh p0 x1 3)), (.int (own_get (own_pk p0 x1 8) (24 : Int32)))]))
                      by_cases hc231_46 : (own_get (own_pk p0 x1 8) (24 : Int32)) = (own_sh p0 x1 3)
                      · refine go (fun _ k => by refine XS.icmpNo X45.here hx rfl (hb hby at_231) rfl (teq hc231_46).2 ?_; exact k) ?_
                        show OwnEnd _ _ _ _ _ _ _ (T45.setTop (mkF m 234 (fL4 p0 p1 p2 p3 x1 (10 : Int32) (3 : Int32) b4) []))
                        refine go (fun _ k => by refine XS.iconst X45.here hx rfl (hb hby at_234) ?_; exact k) ?_
                        refine go (fun _ k => by refine XS.goto X45.here hx rfl (pc0 := 235) (pc' := 239) rfl (hb hby at_235) (by decide) (by decide) ?_; exact k) ?_
                        show OwnEnd _ _ _ _ _ _ _ (T45.setTop (mkF m 239 (fL4 p0 p1 p2 p3 x1 (10 : Int32) (3 : Int32) b4) [(.int (1 : Int32))]))
                        refine endN X45 hx hlk (t := .boolean) (by simp) Bd.returns (hb hby at_239) eq45 (by decide) (by decide) ?_
                        exact ⟨rfl, N45⟩
                      · refine go (fun _ k => by refine XS.icmpYes X45.here hx rfl (pc0 := 231) (pc' := 238) rfl (hb hby at_231) rfl (feq hc231_46).2 (by decide) (by decide) ?_; exact k) ?_
                        show OwnEnd _ _ _ _ _ _ _ (T45.setTop (mkF m 238 (fL4 p0 p1 p2 p3 x1 (10 : Int32) (3 : Int32) b4) []))
                        refine go (fun _ k => by refine XS.iconst X45.here hx rfl (hb hby at_238) ?_; exact k) ?_
                        show OwnEnd _ _ _ _ _ _ _ (T45.setTop (mkF m 239 (fL4 p0 p1 p2 p3 x1 (10 : Int32) (3 : Int32) b4) [(.int (0 : Int32))]))
                        refine endN X45 hx hlk (t := .boolean) (by simp) Bd.returns (hb hby at_239) eq45 (by decide) (by decide) ?_
                        exact absurd (own_at3_8 _ _) hc231_46
                    · refine go (fun _ k => by refine XS.aload X34.here hx rfl (hb hby at_216) rfl rfl ?_; exact k) ?_
                      refine go (fun _ k => by refine XS.iload X34.here hx rfl (hb hby at_218) rfl ?_; exact k) ?_
                      show OwnEnd _ _ _ _ _ _ _ (T34.setTop (mkF m 220 (fL4 p0 p1 p2 p3 x1 (10 : Int32) (4 : Int32) b4) [(.int (4 : Int32)), (.ref b4)]))
                      obtain ⟨_, T47, L47, X47, hQ47, st47⟩ := callVirt X34 hx hZ hown (hw _ (List.mem_of_getElem? (i := 28) rfl)) (hw _ (List.mem_of_getElem? (i := 24) rfl)) (notFace_of_selects (args := #[]) (mvT hZ (hw _ (List.mem_of_getElem? (i := 26) rfl)))) (hw _ (List.mem_of_getElem? (i := 26) rfl)) (hw _ (List.mem_of_getElem? (i := 25) rfl)) (hw _ (List.mem_of_getElem? (i := 3) rfl)) (hw _ (List.mem_of_getElem? (i := 27) rfl)) (by decide) (rm_get4 l Z a0 hw [] b4 (own_pk p0 x1 8) T34.heap n0 F_packed_b4) (W := 0) (by decide) (by decide) rfl E_b4 (g := (mkF m 220 (fL4 p0 p1 p2 p3 x1 (10 : Int32) (4 : Int32) b4) [(.int (4 : Int32)), (.ref b4)])) rfl (by rw [hml]; rfl) (argsL := [(.int (4 : Int32))]) (rest := []) rfl (lenOf pd__I_I rfl) rfl (by show 2 * 0 + _ ≤ _; exact Nat.le_of_eq rfl) (hb hby at_220) (by decide) (by decide)
                      obtain ⟨rfl, Nq47, eq47⟩ := hQ47
                      have N47 := Fr.app N34 Nq47
                      refine go st47 ?_
                      refine go (fun _ k => by refine XS.iloadN X47.here hx rfl (hb hby at_223) rfl ?_; exact k) ?_
                      refine go (fun _ k => by refine XS.iload X47.here hx rfl (hb hby at_224) rfl ?_; exact k) ?_
                      refine go (fun _ k => by refine XS.iload X47.here hx rfl (hb hby at_226) rfl ?_; exact k) ?_
                      show OwnEnd _ _ _ _ _ _ _ (T47.setTop (mkF m 228 (fL4 p0 p1 p2 p3 x1 (10 : Int32) (4 : Int32) b4) [(.int (4 : Int32)), (.int x1), (.int p0), (.int (own_get (own_pk p0 x1 8) (32 : Int32)))]))
                      obtain ⟨_, T48, L48, X48, hQ48, st48⟩ := callStat X47 hx hZ hown (hw _ (List.mem_of_getElem? (i := 10) rfl)) (hw _ (List.mem_of_getElem? (i := 11) rfl)) (hw _ (List.mem_of_getElem? (i := 12) rfl)) (hw _ (List.mem_of_getElem? (i := 13) rfl)) (by decide) (rm_sh l Z a0 hw [] p0 x1 (4 : Int32) T34.heap n0 ) (W := 1) (by decide) (by decide) eq47 (g := (mkF m 228 (fL4 p0 p1 p2 p3 x1 (10 : Int32) (4 : Int32) b4) [(.int (4 : Int32)), (.int x1), (.int p0), (.int (own_get (own_pk p0 x1 8) (32 : Int32)))])) rfl (by rw [hml]; rfl) (argsL := [(.int p0), (.int x1), (.int (4 : Int32))]) (rest := [(.int (own_get (own_pk p0 x1 8) (32 : Int32)))]) rfl (lenOf pd__III_I rfl) rfl (by show 2 * 0 + _ ≤ _; exact Nat.le_of_eq rfl) (hb hby at_228) (by decide) (by decide)
                      obtain ⟨rfl, Nq48, eq48⟩ := hQ48
                      have N48 := Fr.app N47 Nq48
                      refine go st48 ?_
                      show OwnEnd _ _ _ _ _ _ _ (T48.setTop (mkF m 231 (fL4 p0 p1 p2 p3 x1 (10 : Int32) (4 : Int32) b4) [(.int (own_sh p0 x1 4)), (.int (own_get (own_pk p0 x1 8) (32 : Int32)))]))
                      by_cases hc231_49 : (own_get (own_pk p0 x1 8) (32 : Int32)) = (own_sh p0 x1 4)
                      · refine go (fun _ k => by refine XS.icmpNo X48.here hx rfl (hb hby at_231) rfl (teq hc231_49).2 ?_; exact k) ?_
                        show OwnEnd _ _ _ _ _ _ _ (T48.setTop (mkF m 234 (fL4 p0 p1 p2 p3 x1 (10 : Int32) (4 : Int32) b4) []))
                        refine go (fun _ k => by refine XS.iconst X48.here hx rfl (hb hby at_234) ?_; exact k) ?_
                        refine go (fun _ k => by refine XS.goto X48.here hx rfl (pc0 := 235) (pc' := 239) rfl (hb hby at_235) (by decide) (by decide) ?_; exact k) ?_
                        show OwnEnd _ _ _ _ _ _ _ (T48.setTop (mkF m 239 (fL4 p0 p1 p2 p3 x1 (10 : Int32) (4 : Int32) b4) [(.int (1 : Int32))]))
                        refine endN X48 hx hlk (t := .boolean) (by simp) Bd.returns (hb hby at_239) eq48 (by decide) (by decide) ?_
                        exact ⟨rfl, N48⟩
                      · refine go (fun _ k => by refine XS.icmpYes X48.here hx rfl (pc0 := 231) (pc' := 238) rfl (hb hby at_231) rfl (feq hc231_49).2 (by decide) (by decide) ?_; exact k) ?_
                        show OwnEnd _ _ _ _ _ _ _ (T48.setTop (mkF m 238 (fL4 p0 p1 p2 p3 x1 (10 : Int32) (4 : Int32) b4) []))
                        refine go (fun _ k => by refine XS.iconst X48.here hx rfl (hb hby at_238) ?_; exact k) ?_
                        show OwnEnd _ _ _ _ _ _ _ (T48.setTop (mkF m 239 (fL4 p0 p1 p2 p3 x1 (10 : Int32) (4 : Int32) b4) [(.int (0 : Int32))]))
                        refine endN X48 hx hlk (t := .boolean) (by simp) Bd.returns (hb hby at_239) eq48 (by decide) (by decide) ?_
                        exact absurd (own_at4_8 _ _) hc231_49
                    · refine go (fun _ k => by refine XS.aload X34.here hx rfl (hb hby at_216) rfl rfl ?_; exact k) ?_
                      refine go (fun _ k => by refine XS.iload X34.here hx rfl (hb hby at_218) rfl ?_; exact k) ?_
                      show OwnEnd _ _ _ _ _ _ _ (T34.setTop (mkF m 220 (fL4 p0 p1 p2 p3 x1 (10 : Int32) (5 : Int32) b4) [(.int (5 : Int32)), (.ref b4)]))
                      obtain ⟨_, T50, L50, X50, hQ50, st50⟩ := callVirt X34 hx hZ hown (hw _ (List.mem_of_getElem? (i := 28) rfl)) (hw _ (List.mem_of_getElem? (i := 24) rfl)) (notFace_of_selects (args := #[]) (mvT hZ (hw _ (List.mem_of_getElem? (i := 26) rfl)))) (hw _ (List.mem_of_getElem? (i := 26) rfl)) (hw _ (List.mem_of_getElem? (i := 25) rfl)) (hw _ (List.mem_of_getElem? (i := 3) rfl)) (hw _ (List.mem_of_getElem? (i := 27) rfl)) (by decide) (rm_get5 l Z a0 hw [] b4 (own_pk p0 x1 8) T34.heap n0 F_packed_b4) (W := 0) (by decide) (by decide) rfl E_b4 (g := (mkF m 220 (fL4 p0 p1 p2 p3 x1 (10 : Int32) (5 : Int32) b4) [(.int (5 : Int32)), (.ref b4)])) rfl (by rw [hml]; rfl) (argsL := [(.int (5 : Int32))]) (rest := []) rfl (lenOf pd__I_I rfl) rfl (by show 2 * 0 + _ ≤ _; exact Nat.le_of_eq rfl) (hb hby at_220) (by decide) (by decide)
                      obtain ⟨rfl, Nq50, eq50⟩ := hQ50
                      have N50 := Fr.app N34 Nq50
                      refine go st50 ?_
                      refine go (fun _ k => by refine XS.iloadN X50.here hx rfl (hb hby at_223) rfl ?_; exact k) ?_
                      refine go (fun _ k => by refine XS.iload X50.here hx rfl (hb hby at_224) rfl ?_; exact k) ?_
                      refine go (fun _ k => by refine XS.iload X50.here hx rfl (hb hby at_226) rfl ?_; exact k) ?_
                      show OwnEnd _ _ _ _ _ _ _ (T50.setTop (mkF m 228 (fL4 p0 p1 p2 p3 x1 (10 : Int32) (5 : Int32) b4) [(.int (5 : Int32)), (.int x1), (.int p0), (.int (own_get (own_pk p0 x1 8) (40 : Int32)))]))
                      obtain ⟨_, T51, L51, X51, hQ51, st51⟩ := callStat X50 hx hZ hown (hw _ (List.mem_of_getElem? (i := 10) rfl)) (hw _ (List.mem_of_getElem? (i := 11) rfl)) (hw _ (List.mem_of_getElem? (i := 12) rfl)) (hw _ (List.mem_of_getElem? (i := 13) rfl)) (by decide) (rm_sh l Z a0 hw [] p0 x1 (5 : Int32) T34.heap n0 ) (W := 1) (by decide) (by decide) eq50 (g := (mkF m 228 (fL4 p0 p1 p2 p3 x1 (10 : Int32) (5 : Int32) b4) [(.int (5 : Int32)), (.int x1), (.int p0), (.int (own_get (own_pk p0 x1 8) (40 : Int32)))])) rfl (by rw [hml]; rfl) (argsL := [(.int p0), (.int x1), (.int (5 : Int32))]) (rest := [(.int (own_get (own_pk p0 x1 8) (40 : Int32)))]) rfl (lenOf pd__III_I rfl) rfl (by show 2 * 0 + _ ≤ _; exact Nat.le_of_eq rfl) (hb hby at_228) (by decide) (by decide)
                      obtain ⟨rfl, Nq51, eq51⟩ := hQ51
                      have N51 := Fr.app N50 Nq51
                      refine go st51 ?_
                      show OwnEnd _ _ _ _ _ _ _ (T51.setTop (mkF m 231 (fL4 p0 p1 p2 p3 x1 (10 : Int32) (5 : Int32) b4) [(.int (own_sh p0 x1 5)), (.int (own_get (own_pk p0 x1 8) (40 : Int32)))]))
                      by_cases hc231_52 : (own_get (own_pk p0 x1 8) (40 : Int32)) = (own_sh p0 x1 5)
                      · refine go (fun _ k => by refine XS.icmpNo X51.here hx rfl (hb hby at_231) rfl (teq hc231_52).2 ?_; exact k) ?_
                        show OwnEnd _ _ _ _ _ _ _ (T51.setTop (mkF m 234 (fL4 p0 p1 p2 p3 x1 (10 : Int32) (5 : Int32) b4) []))
                        refine go (fun _ k => by refine XS.iconst X51.here hx rfl (hb hby at_234) ?_; exact k) ?_
                        refine go (fun _ k => by refine XS.goto X51.here hx rfl (pc0 := 235) (pc' := 239) rfl (hb hby at_235) (by decide) (by decide) ?_; exact k) ?_
                        show OwnEnd _ _ _ _ _ _ _ (T51.setTop (mkF m 239 (fL4 p0 p1 p2 p3 x1 (10 : Int32) (5 : Int32) b4) [(.int (1 : Int32))]))
                        refine endN X51 hx hlk (t := .boolean) (by simp) Bd.returns (hb hby at_239) eq51 (by decide) (by decide) ?_
                        exact ⟨rfl, N51⟩
                      · refine go (fun _ k => by refine XS.icmpYes X51.here hx rfl (pc0 := 231) (pc' := 238) rfl (hb hby at_231) rfl (feq hc231_52).2 (by decide) (by decide) ?_; exact k) ?_
                        show OwnEnd _ _ _ _ _ _ _ (T51.setTop (mkF m 238 (fL4 p0 p1 p2 p3 x1 (10 : Int32) (5 : Int32) b4) []))
                        refine go (fun _ k => by refine XS.iconst X51.here hx rfl (hb hby at_238) ?_; exact k) ?_
                        show OwnEnd _ _ _ _ _ _ _ (T51.setTop (mkF m 239 (fL4 p0 p1 p2 p3 x1 (10 : Int32) (5 : Int32) b4) [(.int (0 : Int32))]))
                        refine endN X51 hx hlk (t := .boolean) (by simp) Bd.returns (hb hby at_239) eq51 (by decide) (by decide) ?_
                        exact absurd (own_at5_8 _ _) hc231_52
                    · refine go (fun _ k => by refine XS.aload X34.here hx rfl (hb hby at_216) rfl rfl ?_; exact k) ?_
                      refine go (fun _ k => by refine XS.iload X34.here hx rfl (hb hby at_218) rfl ?_; exact k) ?_
                      show OwnEnd _ _ _ _ _ _ _ (T34.setTop (mkF m 220 (fL4 p0 p1 p2 p3 x1 (10 : Int32) (6 : Int32) b4) [(.int (6 : Int32)), (.ref b4)]))
                      obtain ⟨_, T53, L53, X53, hQ53, st53⟩ := callVirt X34 hx hZ hown (hw _ (List.mem_of_getElem? (i := 28) rfl)) (hw _ (List.mem_of_getElem? (i := 24) rfl)) (notFace_of_selects (args := #[]) (mvT hZ (hw _ (List.mem_of_getElem? (i := 26) rfl)))) (hw _ (List.mem_of_getElem? (i := 26) rfl)) (hw _ (List.mem_of_getElem? (i := 25) rfl)) (hw _ (List.mem_of_getElem? (i := 3) rfl)) (hw _ (List.mem_of_getElem? (i := 27) rfl)) (by decide) (rm_get6 l Z a0 hw [] b4 (own_pk p0 x1 8) T34.heap n0 F_packed_b4) (W := 0) (by decide) (by decide) rfl E_b4 (g := (mkF m 220 (fL4 p0 p1 p2 p3 x1 (10 : Int32) (6 : Int32) b4) [(.int (6 : Int32)), (.ref b4)])) rfl (by rw [hml]; rfl) (argsL := [(.int (6 : Int32))]) (rest := []) rfl (lenOf pd__I_I rfl) rfl (by show 2 * 0 + _ ≤ _; exact Nat.le_of_eq rfl) (hb hby at_220) (by decide) (by decide)
                      obtain ⟨rfl, Nq53, eq53⟩ := hQ53
                      have N53 := Fr.app N34 Nq53
                      refine go st53 ?_
                      refine go (fun _ k => by refine XS.iloadN X53.here hx rfl (hb hby at_223) rfl ?_; exact k) ?_
                      refine go (fun _ k => by refine XS.iload X53.here hx rfl (hb hby at_224) rfl ?_; exact k) ?_
                      refine go (fun _ k => by refine XS.iload X53.here hx rfl (hb hby at_226) rfl ?_; exact k) ?_
                      show OwnEnd _ _ _ _ _ _ _ (T53.setTop (mkF m 228 (fL4 p0 p1 p2 p3 x1 (10 : Int32) (6 : Int32) b4) [(.int (6 : Int32)), (.int x1), (.int p0), (.int (own_get (own_pk p0 x1 8) (48 : Int32)))]))
                      obtain ⟨_, T54, L54, X54, hQ54, st54⟩ := callStat X53 hx hZ hown (hw _ (List.mem_of_getElem? (i := 10) rfl)) (hw _ (List.mem_of_getElem? (i := 11) rfl)) (hw _ (List.mem_of_getElem? (i := 12) rfl)) (hw _ (List.mem_of_getElem? (i := 13) rfl)) (by decide) (rm_sh l Z a0 hw [] p0 x1 (6 : Int32) T34.heap n0 ) (W := 1) (by decide) (by decide) eq53 (g := (mkF m 228 (fL4 p0 p1 p2 p3 x1 (10 : Int32) (6 : Int32) b4) [(.int (6 : Int32)), (.int x1), (.int p0), (.int (own_get (own_pk p0 x1 8) (48 : Int32)))])) rfl (by rw [hml]; rfl) (argsL := [(.int p0), (.int x1), (.int (6 : Int32))]) (rest := [(.int (own_get (own_pk p0 x1 8) (48 : Int32)))]) rfl (lenOf pd__III_I rfl) rfl (by show 2 * 0 + _ ≤ _; exact Nat.le_of_eq rfl) (hb hby at_228) (by decide) (by decide)
                      obtain ⟨rfl, Nq54, eq54⟩ := hQ54
                      have N54 := Fr.app N53 Nq54
                      refine go st54 ?_
                      show OwnEnd _ _ _ _ _ _ _ (T54.setTop (mkF m 231 (fL4 p0 p1 p2 p3 x1 (10 : Int32) (6 : Int32) b4) [(.int (own_sh p0 x1 6)), (.int (own_get (own_pk p0 x1 8) (48 : Int32)))]))
                      by_cases hc231_55 : (own_get (own_pk p0 x1 8) (48 : Int32)) = (own_sh p0 x1 6)
                      · refine go (fun _ k => by refine XS.icmpNo X54.here hx rfl (hb hby at_231) rfl (teq hc231_55).2 ?_; exact k) ?_
                        show OwnEnd _ _ _ _ _ _ _ (T54.setTop (mkF m 234 (fL4 p0 p1 p2 p3 x1 (10 : Int32) (6 : Int32) b4) []))
                        refine go (fun _ k => by refine XS.iconst X54.here hx rfl (hb hby at_234) ?_; exact k) ?_
                        refine go (fun _ k => by refine XS.goto X54.here hx rfl (pc0 := 235) (pc' := 239) rfl (hb hby at_235) (by decide) (by decide) ?_; exact k) ?_
                        show OwnEnd _ _ _ _ _ _ _ (T54.setTop (mkF m 239 (fL4 p0 p1 p2 p3 x1 (10 : Int32) (6 : Int32) b4) [(.int (1 : Int32))]))
                        refine endN X54 hx hlk (t := .boolean) (by simp) Bd.returns (hb hby at_239) eq54 (by decide) (by decide) ?_
                        exact ⟨rfl, N54⟩
                      · refine go (fun _ k => by refine XS.icmpYes X54.here hx rfl (pc0 := 231) (pc' := 238) rfl (hb hby at_231) rfl (feq hc231_55).2 (by decide) (by decide) ?_; exact k) ?_
                        show OwnEnd _ _ _ _ _ _ _ (T54.setTop (mkF m 238 (fL4 p0 p1 p2 p3 x1 (10 : Int32) (6 : Int32) b4) []))
                        refine go (fun _ k => by refine XS.iconst X54.here hx rfl (hb hby at_238) ?_; exact k) ?_
                        show OwnEnd _ _ _ _ _ _ _ (T54.setTop (mkF m 239 (fL4 p0 p1 p2 p3 x1 (10 : Int32) (6 : Int32) b4) [(.int (0 : Int32))]))
                        refine endN X54 hx hlk (t := .boolean) (by simp) Bd.returns (hb hby at_239) eq54 (by decide) (by decide) ?_
                        exact absurd (own_at6_8 _ _) hc231_55
                    · refine go (fun _ k => by refine XS.aload X34.here hx rfl (hb hby at_216) rfl rfl ?_; exact k) ?_
                      refine go (fun _ k => by refine XS.iload X34.here hx rfl (hb hby at_218) rfl ?_; exact k) ?_
                      show OwnEnd _ _ _ _ _ _ _ (T34.setTop (mkF m 220 (fL4 p0 p1 p2 p3 x1 (10 : Int32) (7 : Int32) b4) [(.int (7 : Int32)), (.ref b4)]))
                      obtain ⟨_, T56, L56, X56, hQ56, st56⟩ := callVirt X34 hx hZ hown (hw _ (List.mem_of_getElem? (i := 28) rfl)) (hw _ (List.mem_of_getElem? (i := 24) rfl)) (notFace_of_selects (args := #[]) (mvT hZ (hw _ (List.mem_of_getElem? (i := 26) rfl)))) (hw _ (List.mem_of_getElem? (i := 26) rfl)) (hw _ (List.mem_of_getElem? (i := 25) rfl)) (hw _ (List.mem_of_getElem? (i := 3) rfl)) (hw _ (List.mem_of_getElem? (i := 27) rfl)) (by decide) (rm_get7 l Z a0 hw [] b4 (own_pk p0 x1 8) T34.heap n0 F_packed_b4) (W := 0) (by decide) (by decide) rfl E_b4 (g := (mkF m 220 (fL4 p0 p1 p2 p3 x1 (10 : Int32) (7 : Int32) b4) [(.int (7 : Int32)), (.ref b4)])) rfl (by rw [hml]; rfl) (argsL := [(.int (7 : Int32))]) (rest := []) rfl (lenOf pd__I_I rfl) rfl (by show 2 * 0 + _ ≤ _; exact Nat.le_of_eq rfl) (hb hby at_220) (by decide) (by decide)
                      obtain ⟨rfl, Nq56, eq56⟩ := hQ56
                      have N56 := Fr.app N34 Nq56
                      refine go st56 ?_
                      refine go (fun _ k => by refine XS.iloadN X56.here hx rfl (hb hby at_223) rfl ?_; exact k) ?_
                      refine go (fun _ k => by refine XS.iload X56.here hx rfl (hb hby at_224) rfl ?_; exact k) ?_
                      refine go (fun _ k => by refine XS.iload X56.here hx rfl (hb hby at_226) rfl ?_; exact k) ?_
                      show OwnEnd _ _ _ _ _ _ _ (T56.setTop (mkF m 228 (fL4 p0 p1 p2 p3 x1 (10 : Int32) (7 : Int32) b4) [(.int (7 : Int32)), (.int x1), (.int p0), (.int (own_get (own_pk p0 x1 8) (56 : Int32)))]))
                      obtain ⟨_, T57, L57, X57, hQ57, st57⟩ := callStat X56 hx hZ hown (hw _ (List.mem_of_getElem? (i := 10) rfl)) (hw _ (List.mem_of_getElem? (i := 11) rfl)) (hw _ (List.mem_of_getElem? (i := 12) rfl)) (hw _ (List.mem_of_getElem? (i := 13) rfl)) (by decide) (rm_sh l Z a0 hw [] p0 x1 (7 : Int32) T34.heap n0 ) (W := 1) (by decide) (by decide) eq56 (g := (mkF m 228 (fL4 p0 p1 p2 p3 x1 (10 : Int32) (7 : Int32) b4) [(.int (7 : Int32)), (.int x1), (.int p0), (.int (own_get (own_pk p0 x1 8) (56 : Int32)))])) rfl (by rw [hml]; rfl) (argsL := [(.int p0), (.int x1), (.int (7 : Int32))]) (rest := [(.int (own_get (own_pk p0 x1 8) (56 : Int32)))]) rfl (lenOf pd__III_I rfl) rfl (by show 2 * 0 + _ ≤ _; exact Nat.le_of_eq rfl) (hb hby at_228) (by decide) (by decide)
                      obtain ⟨rfl, Nq57, eq57⟩ := hQ57
                      have N57 := Fr.app N56 Nq57
                      refine go st57 ?_
                      show OwnEnd _ _ _ _ _ _ _ (T57.setTop (mkF m 231 (fL4 p0 p1 p2 p3 x1 (10 : Int32) (7 : Int32) b4) [(.int (own_sh p0 x1 7)), (.int (own_get (own_pk p0 x1 8) (56 : Int32)))]))
                      by_cases hc231_58 : (own_get (own_pk p0 x1 8) (56 : Int32)) = (own_sh p0 x1 7)
                      · refine go (fun _ k => by refine XS.icmpNo X57.here hx rfl (hb hby at_231) rfl (teq hc231_58).2 ?_; exact k) ?_
                        show OwnEnd _ _ _ _ _ _ _ (T57.setTop (mkF m 234 (fL4 p0 p1 p2 p3 x1 (10 : Int32) (7 : Int32) b4) []))
                        refine go (fun _ k => by refine XS.iconst X57.here hx rfl (hb hby at_234) ?_; exact k) ?_
                        refine go (fun _ k => by refine XS.goto X57.here hx rfl (pc0 := 235) (pc' := 239) rfl (hb hby at_235) (by decide) (by decide) ?_; exact k) ?_
                        show OwnEnd _ _ _ _ _ _ _ (T57.setTop (mkF m 239 (fL4 p0 p1 p2 p3 x1 (10 : Int32) (7 : Int32) b4) [(.int (1 : Int32))]))
                        refine endN X57 hx hlk (t := .boolean) (by simp) Bd.returns (hb hby at_239) eq57 (by decide) (by decide) ?_
                        exact ⟨rfl, N57⟩
                      · refine go (fun _ k => by refine XS.icmpYes X57.here hx rfl (pc0 := 231) (pc' := 238) rfl (hb hby at_231) rfl (feq hc231_58).2 (by decide) (by decide) ?_; exact k) ?_
                        show OwnEnd _ _ _ _ _ _ _ (T57.setTop (mkF m 238 (fL4 p0 p1 p2 p3 x1 (10 : Int32) (7 : Int32) b4) []))
                        refine go (fun _ k => by refine XS.iconst X57.here hx rfl (hb hby at_238) ?_; exact k) ?_
                        show OwnEnd _ _ _ _ _ _ _ (T57.setTop (mkF m 239 (fL4 p0 p1 p2 p3 x1 (10 : Int32) (7 : Int32) b4) [(.int (0 : Int32))]))
                        refine endN X57 hx hlk (t := .boolean) (by simp) Bd.returns (hb hby at_239) eq57 (by decide) (by decide) ?_
                        exact absurd (own_at7_8 _ _) hc231_58
                    · refine go (fun _ k => by refine XS.aload X34.here hx rfl (hb hby at_216) rfl rfl ?_; exact k) ?_
                      refine go (fun _ k => by refine XS.iload X34.here hx rfl (hb hby at_218) rfl ?_; exact k) ?_
                      show OwnEnd _ _ _ _ _ _ _ (T34.setTop (mkF m 220 (fL4 p0 p1 p2 p3 x1 (10 : Int32) (8 : Int32) b4) [(.int (8 : Int32)), (.ref b4)]))
                      obtain ⟨_, T59, L59, X59, hQ59, st59⟩ := callVirt X34 hx hZ hown (hw _ (List.mem_of_getElem? (i := 28) rfl)) (hw _ (List.mem_of_getElem? (i := 24) rfl)) (notFace_of_selects (args := #[]) (mvT hZ (hw _ (List.mem_of_getElem? (i := 26) rfl)))) (hw _ (List.mem_of_getElem? (i := 26) rfl)) (hw _ (List.mem_of_getElem? (i := 25) rfl)) (hw _ (List.mem_of_getElem? (i := 3) rfl)) (hw _ (List.mem_of_getElem? (i := 27) rfl)) (by decide) (rm_get8 l Z a0 hw [] b4 m31 k31 (own_sh p0 x1 8) (own_sh p0 x1 9) T34.heap n0 F_more_b4 V_m31) (W := 0) (by decide) (by decide) rfl E_b4 (g := (mkF m 220 (fL4 p0 p1 p2 p3 x1 (10 : Int32) (8 : Int32) b4) [(.int (8 : Int32)), (.ref b4)])) rfl (by rw [hml]; rfl) (argsL := [(.int (8 : Int32))]) (rest := []) rfl (lenOf pd__I_I rfl) rfl (by show 2 * 0 + _ ≤ _; exact Nat.le_of_eq rfl) (hb hby at_220) (by decide) (by decide)
                      obtain ⟨rfl, Nq59, eq59⟩ := hQ59
                      have N59 := Fr.app N34 Nq59
                      refine go st59 ?_
                      refine go (fun _ k => by refine XS.iloadN X59.here hx rfl (hb hby at_223) rfl ?_; exact k) ?_
                      refine go (fun _ k => by refine XS.iload X59.here hx rfl (hb hby at_224) rfl ?_; exact k) ?_
                      refine go (fun _ k => by refine XS.iload X59.here hx rfl (hb hby at_226) rfl ?_; exact k) ?_
                      show OwnEnd _ _ _ _ _ _ _ (T59.setTop (mkF m 228 (fL4 p0 p1 p2 p3 x1 (10 : Int32) (8 : Int32) b4) [(.int (8 : Int32)), (.int x1), (.int p0), (.int (own_sh p0 x1 8))]))
                      obtain ⟨_, T60, L60, X60, hQ60, st60⟩ := callStat X59 hx hZ hown (hw _ (List.mem_of_getElem? (i := 10) rfl)) (hw _ (List.mem_of_getElem? (i := 11) rfl)) (hw _ (List.mem_of_getElem? (i := 12) rfl)) (hw _ (List.mem_of_getElem? (i := 13) rfl)) (by decide) (rm_sh l Z a0 hw [] p0 x1 (8 : Int32) T34.heap n0 ) (W := 1) (by decide) (by decide) eq59 (g := (mkF m 228 (fL4 p0 p1 p2 p3 x1 (10 : Int32) (8 : Int32) b4) [(.int (8 : Int32)), (.int x1), (.int p0), (.int (own_sh p0 x1 8))])) rfl (by rw [hml]; rfl) (argsL := [(.int p0), (.int x1), (.int (8 : Int32))]) (rest := [(.int (own_sh p0 x1 8))]) rfl (lenOf pd__III_I rfl) rfl (by show 2 * 0 + _ ≤ _; exact Nat.le_of_eq rfl) (hb hby at_228) (by decide) (by decide)
                      obtain ⟨rfl, Nq60, eq60⟩ := hQ60
                      have N60 := Fr.app N59 Nq60
                      refine go st60 ?_
                      show OwnEnd _ _ _ _ _ _ _ (T60.setTop (mkF m 231 (fL4 p0 p1 p2 p3 x1 (10 : Int32) (8 : Int32) b4) [(.int (own_sh p0 x1 8)), (.int (own_sh p0 x1 8))]))
                      refine go (fun _ k => by refine XS.icmpNo X60.here hx rfl (hb hby at_231) rfl (teq (rfl : (own_sh p0 x1 8) = (own_sh p0 x1 8))).2 ?_; exact k) ?_
                      refine go (fun _ k => by refine XS.iconst X60.here hx rfl (hb hby at_234) ?_; exact k) ?_
                      refine go (fun _ k => by refine XS.goto X60.here hx rfl (pc0 := 235) (pc' := 239) rfl (hb hby at_235) (by decide) (by decide) ?_; exact k) ?_
                      show OwnEnd _ _ _ _ _ _ _ (T60.setTop (mkF m 239 (fL4 p0 p1 p2 p3 x1 (10 : Int32) (8 : Int32) b4) [(.int (1 : Int32))]))
                      refine endN X60 hx hlk (t := .boolean) (by simp) Bd.returns (hb hby at_239) eq60 (by decide) (by decide) ?_
                      exact ⟨rfl, N60⟩
                    · refine go (fun _ k => by refine XS.aload X34.here hx rfl (hb hby at_216) rfl rfl ?_; exact k) ?_
                      refine go (fun _ k => by refine XS.iload X34.here hx rfl (hb hby at_218) rfl ?_; exact k) ?_
                      show OwnEnd _ _ _ _ _ _ _ (T34.setTop (mkF m 220 (fL4 p0 p1 p2 p3 x1 (10 : Int32) (9 : Int32) b4) [(.int (9 : Int32)), (.ref b4)]))
                      obtain ⟨_, T61, L61, X61, hQ61, st61⟩ := callVirt X34 hx hZ hown (hw _ (List.mem_of_getElem? (i := 28) rfl)) (hw _ (List.mem_of_getElem? (i := 24) rfl)) (notFace_of_selects (args := #[]) (mvT hZ (hw _ (List.mem_of_getElem? (i := 26) rfl)))) (hw _ (List.mem_of_getElem? (i := 26) rfl)) (hw _ (List.mem_of_getElem? (i := 25) rfl)) (hw _ (List.mem_of_getElem? (i := 3) rfl)) (hw _ (List.mem_of_getElem? (i := 27) rfl)) (by decide) (rm_get9 l Z a0 hw [] b4 m31 k31 (own_sh p0 x1 8) (own_sh p0 x1 9) T34.heap n0 F_more_b4 V_m31) (W := 0) (by decide) (by decide) rfl E_b4 (g := (mkF m 220 (fL4 p0 p1 p2 p3 x1 (10 : Int32) (9 : Int32) b4) [(.int (9 : Int32)), (.ref b4)])) rfl (by rw [hml]; rfl) (argsL := [(.int (9 : Int32))]) (rest := []) rfl (lenOf pd__I_I rfl) rfl (by show 2 * 0 + _ ≤ _; exact Nat.le_of_eq rfl) (hb hby at_220) (by decide) (by decide)
                      obtain ⟨rfl, Nq61, eq61⟩ := hQ61
                      have N61 := Fr.app N34 Nq61
                      refine go st61 ?_
                      refine go (fun _ k => by refine XS.iloadN X61.here hx rfl (hb hby at_223) rfl ?_; exact k) ?_
                      refine go (fun _ k => by refine XS.iload X61.here hx rfl (hb hby at_224) rfl ?_; exact k) ?_
                      refine go (fun _ k => by refine XS.iload X61.here hx rfl (hb hby at_226) rfl ?_; exact k) ?_
                      show OwnEnd _ _ _ _ _ _ _ (T61.setTop (mkF m 228 (fL4 p0 p1 p2 p3 x1 (10 : Int32) (9 : Int32) b4) [(.int (9 : Int32)), (.int x1), (.int p0), (.int (own_sh p0 x1 9))]))
                      obtain ⟨_, T62, L62, X62, hQ62, st62⟩ := callStat X61 hx hZ hown (hw _ (List.mem_of_getElem? (i := 10) rfl)) (hw _ (List.mem_of_getElem? (i := 11) rfl)) (hw _ (List.mem_of_getElem? (i := 12) rfl)) (hw _ (List.mem_of_getElem? (i := 13) rfl)) (by decide) (rm_sh l Z a0 hw [] p0 x1 (9 : Int32) T34.heap n0 ) (W := 1) (by decide) (by decide) eq61 (g := (mkF m 228 (fL4 p0 p1 p2 p3 x1 (10 : Int32) (9 : Int32) b4) [(.int (9 : Int32)), (.int x1), (.int p0), (.int (own_sh p0 x1 9))])) rfl (by rw [hml]; rfl) (argsL := [(.int p0), (.int x1), (.int (9 : Int32))]) (rest := [(.int (own_sh p0 x1 9))]) rfl (lenOf pd__III_I rfl) rfl (by show 2 * 0 + _ ≤ _; exact Nat.le_of_eq rfl) (hb hby at_228) (by decide) (by decide)
                      obtain ⟨rfl, Nq62, eq62⟩ := hQ62
                      have N62 := Fr.app N61 Nq62
                      refine go st62 ?_
                      show OwnEnd _ _ _ _ _ _ _ (T62.setTop (mkF m 231 (fL4 p0 p1 p2 p3 x1 (10 : Int32) (9 : Int32) b4) [(.int (own_sh p0 x1 9)), (.int (own_sh p0 x1 9))]))
                      refine go (fun _ k => by refine XS.icmpNo X62.here hx rfl (hb hby at_231) rfl (teq (rfl : (own_sh p0 x1 9) = (own_sh p0 x1 9))).2 ?_; exact k) ?_
                      refine go (fun _ k => by refine XS.iconst X62.here hx rfl (hb hby at_234) ?_; exact k) ?_
                      refine go (fun _ k => by refine XS.goto X62.here hx rfl (pc0 := 235) (pc' := 239) rfl (hb hby at_235) (by decide) (by decide) ?_; exact k) ?_
                      show OwnEnd _ _ _ _ _ _ _ (T62.setTop (mkF m 239 (fL4 p0 p1 p2 p3 x1 (10 : Int32) (9 : Int32) b4) [(.int (1 : Int32))]))
                      refine endN X62 hx hlk (t := .boolean) (by simp) Bd.returns (hb hby at_239) eq62 (by decide) (by decide) ?_
                      exact ⟨rfl, N62⟩
                  · obtain rfl : x2 = 9 := own_m9 _ _ qx2 hc180_29 hc200_32
                    refine go (fun _ k => by refine XS.icmpYes X31.here hx rfl (pc0 := 200) (pc' := 216) rfl (hb hby at_200) rfl (flt hc200_32).2.2.2 (by decide) (by decide) ?_; exact k) ?_
                    show OwnEnd _ _ _ _ _ _ _ (T31.setTop (mkF m 216 (fL4 p0 p1 p2 p3 x1 (9 : Int32) x3 b4) []))
                    rcases own_i9 _ _ qx3 with rfl | rfl | rfl | rfl | rfl | rfl | rfl | rfl | rfl
                    · show OwnEnd _ _ _ _ _ _ _ (T31.setTop (mkF m 216 (fL4 p0 p1 p2 p3 x1 (9 : Int32) (0 : Int32) b4) []))
                      refine go (fun _ k => by refine XS.aload X31.here hx rfl (hb hby at_216) rfl rfl ?_; exact k) ?_
                      refine go (fun _ k => by refine XS.iload X31.here hx rfl (hb hby at_218) rfl ?_; exact k) ?_
                      show OwnEnd _ _ _ _ _ _ _ (T31.setTop (mkF m 220 (fL4 p0 p1 p2 p3 x1 (9 : Int32) (0 : Int32) b4) [(.int (0 : Int32)), (.ref b4)]))
                      obtain ⟨_, T63, L63, X63, hQ63, st63⟩ := callVirt X31 hx hZ hown (hw _ (List.mem_of_getElem? (i := 28) rfl)) (hw _ (List.mem_of_getElem? (i := 24) rfl)) (notFace_of_selects (args := #[]) (mvT hZ (hw _ (List.mem_of_getElem? (i := 26) rfl)))) (hw _ (List.mem_of_getElem? (i := 26) rfl)) (hw _ (List.mem_of_getElem? (i := 25) rfl)) (hw _ (List.mem_of_getElem? (i := 3) rfl)) (hw _ (List.mem_of_getElem? (i := 27) rfl)) (by decide) (rm_get0 l Z a0 hw [] b4 (own_pk p0 x1 8) T31.heap n0 F_packed_b4) (W := 0) (by decide) (by decide) rfl E_b4 (g := (mkF m 220 (fL4 p0 p1 p2 p3 x1 (9 : Int32) (0 : Int32) b4) [(.int (0 : Int32)), (.ref b4)])) rfl (by rw [hml]; rfl) (argsL := [(.int (0 : Int32))]) (rest := []) rfl (lenOf pd__I_I rfl) rfl (by show 2 * 0 + _ ≤ _; exact Nat.le_of_eq rfl) (hb hby at_220) (by decide) (by decide)
                      obtain ⟨rfl, Nq63, eq63⟩ := hQ63
                      have N63 := Fr.app N31 Nq63
                      refine go st63 ?_
                      refine go (fun _ k => by refine XS.iloadN X63.here hx rfl (hb hby at_223) rfl ?_; exact k) ?_
                      refine go (fun _ k => by refine XS.iload X63.here hx rfl (hb hby at_224) rfl ?_; exact k) ?_
                      refine go (fun _ k => by refine XS.iload X63.here hx rfl (hb hby at_226) rfl ?_; exact k) ?_
                      show OwnEnd _ _ _ _ _ _ _ (T63.setTop (mkF m 228 (fL4 p0 p1 p2 p3 x1 (9 : Int32) (0 : Int32) b4) [(.int (0 : Int32)), (.int x1), (.int p0), (.int (own_get (own_pk p0 x1 8) (0 : Int32)))]))
                      obtain ⟨_, T64, L64, X64, hQ64, st64⟩ := callStat X63 hx hZ hown (hw _ (List.mem_of_getElem? (i := 10) rfl)) (hw _ (List.mem_of_getElem? (i := 11) rfl)) (hw _ (List.mem_of_getElem? (i := 12) rfl)) (hw _ (List.mem_of_getElem? (i := 13) rfl)) (by decide) (rm_sh l Z a0 hw [] p0 x1 (0 : Int32) T31.heap n0 ) (W := 1) (by decide) (by decide) eq63 (g := (mkF m 228 (fL4 p0 p1 p2 p3 x1 (9 : Int32) (0 : Int32) b4) [(.int (0 : Int32)), (.int x1), (.int p0), (.int (own_get (own_pk p0 x1 8) (0 : Int32)))])) rfl (by rw [hml]; rfl) (argsL := [(.int p0), (.int x1), (.int (0 : Int32))]) (rest := [(.int (own_get (own_pk p0 x1 8) (0 : Int32)))]) rfl (lenOf pd__III_I rfl) rfl (by show 2 * 0 + _ ≤ _; exact Nat.le_of_eq rfl) (hb hby at_228) (by decide) (by decide)
                      obtain ⟨rfl, Nq64, eq64⟩ := hQ64
                      have N64 := Fr.app N63 Nq64
                      refine go st64 ?_
                      show OwnEnd _ _ _ _ _ _ _ (T64.setTop (mkF m 231 (fL4 p0 p1 p2 p3 x1 (9 : Int32) (0 : Int32) b4) [(.int (own_sh p0 x1 0)), (.int (own_get (own_pk p0 x1 8) (0 : Int32)))]))
                      by_cases hc231_65 : (own_get (own_pk p0 x1 8) (0 : Int32)) = (own_sh p0 x1 0)
                      · refine go (fun _ k => by refine XS.icmpNo X64.here hx rfl (hb hby at_231) rfl (teq hc231_65).2 ?_; exact k) ?_
                        show OwnEnd _ _ _ _ _ _ _ (T64.setTop (mkF m 234 (fL4 p0 p1 p2 p3 x1 (9 : Int32) (0 : Int32) b4) []))
                        refine go (fun _ k => by refine XS.iconst X64.here hx rfl (hb hby at_234) ?_; exact k) ?_
                        refine go (fun _ k => by refine XS.goto X64.here hx rfl (pc0 := 235) (pc' := 239) rfl (hb hby at_235) (by decide) (by decide) ?_; exact k) ?_
                        show OwnEnd _ _ _ _ _ _ _ (T64.setTop (mkF m 239 (fL4 p0 p1 p2 p3 x1 (9 : Int32) (0 : Int32) b4) [(.int (1 : Int32))]))
                        refine endN X64 hx hlk (t := .boolean) (by simp) Bd.returns (hb hby at_239) eq64 (by decide) (by decide) ?_
                        exact ⟨rfl, N64⟩
                      · refine go (fun _ k => by refine XS.icmpYes X64.here hx rfl (pc0 := 231) (pc' := 238) rfl (hb hby at_231) rfl (feq hc231_65).2 (by decide) (by decide) ?_; exact k) ?_
                        show OwnEnd _ _ _ _ _ _ _ (T64.setTop (mkF m 238 (fL4 p0 p1 p2 p3 x1 (9 : Int32) (0 : Int32) b4) []))
                        refine go (fun _ k => by refine XS.iconst X64.here hx rfl (hb hby at_238) ?_; exact k) ?_
                        show OwnEnd _ _ _ _ _ _ _ (T64.setTop (mkF m 239 (fL4 p0 p1 p2 p3 x1 (9 : Int32) (0 : Int32) b4) [(.int (0 : Int32))]))
                        refine endN X64 hx hlk (t := .boolean) (by simp) Bd.returns (hb hby at_239) eq64 (by decide) (by decide) ?_
                        exact absurd (own_at0_8 _ _) hc231_65
                    · show OwnEnd _ _ _ _ _ _ _ (T31.setTop (mkF m 216 (fL4 p0 p1 p2 p3 x1 (9 : Int32) (1 : Int32) b4) []))
                      refine go (fun _ k => by refine XS.aload X31.here hx rfl (hb hby at_216) rfl rfl ?_; exact k) ?_
                      refine go (fun _ k => by refine XS.iload X31.here hx rfl (hb hby at_218) rfl ?_; exact k) ?_
                      show OwnEnd _ _ _ _ _ _ _ (T31.setTop (mkF m 220 (fL4 p0 p1 p2 p3 x1 (9 : Int32) (1 : Int32) b4) [(.int (1 : Int32)), (.ref b4)]))
                      obtain ⟨_, T66, L66, X66, hQ66, st66⟩ := callVirt X31 hx hZ hown (hw _ (List.mem_of_getElem? (i := 28) rfl)) (hw _ (List.mem_of_getElem? (i := 24) rfl)) (notFace_of_selects (args := #[]) (mvT hZ (hw _ (List.mem_of_getElem? (i := 26) rfl)))) (hw _ (List.mem_of_getElem? (i := 26) rfl)) (hw _ (List.mem_of_getElem? (i := 25) rfl)) (hw _ (List.mem_of_getElem? (i := 3) rfl)) (hw _ (List.mem_of_getElem? (i := 27) rfl)) (by decide) (rm_get1 l Z a0 hw [] b4 (own_pk p0 x1 8) T31.heap n0 F_packed_b4) (W := 0) (by decide) (by decide) rfl E_b4 (g := (mkF m 220 (fL4 p0 p1 p2 p3 x1 (9 : Int32) (1 : Int32) b4) [(.int (1 : Int32)), (.ref b4)])) rfl (by rw [hml]; rfl) (argsL := [(.int (1 : Int32))]) (rest := []) rfl (lenOf pd__I_I rfl) rfl (by show 2 * 0 + _ ≤ _; exact Nat.le_of_eq rfl) (hb hby at_220) (by decide) (by decide)
                      obtain ⟨rfl, Nq66, eq66⟩ := hQ66
                      have N66 := Fr.app N31 Nq66
                      refine go st66 ?_
                      refine go (fun _ k => by refine XS.iloadN X66.here hx rfl (hb hby at_223) rfl ?_; exact k) ?_
                      refine go (fun _ k => by refine XS.iload X66.here hx rfl (hb hby at_224) rfl ?_; exact k) ?_
                      refine go (fun _ k => by refine XS.iload X66.here hx rfl (hb hby at_226) rfl ?_; exact k) ?_
                      show OwnEnd _ _ _ _ _ _ _ (T66.setTop (mkF m 228 (fL4 p0 p1 p2 p3 x1 (9 : Int32) (1 : Int32) b4) [(.int (1 : Int32)), (.int x1), (.int p0), (.int (own_get (own_pk p0 x1 8) (8 : Int32)))]))
                      obtain ⟨_, T67, L67, X67, hQ67, st67⟩ := callStat X66 hx hZ hown (hw _ (List.mem_of_getElem? (i := 10) rfl)) (hw _ (List.mem_of_getElem? (i := 11) rfl)) (hw _ (List.mem_of_getElem? (i := 12) rfl)) (hw _ (List.mem_of_getElem? (i := 13) rfl)) (by decide) (rm_sh l Z a0 hw [] p0 x1 (1 : Int32) T31.heap n0 ) (W := 1) (by decide) (by decide) eq66 (g := (mkF m 228 (fL4 p0 p1 p2 p3 x1 (9 : Int32) (1 : Int32) b4) [(.int (1 : Int32)), (.int x1), (.int p0), (.int (own_get (own_pk p0 x1 8) (8 : Int32)))])) rfl (by rw [hml]; rfl) (argsL := [(.int p0), (.int x1), (.int (1 : Int32))]) (rest := [(.int (own_get (own_pk p0 x1 8) (8 : Int32)))]) rfl (lenOf pd__III_I rfl) rfl (by show 2 * 0 + _ ≤ _; exact Nat.le_of_eq rfl) (hb hby at_228) (by decide) (by decide)
                      obtain ⟨rfl, Nq67, eq67⟩ := hQ67
                      have N67 := Fr.app N66 Nq67
                      refine go st67 ?_
                      show OwnEnd _ _ _ _ _ _ _ (T67.setTop (mkF m 231 (fL4 p0 p1 p2 p3 x1 (9 : Int32) (1 : Int32) b4) [(.int (own_sh p0 x1 1)), (.int (own_get (own_pk p0 x1 8) (8 : Int32)))]))
                      by_cases hc231_68 : (own_get (own_pk p0 x1 8) (8 : Int32)) = (own_sh p0 x1 1)
                      · refine go (fun _ k => by refine XS.icmpNo X67.here hx rfl (hb hby at_231) rfl (teq hc231_68).2 ?_; exact k) ?_
                        show OwnEnd _ _ _ _ _ _ _ (T67.setTop (mkF m 234 (fL4 p0 p1 p2 p3 x1 (9 : Int32) (1 : Int32) b4) []))
                        refine go (fun _ k => by refine XS.iconst X67.here hx rfl (hb hby at_234) ?_; exact k) ?_
                        refine go (fun _ k => by refine XS.goto X67.here hx rfl (pc0 := 235) (pc' := 239) rfl (hb hby at_235) (by decide) (by decide) ?_; exact k) ?_
                        show OwnEnd _ _ _ _ _ _ _ (T67.setTop (mkF m 239 (fL4 p0 p1 p2 p3 x1 (9 : Int32) (1 : Int32) b4) [(.int (1 : Int32))]))
                        refine endN X67 hx hlk (t := .boolean) (by simp) Bd.returns (hb hby at_239) eq67 (by decide) (by decide) ?_
                        exact ⟨rfl, N67⟩
                      · refine go (fun _ k => by refine XS.icmpYes X67.here hx rfl (pc0 := 231) (pc' := 238) rfl (hb hby at_231) rfl (feq hc231_68).2 (by decide) (by decide) ?_; exact k) ?_
                        show OwnEnd _ _ _ _ _ _ _ (T67.setTop (mkF m 238 (fL4 p0 p1 p2 p3 x1 (9 : Int32) (1 : Int32) b4) []))
                        refine go (fun _ k => by refine XS.iconst X67.here hx rfl (hb hby at_238) ?_; exact k) ?_
                        show OwnEnd _ _ _ _ _ _ _ (T67.setTop (mkF m 239 (fL4 p0 p1 p2 p3 x1 (9 : Int32) (1 : Int32) b4) [(.int (0 : Int32))]))
                        refine endN X67 hx hlk (t := .boolean) (by simp) Bd.returns (hb hby at_239) eq67 (by decide) (by decide) ?_
                        exact absurd (own_at1_8 _ _) hc231_68
                    · show OwnEnd _ _ _ _ _ _ _ (T31.setTop (mkF m 216 (fL4 p0 p1 p2 p3 x1 (9 : Int32) (2 : Int32) b4) []))
                      refine go (fun _ k => by refine XS.aload X31.here hx rfl (hb hby at_216) rfl rfl ?_; exact k) ?_
                      refine go (fun _ k => by refine XS.iload X31.here hx rfl (hb hby at_218) rfl ?_; exact k) ?_
                      show OwnEnd _ _ _ _ _ _ _ (T31.setTop (mkF m 220 (fL4 p0 p1 p2 p3 x1 (9 : Int32) (2 : Int32) b4) [(.int (2 : Int32)), (.ref b4)]))
                      obtain ⟨_, T69, L69, X69, hQ69, st69⟩ := callVirt X31 hx hZ hown (hw _ (List.mem_of_getElem? (i := 28) rfl)) (hw _ (List.mem_of_getElem? (i := 24) rfl)) (notFace_of_selects (args := #[]) (mvT hZ (hw _ (List.mem_of_getElem? (i := 26) rfl)))) (hw _ (List.mem_of_getElem? (i := 26) rfl)) (hw _ (List.mem_of_getElem? (i := 25) rfl)) (hw _ (List.mem_of_getElem? (i := 3) rfl)) (hw _ (List.mem_of_getElem? (i := 27) rfl)) (by decide) (rm_get2 l Z a0 hw [] b4 (own_pk p0 x1 8) T31.heap n0 F_packed_b4) (W := 0) (by decide) (by decide) rfl E_b4 (g := (mkF m 220 (fL4 p0 p1 p2 p3 x1 (9 : Int32) (2 : Int32) b4) [(.int (2 : Int32)), (.ref b4)])) rfl (by rw [hml]; rfl) (argsL := [(.int (2 : Int32))]) (rest := []) rfl (lenOf pd__I_I rfl) rfl (by show 2 * 0 + _ ≤ _; exact Nat.le_of_eq rfl) (hb hby at_220) (by decide) (by decide)
                      obtain ⟨rfl, Nq69, eq69⟩ := hQ69
                      have N69 := Fr.app N31 Nq69
                      refine go st69 ?_
                      refine go (fun _ k => by refine XS.iloadN X69.here hx rfl (hb hby at_223) rfl ?_; exact k) ?_
                      refine go (fun _ k => by refine XS.iload X69.here hx rfl (hb hby at_224) rfl ?_; exact k) ?_
                      refine go (fun _ k => by refine XS.iload X69.here hx rfl (hb hby at_226) rfl ?_; exact k) ?_
                      show OwnEnd _ _ _ _ _ _ _ (T69.setTop (mkF m 228 (fL4 p0 p1 p2 p3 x1 (9 : Int32) (2 : Int32) b4) [(.int (2 : Int32)), (.int x1), (.int p0), (.int (own_get (own_pk p0 x1 8) (16 : Int32)))]))
                      obtain ⟨_, T70, L70, X70, hQ70, st70⟩ := callStat X69 hx hZ hown (hw _ (List.mem_of_getElem? (i := 10) rfl)) (hw _ (List.mem_of_getElem? (i := 11) rfl)) (hw _ (List.mem_of_getElem? (i := 12) rfl)) (hw _ (List.mem_of_getElem? (i := 13) rfl)) (by decide) (rm_sh l Z a0 hw [] p0 x1 (2 : Int32) T31.heap n0 ) (W := 1) (by decide) (by decide) eq69 (g := (mkF m 228 (fL4 p0 p1 p2 p3 x1 (9 : Int32) (2 : Int32) b4) [(.int (2 : Int32)), (.int x1), (.int p0), (.int (own_get (own_pk p0 x1 8) (16 : Int32)))])) rfl (by rw [hml]; rfl) (argsL := [(.int p0), (.int x1), (.int (2 : Int32))]) (rest := [(.int (own_get (own_pk p0 x1 8) (16 : Int32)))]) rfl (lenOf pd__III_I rfl) rfl (by show 2 * 0 + _ ≤ _; exact Nat.le_of_eq rfl) (hb hby at_228) (by decide) (by decide)
                      obtain ⟨rfl, Nq70, eq70⟩ := hQ70
                      have N70 := Fr.app N69 Nq70
                      refine go st70 ?_
                      show OwnEnd _ _ _ _ _ _ _ (T70.setTop (mkF m 231 (fL4 p0 p1 p2 p3 x1 (9 : Int32) (2 : Int32) b4) [(.int (own_sh p0 x1 2)), (.int (own_get (own_pk p0 x1 8) (16 : Int32)))]))
                      by_cases hc231_71 : (own_get (own_pk p0 x1 8) (16 : Int32)) = (own_sh p0 x1 2)
                      · refine go (fun _ k => by refine XS.icmpNo X70.here hx rfl (hb hby at_231) rfl (teq hc231_71).2 ?_; exact k) ?_
                        show OwnEnd _ _ _ _ _ _ _ (T70.setTop (mkF m 234 (fL4 p0 p1 p2 p3 x1 (9 : Int32) (2 : Int32) b4) []))
                        refine go (fun _ k => by refine XS.iconst X70.here hx rfl (hb hby at_234) ?_; exact k) ?_
                        refine go (fun _ k => by refine XS.goto X70.here hx rfl (pc0 := 235) (pc' := 239) rfl (hb hby at_235) (by decide) (by decide) ?_; exact k) ?_
                        show OwnEnd _ _ _ _ _ _ _ (T70.setTop (mkF m 239 (fL4 p0 p1 p2 p3 x1 (9 : Int32) (2 : Int32) b4) [(.int (1 : Int32))]))
                        refine endN X70 hx hlk (t := .boolean) (by simp) Bd.returns (hb hby at_239) eq70 (by decide) (by decide) ?_
                        exact ⟨rfl, N70⟩
                      · refine go (fun _ k => by refine XS.icmpYes X70.here hx rfl (pc0 := 231) (pc' := 238) rfl (hb hby at_231) rfl (feq hc231_71).2 (by decide) (by decide) ?_; exact k) ?_
                        show OwnEnd _ _ _ _ _ _ _ (T70.setTop (mkF m 238 (fL4 p0 p1 p2 p3 x1 (9 : Int32) (2 : Int32) b4) []))
                        refine go (fun _ k => by refine XS.iconst X70.here hx rfl (hb hby at_238) ?_; exact k) ?_
                        show OwnEnd _ _ _ _ _ _ _ (T70.setTop (mkF m 239 (fL4 p0 p1 p2 p3 x1 (9 : Int32) (2 : Int32) b4) [(.int (0 : Int32))]))
                        refine endN X70 hx hlk (t := .boolean) (by simp) Bd.returns (hb hby at_239) eq70 (by decide) (by decide) ?_
                        exact absurd (own_at2_8 _ _) hc231_71
                    · show OwnEnd _ _ _ _ _ _ _ (T31.setTop (mkF m 216 (fL4 p0 p1 p2 p3 x1 (9 : Int32) (3 : Int32) b4) []))
                      refine go (fun _ k => by refine XS.aload X31.here hx rfl (hb hby at_216) rfl rfl ?_; exact k) ?_
                      refine go (fun _ k => by refine XS.iload X31.here hx rfl (hb hby at_218) rfl ?_; exact k) ?_
                      show OwnEnd _ _ _ _ _ _ _ (T31.setTop (mkF m 220 (fL4 p0 p1 p2 p3 x1 (9 : Int32) (3 : Int32) b4) [(.int (3 : Int32)), (.ref b4)]))
                      obtain ⟨_, T72, L72, X72, hQ72, st72⟩ := callVirt X31 hx hZ hown (hw _ (List.mem_of_getElem? (i := 28) rfl)) (hw _ (List.mem_of_getElem? (i := 24) rfl)) (notFace_of_selects (args := #[]) (mvT hZ (hw _ (List.mem_of_getElem? (i := 26) rfl)))) (hw _ (List.mem_of_getElem? (i := 26) rfl)) (hw _ (List.mem_of_getElem? (i := 25) rfl)) (hw _ (List.mem_of_getElem? (i := 3) rfl)) (hw _ (List.mem_of_getElem? (i := 27) rfl)) (by decide) (rm_get3 l Z a0 hw [] b4 (own_pk p0 x1 8) T31.heap n0 F_packed_b4) (W := 0) (by decide) (by decide) rfl E_b4 (g := (mkF m 220 (fL4 p0 p1 p2 p3 x1 (9 : Int32) (3 : Int32) b4) [(.int (3 : Int32)), (.ref b4)])) rfl (by rw [hml]; rfl) (argsL := [(.int (3 : Int32))]) (rest := []) rfl (lenOf pd__I_I rfl) rfl (by show 2 * 0 + _ ≤ _; exact Nat.le_of_eq rfl) (hb hby at_220) (by decide) (by decide)
                      obtain ⟨rfl, Nq72, eq72⟩ := hQ72
                      have N72 := Fr.app N31 Nq72
                      refine go st72 ?_
                      refine go (fun _ k => by refine XS.iloadN X72.here hx rfl (hb hby at_223) rfl ?_; exact k) ?_
                      refine go (fun _ k => by refine XS.iload X72.here hx rfl (hb hby at_224) rfl ?_; exact k) ?_
                      refine go (fun _ k => by refine XS.iload X72.here hx rfl (hb hby at_226) rfl ?_; exact k) ?_
                      show OwnEnd _ _ _ _ _ _ _ (T72.setTop (mkF m 228 (fL4 p0 p1 p2 p3 x1 (9 : Int32) (3 : Int32) b4) [(.int (3 : Int32)), (.int x1), (.int p0), (.int (own_get (own_pk p0 x1 8) (24 : Int32)))]))
                      obtain ⟨_, T73, L73, X73, hQ73, st73⟩ := callStat X72 hx hZ hown (hw _ (List.mem_of_getElem? (i := 10) rfl)) (hw _ (List.mem_of_getElem? (i := 11) rfl)) (hw _ (List.mem_of_getElem? (i := 12) rfl)) (hw _ (List.mem_of_getElem? (i := 13) rfl)) (by decide) (rm_sh l Z a0 hw [] p0 x1 (3 : Int32) T31.heap n0 ) (W := 1) (by decide) (by decide) eq72 (g := (mkF m 228 (fL4 p0 p1 p2 p3 x1 (9 : Int32) (3 : Int32) b4) [(.int (3 : Int32)), (.int x1), (.int p0), (.int (own_get (own_pk p0 x1 8) (24 : Int32)))])) rfl (by rw [hml]; rfl) (argsL := [(.int p0), (.int x1), (.int (3 : Int32))]) (rest := [(.int (own_get (own_pk p0 x1 8) (24 : Int32)))]) rfl (lenOf pd__III_I rfl) rfl (by show 2 * 0 + _ ≤ _; exact Nat.le_of_eq rfl) (hb hby at_228) (by decide) (by decide)
                      obtain ⟨rfl, Nq73, eq73⟩ := hQ73
                      have N73 := Fr.app N72 Nq73
                      refine go st73 ?_
                      show OwnEnd _ _ _ _ _ _ _ (T73.setTop (mkF m 231 (fL4 p0 p1 p2 p3 x1 (9 : Int32) (3 : Int32) b4) [(.int (own_sh p0 x1 3)), (.int (own_get (own_pk p0 x1 8) (24 : Int32)))]))
                      by_cases hc231_74 : (own_get (own_pk p0 x1 8) (24 : Int32)) = (own_sh p0 x1 3)
                      · refine go (fun _ k => by refine XS.icmpNo X73.here hx rfl (hb hby at_231) rfl (teq hc231_74).2 ?_; exact k) ?_
                        show OwnEnd _ _ _ _ _ _ _ (T73.setTop (mkF m 234 (fL4 p0 p1 p2 p3 x1 (9 : Int32) (3 : Int32) b4) []))
                        refine go (fun _ k => by refine XS.iconst X73.here hx rfl (hb hby at_234) ?_; exact k) ?_
                        refine go (fun _ k => by refine XS.goto X73.here hx rfl (pc0 := 235) (pc' := 239) rfl (hb hby at_235) (by decide) (by decide) ?_; exact k) ?_
                        show OwnEnd _ _ _ _ _ _ _ (T73.setTop (mkF m 239 (fL4 p0 p1 p2 p3 x1 (9 : Int32) (3 : Int32) b4) [(.int (1 : Int32))]))
                        refine endN X73 hx hlk (t := .boolean) (by simp) Bd.returns (hb hby at_239) eq73 (by decide) (by decide) ?_
                        exact ⟨rfl, N73⟩
                      · refine go (fun _ k => by refine XS.icmpYes X73.here hx rfl (pc0 := 231) (pc' := 238) rfl (hb hby at_231) rfl (feq hc231_74).2 (by decide) (by decide) ?_; exact k) ?_
                        show OwnEnd _ _ _ _ _ _ _ (T73.setTop (mkF m 238 (fL4 p0 p1 p2 p3 x1 (9 : Int32) (3 : Int32) b4) []))
                        refine go (fun _ k => by refine XS.iconst X73.here hx rfl (hb hby at_238) ?_; exact k) ?_
                        show OwnEnd _ _ _ _ _ _ _ (T73.setTop (mkF m 239 (fL4 p0 p1 p2 p3 x1 (9 : Int32) (3 : Int32) b4) [(.int (0 : Int32))]))
                        refine endN X73 hx hlk (t := .boolean) (by simp) Bd.returns (hb hby at_239) eq73 (by decide) (by decide) ?_
                        exact absurd (own_at3_8 _ _) hc231_74
                    · show OwnEnd _ _ _ _ _ _ _ (T31.setTop (mkF m 216 (fL4 p0 p1 p2 p3 x1 (9 : Int32) (4 : Int32) b4) []))
                      refine go (fun _ k => by refine XS.aload X31.here hx rfl (hb hby at_216) rfl rfl ?_; exact k) ?_
                      refine go (fun _ k => by refine XS.iload X31.here hx rfl (hb hby at_218) rfl ?_; exact k) ?_
                      show OwnEnd _ _ _ _ _ _ _ (T31.setTop (mkF m 220 (fL4 p0 p1 p2 p3 x1 (9 : Int32) (4 : Int32) b4) [(.int (4 : Int32)), (.ref b4)]))
                      obtain ⟨_, T75, L75, X75, hQ75, st75⟩ := callVirt X31 hx hZ hown (hw _ (List.mem_of_getElem? (i := 28) rfl)) (hw _ (List.mem_of_getElem? (i := 24) rfl)) (notFace_of_selects (args := #[]) (mvT hZ (hw _ (List.mem_of_getElem? (i := 26) rfl)))) (hw _ (List.mem_of_getElem? (i := 26) rfl)) (hw _ (List.mem_of_getElem? (i := 25) rfl)) (hw _ (List.mem_of_getElem? (i := 3) rfl)) (hw _ (List.mem_of_getElem? (i := 27) rfl)) (by decide) (rm_get4 l Z a0 hw [] b4 (own_pk p0 x1 8) T31.heap n0 F_packed_b4) (W := 0) (by decide) (by decide) rfl E_b4 (g := (mkF m 220 (fL4 p0 p1 p2 p3 x1 (9 : Int32) (4 : Int32) b4) [(.int (4 : Int32)), (.ref b4)])) rfl (by rw [hml]; rfl) (argsL := [(.int (4 : Int32))]) (rest := []) rfl (lenOf pd__I_I rfl) rfl (by show 2 * 0 + _ ≤ _; exact Nat.le_of_eq rfl) (hb hby at_220) (by decide) (by decide)
                      obtain ⟨rfl, Nq75, eq75⟩ := hQ75
                      have N75 := Fr.app N31 Nq75
                      refine go st75 ?_
                      refine go (fun _ k => by refine XS.iloadN X75.here hx rfl (hb hby at_223) rfl ?_; exact k) ?_
                      refine go (fun _ k => by refine XS.iload X75.here hx rfl (hb hby at_224) rfl ?_; exact k) ?_
                      refine go (fun _ k => by refine XS.iload X75.here hx rfl (hb hby at_226) rfl ?_; exact k) ?_
                      show OwnEnd _ _ _ _ _ _ _ (T75.setTop (mkF m 228 (fL4 p0 p1 p2 p3 x1 (9 : Int32) (4 : Int32) b4) [(.int (4 : Int32)), (.int x1), (.int p0), (.int (own_get (own_pk p0 x1 8) (32 : Int32)))]))
                      obtain ⟨_, T76, L76, X76, hQ76, st76⟩ := callStat X75 hx hZ hown (hw _ (List.mem_of_getElem? (i := 10) rfl)) (hw _ (List.mem_of_getElem? (i := 11) rfl)) (hw _ (List.mem_of_getElem? (i := 12) rfl)) (hw _ (List.mem_of_getElem? (i := 13) rfl)) (by decide) (rm_sh l Z a0 hw [] p0 x1 (4 : Int32) T31.heap n0 ) (W := 1) (by decide) (by decide) eq75 (g := (mkF m 228 (fL4 p0 p1 p2 p3 x1 (9 : Int32) (4 : Int32) b4) [(.int (4 : Int32)), (.int x1), (.int p0), (.int (own_get (own_pk p0 x1 8) (32 : Int32)))])) rfl (by rw [hml]; rfl) (argsL := [(.int p0), (.int x1), (.int (4 : Int32))]) (rest := [(.int (own_get (own_pk p0 x1 8) (32 : Int32)))]) rfl (lenOf pd__III_I rfl) rfl (by show 2 * 0 + _ ≤ _; exact Nat.le_of_eq rfl) (hb hby at_228) (by decide) (by decide)
                      obtain ⟨rfl, Nq76, eq76⟩ := hQ76
                      have N76 := Fr.app N75 Nq76
                      refine go st76 ?_
                      show OwnEnd _ _ _ _ _ _ _ (T76.setTop (mkF m 231 (fL4 p0 p1 p2 p3 x1 (9 : Int32) (4 : Int32) b4) [(.int (own_sh p0 x1 4)), (.int (own_get (own_pk p0 x1 8) (32 : Int32)))]))
                      by_cases hc231_77 : (own_get (own_pk p0 x1 8) (32 : Int32)) = (own_sh p0 x1 4)
                      · refine go (fun _ k => by refine XS.icmpNo X76.here hx rfl (hb hby at_231) rfl (teq hc231_77).2 ?_; exact k) ?_
                        show OwnEnd _ _ _ _ _ _ _ (T76.setTop (mkF m 234 (fL4 p0 p1 p2 p3 x1 (9 : Int32) (4 : Int32) b4) []))
                        refine go (fun _ k => by refine XS.iconst X76.here hx rfl (hb hby at_234) ?_; exact k) ?_
                        refine go (fun _ k => by refine XS.goto X76.here hx rfl (pc0 := 235) (pc' := 239) rfl (hb hby at_235) (by decide) (by decide) ?_; exact k) ?_
                        show OwnEnd _ _ _ _ _ _ _ (T76.setTop (mkF m 239 (fL4 p0 p1 p2 p3 x1 (9 : Int32) (4 : Int32) b4) [(.int (1 : Int32))]))
                        refine endN X76 hx hlk (t := .boolean) (by simp) Bd.returns (hb hby at_239) eq76 (by decide) (by decide) ?_
                        exact ⟨rfl, N76⟩
                      · refine go (fun _ k => by refine XS.icmpYes X76.here hx rfl (pc0 := 231) (pc' := 238) rfl (hb hby at_231) rfl (feq hc231_77).2 (by decide) (by decide) ?_; exact k) ?_
                        show OwnEnd _ _ _ _ _ _ _ (T76.setTop (mkF m 238 (fL4 p0 p1 p2 p3 x1 (9 : Int32) (4 : Int32) b4) []))
                        refine go (fun _ k => by refine XS.iconst X76.here hx rfl (hb hby at_238) ?_; exact k) ?_
                        show OwnEnd _ _ _ _ _ _ _ (T76.setTop (mkF m 239 (fL4 p0 p1 p2 p3 x1 (9 : Int32) (4 : Int32) b4) [(.int (0 : Int32))]))
                        refine endN X76 hx hlk (t := .boolean) (by simp) Bd.returns (hb hby at_239) eq76 (by decide) (by decide) ?_
                        exact absurd (own_at4_8 _ _) hc231_77
                    · show OwnEnd _ _ _ _ _ _ _ (T31.setTop (mkF m 216 (fL4 p0 p1 p2 p3 x1 (9 : Int32) (5 : Int32) b4) []))
                      refine go (fun _ k => by refine XS.aload X31.here hx rfl (hb hby at_216) rfl rfl ?_; exact k) ?_
                      refine go (fun _ k => by refine XS.iload X31.here hx rfl (hb hby at_218) rfl ?_; exact k) ?_
                      show OwnEnd _ _ _ _ _ _ _ (T31.setTop (mkF m 220 (fL4 p0 p1 p2 p3 x1 (9 : Int32) (5 : Int32) b4) [(.int (5 : Int32)), (.ref b4)]))
                      obtain ⟨_, T78, L78, X78, hQ78, st78⟩ := callVirt X31 hx hZ hown (hw _ (List.mem_of_getElem? (i := 28) rfl)) (hw _ (List.mem_of_getElem? (i := 24) rfl)) (notFace_of_selects (args := #[]) (mvT hZ (hw _ (List.mem_of_getElem? (i := 26) rfl)))) (hw _ (List.mem_of_getElem? (i := 26) rfl)) (hw _ (List.mem_of_getElem? (i := 25) rfl)) (hw _ (List.mem_of_getElem? (i := 3) rfl)) (hw _ (List.mem_of_getElem? (i := 27) rfl)) (by decide) (rm_get5 l Z a0 hw [] b4 (own_pk p0 x1 8) T31.heap n0 F_packed_b4) (W := 0) (by decide) (by decide) rfl E_b4 (g := (mkF m 220 (fL4 p0 p1 p2 p3 x1 (9 : Int32) (5 : Int32) b4) [(.int (5 : Int32)), (.ref b4)])) rfl (by rw [hml]; rfl) (argsL := [(.int (5 : Int32))]) (rest := []) rfl (lenOf pd__I_I rfl) rfl (by show 2 * 0 + _ ≤ _; exact Nat.le_of_eq rfl) (hb hby at_220) (by decide) (by decide)
                      obtain ⟨rfl, Nq78, eq78⟩ := hQ78
                      have N78 := Fr.app N31 Nq78
                      refine go st78 ?_
                      refine go (fun _ k => by refine XS.iloadN X78.here hx rfl (hb hby at_223) rfl ?_; exact k) ?_
                      refine go (fun _ k => by refine XS.iload X78.here hx rfl (hb hby at_224) rfl ?_; exact k) ?_
                      refine go (fun _ k => by refine XS.iload X78.here hx rfl (hb hby at_226) rfl ?_; exact k) ?_
                      show OwnEnd _ _ _ _ _ _ _ (T78.setTop (mkF m 228 (fL4 p0 p1 p2 p3 x1 (9 : Int32) (5 : Int32) b4) [(.int (5 : Int32)), (.int x1), (.int p0), (.int (own_get (own_pk p0 x1 8) (40 : Int32)))]))
                      obtain ⟨_, T79, L79, X79, hQ79, st79⟩ := callStat X78 hx hZ hown (hw _ (List.mem_of_getElem? (i := 10) rfl)) (hw _ (List.mem_of_getElem? (i := 11) rfl)) (hw _ (List.mem_of_getElem? (i := 12) rfl)) (hw _ (List.mem_of_getElem? (i := 13) rfl)) (by decide) (rm_sh l Z a0 hw [] p0 x1 (5 : Int32) T31.heap n0 ) (W := 1) (by decide) (by decide) eq78 (g := (mkF m 228 (fL4 p0 p1 p2 p3 x1 (9 : Int32) (5 : Int32) b4) [(.int (5 : Int32)), (.int x1), (.int p0), (.int (own_get (own_pk p0 x1 8) (40 : Int32)))])) rfl (by rw [hml]; rfl) (argsL := [(.int p0), (.int x1), (.int (5 : Int32))]) (rest := [(.int (own_get (own_pk p0 x1 8) (40 : Int32)))]) rfl (lenOf pd__III_I rfl) rfl (by show 2 * 0 + _ ≤ _; exact Nat.le_of_eq rfl) (hb hby at_228) (by decide) (by decide)
                      obtain ⟨rfl, Nq79, eq79⟩ := hQ79
                      have N79 := Fr.app N78 Nq79
                      refine go st79 ?_
                      show OwnEnd _ _ _ _ _ _ _ (T79.setTop (mkF m 231 (fL4 p0 p1 p2 p3 x1 (9 : Int32) (5 : Int32) b4) [(.int (own_sh p0 x1 5)), (.int (own_get (own_pk p0 x1 8) (40 : Int32)))]))
                      by_cases hc231_80 : (own_get (own_pk p0 x1 8) (40 : Int32)) = (own_sh p0 x1 5)
                      · refine go (fun _ k => by refine XS.icmpNo X79.here hx rfl (hb hby at_231) rfl (teq hc231_80).2 ?_; exact k) ?_
                        show OwnEnd _ _ _ _ _ _ _ (T79.setTop (mkF m 234 (fL4 p0 p1 p2 p3 x1 (9 : Int32) (5 : Int32) b4) []))
                        refine go (fun _ k => by refine XS.iconst X79.here hx rfl (hb hby at_234) ?_; exact k) ?_
                        refine go (fun _ k => by refine XS.goto X79.here hx rfl (pc0 := 235) (pc' := 239) rfl (hb hby at_235) (by decide) (by decide) ?_; exact k) ?_
                        show OwnEnd _ _ _ _ _ _ _ (T79.setTop (mkF m 239 (fL4 p0 p1 p2 p3 x1 (9 : Int32) (5 : Int32) b4) [(.int (1 : Int32))]))
                        refine endN X79 hx hlk (t := .boolean) (by simp) Bd.returns (hb hby at_239) eq79 (by decide) (by decide) ?_
                        exact ⟨rfl, N79⟩
                      · refine go (fun _ k => by refine XS.icmpYes X79.here hx rfl (pc0 := 231) (pc' := 238) rfl (hb hby at_231) rfl (feq hc231_80).2 (by decide) (by decide) ?_; exact k) ?_
                        show OwnEnd _ _ _ _ _ _ _ (T79.setTop (mkF m 238 (fL4 p0 p1 p2 p3 x1 (9 : Int32) (5 : Int32) b4) []))
                        refine go (fun _ k => by refine XS.iconst X79.here hx rfl (hb hby at_238) ?_; exact k) ?_
                        show OwnEnd _ _ _ _ _ _ _ (T79.setTop (mkF m 239 (fL4 p0 p1 p2 p3 x1 (9 : Int32) (5 : Int32) b4) [(.int (0 : Int32))]))
                        refine endN X79 hx hlk (t := .boolean) (by simp) Bd.returns (hb hby at_239) eq79 (by decide) (by decide) ?_
                        exact absurd (own_at5_8 _ _) hc231_80
                    · show OwnEnd _ _ _ _ _ _ _ (T31.setTop (mkF m 216 (fL4 p0 p1 p2 p3 x1 (9 : Int32) (6 : Int32) b4) []))
                      refine go (fun _ k => by refine XS.aload X31.here hx rfl (hb hby at_216) rfl rfl ?_; exact k) ?_
                      refine go (fun _ k => by refine XS.iload X31.here hx rfl (hb hby at_218) rfl ?_; exact k) ?_
                      show OwnEnd _ _ _ _ _ _ _ (T31.setTop (mkF m 220 (fL4 p0 p1 p2 p3 x1 (9 : Int32) (6 : Int32) b4) [(.int (6 : Int32)), (.ref b4)]))
                      obtain ⟨_, T81, L81, X81, hQ81, st81⟩ := callVirt X31 hx hZ hown (hw _ (List.mem_of_getElem? (i := 28) rfl)) (hw _ (List.mem_of_getElem? (i := 24) rfl)) (notFace_of_selects (args := #[]) (mvT hZ (hw _ (List.mem_of_getElem? (i := 26) rfl)))) (hw _ (List.mem_of_getElem? (i := 26) rfl)) (hw _ (List.mem_of_getElem? (i := 25) rfl)) (hw _ (List.mem_of_getElem? (i := 3) rfl)) (hw _ (List.mem_of_getElem? (i := 27) rfl)) (by decide) (rm_get6 l Z a0 hw [] b4 (own_pk p0 x1 8) T31.heap n0 F_packed_b4) (W := 0) (by decide) (by decide) rfl E_b4 (g := (mkF m 220 (fL4 p0 p1 p2 p3 x1 (9 : Int32) (6 : Int32) b4) [(.int (6 : Int32)), (.ref b4)])) rfl (by rw [hml]; rfl) (argsL := [(.int (6 : Int32))]) (rest := []) rfl (lenOf pd__I_I rfl) rfl (by show 2 * 0 + _ ≤ _; exact Nat.le_of_eq rfl) (hb hby at_220) (by decide) (by decide)
                      obtain ⟨rfl, Nq81, eq81⟩ := hQ81
                      have N81 := Fr.app N31 Nq81
                      refine go st81 ?_
                      refine go (fun _ k => by refine XS.iloadN X81.here hx rfl (hb hby at_223) rfl ?_; exact k) ?_
                      refine go (fun _ k => by refine XS.iload X81.here hx rfl (hb hby at_224) rfl ?_; exact k) ?_
                      refine go (fun _ k => by refine XS.iload X81.here hx rfl (hb hby at_226) rfl ?_; exact k) ?_
                      show OwnEnd _ _ _ _ _ _ _ (T81.setTop (mkF m 228 (fL4 p0 p1 p2 p3 x1 (9 : Int32) (6 : Int32) b4) [(.int (6 : Int32)), (.int x1), (.int p0), (.int (own_get (own_pk p0 x1 8) (48 : Int32)))]))
                      obtain ⟨_, T82, L82, X82, hQ82, st82⟩ := callStat X81 hx hZ hown (hw _ (List.mem_of_getElem? (i := 10) rfl)) (hw _ (List.mem_of_getElem? (i := 11) rfl)) (hw _ (List.mem_of_getElem? (i := 12) rfl)) (hw _ (List.mem_of_getElem? (i := 13) rfl)) (by decide) (rm_sh l Z a0 hw [] p0 x1 (6 : Int32) T31.heap n0 ) (W := 1) (by decide) (by decide) eq81 (g := (mkF m 228 (fL4 p0 p1 p2 p3 x1 (9 : Int32) (6 : Int32) b4) [(.int (6 : Int32)), (.int x1), (.int p0), (.int (own_get (own_pk p0 x1 8) (48 : Int32)))])) rfl (by rw [hml]; rfl) (argsL := [(.int p0), (.int x1), (.int (6 : Int32))]) (rest := [(.int (own_get (own_pk p0 x1 8) (48 : Int32)))]) rfl (lenOf pd__III_I rfl) rfl (by show 2 * 0 + _ ≤ _; exact Nat.le_of_eq rfl) (hb hby at_228) (by decide) (by decide)
                      obtain ⟨rfl, Nq82, eq82⟩ := hQ82
                      have N82 := Fr.app N81 Nq82
                      refine go st82 ?_
                      show OwnEnd _ _ _ _ _ _ _ (T82.setTop (mkF m 231 (fL4 p0 p1 p2 p3 x1 (9 : Int32) (6 : Int32) b4) [(.int (own_sh p0 x1 6)), (.int (own_get (own_pk p0 x1 8) (48 : Int32)))]))
                      by_cases hc231_83 : (own_get (own_pk p0 x1 8) (48 : Int32)) = (own_sh p0 x1 6)
                      · refine go (fun _ k => by refine XS.icmpNo X82.here hx rfl (hb hby at_231) rfl (teq hc231_83).2 ?_; exact k) ?_
                        show OwnEnd _ _ _ _ _ _ _ (T82.setTop (mkF m 234 (fL4 p0 p1 p2 p3 x1 (9 : Int32) (6 : Int32) b4) []))
                        refine go (fun _ k => by refine XS.iconst X82.here hx rfl (hb hby at_234) ?_; exact k) ?_
                        refine go (fun _ k => by refine XS.goto X82.here hx rfl (pc0 := 235) (pc' := 239) rfl (hb hby at_235) (by decide) (by decide) ?_; exact k) ?_
                        show OwnEnd _ _ _ _ _ _ _ (T82.setTop (mkF m 239 (fL4 p0 p1 p2 p3 x1 (9 : Int32) (6 : Int32) b4) [(.int (1 : Int32))]))
                        refine endN X82 hx hlk (t := .boolean) (by simp) Bd.returns (hb hby at_239) eq82 (by decide) (by decide) ?_
                        exact ⟨rfl, N82⟩
                      · refine go (fun _ k => by refine XS.icmpYes X82.here hx rfl (pc0 := 231) (pc' := 238) rfl (hb hby at_231) rfl (feq hc231_83).2 (by decide) (by decide) ?_; exact k) ?_
                        show OwnEnd _ _ _ _ _ _ _ (T82.setTop (mkF m 238 (fL4 p0 p1 p2 p3 x1 (9 : Int32) (6 : Int32) b4) []))
                        refine go (fun _ k => by refine XS.iconst X82.here hx rfl (hb hby at_238) ?_; exact k) ?_
                        show OwnEnd _ _ _ _ _ _ _ (T82.setTop (mkF m 239 (fL4 p0 p1 p2 p3 x1 (9 : Int32) (6 : Int32) b4) [(.int (0 : Int32))]))
                        refine endN X82 hx hlk (t := .boolean) (by simp) Bd.returns (hb hby at_239) eq82 (by decide) (by decide) ?_
                        exact absurd (own_at6_8 _ _) hc231_83
                    · show OwnEnd _ _ _ _ _ _ _ (T31.setTop (mkF m 216 (fL4 p0 p1 p2 p3 x1 (9 : Int32) (7 : Int32) b4) []))
                      refine go (fun _ k => by refine XS.aload X31.here hx rfl (hb hby at_216) rfl rfl ?_; exact k) ?_
                      refine go (fun _ k => by refine XS.iload X31.here hx rfl (hb hby at_218) rfl ?_; exact k) ?_
                      show OwnEnd _ _ _ _ _ _ _ (T31.setTop (mkF m 220 (fL4 p0 p1 p2 p3 x1 (9 : Int32) (7 : Int32) b4) [(.int (7 : Int32)), (.ref b4)]))
                      obtain ⟨_, T84, L84, X84, hQ84, st84⟩ := callVirt X31 hx hZ hown (hw _ (List.mem_of_getElem? (i := 28) rfl)) (hw _ (List.mem_of_getElem? (i := 24) rfl)) (notFace_of_selects (args := #[]) (mvT hZ (hw _ (List.mem_of_getElem? (i := 26) rfl)))) (hw _ (List.mem_of_getElem? (i := 26) rfl)) (hw _ (List.mem_of_getElem? (i := 25) rfl)) (hw _ (List.mem_of_getElem? (i := 3) rfl)) (hw _ (List.mem_of_getElem? (i := 27) rfl)) (by decide) (rm_get7 l Z a0 hw [] b4 (own_pk p0 x1 8) T31.heap n0 F_packed_b4) (W := 0) (by decide) (by decide) rfl E_b4 (g := (mkF m 220 (fL4 p0 p1 p2 p3 x1 (9 : Int32) (7 : Int32) b4) [(.int (7 : Int32)), (.ref b4)])) rfl (by rw [hml]; rfl) (argsL := [(.int (7 : Int32))]) (rest := []) rfl (lenOf pd__I_I rfl) rfl (by show 2 * 0 + _ ≤ _; exact Nat.le_of_eq rfl) (hb hby at_220) (by decide) (by decide)
                      obtain ⟨rfl, Nq84, eq84⟩ := hQ84
                      have N84 := Fr.app N31 Nq84
                      refine go st84 ?_
                      refine go (fun _ k => by refine XS.iloadN X84.here hx rfl (hb hby at_223) rfl ?_; exact k) ?_
                      refine go (fun _ k => by refine XS.iload X84.here hx rfl (hb hby at_224) rfl ?_; exact k) ?_
                      refine go (fun _ k => by refine XS.iload X84.here hx rfl (hb hby at_226) rfl ?_; exact k) ?_
                      show OwnEnd _ _ _ _ _ _ _ (T84.setTop (mkF m 228 (fL4 p0 p1 p2 p3 x1 (9 : Int32) (7 : Int32) b4) [(.int (7 : Int32)), (.int x1), (.int p0), (.int (own_get (own_pk p0 x1 8) (56 : Int32)))]))
                      obtain ⟨_, T85, L85, X85, hQ85, st85⟩ := callStat X84 hx hZ hown (hw _ (List.mem_of_getElem? (i := 10) rfl)) (hw _ (List.mem_of_getElem? (i := 11) rfl)) (hw _ (List.mem_of_getElem? (i := 12) rfl)) (hw _ (List.mem_of_getElem? (i := 13) rfl)) (by decide) (rm_sh l Z a0 hw [] p0 x1 (7 : Int32) T31.heap n0 ) (W := 1) (by decide) (by decide) eq84 (g := (mkF m 228 (fL4 p0 p1 p2 p3 x1 (9 : Int32) (7 : Int32) b4) [(.int (7 : Int32)), (.int x1), (.int p0), (.int (own_get (own_pk p0 x1 8) (56 : Int32)))])) rfl (by rw [hml]; rfl) (argsL := [(.int p0), (.int x1), (.int (7 : Int32))]) (rest := [(.int (own_get (own_pk p0 x1 8) (56 : Int32)))]) rfl (lenOf pd__III_I rfl) rfl (by show 2 * 0 + _ ≤ _; exact Nat.le_of_eq rfl) (hb hby at_228) (by decide) (by decide)
                      obtain ⟨rfl, Nq85, eq85⟩ := hQ85
                      have N85 := Fr.app N84 Nq85
                      refine go st85 ?_
                      show OwnEnd _ _ _ _ _ _ _ (T85.setTop (mkF m 231 (fL4 p0 p1 p2 p3 x1 (9 : Int32) (7 : Int32) b4) [(.int (own_sh p0 x1 7)), (.int (own_get (own_pk p0 x1 8) (56 : Int32)))]))
                      by_cases hc231_86 : (own_get (own_pk p0 x1 8) (56 : Int32)) = (own_sh p0 x1 7)
                      · refine go (fun _ k => by refine XS.icmpNo X85.here hx rfl (hb hby at_231) rfl (teq hc231_86).2 ?_; exact k) ?_
                        show OwnEnd _ _ _ _ _ _ _ (T85.setTop (mkF m 234 (fL4 p0 p1 p2 p3 x1 (9 : Int32) (7 : Int32) b4) []))
                        refine go (fun _ k => by refine XS.iconst X85.here hx rfl (hb hby at_234) ?_; exact k) ?_
                        refine go (fun _ k => by refine XS.goto X85.here hx rfl (pc0 := 235) (pc' := 239) rfl (hb hby at_235) (by decide) (by decide) ?_; exact k) ?_
                        show OwnEnd _ _ _ _ _ _ _ (T85.setTop (mkF m 239 (fL4 p0 p1 p2 p3 x1 (9 : Int32) (7 : Int32) b4) [(.int (1 : Int32))]))
                        refine endN X85 hx hlk (t := .boolean) (by simp) Bd.returns (hb hby at_239) eq85 (by decide) (by decide) ?_
                        exact ⟨rfl, N85⟩
                      · refine go (fun _ k => by refine XS.icmpYes X85.here hx rfl (pc0 := 231) (pc' := 238) rfl (hb hby at_231) rfl (feq hc231_86).2 (by decide) (by decide) ?_; exact k) ?_
                        show OwnEnd _ _ _ _ _ _ _ (T85.setTop (mkF m 238 (fL4 p0 p1 p2 p3 x1 (9 : Int32) (7 : Int32) b4) []))
                        refine go (fun _ k => by refine XS.iconst X85.here hx rfl (hb hby at_238) ?_; exact k) ?_
                        show OwnEnd _ _ _ _ _ _ _ (T85.setTop (mkF m 239 (fL4 p0 p1 p2 p3 x1 (9 : Int32) (7 : Int32) b4) [(.int (0 : Int32))]))
                        refine endN X85 hx hlk (t := .boolean) (by simp) Bd.returns (hb hby at_239) eq85 (by decide) (by decide) ?_
                        exact absurd (own_at7_8 _ _) hc231_86
                    · show OwnEnd _ _ _ _ _ _ _ (T31.setTop (mkF m 216 (fL4 p0 p1 p2 p3 x1 (9 : Int32) (8 : Int32) b4) []))
                      refine go (fun _ k => by refine XS.aload X31.here hx rfl (hb hby at_216) rfl rfl ?_; exact k) ?_
                      refine go (fun _ k => by refine XS.iload X31.here hx rfl (hb hby at_218) rfl ?_; exact k) ?_
                      show OwnEnd _ _ _ _ _ _ _ (T31.setTop (mkF m 220 (fL4 p0 p1 p2 p3 x1 (9 : Int32) (8 : Int32) b4) [(.int (8 : Int32)), (.ref b4)]))
                      obtain ⟨_, T87, L87, X87, hQ87, st87⟩ := callVirt X31 hx hZ hown (hw _ (List.mem_of_getElem? (i := 28) rfl)) (hw _ (List.mem_of_getElem? (i := 24) rfl)) (notFace_of_selects (args := #[]) (mvT hZ (hw _ (List.mem_of_getElem? (i := 26) rfl)))) (hw _ (List.mem_of_getElem? (i := 26) rfl)) (hw _ (List.mem_of_getElem? (i := 25) rfl)) (hw _ (List.mem_of_getElem? (i := 3) rfl)) (hw _ (List.mem_of_getElem? (i := 27) rfl)) (by decide) (rm_get8 l Z a0 hw [] b4 m31 k31 (own_sh p0 x1 8) (0 : Int32) T31.heap n0 F_more_b4 V_m31) (W := 0) (by decide) (by decide) rfl E_b4 (g := (mkF m 220 (fL4 p0 p1 p2 p3 x1 (9 : Int32) (8 : Int32) b4) [(.int (8 : Int32)), (.ref b4)])) rfl (by rw [hml]; rfl) (argsL := [(.int (8 : Int32))]) (rest := []) rfl (lenOf pd__I_I rfl) rfl (by show 2 * 0 + _ ≤ _; exact Nat.le_of_eq rfl) (hb hby at_220) (by decide) (by decide)
                      obtain ⟨rfl, Nq87, eq87⟩ := hQ87
                      have N87 := Fr.app N31 Nq87
                      refine go st87 ?_
                      refine go (fun _ k => by refine XS.iloadN X87.here hx rfl (hb hby at_223) rfl ?_; exact k) ?_
                      refine go (fun _ k => by refine XS.iload X87.here hx rfl (hb hby at_224) rfl ?_; exact k) ?_
                      refine go (fun _ k => by refine XS.iload X87.here hx rfl (hb hby at_226) rfl ?_; exact k) ?_
                      show OwnEnd _ _ _ _ _ _ _ (T87.setTop (mkF m 228 (fL4 p0 p1 p2 p3 x1 (9 : Int32) (8 : Int32) b4) [(.int (8 : Int32)), (.int x1), (.int p0), (.int (own_sh p0 x1 8))]))
                      obtain ⟨_, T88, L88, X88, hQ88, st88⟩ := callStat X87 hx hZ hown (hw _ (List.mem_of_getElem? (i := 10) rfl)) (hw _ (List.mem_of_getElem? (i := 11) rfl)) (hw _ (List.mem_of_getElem? (i := 12) rfl)) (hw _ (List.mem_of_getElem? (i := 13) rfl)) (by decide) (rm_sh l Z a0 hw [] p0 x1 (8 : Int32) T31.heap n0 ) (W := 1) (by decide) (by decide) eq87 (g := (mkF m 228 (fL4 p0 p1 p2 p3 x1 (9 : Int32) (8 : Int32) b4) [(.int (8 : Int32)), (.int x1), (.int p0), (.int (own_sh p0 x1 8))])) rfl (by rw [hml]; rfl) (argsL := [(.int p0), (.int x1), (.int (8 : Int32))]) (rest := [(.int (own_sh p0 x1 8))]) rfl (lenOf pd__III_I rfl) rfl (by show 2 * 0 + _ ≤ _; exact Nat.le_of_eq rfl) (hb hby at_228) (by decide) (by decide)
                      obtain ⟨rfl, Nq88, eq88⟩ := hQ88
                      have N88 := Fr.app N87 Nq88
                      refine go st88 ?_
                      show OwnEnd _ _ _ _ _ _ _ (T88.setTop (mkF m 231 (fL4 p0 p1 p2 p3 x1 (9 : Int32) (8 : Int32) b4) [(.int (own_sh p0 x1 8)), (.int (own_sh p0 x1 8))]))
                      refine go (fun _ k => by refine XS.icmpNo X88.here hx rfl (hb hby at_231) rfl (teq (rfl : (own_sh p0 x1 8) = (own_sh p0 x1 8))).2 ?_; exact k) ?_
                      refine go (fun _ k => by refine XS.iconst X88.here hx rfl (hb hby at_234) ?_; exact k) ?_
                      refine go (fun _ k => by refine XS.goto X88.here hx rfl (pc0 := 235) (pc' := 239) rfl (hb hby at_235) (by decide) (by decide) ?_; exact k) ?_
                      show OwnEnd _ _ _ _ _ _ _ (T88.setTop (mkF m 239 (fL4 p0 p1 p2 p3 x1 (9 : Int32) (8 : Int32) b4) [(.int (1 : Int32))]))
                      refine endN X88 hx hlk (t := .boolean) (by simp) Bd.returns (hb hby at_239) eq88 (by decide) (by decide) ?_
                      exact ⟨rfl, N88⟩
                · obtain rfl : x2 = 8 := own_m8 _ _ qx2 hc160_26 hc180_29
                  refine go (fun _ k => by refine XS.icmpYes X28.here hx rfl (pc0 := 180) (pc' := 196) rfl (hb hby at_180) rfl (flt hc180_29).2.2.2 (by decide) (by decide) ?_; exact k) ?_
                  show OwnEnd _ _ _ _ _ _ _ (T28.setTop (mkF m 196 (fL4 p0 p1 p2 p3 x1 (8 : Int32) x3 b4) []))
                  refine go (fun _ k => by refine XS.iload X28.here hx rfl (hb hby at_196) rfl ?_; exact k) ?_
                  refine go (fun _ k => by refine XS.bipush X28.here hx rfl (hb hby at_198) ?_; exact k) ?_
                  show OwnEnd _ _ _ _ _ _ _ (T28.setTop (mkF m 200 (fL4 p0 p1 p2 p3 x1 (8 : Int32) x3 b4) [(.int (9 : Int32)), (.int (8 : Int32))]))
                  refine go (fun _ k => by refine XS.icmpYes X28.here hx rfl (pc0 := 200) (pc' := 216) rfl (hb hby at_200) rfl (flt (by decide)).2.2.2 (by decide) (by decide) ?_; exact k) ?_
                  show OwnEnd _ _ _ _ _ _ _ (T28.setTop (mkF m 216 (fL4 p0 p1 p2 p3 x1 (8 : Int32) x3 b4) []))
                  rcases own_i8 _ _ qx3 with rfl | rfl | rfl | rfl | rfl | rfl | rfl | rfl
                  · refine go (fun _ k => by refine XS.aload X28.here hx rfl (hb hby at_216) rfl rfl ?_; exact k) ?_
                    refine go (fun _ k => by refine XS.iload X28.here hx rfl (hb hby at_218) rfl ?_; exact k) ?_
                    show OwnEnd _ _ _ _ _ _ _ (T28.setTop (mkF m 220 (fL4 p0 p1 p2 p3 x1 (8 : Int32) (0 : Int32) b4) [(.int (0 : Int32)), (.ref b4)]))
                    obtain ⟨_, T89, L89, X89, hQ89, st89⟩ := callVirt X28 hx hZ hown (hw _ (List.mem_of_getElem? (i := 28) rfl)) (hw _ (List.mem_of_getElem? (i := 24) rfl)) (notFace_of_selects (args := #[]) (mvT hZ (hw _ (List.mem_of_getElem? (i := 26) rfl)))) (hw _ (List.mem_of_getElem? (i := 26) rfl)) (hw _ (List.mem_of_getElem? (i := 25) rfl)) (hw _ (List.mem_of_getElem? (i := 3) rfl)) (hw _ (List.mem_of_getElem? (i := 27) rfl)) (by decide) (rm_get0 l Z a0 hw [] b4 (own_pk p0 x1 8) T28.heap n0 F_packed_b4) (W := 0) (by decide) (by decide) rfl E_b4 (g := (mkF m 220 (fL4 p0 p1 p2 p3 x1 (8 : Int32) (0 : Int32) b4) [(.int (0 : Int32)), (.ref b4)])) rfl (by rw [hml]; rfl) (argsL := [(.int (0 : Int32))]) (rest := []) rfl (lenOf pd__I_I rfl) rfl (by show 2 * 0 + _ ≤ _; exact Nat.le_of_eq rfl) (hb hby at_220) (by decide) (by decide)
                    obtain ⟨rfl, Nq89, eq89⟩ := hQ89
                    have N89 := Fr.app N28 Nq89
                    refine go st89 ?_
                    refine go (fun _ k => by refine XS.iloadN X89.here hx rfl (hb hby at_223) rfl ?_; exact k) ?_
                    refine go (fun _ k => by refine XS.iload X89.here hx rfl (hb hby at_224) rfl ?_; exact k) ?_
                    refine go (fun _ k => by refine XS.iload X89.here hx rfl (hb hby at_226) rfl ?_; exact k) ?_
                    show OwnEnd _ _ _ _ _ _ _ (T89.setTop (mkF m 228 (fL4 p0 p1 p2 p3 x1 (8 : Int32) (0 : Int32) b4) [(.int (0 : Int32)), (.int x1), (.int p0), (.int (own_get (own_pk p0 x1 8) (0 : Int32)))]))
                    obtain ⟨_, T90, L90, X90, hQ90, st90⟩ := callStat X89 hx hZ hown (hw _ (List.mem_of_getElem? (i := 10) rfl)) (hw _ (List.mem_of_getElem? (i := 11) rfl)) (hw _ (List.mem_of_getElem? (i := 12) rfl)) (hw _ (List.mem_of_getElem? (i := 13) rfl)) (by decide) (rm_sh l Z a0 hw [] p0 x1 (0 : Int32) T28.heap n0 ) (W := 1) (by decide) (by decide) eq89 (g := (mkF m 228 (fL4 p0 p1 p2 p3 x1 (8 : Int32) (0 : Int32) b4) [(.int (0 : Int32)), (.int x1), (.int p0), (.int (own_get (own_pk p0 x1 8) (0 : Int32)))])) rfl (by rw [hml]; rfl) (argsL := [(.int p0), (.int x1), (.int (0 : Int32))]) (rest := [(.int (own_get (own_pk p0 x1 8) (0 : Int32)))]) rfl (lenOf pd__III_I rfl) rfl (by show 2 * 0 + _ ≤ _; exact Nat.le_of_eq rfl) (hb hby at_228) (by decide) (by decide)
                    obtain ⟨rfl, Nq90, eq90⟩ := hQ90
                    have N90 := Fr.app N89 Nq90
                    refine go st90 ?_
                    show OwnEnd _ _ _ _ _ _ _ (T90.setTop (mkF m 231 (fL4 p0 p1 p2 p3 x1 (8 : Int32) (0 : Int32) b4) [(.int (own_sh p0 x1 0)), (.int (own_get (own_pk p0 x1 8) (0 : Int32)))]))
                    by_cases hc231_91 : (own_get (own_pk p0 x1 8) (0 : Int32)) = (own_sh p0 x1 0)
                    · refine go (fun _ k => by refine XS.icmpNo X90.here hx rfl (hb hby at_231) rfl (teq hc231_91).2 ?_; exact k) ?_
                      show OwnEnd _ _ _ _ _ _ _ (T90.setTop (mkF m 234 (fL4 p0 p1 p2 p3 x1 (8 : Int32) (0 : Int32) b4) []))
                      refine go (fun _ k => by refine XS.iconst X90.here hx rfl (hb hby at_234) ?_; exact k) ?_
                      refine go (fun _ k => by refine XS.goto X90.here hx rfl (pc0 := 235) (pc' := 239) rfl (hb hby at_235) (by decide) (by decide) ?_; exact k) ?_
                      show OwnEnd _ _ _ _ _ _ _ (T90.setTop (mkF m 239 (fL4 p0 p1 p2 p3 x1 (8 : Int32) (0 : Int32) b4) [(.int (1 : Int32))]))
                      refine endN X90 hx hlk (t := .boolean) (by simp) Bd.returns (hb hby at_239) eq90 (by decide) (by decide) ?_
                      exact ⟨rfl, N90⟩
                    · refine go (fun _ k => by refine XS.icmpYes X90.here hx rfl (pc0 := 231) (pc' := 238) rfl (hb hby at_231) rfl (feq hc231_91).2 (by decide) (by decide) ?_; exact k) ?_
                      show OwnEnd _ _ _ _ _ _ _ (T90.setTop (mkF m 238 (fL4 p0 p1 p2 p3 x1 (8 : Int32) (0 : Int32) b4) []))
                      refine go (fun _ k => by refine XS.iconst X90.here hx rfl (hb hby at_238) ?_; exact k) ?_
                      show OwnEnd _ _ _ _ _ _ _ (T90.setTop (mkF m 239 (fL4 p0 p1 p2 p3 x1 (8 : Int32) (0 : Int32) b4) [(.int (0 : Int32))]))
                      refine endN X90 hx hlk (t := .boolean) (by simp) Bd.returns (hb hby at_239) eq90 (by decide) (by decide) ?_
                      exact absurd (own_at0_8 _ _) hc231_91
                  · refine go (fun _ k => by refine XS.aload X28.here hx rfl (hb hby at_216) rfl rfl ?_; exact k) ?_
                    refine go (fun _ k => by refine XS.iload X28.here hx rfl (hb hby at_218) rfl ?_; exact k) ?_
                    show OwnEnd _ _ _ _ _ _ _ (T28.setTop (mkF m 220 (fL4 p0 p1 p2 p3 x1 (8 : Int32) (1 : Int32) b4) [(.int (1 : Int32)), (.ref b4)]))
                    obtain ⟨_, T92, L92, X92, hQ92, st92⟩ := callVirt X28 hx hZ hown (hw _ (List.mem_of_getElem? (i := 28) rfl)) (hw _ (List.mem_of_getElem? (i := 24) rfl)) (notFace_of_selects (args := #[]) (mvT hZ (hw _ (List.mem_of_getElem? (i := 26) rfl)))) (hw _ (List.mem_of_getElem? (i := 26) rfl)) (hw _ (List.mem_of_getElem? (i := 25) rfl)) (hw _ (List.mem_of_getElem? (i := 3) rfl)) (hw _ (List.mem_of_getElem? (i := 27) rfl)) (by decide) (rm_get1 l Z a0 hw [] b4 (own_pk p0 x1 8) T28.heap n0 F_packed_b4) (W := 0) (by decide) (by decide) rfl E_b4 (g := (mkF m 220 (fL4 p0 p1 p2 p3 x1 (8 : Int32) (1 : Int32) b4) [(.int (1 : Int32)), (.ref b4)])) rfl (by rw [hml]; rfl) (argsL := [(.int (1 : Int32))]) (rest := []) rfl (lenOf pd__I_I rfl) rfl (by show 2 * 0 + _ ≤ _; exact Nat.le_of_eq rfl) (hb hby at_220) (by decide) (by decide)
                    obtain ⟨rfl, Nq92, eq92⟩ := hQ92
                    have N92 := Fr.app N28 Nq92
                    refine go st92 ?_
                    refine go (fun _ k => by refine XS.iloadN X92.here hx rfl (hb hby at_223) rfl ?_; exact k) ?_
                    refine go (fun _ k => by refine XS.iload X92.here hx rfl (hb hby at_224) rfl ?_; exact k) ?_
                    refine go (fun _ k => by refine XS.iload X92.here hx rfl (hb hby at_226) rfl ?_; exact k) ?_
                    show OwnEnd _ _ _ _ _ _ _ (T92.setTop (mkF m 228 (fL4 p0 p1 p2 p3 x1 (8 : Int32) (1 : Int32) b4) [(.int (1 : Int32)), (.int x1), (.int p0), (.int (own_get (own_pk p0 x1 8) (8 : Int32)))]))
                    obtain ⟨_, T93, L93, X93, hQ93, st93⟩ := callStat X92 hx hZ hown (hw _ (List.mem_of_getElem? (i := 10) rfl)) (hw _ (List.mem_of_getElem? (i := 11) rfl)) (hw _ (List.mem_of_getElem? (i := 12) rfl)) (hw _ (List.mem_of_getElem? (i := 13) rfl)) (by decide) (rm_sh l Z a0 hw [] p0 x1 (1 : Int32) T28.heap n0 ) (W := 1) (by decide) (by decide) eq92 (g := (mkF m 228 (fL4 p0 p1 p2 p3 x1 (8 : Int32) (1 : Int32) b4) [(.int (1 : Int32)), (.int x1), (.int p0), (.int (own_get (own_pk p0 x1 8) (8 : Int32)))])) rfl (by rw [hml]; rfl) (argsL := [(.int p0), (.int x1), (.int (1 : Int32))]) (rest := [(.int (own_get (own_pk p0 x1 8) (8 : Int32)))]) rfl (lenOf pd__III_I rfl) rfl (by show 2 * 0 + _ ≤ _; exact Nat.le_of_eq rfl) (hb hby at_228) (by decide) (by decide)
                    obtain ⟨rfl, Nq93, eq93⟩ := hQ93
                    have N93 := Fr.app N92 Nq93
                    refine go st93 ?_
                    show OwnEnd _ _ _ _ _ _ _ (T93.setTop (mkF m 231 (fL4 p0 p1 p2 p3 x1 (8 : Int32) (1 : Int32) b4) [(.int (own_sh p0 x1 1)), (.int (own_get (own_pk p0 x1 8) (8 : Int32)))]))
                    by_cases hc231_94 : (own_get (own_pk p0 x1 8) (8 : Int32)) = (own_sh p0 x1 1)
                    · refine go (fun _ k => by refine XS.icmpNo X93.here hx rfl (hb hby at_231) rfl (teq hc231_94).2 ?_; exact k) ?_
                      show OwnEnd _ _ _ _ _ _ _ (T93.setTop (mkF m 234 (fL4 p0 p1 p2 p3 x1 (8 : Int32) (1 : Int32) b4) []))
                      refine go (fun _ k => by refine XS.iconst X93.here hx rfl (hb hby at_234) ?_; exact k) ?_
                      refine go (fun _ k => by refine XS.goto X93.here hx rfl (pc0 := 235) (pc' := 239) rfl (hb hby at_235) (by decide) (by decide) ?_; exact k) ?_
                      show OwnEnd _ _ _ _ _ _ _ (T93.setTop (mkF m 239 (fL4 p0 p1 p2 p3 x1 (8 : Int32) (1 : Int32) b4) [(.int (1 : Int32))]))
                      refine endN X93 hx hlk (t := .boolean) (by simp) Bd.returns (hb hby at_239) eq93 (by decide) (by decide) ?_
                      exact ⟨rfl, N93⟩
                    · refine go (fun _ k => by refine XS.icmpYes X93.here hx rfl (pc0 := 231) (pc' := 238) rfl (hb hby at_231) rfl (feq hc231_94).2 (by decide) (by decide) ?_; exact k) ?_
                      show OwnEnd _ _ _ _ _ _ _ (T93.setTop (mkF m 238 (fL4 p0 p1 p2 p3 x1 (8 : Int32) (1 : Int32) b4) []))
                      refine go (fun _ k => by refine XS.iconst X93.here hx rfl (hb hby at_238) ?_; exact k) ?_
                      show OwnEnd _ _ _ _ _ _ _ (T93.setTop (mkF m 239 (fL4 p0 p1 p2 p3 x1 (8 : Int32) (1 : Int32) b4) [(.int (0 : Int32))]))
                      refine endN X93 hx hlk (t := .boolean) (by simp) Bd.returns (hb hby at_239) eq93 (by decide) (by decide) ?_
                      exact absurd (own_at1_8 _ _) hc231_94
                  · refine go (fun _ k => by refine XS.aload X28.here hx rfl (hb hby at_216) rfl rfl ?_; exact k) ?_
                    refine go (fun _ k => by refine XS.iload X28.here hx rfl (hb hby at_218) rfl ?_; exact k) ?_
                    show OwnEnd _ _ _ _ _ _ _ (T28.setTop (mkF m 220 (fL4 p0 p1 p2 p3 x1 (8 : Int32) (2 : Int32) b4) [(.int (2 : Int32)), (.ref b4)]))
                    obtain ⟨_, T95, L95, X95, hQ95, st95⟩ := callVirt X28 hx hZ hown (hw _ (List.mem_of_getElem? (i := 28) rfl)) (hw _ (List.mem_of_getElem? (i := 24) rfl)) (notFace_of_selects (args := #[]) (mvT hZ (hw _ (List.mem_of_getElem? (i := 26) rfl)))) (hw _ (List.mem_of_getElem? (i := 26) rfl)) (hw _ (List.mem_of_getElem? (i := 25) rfl)) (hw _ (List.mem_of_getElem? (i := 3) rfl)) (hw _ (List.mem_of_getElem? (i := 27) rfl)) (by decide) (rm_get2 l Z a0 hw [] b4 (own_pk p0 x1 8) T28.heap n0 F_packed_b4) (W := 0) (by decide) (by decide) rfl E_b4 (g := (mkF m 220 (fL4 p0 p1 p2 p3 x1 (8 : Int32) (2 : Int32) b4) [(.int (2 : Int32)), (.ref b4)])) rfl (by rw [hml]; rfl) (argsL := [(.int (2 : Int32))]) (rest := []) rfl (lenOf pd__I_I rfl) rfl (by show 2 * 0 + _ ≤ _; exact Nat.le_of_eq rfl) (hb hby at_220) (by decide) (by decide)
                    obtain ⟨rfl, Nq95, eq95⟩ := hQ95
                    have N95 := Fr.app N28 Nq95
                    refine go st95 ?_
                    refine go (fun _ k => by refine XS.iloadN X95.here hx rfl (hb hby at_223) rfl ?_; exact k) ?_
                    refine go (fun _ k => by refine XS.iload X95.here hx rfl (hb hby at_224) rfl ?_; exact k) ?_
                    refine go (fun _ k => by refine XS.iload X95.here hx rfl (hb hby at_226) rfl ?_; exact k) ?_
                    show OwnEnd _ _ _ _ _ _ _ (T95.setTop (mkF m 228 (fL4 p0 p1 p2 p3 x1 (8 : Int32) (2 : Int32) b4) [(.int (2 : Int32)), (.int x1), (.int p0), (.int (own_get (own_pk p0 x1 8) (16 : Int32)))]))
                    obtain ⟨_, T96, L96, X96, hQ96, st96⟩ := callStat X95 hx hZ hown (hw _ (List.mem_of_getElem? (i := 10) rfl)) (hw _ (List.mem_of_getElem? (i := 11) rfl)) (hw _ (List.mem_of_getElem? (i := 12) rfl)) (hw _ (List.mem_of_getElem? (i := 13) rfl)) (by decide) (rm_sh l Z a0 hw [] p0 x1 (2 : Int32) T28.heap n0 ) (W := 1) (by decide) (by decide) eq95 (g := (mkF m 228 (fL4 p0 p1 p2 p3 x1 (8 : Int32) (2 : Int32) b4) [(.int (2 : Int32)), (.int x1), (.int p0), (.int (own_get (own_pk p0 x1 8) (16 : Int32)))])) rfl (by rw [hml]; rfl) (argsL := [(.int p0), (.int x1), (.int (2 : Int32))]) (rest := [(.int (own_get (own_pk p0 x1 8) (16 : Int32)))]) rfl (lenOf pd__III_I rfl) rfl (by show 2 * 0 + _ ≤ _; exact Nat.le_of_eq rfl) (hb hby at_228) (by decide) (by decide)
                    obtain ⟨rfl, Nq96, eq96⟩ := hQ96
                    have N96 := Fr.app N95 Nq96
                    refine go st96 ?_
                    show OwnEnd _ _ _ _ _ _ _ (T96.setTop (mkF m 231 (fL4 p0 p1 p2 p3 x1 (8 : Int32) (2 : Int32) b4) [(.int (own_sh p0 x1 2)), (.int (own_get (own_pk p0 x1 8) (16 : Int32)))]))
                    by_cases hc231_97 : (own_get (own_pk p0 x1 8) (16 : Int32)) = (own_sh p0 x1 2)
                    · refine go (fun _ k => by refine XS.icmpNo X96.here hx rfl (hb hby at_231) rfl (teq hc231_97).2 ?_; exact k) ?_
                      show OwnEnd _ _ _ _ _ _ _ (T96.setTop (mkF m 234 (fL4 p0 p1 p2 p3 x1 (8 : Int32) (2 : Int32) b4) []))
                      refine go (fun _ k => by refine XS.iconst X96.here hx rfl (hb hby at_234) ?_; exact k) ?_
                      refine go (fun _ k => by refine XS.goto X96.here hx rfl (pc0 := 235) (pc' := 239) rfl (hb hby at_235) (by decide) (by decide) ?_; exact k) ?_
                      show OwnEnd _ _ _ _ _ _ _ (T96.setTop (mkF m 239 (fL4 p0 p1 p2 p3 x1 (8 : Int32) (2 : Int32) b4) [(.int (1 : Int32))]))
                      refine endN X96 hx hlk (t := .boolean) (by simp) Bd.returns (hb hby at_239) eq96 (by decide) (by decide) ?_
                      exact ⟨rfl, N96⟩
                    · refine go (fun _ k => by refine XS.icmpYes X96.here hx rfl (pc0 := 231) (pc' := 238) rfl (hb hby at_231) rfl (feq hc231_97).2 (by decide) (by decide) ?_; exact k) ?_
                      show OwnEnd _ _ _ _ _ _ _ (T96.setTop (mkF m 238 (fL4 p0 p1 p2 p3 x1 (8 : Int32) (2 : Int32) b4) []))
                      refine go (fun _ k => by refine XS.iconst X96.here hx rfl (hb hby at_238) ?_; exact k) ?_
                      show OwnEnd _ _ _ _ _ _ _ (T96.setTop (mkF m 239 (fL4 p0 p1 p2 p3 x1 (8 : Int32) (2 : Int32) b4) [(.int (0 : Int32))]))
                      refine endN X96 hx hlk (t := .boolean) (by simp) Bd.returns (hb hby at_239) eq96 (by decide) (by decide) ?_
                      exact absurd (own_at2_8 _ _) hc231_97
                  · refine go (fun _ k => by refine XS.aload X28.here hx rfl (hb hby at_216) rfl rfl ?_; exact k) ?_
                    refine go (fun _ k => by refine XS.iload X28.here hx rfl (hb hby at_218) rfl ?_; exact k) ?_
                    show OwnEnd _ _ _ _ _ _ _ (T28.setTop (mkF m 220 (fL4 p0 p1 p2 p3 x1 (8 : Int32) (3 : Int32) b4) [(.int (3 : Int32)), (.ref b4)]))
                    obtain ⟨_, T98, L98, X98, hQ98, st98⟩ := callVirt X28 hx hZ hown (hw _ (List.mem_of_getElem? (i := 28) rfl)) (hw _ (List.mem_of_getElem? (i := 24) rfl)) (notFace_of_selects (args := #[]) (mvT hZ (hw _ (List.mem_of_getElem? (i := 26) rfl)))) (hw _ (List.mem_of_getElem? (i := 26) rfl)) (hw _ (List.mem_of_getElem? (i := 25) rfl)) (hw _ (List.mem_of_getElem? (i := 3) rfl)) (hw _ (List.mem_of_getElem? (i := 27) rfl)) (by decide) (rm_get3 l Z a0 hw [] b4 (own_pk p0 x1 8) T28.heap n0 F_packed_b4) (W := 0) (by decide) (by decide) rfl E_b4 (g := (mkF m 220 (fL4 p0 p1 p2 p3 x1 (8 : Int32) (3 : Int32) b4) [(.int (3 : Int32)), (.ref b4)])) rfl (by rw [hml]; rfl) (argsL := [(.int (3 : Int32))]) (rest := []) rfl (lenOf pd__I_I rfl) rfl (by show 2 * 0 + _ ≤ _; exact Nat.le_of_eq rfl) (hb hby at_220) (by decide) (by decide)
                    obtain ⟨rfl, Nq98, eq98⟩ := hQ98
                    have N98 := Fr.app N28 Nq98
                    refine go st98 ?_
                    refine go (fun _ k => by refine XS.iloadN X98.here hx rfl (hb hby at_223) rfl ?_; exact k) ?_
                    refine go (fun _ k => by refine XS.iload X98.here hx rfl (hb hby at_224) rfl ?_; exact k) ?_
                    refine go (fun _ k => by refine XS.iload X98.here hx rfl (hb hby at_226) rfl ?_; exact k) ?_
                    show OwnEnd _ _ _ _ _ _ _ (T98.setTop (mkF m 228 (fL4 p0 p1 p2 p3 x1 (8 : Int32) (3 : Int32) b4) [(.int (3 : Int32)), (.int x1), (.int p0), (.int (own_get (own_pk p0 x1 8) (24 : Int32)))]))
                    obtain ⟨_, T99, L99, X99, hQ99, st99⟩ := callStat X98 hx hZ hown (hw _ (List.mem_of_getElem? (i := 10) rfl)) (hw _ (List.mem_of_getElem? (i := 11) rfl)) (hw _ (List.mem_of_getElem? (i := 12) rfl)) (hw _ (List.mem_of_getElem? (i := 13) rfl)) (by decide) (rm_sh l Z a0 hw [] p0 x1 (3 : Int32) T28.heap n0 ) (W := 1) (by decide) (by decide) eq98 (g := (mkF m 228 (fL4 p0 p1 p2 p3 x1 (8 : Int32) (3 : Int32) b4) [(.int (3 : Int32)), (.int x1), (.int p0), (.int (own_get (own_pk p0 x1 8) (24 : Int32)))])) rfl (by rw [hml]; rfl) (argsL := [(.int p0), (.int x1), (.int (3 : Int32))]) (rest := [(.int (own_get (own_pk p0 x1 8) (24 : Int32)))]) rfl (lenOf pd__III_I rfl) rfl (by show 2 * 0 + _ ≤ _; exact Nat.le_of_eq rfl) (hb hby at_228) (by decide) (by decide)
                    obtain ⟨rfl, Nq99, eq99⟩ := hQ99
                    have N99 := Fr.app N98 Nq99
                    refine go st99 ?_
                    show OwnEnd _ _ _ _ _ _ _ (T99.setTop (mkF m 231 (fL4 p0 p1 p2 p3 x1 (8 : Int32) (3 : Int32) b4) [(.int (own_sh p0 x1 3)), (.int (own_get (own_pk p0 x1 8) (24 : Int32)))]))
                    by_cases hc231_100 : (own_get (own_pk p0 x1 8) (24 : Int32)) = (own_sh p0 x1 3)
                    · refine go (fun _ k => by refine XS.icmpNo X99.here hx rfl (hb hby at_231) rfl (teq hc231_100).2 ?_; exact k) ?_
                      show OwnEnd _ _ _ _ _ _ _ (T99.setTop (mkF m 234 (fL4 p0 p1 p2 p3 x1 (8 : Int32) (3 : Int32) b4) []))
                      refine go (fun _ k => by refine XS.iconst X99.here hx rfl (hb hby at_234) ?_; exact k) ?_
                      refine go (fun _ k => by refine XS.goto X99.here hx rfl (pc0 := 235) (pc' := 239) rfl (hb hby at_235) (by decide) (by decide) ?_; exact k) ?_
                      show OwnEnd _ _ _ _ _ _ _ (T99.setTop (mkF m 239 (fL4 p0 p1 p2 p3 x1 (8 : Int32) (3 : Int32) b4) [(.int (1 : Int32))]))
                      refine endN X99 hx hlk (t := .boolean) (by simp) Bd.returns (hb hby at_239) eq99 (by decide) (by decide) ?_
                      exact ⟨rfl, N99⟩
                    · refine go (fun _ k => by refine XS.icmpYes X99.here hx rfl (pc0 := 231) (pc' := 238) rfl (hb hby at_231) rfl (feq hc231_100).2 (by decide) (by decide) ?_; exact k) ?_
                      show OwnEnd _ _ _ _ _ _ _ (T99.setTop (mkF m 238 (fL4 p0 p1 p2 p3 x1 (8 : Int32) (3 : Int32) b4) []))
                      refine go (fun _ k => by refine XS.iconst X99.here hx rfl (hb hby at_238) ?_; exact k) ?_
                      show OwnEnd _ _ _ _ _ _ _ (T99.setTop (mkF m 239 (fL4 p0 p1 p2 p3 x1 (8 : Int32) (3 : Int32) b4) [(.int (0 : Int32))]))
                      refine endN X99 hx hlk (t := .boolean) (by simp) Bd.returns (hb hby at_239) eq99 (by decide) (by decide) ?_
                      exact absurd (own_at3_8 _ _) hc231_100
                  · refine go (fun _ k => by refine XS.aload X28.here hx rfl (hb hby at_216) rfl rfl ?_; exact k) ?_
                    refine go (fun _ k => by refine XS.iload X28.here hx rfl (hb hby at_218) rfl ?_; exact k) ?_
                    show OwnEnd _ _ _ _ _ _ _ (T28.setTop (mkF m 220 (fL4 p0 p1 p2 p3 x1 (8 : Int32) (4 : Int32) b4) [(.int (4 : Int32)), (.ref b4)]))
                    obtain ⟨_, T101, L101, X101, hQ101, st101⟩ := callVirt X28 hx hZ hown (hw _ (List.mem_of_getElem? (i := 28) rfl)) (hw _ (List.mem_of_getElem? (i := 24) rfl)) (notFace_of_selects (args := #[]) (mvT hZ (hw _ (List.mem_of_getElem? (i := 26) rfl)))) (hw _ (List.mem_of_getElem? (i := 26) rfl)) (hw _ (List.mem_of_getElem? (i := 25) rfl)) (hw _ (List.mem_of_getElem? (i := 3) rfl)) (hw _ (List.mem_of_getElem? (i := 27) rfl)) (by decide) (rm_get4 l Z a0 hw [] b4 (own_pk p0 x1 8) T28.heap n0 F_packed_b4) (W := 0) (by decide) (by decide) rfl E_b4 (g := (mkF m 220 (fL4 p0 p1 p2 p3 x1 (8 : Int32) (4 : Int32) b4) [(.int (4 : Int32)), (.ref b4)])) rfl (by rw [hml]; rfl) (argsL := [(.int (4 : Int32))]) (rest := []) rfl (lenOf pd__I_I rfl) rfl (by show 2 * 0 + _ ≤ _; exact Nat.le_of_eq rfl) (hb hby at_220) (by decide) (by decide)
                    obtain ⟨rfl, Nq101, eq101⟩ := hQ101
                    have N101 := Fr.app N28 Nq101
                    refine go st101 ?_
                    refine go (fun _ k => by refine XS.iloadN X101.here hx rfl (hb hby at_223) rfl ?_; exact k) ?_
                    refine go (fun _ k => by refine XS.iload X101.here hx rfl (hb hby at_224) rfl ?_; exact k) ?_
                    refine go (fun _ k => by refine XS.iload X101.here hx rfl (hb hby at_226) rfl ?_; exact k) ?_
                    show OwnEnd _ _ _ _ _ _ _ (T101.setTop (mkF m 228 (fL4 p0 p1 p2 p3 x1 (8 : Int32) (4 : Int32) b4) [(.int (4 : Int32)), (.int x1), (.int p0), (.int (own_get (own_pk p0 x1 8) (32 : Int32)))]))
                    obtain ⟨_, T102, L102, X102, hQ102, st102⟩ := callStat X101 hx hZ hown (hw _ (List.mem_of_getElem? (i := 10) rfl)) (hw _ (List.mem_of_getElem? (i := 11) rfl)) (hw _ (List.mem_of_getElem? (i := 12) rfl)) (hw _ (List.mem_of_getElem? (i := 13) rfl)) (by decide) (rm_sh l Z a0 hw [] p0 x1 (4 : Int32) T28.heap n0 ) (W := 1) (by decide) (by decide) eq101 (g := (mkF m 228 (fL4 p0 p1 p2 p3 x1 (8 : Int32) (4 : Int32) b4) [(.int (4 : Int32)), (.int x1), (.int p0), (.int (own_get (own_pk p0 x1 8) (32 : Int32)))])) rfl (by rw [hml]; rfl) (argsL := [(.int p0), (.int x1), (.int (4 : Int32))]) (rest := [(.int (own_get (own_pk p0 x1 8) (32 : Int32)))]) rfl (lenOf pd__III_I rfl) rfl (by show 2 * 0 + _ ≤ _; exact Nat.le_of_eq rfl) (hb hby at_228) (by decide) (by decide)
                    obtain ⟨rfl, Nq102, eq102⟩ := hQ102
                    have N102 := Fr.app N101 Nq102
                    refine go st102 ?_
                    show OwnEnd _ _ _ _ _ _ _ (T102.setTop (mkF m 231 (fL4 p0 p1 p2 p3 x1 (8 : Int32) (4 : Int32) b4) [(.int (own_sh p0 x1 4)), (.int (own_get (own_pk p0 x1 8) (32 : Int32)))]))
                    by_cases hc231_103 : (own_get (own_pk p0 x1 8) (32 : Int32)) = (own_sh p0 x1 4)
                    · refine go (fun _ k => by refine XS.icmpNo X102.here hx rfl (hb hby at_231) rfl (teq hc231_103).2 ?_; exact k) ?_
                      show OwnEnd _ _ _ _ _ _ _ (T102.setTop (mkF m 234 (fL4 p0 p1 p2 p3 x1 (8 : Int32) (4 : Int32) b4) []))
                      refine go (fun _ k => by refine XS.iconst X102.here hx rfl (hb hby at_234) ?_; exact k) ?_
                      refine go (fun _ k => by refine XS.goto X102.here hx rfl (pc0 := 235) (pc' := 239) rfl (hb hby at_235) (by decide) (by decide) ?_; exact k) ?_
                      show OwnEnd _ _ _ _ _ _ _ (T102.setTop (mkF m 239 (fL4 p0 p1 p2 p3 x1 (8 : Int32) (4 : Int32) b4) [(.int (1 : Int32))]))
                      refine endN X102 hx hlk (t := .boolean) (by simp) Bd.returns (hb hby at_239) eq102 (by decide) (by decide) ?_
                      exact ⟨rfl, N102⟩
                    · refine go (fun _ k => by refine XS.icmpYes X102.here hx rfl (pc0 := 231) (pc' := 238) rfl (hb hby at_231) rfl (feq hc231_103).2 (by decide) (by decide) ?_; exact k) ?_
                      show OwnEnd _ _ _ _ _ _ _ (T102.setTop (mkF m 238 (fL4 p0 p1 p2 p3 x1 (8 : Int32) (4 : Int32) b4) []))
                      refine go (fun _ k => by refine XS.iconst X102.here hx rfl (hb hby at_238) ?_; exact k) ?_
                      show OwnEnd _ _ _ _ _ _ _ (T102.setTop (mkF m 239 (fL4 p0 p1 p2 p3 x1 (8 : Int32) (4 : Int32) b4) [(.int (0 : Int32))]))
                      refine endN X102 hx hlk (t := .boolean) (by simp) Bd.returns (hb hby at_239) eq102 (by decide) (by decide) ?_
                      exact absurd (own_at4_8 _ _) hc231_103
                  · refine go (fun _ k => by refine XS.aload X28.here hx rfl (hb hby at_216) rfl rfl ?_; exact k) ?_
                    refine go (fun _ k => by refine XS.iload X28.here hx rfl (hb hby at_218) rfl ?_; exact k) ?_
                    show OwnEnd _ _ _ _ _ _ _ (T28.setTop (mkF m 220 (fL4 p0 p1 p2 p3 x1 (8 : Int32) (5 : Int32) b4) [(.int (5 : Int32)), (.ref b4)]))
                    obtain ⟨_, T104, L104, X104, hQ104, st104⟩ := callVirt X28 hx hZ hown (hw _ (List.mem_of_getElem? (i := 28) rfl)) (hw _ (List.mem_of_getElem? (i := 24) rfl)) (notFace_of_selects (args := #[]) (mvT hZ (hw _ (List.mem_of_getElem? (i := 26) rfl)))) (hw _ (List.mem_of_getElem? (i := 26) rfl)) (hw _ (List.mem_of_getElem? (i := 25) rfl)) (hw _ (List.mem_of_getElem? (i := 3) rfl)) (hw _ (List.mem_of_getElem? (i := 27) rfl)) (by decide) (rm_get5 l Z a0 hw [] b4 (own_pk p0 x1 8) T28.heap n0 F_packed_b4) (W := 0) (by decide) (by decide) rfl E_b4 (g := (mkF m 220 (fL4 p0 p1 p2 p3 x1 (8 : Int32) (5 : Int32) b4) [(.int (5 : Int32)), (.ref b4)])) rfl (by rw [hml]; rfl) (argsL := [(.int (5 : Int32))]) (rest := []) rfl (lenOf pd__I_I rfl) rfl (by show 2 * 0 + _ ≤ _; exact Nat.le_of_eq rfl) (hb hby at_220) (by decide) (by decide)
                    obtain ⟨rfl, Nq104, eq104⟩ := hQ104
                    have N104 := Fr.app N28 Nq104
                    refine go st104 ?_
                    refine go (fun _ k => by refine XS.iloadN X104.here hx rfl (hb hby at_223) rfl ?_; exact k) ?_
                    refine go (fun _ k => by refine XS.iload X104.here hx rfl (hb hby at_224) rfl ?_; exact k) ?_
                    refine go (fun _ k => by refine XS.iload X104.here hx rfl (hb hby at_226) rfl ?_; exact k) ?_
                    show OwnEnd _ _ _ _ _ _ _ (T104.setTop (mkF m 228 (fL4 p0 p1 p2 p3 x1 (8 : Int32) (5 : Int32) b4) [(.int (5 : Int32)), (.int x1), (.int p0), (.int (own_get (own_pk p0 x1 8) (40 : Int32)))]))
                    obtain ⟨_, T105, L105, X105, hQ105, st105⟩ := callStat X104 hx hZ hown (hw _ (List.mem_of_getElem? (i := 10) rfl)) (hw _ (List.mem_of_getElem? (i := 11) rfl)) (hw _ (List.mem_of_getElem? (i := 12) rfl)) (hw _ (List.mem_of_getElem? (i := 13) rfl)) (by decide) (rm_sh l Z a0 hw [] p0 x1 (5 : Int32) T28.heap n0 ) (W := 1) (by decide) (by decide) eq104 (g := (mkF m 228 (fL4 p0 p1 p2 p3 x1 (8 : Int32) (5 : Int32) b4) [(.int (5 : Int32)), (.int x1), (.int p0), (.int (own_get (own_pk p0 x1 8) (40 : Int32)))])) rfl (by rw [hml]; rfl) (argsL := [(.int p0), (.int x1), (.int (5 : Int32))]) (rest := [(.int (own_get (own_pk p0 x1 8) (40 : Int32)))]) rfl (lenOf pd__III_I rfl) rfl (by show 2 * 0 + _ ≤ _; exact Nat.le_of_eq rfl) (hb hby at_228) (by decide) (by decide)
                    obtain ⟨rfl, Nq105, eq105⟩ := hQ105
                    have N105 := Fr.app N104 Nq105
                    refine go st105 ?_
                    show OwnEnd _ _ _ _ _ _ _ (T105.setTop (mkF m 231 (fL4 p0 p1 p2 p3 x1 (8 : Int32) (5 : Int32) b4) [(.int (own_sh p0 x1 5)), (.int (own_get (own_pk p0 x1 8) (40 : Int32)))]))
                    by_cases hc231_106 : (own_get (own_pk p0 x1 8) (40 : Int32)) = (own_sh p0 x1 5)
                    · refine go (fun _ k => by refine XS.icmpNo X105.here hx rfl (hb hby at_231) rfl (teq hc231_106).2 ?_; exact k) ?_
                      show OwnEnd _ _ _ _ _ _ _ (T105.setTop (mkF m 234 (fL4 p0 p1 p2 p3 x1 (8 : Int32) (5 : Int32) b4) []))
                      refine go (fun _ k => by refine XS.iconst X105.here hx rfl (hb hby at_234) ?_; exact k) ?_
                      refine go (fun _ k => by refine XS.goto X105.here hx rfl (pc0 := 235) (pc' := 239) rfl (hb hby at_235) (by decide) (by decide) ?_; exact k) ?_
                      show OwnEnd _ _ _ _ _ _ _ (T105.setTop (mkF m 239 (fL4 p0 p1 p2 p3 x1 (8 : Int32) (5 : Int32) b4) [(.int (1 : Int32))]))
                      refine endN X105 hx hlk (t := .boolean) (by simp) Bd.returns (hb hby at_239) eq105 (by decide) (by decide) ?_
                      exact ⟨rfl, N105⟩
                    · refine go (fun _ k => by refine XS.icmpYes X105.here hx rfl (pc0 := 231) (pc' := 238) rfl (hb hby at_231) rfl (feq hc231_106).2 (by decide) (by decide) ?_; exact k) ?_
                      show OwnEnd _ _ _ _ _ _ _ (T105.setTop (mkF m 238 (fL4 p0 p1 p2 p3 x1 (8 : Int32) (5 : Int32) b4) []))
                      refine go (fun _ k => by refine XS.iconst X105.here hx rfl (hb hby at_238) ?_; exact k) ?_
                      show OwnEnd _ _ _ _ _ _ _ (T105.setTop (mkF m 239 (fL4 p0 p1 p2 p3 x1 (8 : Int32) (5 : Int32) b4) [(.int (0 : Int32))]))
                      refine endN X105 hx hlk (t := .boolean) (by simp) Bd.returns (hb hby at_239) eq105 (by decide) (by decide) ?_
                      exact absurd (own_at5_8 _ _) hc231_106
                  · refine go (fun _ k => by refine XS.aload X28.here hx rfl (hb hby at_216) rfl rfl ?_; exact k) ?_
                    refine go (fun _ k => by refine XS.iload X28.here hx rfl (hb hby at_218) rfl ?_; exact k) ?_
                    show OwnEnd _ _ _ _ _ _ _ (T28.setTop (mkF m 220 (fL4 p0 p1 p2 p3 x1 (8 : Int32) (6 : Int32) b4) [(.int (6 : Int32)), (.ref b4)]))
                    obtain ⟨_, T107, L107, X107, hQ107, st107⟩ := callVirt X28 hx hZ hown (hw _ (List.mem_of_getElem? (i := 28) rfl)) (hw _ (List.mem_of_getElem? (i := 24) rfl)) (notFace_of_selects (args := #[]) (mvT hZ (hw _ (List.mem_of_getElem? (i := 26) rfl)))) (hw _ (List.mem_of_getElem? (i := 26) rfl)) (hw _ (List.mem_of_getElem? (i := 25) rfl)) (hw _ (List.mem_of_getElem? (i := 3) rfl)) (hw _ (List.mem_of_getElem? (i := 27) rfl)) (by decide) (rm_get6 l Z a0 hw [] b4 (own_pk p0 x1 8) T28.heap n0 F_packed_b4) (W := 0) (by decide) (by decide) rfl E_b4 (g := (mkF m 220 (fL4 p0 p1 p2 p3 x1 (8 : Int32) (6 : Int32) b4) [(.int (6 : Int32)), (.ref b4)])) rfl (by rw [hml]; rfl) (argsL := [(.int (6 : Int32))]) (rest := []) rfl (lenOf pd__I_I rfl) rfl (by show 2 * 0 + _ ≤ _; exact Nat.le_of_eq rfl) (hb hby at_220) (by decide) (by decide)
                    obtain ⟨rfl, Nq107, eq107⟩ := hQ107
                    have N107 := Fr.app N28 Nq107
                    refine go st107 ?_
                    refine go (fun _ k => by refine XS.iloadN X107.here hx rfl (hb hby at_223) rfl ?_; exact k) ?_
                    refine go (fun _ k => by refine XS.iload X107.here hx rfl (hb hby at_224) rfl ?_; exact k) ?_
                    refine go (fun _ k => by refine XS.iload X107.here hx rfl (hb hby at_226) rfl ?_; exact k) ?_
                    show OwnEnd _ _ _ _ _ _ _ (T107.setTop (mkF m 228 (fL4 p0 p1 p2 p3 x1 (8 : Int32) (6 : Int32) b4) [(.int (6 : Int32)), (.int x1), (.int p0), (.int (own_get (own_pk p0 x1 8) (48 : Int32)))]))
                    obtain ⟨_, T108, L108, X108, hQ108, st108⟩ := callStat X107 hx hZ hown (hw _ (List.mem_of_getElem? (i := 10) rfl)) (hw _ (List.mem_of_getElem? (i := 11) rfl)) (hw _ (List.mem_of_getElem? (i := 12) rfl)) (hw _ (List.mem_of_getElem? (i := 13) rfl)) (by decide) (rm_sh l Z a0 hw [] p0 x1 (6 : Int32) T28.heap n0 ) (W := 1) (by decide) (by decide) eq107 (g := (mkF m 228 (fL4 p0 p1 p2 p3 x1 (8 : Int32) (6 : Int32) b4) [(.int (6 : Int32)), (.int x1), (.int p0), (.int (own_get (own_pk p0 x1 8) (48 : Int32)))])) rfl (by rw [hml]; rfl) (argsL := [(.int p0), (.int x1), (.int (6 : Int32))]) (rest := [(.int (own_get (own_pk p0 x1 8) (48 : Int32)))]) rfl (lenOf pd__III_I rfl) rfl (by show 2 * 0 + _ ≤ _; exact Nat.le_of_eq rfl) (hb hby at_228) (by decide) (by decide)
                    obtain ⟨rfl, Nq108, eq108⟩ := hQ108
                    have N108 := Fr.app N107 Nq108
                    refine go st108 ?_
                    show OwnEnd _ _ _ _ _ _ _ (T108.setTop (mkF m 231 (fL4 p0 p1 p2 p3 x1 (8 : Int32) (6 : Int32) b4) [(.int (own_sh p0 x1 6)), (.int (own_get (own_pk p0 x1 8) (48 : Int32)))]))
                    by_cases hc231_109 : (own_get (own_pk p0 x1 8) (48 : Int32)) = (own_sh p0 x1 6)
                    · refine go (fun _ k => by refine XS.icmpNo X108.here hx rfl (hb hby at_231) rfl (teq hc231_109).2 ?_; exact k) ?_
                      show OwnEnd _ _ _ _ _ _ _ (T108.setTop (mkF m 234 (fL4 p0 p1 p2 p3 x1 (8 : Int32) (6 : Int32) b4) []))
                      refine go (fun _ k => by refine XS.iconst X108.here hx rfl (hb hby at_234) ?_; exact k) ?_
                      refine go (fun _ k => by refine XS.goto X108.here hx rfl (pc0 := 235) (pc' := 239) rfl (hb hby at_235) (by decide) (by decide) ?_; exact k) ?_
                      show OwnEnd _ _ _ _ _ _ _ (T108.setTop (mkF m 239 (fL4 p0 p1 p2 p3 x1 (8 : Int32) (6 : Int32) b4) [(.int (1 : Int32))]))
                      refine endN X108 hx hlk (t := .boolean) (by simp) Bd.returns (hb hby at_239) eq108 (by decide) (by decide) ?_
                      exact ⟨rfl, N108⟩
                    · refine go (fun _ k => by refine XS.icmpYes X108.here hx rfl (pc0 := 231) (pc' := 238) rfl (hb hby at_231) rfl (feq hc231_109).2 (by decide) (by decide) ?_; exact k) ?_
                      show OwnEnd _ _ _ _ _ _ _ (T108.setTop (mkF m 238 (fL4 p0 p1 p2 p3 x1 (8 : Int32) (6 : Int32) b4) []))
                      refine go (fun _ k => by refine XS.iconst X108.here hx rfl (hb hby at_238) ?_; exact k) ?_
                      show OwnEnd _ _ _ _ _ _ _ (T108.setTop (mkF m 239 (fL4 p0 p1 p2 p3 x1 (8 : Int32) (6 : Int32) b4) [(.int (0 : Int32))]))
                      refine endN X108 hx hlk (t := .boolean) (by simp) Bd.returns (hb hby at_239) eq108 (by decide) (by decide) ?_
                      exact absurd (own_at6_8 _ _) hc231_109
                  · refine go (fun _ k => by refine XS.aload X28.here hx rfl (hb hby at_216) rfl rfl ?_; exact k) ?_
                    refine go (fun _ k => by refine XS.iload X28.here hx rfl (hb hby at_218) rfl ?_; exact k) ?_
                    show OwnEnd _ _ _ _ _ _ _ (T28.setTop (mkF m 220 (fL4 p0 p1 p2 p3 x1 (8 : Int32) (7 : Int32) b4) [(.int (7 : Int32)), (.ref b4)]))
                    obtain ⟨_, T110, L110, X110, hQ110, st110⟩ := callVirt X28 hx hZ hown (hw _ (List.mem_of_getElem? (i := 28) rfl)) (hw _ (List.mem_of_getElem? (i := 24) rfl)) (notFace_of_selects (args := #[]) (mvT hZ (hw _ (List.mem_of_getElem? (i := 26) rfl)))) (hw _ (List.mem_of_getElem? (i := 26) rfl)) (hw _ (List.mem_of_getElem? (i := 25) rfl)) (hw _ (List.mem_of_getElem? (i := 3) rfl)) (hw _ (List.mem_of_getElem? (i := 27) rfl)) (by decide) (rm_get7 l Z a0 hw [] b4 (own_pk p0 x1 8) T28.heap n0 F_packed_b4) (W := 0) (by decide) (by decide) rfl E_b4 (g := (mkF m 220 (fL4 p0 p1 p2 p3 x1 (8 : Int32) (7 : Int32) b4) [(.int (7 : Int32)), (.ref b4)])) rfl (by rw [hml]; rfl) (argsL := [(.int (7 : Int32))]) (rest := []) rfl (lenOf pd__I_I rfl) rfl (by show 2 * 0 + _ ≤ _; exact Nat.le_of_eq rfl) (hb hby at_220) (by decide) (by decide)
                    obtain ⟨rfl, Nq110, eq110⟩ := hQ110
                    have N110 := Fr.app N28 Nq110
                    refine go st110 ?_
                    refine go (fun _ k => by refine XS.iloadN X110.here hx rfl (hb hby at_223) rfl ?_; exact k) ?_
                    refine go (fun _ k => by refine XS.iload X110.here hx rfl (hb hby at_224) rfl ?_; exact k) ?_
                    refine go (fun _ k => by refine XS.iload X110.here hx rfl (hb hby at_226) rfl ?_; exact k) ?_
                    show OwnEnd _ _ _ _ _ _ _ (T110.setTop (mkF m 228 (fL4 p0 p1 p2 p3 x1 (8 : Int32) (7 : Int32) b4) [(.int (7 : Int32)), (.int x1), (.int p0), (.int (own_get (own_pk p0 x1 8) (56 : Int32)))]))
                    obtain ⟨_, T111, L111, X111, hQ111, st111⟩ := callStat X110 hx hZ hown (hw _ (List.mem_of_getElem? (i := 10) rfl)) (hw _ (List.mem_of_getElem? (i := 11) rfl)) (hw _ (List.mem_of_getElem? (i := 12) rfl)) (hw _ (List.mem_of_getElem? (i := 13) rfl)) (by decide) (rm_sh l Z a0 hw [] p0 x1 (7 : Int32) T28.heap n0 ) (W := 1) (by decide) (by decide) eq110 (g := (mkF m 228 (fL4 p0 p1 p2 p3 x1 (8 : Int32) (7 : Int32) b4) [(.int (7 : Int32)), (.int x1), (.int p0), (.int (own_get (own_pk p0 x1 8) (56 : Int32)))])) rfl (by rw [hml]; rfl) (argsL := [(.int p0), (.int x1), (.int (7 : Int32))]) (rest := [(.int (own_get (own_pk p0 x1 8) (56 : Int32)))]) rfl (lenOf pd__III_I rfl) rfl (by show 2 * 0 + _ ≤ _; exact Nat.le_of_eq rfl) (hb hby at_228) (by decide) (by decide)
                    obtain ⟨rfl, Nq111, eq111⟩ := hQ111
                    have N111 := Fr.app N110 Nq111
                    refine go st111 ?_
                    show OwnEnd _ _ _ _ _ _ _ (T111.setTop (mkF m 231 (fL4 p0 p1 p2 p3 x1 (8 : Int32) (7 : Int32) b4) [(.int (own_sh p0 x1 7)), (.int (own_get (own_pk p0 x1 8) (56 : Int32)))]))
                    by_cases hc231_112 : (own_get (own_pk p0 x1 8) (56 : Int32)) = (own_sh p0 x1 7)
                    · refine go (fun _ k => by refine XS.icmpNo X111.here hx rfl (hb hby at_231) rfl (teq hc231_112).2 ?_; exact k) ?_
                      show OwnEnd _ _ _ _ _ _ _ (T111.setTop (mkF m 234 (fL4 p0 p1 p2 p3 x1 (8 : Int32) (7 : Int32) b4) []))
                      refine go (fun _ k => by refine XS.iconst X111.here hx rfl (hb hby at_234) ?_; exact k) ?_
                      refine go (fun _ k => by refine XS.goto X111.here hx rfl (pc0 := 235) (pc' := 239) rfl (hb hby at_235) (by decide) (by decide) ?_; exact k) ?_
                      show OwnEnd _ _ _ _ _ _ _ (T111.setTop (mkF m 239 (fL4 p0 p1 p2 p3 x1 (8 : Int32) (7 : Int32) b4) [(.int (1 : Int32))]))
                      refine endN X111 hx hlk (t := .boolean) (by simp) Bd.returns (hb hby at_239) eq111 (by decide) (by decide) ?_
                      exact ⟨rfl, N111⟩
                    · refine go (fun _ k => by refine XS.icmpYes X111.here hx rfl (pc0 := 231) (pc' := 238) rfl (hb hby at_231) rfl (feq hc231_112).2 (by decide) (by decide) ?_; exact k) ?_
                      show OwnEnd _ _ _ _ _ _ _ (T111.setTop (mkF m 238 (fL4 p0 p1 p2 p3 x1 (8 : Int32) (7 : Int32) b4) []))
                      refine go (fun _ k => by refine XS.iconst X111.here hx rfl (hb hby at_238) ?_; exact k) ?_
                      show OwnEnd _ _ _ _ _ _ _ (T111.setTop (mkF m 239 (fL4 p0 p1 p2 p3 x1 (8 : Int32) (7 : Int32) b4) [(.int (0 : Int32))]))
                      refine endN X111 hx hlk (t := .boolean) (by simp) Bd.returns (hb hby at_239) eq111 (by decide) (by decide) ?_
                      exact absurd (own_at7_8 _ _) hc231_112
              · obtain rfl : x2 = 7 := own_m7 _ _ qx2 hc140_23 hc160_26
                refine go (fun _ k => by refine XS.icmpYes X25.here hx rfl (pc0 := 160) (pc' := 176) rfl (hb hby at_160) rfl (flt hc160_26).2.2.2 (by decide) (by decide) ?_; exact k) ?_
                show OwnEnd _ _ _ _ _ _ _ (T25.setTop (mkF m 176 (fL4 p0 p1 p2 p3 x1 (7 : Int32) x3 b4) []))
                refine go (fun _ k => by refine XS.iload X25.here hx rfl (hb hby at_176) rfl ?_; exact k) ?_
                refine go (fun _ k => by refine XS.bipush X25.here hx rfl (hb hby at_178) ?_; exact k) ?_
                show OwnEnd _ _ _ _ _ _ _ (T25.setTop (mkF m 180 (fL4 p0 p1 p2 p3 x1 (7 : Int32) x3 b4) [(.int (8 : Int32)), (.int (7 : Int32))]))
                refine go (fun _ k => by refine XS.icmpYes X25.here hx rfl (pc0 := 180) (pc' := 196) rfl (hb hby at_180) rfl (flt (by decide)).2.2.2 (by decide) (by decide) ?_; exact k) ?_
                refine go (fun _ k => by refine XS.iload X25.here hx rfl (hb hby at_196) rfl ?_; exact k) ?_
                refine go (fun _ k => by refine XS.bipush X25.here hx rfl (hb hby at_198) ?_; exact k) ?_
                show OwnEnd _ _ _ _ _ _ _ (T25.setTop (mkF m 200 (fL4 p0 p1 p2 p3 x1 (7 : Int32) x3 b4) [(.int (9 : Int32)), (.int (7 : Int32))]))
                refine go (fun _ k => by refine XS.icmpYes X25.here hx rfl (pc0 := 200) (pc' := 216) rfl (hb hby at_200) rfl (flt (by decide)).2.2.2 (by decide) (by decide) ?_; exact k) ?_
                show OwnEnd _ _ _ _ _ _ _ (T25.setTop (mkF m 216 (fL4 p0 p1 p2 p3 x1 (7 : Int32) x3 b4) []))
                rcases own_i7 _ _ qx3 with rfl | rfl | rfl | rfl | rfl | rfl | rfl
                · refine go (fun _ k => by refine XS.aload X25.here hx rfl (hb hby at_216) rfl rfl ?_; exact k) ?_
                  refine go (fun _ k => by refine XS.iload X25.here hx rfl (hb hby at_218) rfl ?_; exact k) ?_
                  show OwnEnd _ _ _ _ _ _ _ (T25.setTop (mkF m 220 (fL4 p0 p1 p2 p3 x1 (7 : Int32) (0 : Int32) b4) [(.int (0 : Int32)), (.ref b4)]))
                  obtain ⟨_, T113, L113, X113, hQ113, st113⟩ := callVirt X25 hx hZ hown (hw _ (List.mem_of_getElem? (i := 28) rfl)) (hw _ (List.mem_of_getElem? (i := 24) rfl)) (notFace_of_selects (args := #[]) (mvT hZ (hw _ (List.mem_of_getElem? (i := 26) rfl)))) (hw _ (List.mem_of_getElem? (i := 26) rfl)) (hw _ (List.mem_of_getElem? (i := 25) rfl)) (hw _ (List.mem_of_getElem? (i := 3) rfl)) (hw _ (List.mem_of_getElem? (i := 27) rfl)) (by decide) (rm_get0 l Z a0 hw [] b4 (own_pk p0 x1 7) T25.heap n0 F_packed_b4) (W := 0) (by decide) (by decide) rfl E_b4 (g := (mkF m 220 (fL4 p0 p1 p2 p3 x1 (7 : Int32) (0 : Int32) b4) [(.int (0 : Int32)), (.ref b4)])) rfl (by rw [hml]; rfl) (argsL := [(.int (0 : Int32))]) (rest := []) rfl (lenOf pd__I_I rfl) rfl (by show 2 * 0 + _ ≤ _; exact Nat.le_of_eq rfl) (hb hby at_220) (by decide) (by decide)
                  obtain ⟨rfl, Nq113, eq113⟩ := hQ113
                  have N113 := Fr.app N25 Nq113
                  refine go st113 ?_
                  refine go (fun _ k => by refine XS.iloadN X113.here hx rfl (hb hby at_223) rfl ?_; exact k) ?_
                  refine go (fun _ k => by refine XS.iload X113.here hx rfl (hb hby at_224) rfl ?_; exact k) ?_
                  refine go (fun _ k => by refine XS.iload X113.here hx rfl (hb hby at_226) rfl ?_; exact k) ?_
                  show OwnEnd _ _ _ _ _ _ _ (T113.setTop (mkF m 228 (fL4 p0 p1 p2 p3 x1 (7 : Int32) (0 : Int32) b4) [(.int (0 : Int32)), (.int x1), (.int p0), (.int (own_get (own_pk p0 x1 7) (0 : Int32)))]))
                  obtain ⟨_, T114, L114, X114, hQ114, st114⟩ := callStat X113 hx hZ hown (hw _ (List.mem_of_getElem? (i := 10) rfl)) (hw _ (List.mem_of_getElem? (i := 11) rfl)) (hw _ (List.mem_of_getElem? (i := 12) rfl)) (hw _ (List.mem_of_getElem? (i := 13) rfl)) (by decide) (rm_sh l Z a0 hw [] p0 x1 (0 : Int32) T25.heap n0 ) (W := 1) (by decide) (by decide) eq113 (g := (mkF m 228 (fL4 p0 p1 p2 p3 x1 (7 : Int32) (0 : Int32) b4) [(.int (0 : Int32)), (.int x1), (.int p0), (.int (own_get (own_pk p0 x1 7) (0 : Int32)))])) rfl (by rw [hml]; rfl) (argsL := [(.int p0), (.int x1), (.int (0 : Int32))]) (rest := [(.int (own_get (own_pk p0 x1 7) (0 : Int32)))]) rfl (lenOf pd__III_I rfl) rfl (by show 2 * 0 + _ ≤ _; exact Nat.le_of_eq rfl) (hb hby at_228) (by decide) (by decide)
                  obtain ⟨rfl, Nq114, eq114⟩ := hQ114
                  have N114 := Fr.app N113 Nq114
                  refine go st114 ?_
                  show OwnEnd _ _ _ _ _ _ _ (T114.setTop (mkF m 231 (fL4 p0 p1 p2 p3 x1 (7 : Int32) (0 : Int32) b4) [(.int (own_sh p0 x1 0)), (.int (own_get (own_pk p0 x1 7) (0 : Int32)))]))
                  by_cases hc231_115 : (own_get (own_pk p0 x1 7) (0 : Int32)) = (own_sh p0 x1 0)
                  · refine go (fun _ k => by refine XS.icmpNo X114.here hx rfl (hb hby at_231) rfl (teq hc231_115).2 ?_; exact k) ?_
                    show OwnEnd _ _ _ _ _ _ _ (T114.setTop (mkF m 234 (fL4 p0 p1 p2 p3 x1 (7 : Int32) (0 : Int32) b4) []))
                    refine go (fun _ k => by refine XS.iconst X114.here hx rfl (hb hby at_234) ?_; exact k) ?_
                    refine go (fun _ k => by refine XS.goto X114.here hx rfl (pc0 := 235) (pc' := 239) rfl (hb hby at_235) (by decide) (by decide) ?_; exact k) ?_
                    show OwnEnd _ _ _ _ _ _ _ (T114.setTop (mkF m 239 (fL4 p0 p1 p2 p3 x1 (7 : Int32) (0 : Int32) b4) [(.int (1 : Int32))]))
                    refine endN X114 hx hlk (t := .boolean) (by simp) Bd.returns (hb hby at_239) eq114 (by decide) (by decide) ?_
                    exact ⟨rfl, N114⟩
                  · refine go (fun _ k => by refine XS.icmpYes X114.here hx rfl (pc0 := 231) (pc' := 238) rfl (hb hby at_231) rfl (feq hc231_115).2 (by decide) (by decide) ?_; exact k) ?_
                    show OwnEnd _ _ _ _ _ _ _ (T114.setTop (mkF m 238 (fL4 p0 p1 p2 p3 x1 (7 : Int32) (0 : Int32) b4) []))
                    refine go (fun _ k => by refine XS.iconst X114.here hx rfl (hb hby at_238) ?_; exact k) ?_
                    show OwnEnd _ _ _ _ _ _ _ (T114.setTop (mkF m 239 (fL4 p0 p1 p2 p3 x1 (7 : Int32) (0 : Int32) b4) [(.int (0 : Int32))]))
                    refine endN X114 hx hlk (t := .boolean) (by simp) Bd.returns (hb hby at_239) eq114 (by decide) (by decide) ?_
                    exact absurd (own_at0_7 _ _) hc231_115
                · refine go (fun _ k => by refine XS.aload X25.here hx rfl (hb hby at_216) rfl rfl ?_; exact k) ?_
                  refine go (fun _ k => by refine XS.iload X25.here hx rfl (hb hby at_218) rfl ?_; exact k) ?_
                  show OwnEnd _ _ _ _ _ _ _ (T25.setTop (mkF m 220 (fL4 p0 p1 p2 p3 x1 (7 : Int32) (1 : Int32) b4) [(.int (1 : Int32)), (.ref b4)]))
                  obtain ⟨_, T116, L116, X116, hQ116, st116⟩ := callVirt X25 hx hZ hown (hw _ (List.mem_of_getElem? (i := 28) rfl)) (hw _ (List.mem_of_getElem? (i := 24) rfl)) (notFace_of_selects (args := #[]) (mvT hZ (hw _ (List.mem_of_getElem? (i := 26) rfl)))) (hw _ (List.mem_of_getElem? (i := 26) rfl)) (hw _ (List.mem_of_getElem? (i := 25) rfl)) (hw _ (List.mem_of_getElem? (i := 3) rfl)) (hw _ (List.mem_of_getElem? (i := 27) rfl)) (by decide) (rm_get1 l Z a0 hw [] b4 (own_pk p0 x1 7) T25.heap n0 F_packed_b4) (W := 0) (by decide) (by decide) rfl E_b4 (g := (mkF m 220 (fL4 p0 p1 p2 p3 x1 (7 : Int32) (1 : Int32) b4) [(.int (1 : Int32)), (.ref b4)])) rfl (by rw [hml]; rfl) (argsL := [(.int (1 : Int32))]) (rest := []) rfl (lenOf pd__I_I rfl) rfl (by show 2 * 0 + _ ≤ _; exact Nat.le_of_eq rfl) (hb hby at_220) (by decide) (by decide)
                  obtain ⟨rfl, Nq116, eq116⟩ := hQ116
                  have N116 := Fr.app N25 Nq116
                  refine go st116 ?_
                  refine go (fun _ k => by refine XS.iloadN X116.here hx rfl (hb hby at_223) rfl ?_; exact k) ?_
                  refine go (fun _ k => by refine XS.iload X116.here hx rfl (hb hby at_224) rfl ?_; exact k) ?_
                  refine go (fun _ k => by refine XS.iload X116.here hx rfl (hb hby at_226) rfl ?_; exact k) ?_
                  show OwnEnd _ _ _ _ _ _ _ (T116.setTop (mkF m 228 (fL4 p0 p1 p2 p3 x1 (7 : Int32) (1 : Int32) b4) [(.int (1 : Int32)), (.int x1), (.int p0), (.int (own_get (own_pk p0 x1 7) (8 : Int32)))]))
                  obtain ⟨_, T117, L117, X117, hQ117, st117⟩ := callStat X116 hx hZ hown (hw _ (List.mem_of_getElem? (i := 10) rfl)) (hw _ (List.mem_of_getElem? (i := 11) rfl)) (hw _ (List.mem_of_getElem? (i := 12) rfl)) (hw _ (List.mem_of_getElem? (i := 13) rfl)) (by decide) (rm_sh l Z a0 hw [] p0 x1 (1 : Int32) T25.heap n0 ) (W := 1) (by decide) (by decide) eq116 (g := (mkF m 228 (fL4 p0 p1 p2 p3 x1 (7 : Int32) (1 : Int32) b4) [(.int (1 : Int32)), (.int x1), (.int p0), (.int (own_get (own_pk p0 x1 7) (8 : Int32)))])) rfl (by rw [hml]; rfl) (argsL := [(.int p0), (.int x1), (.int (1 : Int32))]) (rest := [(.int (own_get (own_pk p0 x1 7) (8 : Int32)))]) rfl (lenOf pd__III_I rfl) rfl (by show 2 * 0 + _ ≤ _; exact Nat.le_of_eq rfl) (hb hby at_228) (by decide) (by decide)
                  obtain ⟨rfl, Nq117, eq117⟩ := hQ117
                  have N117 := Fr.app N116 Nq117
                  refine go st117 ?_
                  show OwnEnd _ _ _ _ _ _ _ (T117.setTop (mkF m 231 (fL4 p0 p1 p2 p3 x1 (7 : Int32) (1 : Int32) b4) [(.int (own_sh p0 x1 1)), (.int (own_get (own_pk p0 x1 7) (8 : Int32)))]))
                  by_cases hc231_118 : (own_get (own_pk p0 x1 7) (8 : Int32)) = (own_sh p0 x1 1)
                  · refine go (fun _ k => by refine XS.icmpNo X117.here hx rfl (hb hby at_231) rfl (teq hc231_118).2 ?_; exact k) ?_
                    show OwnEnd _ _ _ _ _ _ _ (T117.setTop (mkF m 234 (fL4 p0 p1 p2 p3 x1 (7 : Int32) (1 : Int32) b4) []))
                    refine go (fun _ k => by refine XS.iconst X117.here hx rfl (hb hby at_234) ?_; exact k) ?_
                    refine go (fun _ k => by refine XS.goto X117.here hx rfl (pc0 := 235) (pc' := 239) rfl (hb hby at_235) (by decide) (by decide) ?_; exact k) ?_
                    show OwnEnd _ _ _ _ _ _ _ (T117.setTop (mkF m 239 (fL4 p0 p1 p2 p3 x1 (7 : Int32) (1 : Int32) b4) [(.int (1 : Int32))]))
                    refine endN X117 hx hlk (t := .boolean) (by simp) Bd.returns (hb hby at_239) eq117 (by decide) (by decide) ?_
                    exact ⟨rfl, N117⟩
                  · refine go (fun _ k => by refine XS.icmpYes X117.here hx rfl (pc0 := 231) (pc' := 238) rfl (hb hby at_231) rfl (feq hc231_118).2 (by decide) (by decide) ?_; exact k) ?_
                    show OwnEnd _ _ _ _ _ _ _ (T117.setTop (mkF m 238 (fL4 p0 p1 p2 p3 x1 (7 : Int32) (1 : Int32) b4) []))
                    refine go (fun _ k => by refine XS.iconst X117.here hx rfl (hb hby at_238) ?_; exact k) ?_
                    show OwnEnd _ _ _ _ _ _ _ (T117.setTop (mkF m 239 (fL4 p0 p1 p2 p3 x1 (7 : Int32) (1 : Int32) b4) [(.int (0 : Int32))]))
                    refine endN X117 hx hlk (t := .boolean) (by simp) Bd.returns (hb hby at_239) eq117 (by decide) (by decide) ?_
                    exact absurd (own_at1_7 _ _) hc231_118
                · refine go (fun _ k => by refine XS.aload X25.here hx rfl (hb hby at_216) rfl rfl ?_; exact k) ?_
                  refine go (fun _ k => by refine XS.iload X25.here hx rfl (hb hby at_218) rfl ?_; exact k) ?_
                  show OwnEnd _ _ _ _ _ _ _ (T25.setTop (mkF m 220 (fL4 p0 p1 p2 p3 x1 (7 : Int32) (2 : Int32) b4) [(.int (2 : Int32)), (.ref b4)]))
                  obtain ⟨_, T119, L119, X119, hQ119, st119⟩ := callVirt X25 hx hZ hown (hw _ (List.mem_of_getElem? (i := 28) rfl)) (hw _ (List.mem_of_getElem? (i := 24) rfl)) (notFace_of_selects (args := #[]) (mvT hZ (hw _ (List.mem_of_getElem? (i := 26) rfl)))) (hw _ (List.mem_of_getElem? (i := 26) rfl)) (hw _ (List.mem_of_getElem? (i := 25) rfl)) (hw _ (List.mem_of_getElem? (i := 3) rfl)) (hw _ (List.mem_of_getElem? (i := 27) rfl)) (by decide) (rm_get2 l Z a0 hw [] b4 (own_pk p0 x1 7) T25.heap n0 F_packed_b4) (W := 0) (by decide) (by decide) rfl E_b4 (g := (mkF m 220 (fL4 p0 p1 p2 p3 x1 (7 : Int32) (2 : Int32) b4) [(.int (2 : Int32)), (.ref b4)])) rfl (by rw [hml]; rfl) (argsL := [(.int (2 : Int32))]) (rest := []) rfl (lenOf pd__I_I rfl) rfl (by show 2 * 0 + _ ≤ _; exact Nat.le_of_eq rfl) (hb hby at_220) (by decide) (by decide)
                  obtain ⟨rfl, Nq119, eq119⟩ := hQ119
                  have N119 := Fr.app N25 Nq119
                  refine go st119 ?_
                  refine go (fun _ k => by refine XS.iloadN X119.here hx rfl (hb hby at_223) rfl ?_; exact k) ?_
                  refine go (fun _ k => by refine XS.iload X119.here hx rfl (hb hby at_224) rfl ?_; exact k) ?_
                  refine go (fun _ k => by refine XS.iload X119.here hx rfl (hb hby at_226) rfl ?_; exact k) ?_
                  show OwnEnd _ _ _ _ _ _ _ (T119.setTop (mkF m 228 (fL4 p0 p1 p2 p3 x1 (7 : Int32) (2 : Int32) b4) [(.int (2 : Int32)), (.int x1), (.int p0), (.int (own_get (own_pk p0 x1 7) (16 : Int32)))]))
                  obtain ⟨_, T120, L120, X120, hQ120, st120⟩ := callStat X119 hx hZ hown (hw _ (List.mem_of_getElem? (i := 10) rfl)) (hw _ (List.mem_of_getElem? (i := 11) rfl)) (hw _ (List.mem_of_getElem? (i := 12) rfl)) (hw _ (List.mem_of_getElem? (i := 13) rfl)) (by decide) (rm_sh l Z a0 hw [] p0 x1 (2 : Int32) T25.heap n0 ) (W := 1) (by decide) (by decide) eq119 (g := (mkF m 228 (fL4 p0 p1 p2 p3 x1 (7 : Int32) (2 : Int32) b4) [(.int (2 : Int32)), (.int x1), (.int p0), (.int (own_get (own_pk p0 x1 7) (16 : Int32)))])) rfl (by rw [hml]; rfl) (argsL := [(.int p0), (.int x1), (.int (2 : Int32))]) (rest := [(.int (own_get (own_pk p0 x1 7) (16 : Int32)))]) rfl (lenOf pd__III_I rfl) rfl (by show 2 * 0 + _ ≤ _; exact Nat.le_of_eq rfl) (hb hby at_228) (by decide) (by decide)
                  obtain ⟨rfl, Nq120, eq120⟩ := hQ120
                  have N120 := Fr.app N119 Nq120
                  refine go st120 ?_
                  show OwnEnd _ _ _ _ _ _ _ (T120.setTop (mkF m 231 (fL4 p0 p1 p2 p3 x1 (7 : Int32) (2 : Int32) b4) [(.int (own_sh p0 x1 2)), (.int (own_get (own_pk p0 x1 7) (16 : Int32)))]))
                  by_cases hc231_121 : (own_get (own_pk p0 x1 7) (16 : Int32)) = (own_sh p0 x1 2)
                  · refine go (fun _ k => by refine XS.icmpNo X120.here hx rfl (hb hby at_231) rfl (teq hc231_121).2 ?_; exact k) ?_
                    show OwnEnd _ _ _ _ _ _ _ (T120.setTop (mkF m 234 (fL4 p0 p1 p2 p3 x1 (7 : Int32) (2 : Int32) b4) []))
                    refine go (fun _ k => by refine XS.iconst X120.here hx rfl (hb hby at_234) ?_; exact k) ?_
                    refine go (fun _ k => by refine XS.goto X120.here hx rfl (pc0 := 235) (pc' := 239) rfl (hb hby at_235) (by decide) (by decide) ?_; exact k) ?_
                    show OwnEnd _ _ _ _ _ _ _ (T120.setTop (mkF m 239 (fL4 p0 p1 p2 p3 x1 (7 : Int32) (2 : Int32) b4) [(.int (1 : Int32))]))
                    refine endN X120 hx hlk (t := .boolean) (by simp) Bd.returns (hb hby at_239) eq120 (by decide) (by decide) ?_
                    exact ⟨rfl, N120⟩
                  · refine go (fun _ k => by refine XS.icmpYes X120.here hx rfl (pc0 := 231) (pc' := 238) rfl (hb hby at_231) rfl (feq hc231_121).2 (by decide) (by decide) ?_; exact k) ?_
                    show OwnEnd _ _ _ _ _ _ _ (T120.setTop (mkF m 238 (fL4 p0 p1 p2 p3 x1 (7 : Int32) (2 : Int32) b4) []))
                    refine go (fun _ k => by refine XS.iconst X120.here hx rfl (hb hby at_238) ?_; exact k) ?_
                    show OwnEnd _ _ _ _ _ _ _ (T120.setTop (mkF m 239 (fL4 p0 p1 p2 p3 x1 (7 : Int32) (2 : Int32) b4) [(.int (0 : Int32))]))
                    refine endN X120 hx hlk (t := .boolean) (by simp) Bd.returns (hb hby at_239) eq120 (by decide) (by decide) ?_
                    exact absurd (own_at2_7 _ _) hc231_121
                · refine go (fun _ k => by refine XS.aload X25.here hx rfl (hb hby at_216) rfl rfl ?_; exact k) ?_
                  refine go (fun _ k => by refine XS.iload X25.here hx rfl (hb hby at_218) rfl ?_; exact k) ?_
                  show OwnEnd _ _ _ _ _ _ _ (T25.setTop (mkF m 220 (fL4 p0 p1 p2 p3 x1 (7 : Int32) (3 : Int32) b4) [(.int (3 : Int32)), (.ref b4)]))
                  obtain ⟨_, T122, L122, X122, hQ122, st122⟩ := callVirt X25 hx hZ hown (hw _ (List.mem_of_getElem? (i := 28) rfl)) (hw _ (List.mem_of_getElem? (i := 24) rfl)) (notFace_of_selects (args := #[]) (mvT hZ (hw _ (List.mem_of_getElem? (i := 26) rfl)))) (hw _ (List.mem_of_getElem? (i := 26) rfl)) (hw _ (List.mem_of_getElem? (i := 25) rfl)) (hw _ (List.mem_of_getElem? (i := 3) rfl)) (hw _ (List.mem_of_getElem? (i := 27) rfl)) (by decide) (rm_get3 l Z a0 hw [] b4 (own_pk p0 x1 7) T25.heap n0 F_packed_b4) (W := 0) (by decide) (by decide) rfl E_b4 (g := (mkF m 220 (fL4 p0 p1 p2 p3 x1 (7 : Int32) (3 : Int32) b4) [(.int (3 : Int32)), (.ref b4)])) rfl (by rw [hml]; rfl) (argsL := [(.int (3 : Int32))]) (rest := []) rfl (lenOf pd__I_I rfl) rfl (by show 2 * 0 + _ ≤ _; exact Nat.le_of_eq rfl) (hb hby at_220) (by decide) (by decide)
                  obtain ⟨rfl, Nq122, eq122⟩ := hQ122
                  have N122 := Fr.app N25 Nq122
                  refine go st122 ?_
                  refine go (fun _ k => by refine XS.iloadN X122.here hx rfl (hb hby at_223) rfl ?_; exact k) ?_
                  refine go (fun _ k => by refine XS.iload X122.here hx rfl (hb hby at_224) rfl ?_; exact k) ?_
                  refine go (fun _ k => by refine XS.iload X122.here hx rfl (hb hby at_226) rfl ?_; exact k) ?_
                  show OwnEnd _ _ _ _ _ _ _ (T122.setTop (mkF m 228 (fL4 p0 p1 p2 p3 x1 (7 : Int32) (3 : Int32) b4) [(.int (3 : Int32)), (.int x1), (.int p0), (.int (own_get (own_pk p0 x1 7) (24 : Int32)))]))
                  obtain ⟨_, T123, L123, X123, hQ123, st123⟩ := callStat X122 hx hZ hown (hw _ (List.mem_of_getElem? (i := 10) rfl)) (hw _ (List.mem_of_getElem? (i := 11) rfl)) (hw _ (List.mem_of_getElem? (i := 12) rfl)) (hw _ (List.mem_of_getElem? (i := 13) rfl)) (by decide) (rm_sh l Z a0 hw [] p0 x1 (3 : Int32) T25.heap n0 ) (W := 1) (by decide) (by decide) eq122 (g := (mkF m 228 (fL4 p0 p1 p2 p3 x1 (7 : Int32) (3 : Int32) b4) [(.int (3 : Int32)), (.int x1), (.int p0), (.int (own_get (own_pk p0 x1 7) (24 : Int32)))])) rfl (by rw [hml]; rfl) (argsL := [(.int p0), (.int x1), (.int (3 : Int32))]) (rest := [(.int (own_get (own_pk p0 x1 7) (24 : Int32)))]) rfl (lenOf pd__III_I rfl) rfl (by show 2 * 0 + _ ≤ _; exact Nat.le_of_eq rfl) (hb hby at_228) (by decide) (by decide)
                  obtain ⟨rfl, Nq123, eq123⟩ := hQ123
                  have N123 := Fr.app N122 Nq123
                  refine go st123 ?_
                  show OwnEnd _ _ _ _ _ _ _ (T123.setTop (mkF m 231 (fL4 p0 p1 p2 p3 x1 (7 : Int32) (3 : Int32) b4) [(.int (own_sh p0 x1 3)), (.int (own_get (own_pk p0 x1 7) (24 : Int32)))]))
                  by_cases hc231_124 : (own_get (own_pk p0 x1 7) (24 : Int32)) = (own_sh p0 x1 3)
                  · refine go (fun _ k => by refine XS.icmpNo X123.here hx rfl (hb hby at_231) rfl (teq hc231_124).2 ?_; exact k) ?_
                    show OwnEnd _ _ _ _ _ _ _ (T123.setTop (mkF m 234 (fL4 p0 p1 p2 p3 x1 (7 : Int32) (3 : Int32) b4) []))
                    refine go (fun _ k => by refine XS.iconst X123.here hx rfl (hb hby at_234) ?_; exact k) ?_
                    refine go (fun _ k => by refine XS.goto X123.here hx rfl (pc0 := 235) (pc' := 239) rfl (hb hby at_235) (by decide) (by decide) ?_; exact k) ?_
                    show OwnEnd _ _ _ _ _ _ _ (T123.setTop (mkF m 239 (fL4 p0 p1 p2 p3 x1 (7 : Int32) (3 : Int32) b4) [(.int (1 : Int32))]))
                    refine endN X123 hx hlk (t := .boolean) (by simp) Bd.returns (hb hby at_239) eq123 (by decide) (by decide) ?_
                    exact ⟨rfl, N123⟩
                  · refine go (fun _ k => by refine XS.icmpYes X123.here hx rfl (pc0 := 231) (pc' := 238) rfl (hb hby at_231) rfl (feq hc231_124).2 (by decide) (by decide) ?_; exact k) ?_
                    show OwnEnd _ _ _ _ _ _ _ (T123.setTop (mkF m 238 (fL4 p0 p1 p2 p3 x1 (7 : Int32) (3 : Int32) b4) []))
                    refine go (fun _ k => by refine XS.iconst X123.here hx rfl (hb hby at_238) ?_; exact k) ?_
                    show OwnEnd _ _ _ _ _ _ _ (T123.setTop (mkF m 239 (fL4 p0 p1 p2 p3 x1 (7 : Int32) (3 : Int32) b4) [(.int (0 : Int32))]))
                    refine endN X123 hx hlk (t := .boolean) (by simp) Bd.returns (hb hby at_239) eq123 (by decide) (by decide) ?_
                    exact absurd (own_at3_7 _ _) hc231_124
                · refine go (fun _ k => by refine XS.aload X25.here hx rfl (hb hby at_216) rfl rfl ?_; exact k) ?_
                  refine go (fun _ k => by refine XS.iload X25.here hx rfl (hb hby at_218) rfl ?_; exact k) ?_
                  show OwnEnd _ _ _ _ _ _ _ (T25.setTop (mkF m 220 (fL4 p0 p1 p2 p3 x1 (7 : Int32) (4 : Int32) b4) [(.int (4 : Int32)), (.ref b4)]))
                  obtain ⟨_, T125, L125, X125, hQ125, st125⟩ := callVirt X25 hx hZ hown (hw _ (List.mem_of_getElem? (i := 28) rfl)) (hw _ (List.mem_of_getElem? (i := 24) rfl)) (notFace_of_selects (args := #[]) (mvT hZ (hw _ (List.mem_of_getElem? (i := 26) rfl)))) (hw _ (List.mem_of_getElem? (i := 26) rfl)) (hw _ (List.mem_of_getElem? (i := 25) rfl)) (hw _ (List.mem_of_getElem? (i := 3) rfl)) (hw _ (List.mem_of_getElem? (i := 27) rfl)) (by decide) (rm_get4 l Z a0 hw [] b4 (own_pk p0 x1 7) T25.heap n0 F_packed_b4) (W := 0) (by decide) (by decide) rfl E_b4 (g := (mkF m 220 (fL4 p0 p1 p2 p3 x1 (7 : Int32) (4 : Int32) b4) [(.int (4 : Int32)), (.ref b4)])) rfl (by rw [hml]; rfl) (argsL := [(.int (4 : Int32))]) (rest := []) rfl (lenOf pd__I_I rfl) rfl (by show 2 * 0 + _ ≤ _; exact Nat.le_of_eq rfl) (hb hby at_220) (by decide) (by decide)
                  obtain ⟨rfl, Nq125, eq125⟩ := hQ125
                  have N125 := Fr.app N25 Nq125
                  refine go st125 ?_
                  refine go (fun _ k => by refine XS.iloadN X125.here hx rfl (hb hby at_223) rfl ?_; exact k) ?_
                  refine go (fun _ k => by refine XS.iload X125.here hx rfl (hb hby at_224) rfl ?_; exact k) ?_
                  refine go (fun _ k => by refine XS.iload X125.here hx rfl (hb hby at_226) rfl ?_; exact k) ?_
                  show OwnEnd _ _ _ _ _ _ _ (T125.setTop (mkF m 228 (fL4 p0 p1 p2 p3 x1 (7 : Int32) (4 : Int32) b4) [(.int (4 : Int32)), (.int x1), (.int p0), (.int (own_get (own_pk p0 x1 7) (32 : Int32)))]))
                  obtain ⟨_, T126, L126, X126, hQ126, st126⟩ := callStat X125 hx hZ hown (hw _ (List.mem_of_getElem? (i := 10) rfl)) (hw _ (List.mem_of_getElem? (i := 11) rfl)) (hw _ (List.mem_of_getElem? (i := 12) rfl)) (hw _ (List.mem_of_getElem? (i := 13) rfl)) (by decide) (rm_sh l Z a0 hw [] p0 x1 (4 : Int32) T25.heap n0 ) (W := 1) (by decide) (by decide) eq125 (g := (mkF m 228 (fL4 p0 p1 p2 p3 x1 (7 : Int32) (4 : Int32) b4) [(.int (4 : Int32)), (.int x1), (.int p0), (.int (own_get (own_pk p0 x1 7) (32 : Int32)))])) rfl (by rw [hml]; rfl) (argsL := [(.int p0), (.int x1), (.int (4 : Int32))]) (rest := [(.int (own_get (own_pk p0 x1 7) (32 : Int32)))]) rfl (lenOf pd__III_I rfl) rfl (by show 2 * 0 + _ ≤ _; exact Nat.le_of_eq rfl) (hb hby at_228) (by decide) (by decide)
                  obtain ⟨rfl, Nq126, eq126⟩ := hQ126
                  have N126 := Fr.app N125 Nq126
                  refine go st126 ?_
                  show OwnEnd _ _ _ _ _ _ _ (T126.setTop (mkF m 231 (fL4 p0 p1 p2 p3 x1 (7 : Int32) (4 : Int32) b4) [(.int (own_sh p0 x1 4)), (.int (own_get (own_pk p0 x1 7) (32 : Int32)))]))
                  by_cases hc231_127 : (own_get (own_pk p0 x1 7) (32 : Int32)) = (own_sh p0 x1 4)
                  · refine go (fun _ k => by refine XS.icmpNo X126.here hx rfl (hb hby at_231) rfl (teq hc231_127).2 ?_; exact k) ?_
                    show OwnEnd _ _ _ _ _ _ _ (T126.setTop (mkF m 234 (fL4 p0 p1 p2 p3 x1 (7 : Int32) (4 : Int32) b4) []))
                    refine go (fun _ k => by refine XS.iconst X126.here hx rfl (hb hby at_234) ?_; exact k) ?_
                    refine go (fun _ k => by refine XS.goto X126.here hx rfl (pc0 := 235) (pc' := 239) rfl (hb hby at_235) (by decide) (by decide) ?_; exact k) ?_
                    show OwnEnd _ _ _ _ _ _ _ (T126.setTop (mkF m 239 (fL4 p0 p1 p2 p3 x1 (7 : Int32) (4 : Int32) b4) [(.int (1 : Int32))]))
                    refine endN X126 hx hlk (t := .boolean) (by simp) Bd.returns (hb hby at_239) eq126 (by decide) (by decide) ?_
                    exact ⟨rfl, N126⟩
                  · refine go (fun _ k => by refine XS.icmpYes X126.here hx rfl (pc0 := 231) (pc' := 238) rfl (hb hby at_231) rfl (feq hc231_127).2 (by decide) (by decide) ?_; exact k) ?_
                    show OwnEnd _ _ _ _ _ _ _ (T126.setTop (mkF m 238 (fL4 p0 p1 p2 p3 x1 (7 : Int32) (4 : Int32) b4) []))
                    refine go (fun _ k => by refine XS.iconst X126.here hx rfl (hb hby at_238) ?_; exact k) ?_
                    show OwnEnd _ _ _ _ _ _ _ (T126.setTop (mkF m 239 (fL4 p0 p1 p2 p3 x1 (7 : Int32) (4 : Int32) b4) [(.int (0 : Int32))]))
                    refine endN X126 hx hlk (t := .boolean) (by simp) Bd.returns (hb hby at_239) eq126 (by decide) (by decide) ?_
                    exact absurd (own_at4_7 _ _) hc231_127
                · refine go (fun _ k => by refine XS.aload X25.here hx rfl (hb hby at_216) rfl rfl ?_; exact k) ?_
                  refine go (fun _ k => by refine XS.iload X25.here hx rfl (hb hby at_218) rfl ?_; exact k) ?_
                  show OwnEnd _ _ _ _ _ _ _ (T25.setTop (mkF m 220 (fL4 p0 p1 p2 p3 x1 (7 : Int32) (5 : Int32) b4) [(.int (5 : Int32)), (.ref b4)]))
                  obtain ⟨_, T128, L128, X128, hQ128, st128⟩ := callVirt X25 hx hZ hown (hw _ (List.mem_of_getElem? (i := 28) rfl)) (hw _ (List.mem_of_getElem? (i := 24) rfl)) (notFace_of_selects (args := #[]) (mvT hZ (hw _ (List.mem_of_getElem? (i := 26) rfl)))) (hw _ (List.mem_of_getElem? (i := 26) rfl)) (hw _ (List.mem_of_getElem? (i := 25) rfl)) (hw _ (List.mem_of_getElem? (i := 3) rfl)) (hw _ (List.mem_of_getElem? (i := 27) rfl)) (by decide) (rm_get5 l Z a0 hw [] b4 (own_pk p0 x1 7) T25.heap n0 F_packed_b4) (W := 0) (by decide) (by decide) rfl E_b4 (g := (mkF m 220 (fL4 p0 p1 p2 p3 x1 (7 : Int32) (5 : Int32) b4) [(.int (5 : Int32)), (.ref b4)])) rfl (by rw [hml]; rfl) (argsL := [(.int (5 : Int32))]) (rest := []) rfl (lenOf pd__I_I rfl) rfl (by show 2 * 0 + _ ≤ _; exact Nat.le_of_eq rfl) (hb hby at_220) (by decide) (by decide)
                  obtain ⟨rfl, Nq128, eq128⟩ := hQ128
                  have N128 := Fr.app N25 Nq128
                  refine go st128 ?_
                  refine go (fun _ k => by refine XS.iloadN X128.here hx rfl (hb hby at_223) rfl ?_; exact k) ?_
                  refine go (fun _ k => by refine XS.iload X128.here hx rfl (hb hby at_224) rfl ?_; exact k) ?_
                  refine go (fun _ k => by refine XS.iload X128.here hx rfl (hb hby at_226) rfl ?_; exact k) ?_
                  show OwnEnd _ _ _ _ _ _ _ (T128.setTop (mkF m 228 (fL4 p0 p1 p2 p3 x1 (7 : Int32) (5 : Int32) b4) [(.int (5 : Int32)), (.int x1), (.int p0), (.int (own_get (own_pk p0 x1 7) (40 : Int32)))]))
                  obtain ⟨_, T129, L129, X129, hQ129, st129⟩ := callStat X128 hx hZ hown (hw _ (List.mem_of_getElem? (i := 10) rfl)) (hw _ (List.mem_of_getElem? (i := 11) rfl)) (hw _ (List.mem_of_getElem? (i := 12) rfl)) (hw _ (List.mem_of_getElem? (i := 13) rfl)) (by decide) (rm_sh l Z a0 hw [] p0 x1 (5 : Int32) T25.heap n0 ) (W := 1) (by decide) (by decide) eq128 (g := (mkF m 228 (fL4 p0 p1 p2 p3 x1 (7 : Int32) (5 : Int32) b4) [(.int (5 : Int32)), (.int x1), (.int p0), (.int (own_get (own_pk p0 x1 7) (40 : Int32)))])) rfl (by rw [hml]; rfl) (argsL := [(.int p0), (.int x1), (.int (5 : Int32))]) (rest := [(.int (own_get (own_pk p0 x1 7) (40 : Int32)))]) rfl (lenOf pd__III_I rfl) rfl (by show 2 * 0 + _ ≤ _; exact Nat.le_of_eq rfl) (hb hby at_228) (by decide) (by decide)
                  obtain ⟨rfl, Nq129, eq129⟩ := hQ129
                  have N129 := Fr.app N128 Nq129
                  refine go st129 ?_
                  show OwnEnd _ _ _ _ _ _ _ (T129.setTop (mkF m 231 (fL4 p0 p1 p2 p3 x1 (7 : Int32) (5 : Int32) b4) [(.int (own_sh p0 x1 5)), (.int (own_get (own_pk p0 x1 7) (40 : Int32)))]))
                  by_cases hc231_130 : (own_get (own_pk p0 x1 7) (40 : Int32)) = (own_sh p0 x1 5)
                  · refine go (fun _ k => by refine XS.icmpNo X129.here hx rfl (hb hby at_231) rfl (teq hc231_130).2 ?_; exact k) ?_
                    show OwnEnd _ _ _ _ _ _ _ (T129.setTop (mkF m 234 (fL4 p0 p1 p2 p3 x1 (7 : Int32) (5 : Int32) b4) []))
                    refine go (fun _ k => by refine XS.iconst X129.here hx rfl (hb hby at_234) ?_; exact k) ?_
                    refine go (fun _ k => by refine XS.goto X129.here hx rfl (pc0 := 235) (pc' := 239) rfl (hb hby at_235) (by decide) (by decide) ?_; exact k) ?_
                    show OwnEnd _ _ _ _ _ _ _ (T129.setTop (mkF m 239 (fL4 p0 p1 p2 p3 x1 (7 : Int32) (5 : Int32) b4) [(.int (1 : Int32))]))
                    refine endN X129 hx hlk (t := .boolean) (by simp) Bd.returns (hb hby at_239) eq129 (by decide) (by decide) ?_
                    exact ⟨rfl, N129⟩
                  · refine go (fun _ k => by refine XS.icmpYes X129.here hx rfl (pc0 := 231) (pc' := 238) rfl (hb hby at_231) rfl (feq hc231_130).2 (by decide) (by decide) ?_; exact k) ?_
                    show OwnEnd _ _ _ _ _ _ _ (T129.setTop (mkF m 238 (fL4 p0 p1 p2 p3 x1 (7 : Int32) (5 : Int32) b4) []))
                    refine go (fun _ k => by refine XS.iconst X129.here hx rfl (hb hby at_238) ?_; exact k) ?_
                    show OwnEnd _ _ _ _ _ _ _ (T129.setTop (mkF m 239 (fL4 p0 p1 p2 p3 x1 (7 : Int32) (5 : Int32) b4) [(.int (0 : Int32))]))
                    refine endN X129 hx hlk (t := .boolean) (by simp) Bd.returns (hb hby at_239) eq129 (by decide) (by decide) ?_
                    exact absurd (own_at5_7 _ _) hc231_130
                · refine go (fun _ k => by refine XS.aload X25.here hx rfl (hb hby at_216) rfl rfl ?_; exact k) ?_
                  refine go (fun _ k => by refine XS.iload X25.here hx rfl (hb hby at_218) rfl ?_; exact k) ?_
                  show OwnEnd _ _ _ _ _ _ _ (T25.setTop (mkF m 220 (fL4 p0 p1 p2 p3 x1 (7 : Int32) (6 : Int32) b4) [(.int (6 : Int32)), (.ref b4)]))
                  obtain ⟨_, T131, L131, X131, hQ131, st131⟩ := callVirt X25 hx hZ hown (hw _ (List.mem_of_getElem? (i := 28) rfl)) (hw _ (List.mem_of_getElem? (i := 24) rfl)) (notFace_of_selects (args := #[]) (mvT hZ (hw _ (List.mem_of_getElem? (i := 26) rfl)))) (hw _ (List.mem_of_getElem? (i := 26) rfl)) (hw _ (List.mem_of_getElem? (i := 25) rfl)) (hw _ (List.mem_of_getElem? (i := 3) rfl)) (hw _ (List.mem_of_getElem? (i := 27) rfl)) (by decide) (rm_get6 l Z a0 hw [] b4 (own_pk p0 x1 7) T25.heap n0 F_packed_b4) (W := 0) (by decide) (by decide) rfl E_b4 (g := (mkF m 220 (fL4 p0 p1 p2 p3 x1 (7 : Int32) (6 : Int32) b4) [(.int (6 : Int32)), (.ref b4)])) rfl (by rw [hml]; rfl) (argsL := [(.int (6 : Int32))]) (rest := []) rfl (lenOf pd__I_I rfl) rfl (by show 2 * 0 + _ ≤ _; exact Nat.le_of_eq rfl) (hb hby at_220) (by decide) (by decide)
                  obtain ⟨rfl, Nq131, eq131⟩ := hQ131
                  have N131 := Fr.app N25 Nq131
                  refine go st131 ?_
                  refine go (fun _ k => by refine XS.iloadN X131.here hx rfl (hb hby at_223) rfl ?_; exact k) ?_
                  refine go (fun _ k => by refine XS.iload X131.here hx rfl (hb hby at_224) rfl ?_; exact k) ?_
                  refine go (fun _ k => by refine XS.iload X131.here hx rfl (hb hby at_226) rfl ?_; exact k) ?_
                  show OwnEnd _ _ _ _ _ _ _ (T131.setTop (mkF m 228 (fL4 p0 p1 p2 p3 x1 (7 : Int32) (6 : Int32) b4) [(.int (6 : Int32)), (.int x1), (.int p0), (.int (own_get (own_pk p0 x1 7) (48 : Int32)))]))
                  obtain ⟨_, T132, L132, X132, hQ132, st132⟩ := callStat X131 hx hZ hown (hw _ (List.mem_of_getElem? (i := 10) rfl)) (hw _ (List.mem_of_getElem? (i := 11) rfl)) (hw _ (List.mem_of_getElem? (i := 12) rfl)) (hw _ (List.mem_of_getElem? (i := 13) rfl)) (by decide) (rm_sh l Z a0 hw [] p0 x1 (6 : Int32) T25.heap n0 ) (W := 1) (by decide) (by decide) eq131 (g := (mkF m 228 (fL4 p0 p1 p2 p3 x1 (7 : Int32) (6 : Int32) b4) [(.int (6 : Int32)), (.int x1), (.int p0), (.int (own_get (own_pk p0 x1 7) (48 : Int32)))])) rfl (by rw [hml]; rfl) (argsL := [(.int p0), (.int x1), (.int (6 : Int32))]) (rest := [(.int (own_get (own_pk p0 x1 7) (48 : Int32)))]) rfl (lenOf pd__III_I rfl) rfl (by show 2 * 0 + _ ≤ _; exact Nat.le_of_eq rfl) (hb hby at_228) (by decide) (by decide)
                  obtain ⟨rfl, Nq132, eq132⟩ := hQ132
                  have N132 := Fr.app N131 Nq132
                  refine go st132 ?_
                  show OwnEnd _ _ _ _ _ _ _ (T132.setTop (mkF m 231 (fL4 p0 p1 p2 p3 x1 (7 : Int32) (6 : Int32) b4) [(.int (own_sh p0 x1 6)), (.int (own_get (own_pk p0 x1 7) (48 : Int32)))]))
                  by_cases hc231_133 : (own_get (own_pk p0 x1 7) (48 : Int32)) = (own_sh p0 x1 6)
                  · refine go (fun _ k => by refine XS.icmpNo X132.here hx rfl (hb hby at_231) rfl (teq hc231_133).2 ?_; exact k) ?_
                    show OwnEnd _ _ _ _ _ _ _ (T132.setTop (mkF m 234 (fL4 p0 p1 p2 p3 x1 (7 : Int32) (6 : Int32) b4) []))
                    refine go (fun _ k => by refine XS.iconst X132.here hx rfl (hb hby at_234) ?_; exact k) ?_
                    refine go (fun _ k => by refine XS.goto X132.here hx rfl (pc0 := 235) (pc' := 239) rfl (hb hby at_235) (by decide) (by decide) ?_; exact k) ?_
                    show OwnEnd _ _ _ _ _ _ _ (T132.setTop (mkF m 239 (fL4 p0 p1 p2 p3 x1 (7 : Int32) (6 : Int32) b4) [(.int (1 : Int32))]))
                    refine endN X132 hx hlk (t := .boolean) (by simp) Bd.returns (hb hby at_239) eq132 (by decide) (by decide) ?_
                    exact ⟨rfl, N132⟩
                  · refine go (fun _ k => by refine XS.icmpYes X132.here hx rfl (pc0 := 231) (pc' := 238) rfl (hb hby at_231) rfl (feq hc231_133).2 (by decide) (by decide) ?_; exact k) ?_
                    show OwnEnd _ _ _ _ _ _ _ (T132.setTop (mkF m 238 (fL4 p0 p1 p2 p3 x1 (7 : Int32) (6 : Int32) b4) []))
                    refine go (fun _ k => by refine XS.iconst X132.here hx rfl (hb hby at_238) ?_; exact k) ?_
                    show OwnEnd _ _ _ _ _ _ _ (T132.setTop (mkF m 239 (fL4 p0 p1 p2 p3 x1 (7 : Int32) (6 : Int32) b4) [(.int (0 : Int32))]))
                    refine endN X132 hx hlk (t := .boolean) (by simp) Bd.returns (hb hby at_239) eq132 (by decide) (by decide) ?_
                    exact absurd (own_at6_7 _ _) hc231_133
            · obtain rfl : x2 = 6 := own_m6 _ _ qx2 hc121_20 hc140_23
              refine go (fun _ k => by refine XS.icmpYes X22.here hx rfl (pc0 := 140) (pc' := 156) rfl (hb hby at_140) rfl (flt hc140_23).2.2.2 (by decide) (by decide) ?_; exact k) ?_
              show OwnEnd _ _ _ _ _ _ _ (T22.setTop (mkF m 156 (fL4 p0 p1 p2 p3 x1 (6 : Int32) x3 b4) []))
              refine go (fun _ k => by refine XS.iload X22.here hx rfl (hb hby at_156) rfl ?_; exact k) ?_
              refine go (fun _ k => by refine XS.bipush X22.here hx rfl (hb hby at_158) ?_; exact k) ?_
              show OwnEnd _ _ _ _ _ _ _ (T22.setTop (mkF m 160 (fL4 p0 p1 p2 p3 x1 (6 : Int32) x3 b4) [(.int (7 : Int32)), (.int (6 : Int32))]))
              refine go (fun _ k => by refine XS.icmpYes X22.here hx rfl (pc0 := 160) (pc' := 176) rfl (hb hby at_160) rfl (flt (by decide)).2.2.2 (by decide) (by decide) ?_; exact k) ?_
              refine go (fun _ k => by refine XS.iload X22.here hx rfl (hb hby at_176) rfl ?_; exact k) ?_
              refine go (fun _ k => by refine XS.bipush X22.here hx rfl (hb hby at_178) ?_; exact k) ?_
              show OwnEnd _ _ _ _ _ _ _ (T22.setTop (mkF m 180 (fL4 p0 p1 p2 p3 x1 (6 : Int32) x3 b4) [(.int (8 : Int32)), (.int (6 : Int32))]))
              refine go (fun _ k => by refine XS.icmpYes X22.here hx rfl (pc0 := 180) (pc' := 196) rfl (hb hby at_180) rfl (flt (by decide)).2.2.2 (by decide) (by decide) ?_; exact k) ?_
              refine go (fun _ k => by refine XS.iload X22.here hx rfl (hb hby at_196) rfl ?_; exact k) ?_
              refine go (fun _ k => by refine XS.bipush X22.here hx rfl (hb hby at_198) ?_; exact k) ?_
              show OwnEnd _ _ _ _ _ _ _ (T22.setTop (mkF m 200 (fL4 p0 p1 p2 p3 x1 (6 : Int32) x3 b4) [(.int (9 : Int32)), (.int (6 : Int32))]))
              refine go (fun _ k => by refine XS.icmpYes X22.here hx rfl (pc0 := 200) (pc' := 216) rfl (hb hby at_200) rfl (flt (by decide)).2.2.2 (by decide) (by decide) ?_; exact k) ?_
              show OwnEnd _ _ _ _ _ _ _ (T22.setTop (mkF m 216 (fL4 p0 p1 p2 p3 x1 (6 : Int32) x3 b4) []))
              rcases own_i6 _ _ qx3 with rfl | rfl | rfl | rfl | rfl | rfl
              · refine go (fun _ k => by refine XS.aload X22.here hx rfl (hb hby at_216) rfl rfl ?_; exact k) ?_
                refine go (fun _ k => by refine XS.iload X22.here hx rfl (hb hby at_218) rfl ?_; exact k) ?_
                show OwnEnd _ _ _ _ _ _ _ (T22.setTop (mkF m 220 (fL4 p0 p1 p2 p3 x1 (6 : Int32) (0 : Int32) b4) [(.int (0 : Int32)), (.ref b4)]))
                obtain ⟨_, T134, L134, X134, hQ134, st134⟩ := callVirt X22 hx hZ hown (hw _ (List.mem_of_getElem? (i := 28) rfl)) (hw _ (List.mem_of_getElem? (i := 24) rfl)) (notFace_of_selects (args := #[]) (mvT hZ (hw _ (List.mem_of_getElem? (i := 26) rfl)))) (hw _ (List.mem_of_getElem? (i := 26) rfl)) (hw _ (List.mem_of_getElem? (i := 25) rfl)) (hw _ (List.mem_of_getElem? (i := 3) rfl)) (hw _ (List.mem_of_getElem? (i := 27) rfl)) (by decide) (rm_get0 l Z a0 hw [] b4 (own_pk p0 x1 6) T22.heap n0 F_packed_b4) (W := 0) (by decide) (by decide) rfl E_b4 (g := (mkF m 220 (fL4 p0 p1 p2 p3 x1 (6 : Int32) (0 : Int32) b4) [(.int (0 : Int32)), (.ref b4)])) rfl (by rw [hml]; rfl) (argsL := [(.int (0 : Int32))]) (rest := []) rfl (lenOf pd__I_I rfl) rfl (by show 2 * 0 + _ ≤ _; exact Nat.le_of_eq rfl) (hb hby at_220) (by decide) (by decide)
                obtain ⟨rfl, Nq134, eq134⟩ := hQ134
                have N134 := Fr.app N22 Nq134
                refine go st134 ?_
                refine go (fun _ k => by refine XS.iloadN X134.here hx rfl (hb hby at_223) rfl ?_; exact k) ?_
                refine go (fun _ k => by refine XS.iload X134.here hx rfl (hb hby at_224) rfl ?_; exact k) ?_
                refine go (fun _ k => by refine XS.iload X134.here hx rfl (hb hby at_226) rfl ?_; exact k) ?_
                show OwnEnd _ _ _ _ _ _ _ (T134.setTop (mkF m 228 (fL4 p0 p1 p2 p3 x1 (6 : Int32) (0 : Int32) b4) [(.int (0 : Int32)), (.int x1), (.int p0), (.int (own_get (own_pk p0 x1 6) (0 : Int32)))]))
                obtain ⟨_, T135, L135, X135, hQ135, st135⟩ := callStat X134 hx hZ hown (hw _ (List.mem_of_getElem? (i := 10) rfl)) (hw _ (List.mem_of_getElem? (i := 11) rfl)) (hw _ (List.mem_of_getElem? (i := 12) rfl)) (hw _ (List.mem_of_getElem? (i := 13) rfl)) (by decide) (rm_sh l Z a0 hw [] p0 x1 (0 : Int32) T22.heap n0 ) (W := 1) (by decide) (by decide) eq134 (g := (mkF m 228 (fL4 p0 p1 p2 p3 x1 (6 : Int32) (0 : Int32) b4) [(.int (0 : Int32)), (.int x1), (.int p0), (.int (own_get (own_pk p0 x1 6) (0 : Int32)))])) rfl (by rw [hml]; rfl) (argsL := [(.int p0), (.int x1), (.int (0 : Int32))]) (rest := [(.int (own_get (own_pk p0 x1 6) (0 : Int32)))]) rfl (lenOf pd__III_I rfl) rfl (by show 2 * 0 + _ ≤ _; exact Nat.le_of_eq rfl) (hb hby at_228) (by decide) (by decide)
                obtain ⟨rfl, Nq135, eq135⟩ := hQ135
                have N135 := Fr.app N134 Nq135
                refine go st135 ?_
                show OwnEnd _ _ _ _ _ _ _ (T135.setTop (mkF m 231 (fL4 p0 p1 p2 p3 x1 (6 : Int32) (0 : Int32) b4) [(.int (own_sh p0 x1 0)), (.int (own_get (own_pk p0 x1 6) (0 : Int32)))]))
                by_cases hc231_136 : (own_get (own_pk p0 x1 6) (0 : Int32)) = (own_sh p0 x1 0)
                · refine go (fun _ k => by refine XS.icmpNo X135.here hx rfl (hb hby at_231) rfl (teq hc231_136).2 ?_; exact k) ?_
                  show OwnEnd _ _ _ _ _ _ _ (T135.setTop (mkF m 234 (fL4 p0 p1 p2 p3 x1 (6 : Int32) (0 : Int32) b4) []))
                  refine go (fun _ k => by refine XS.iconst X135.here hx rfl (hb hby at_234) ?_; exact k) ?_
                  refine go (fun _ k => by refine XS.goto X135.here hx rfl (pc0 := 235) (pc' := 239) rfl (hb hby at_235) (by decide) (by decide) ?_; exact k) ?_
                  show OwnEnd _ _ _ _ _ _ _ (T135.setTop (mkF m 239 (fL4 p0 p1 p2 p3 x1 (6 : Int32) (0 : Int32) b4) [(.int (1 : Int32))]))
                  refine endN X135 hx hlk (t := .boolean) (by simp) Bd.returns (hb hby at_239) eq135 (by decide) (by decide) ?_
                  exact ⟨rfl, N135⟩
                · refine go (fun _ k => by refine XS.icmpYes X135.here hx rfl (pc0 := 231) (pc' := 238) rfl (hb hby at_231) rfl (feq hc231_136).2 (by decide) (by decide) ?_; exact k) ?_
                  show OwnEnd _ _ _ _ _ _ _ (T135.setTop (mkF m 238 (fL4 p0 p1 p2 p3 x1 (6 : Int32) (0 : Int32) b4) []))
                  refine go (fun _ k => by refine XS.iconst X135.here hx rfl (hb hby at_238) ?_; exact k) ?_
                  show OwnEnd _ _ _ _ _ _ _ (T135.setTop (mkF m 239 (fL4 p0 p1 p2 p3 x1 (6 : Int32) (0 : Int32) b4) [(.int (0 : Int32))]))
                  refine endN X135 hx hlk (t := .boolean) (by simp) Bd.returns (hb hby at_239) eq135 (by decide) (by decide) ?_
                  exact absurd (own_at0_6 _ _) hc231_136
              · refine go (fun _ k => by refine XS.aload X22.here hx rfl (hb hby at_216) rfl rfl ?_; exact k) ?_
                refine go (fun _ k => by refine XS.iload X22.here hx rfl (hb hby at_218) rfl ?_; exact k) ?_
                show OwnEnd _ _ _ _ _ _ _ (T22.setTop (mkF m 220 (fL4 p0 p1 p2 p3 x1 (6 : Int32) (1 : Int32) b4) [(.int (1 : Int32)), (.ref b4)]))
                obtain ⟨_, T137, L137, X137, hQ137, st137⟩ := callVirt X22 hx hZ hown (hw _ (List.mem_of_getElem? (i := 28) rfl)) (hw _ (List.mem_of_getElem? (i := 24) rfl)) (notFace_of_selects (args := #[]) (mvT hZ (hw _ (List.mem_of_getElem? (i := 26) rfl)))) (hw _ (List.mem_of_getElem? (i := 26) rfl)) (hw _ (List.mem_of_getElem? (i := 25) rfl)) (hw _ (List.mem_of_getElem? (i := 3) rfl)) (hw _ (List.mem_of_getElem? (i := 27) rfl)) (by decide) (rm_get1 l Z a0 hw [] b4 (own_pk p0 x1 6) T22.heap n0 F_packed_b4) (W := 0) (by decide) (by decide) rfl E_b4 (g := (mkF m 220 (fL4 p0 p1 p2 p3 x1 (6 : Int32) (1 : Int32) b4) [(.int (1 : Int32)), (.ref b4)])) rfl (by rw [hml]; rfl) (argsL := [(.int (1 : Int32))]) (rest := []) rfl (lenOf pd__I_I rfl) rfl (by show 2 * 0 + _ ≤ _; exact Nat.le_of_eq rfl) (hb hby at_220) (by decide) (by decide)
                obtain ⟨rfl, Nq137, eq137⟩ := hQ137
                have N137 := Fr.app N22 Nq137
                refine go st137 ?_
                refine go (fun _ k => by refine XS.iloadN X137.here hx rfl (hb hby at_223) rfl ?_; exact k) ?_
                refine go (fun _ k => by refine XS.iload X137.here hx rfl (hb hby at_224) rfl ?_; exact k) ?_
                refine go (fun _ k => by refine XS.iload X137.here hx rfl (hb hby at_226) rfl ?_; exact k) ?_
                show OwnEnd _ _ _ _ _ _ _ (T137.setTop (mkF m 228 (fL4 p0 p1 p2 p3 x1 (6 : Int32) (1 : Int32) b4) [(.int (1 : Int32)), (.int x1), (.int p0), (.int (own_get (own_pk p0 x1 6) (8 : Int32)))]))
                obtain ⟨_, T138, L138, X138, hQ138, st138⟩ := callStat X137 hx hZ hown (hw _ (List.mem_of_getElem? (i := 10) rfl)) (hw _ (List.mem_of_getElem? (i := 11) rfl)) (hw _ (List.mem_of_getElem? (i := 12) rfl)) (hw _ (List.mem_of_getElem? (i := 13) rfl)) (by decide) (rm_sh l Z a0 hw [] p0 x1 (1 : Int32) T22.heap n0 ) (W := 1) (by decide) (by decide) eq137 (g := (mkF m 228 (fL4 p0 p1 p2 p3 x1 (6 : Int32) (1 : Int32) b4) [(.int (1 : Int32)), (.int x1), (.int p0), (.int (own_get (own_pk p0 x1 6) (8 : Int32)))])) rfl (by rw [hml]; rfl) (argsL := [(.int p0), (.int x1), (.int (1 : Int32))]) (rest := [(.int (own_get (own_pk p0 x1 6) (8 : Int32)))]) rfl (lenOf pd__III_I rfl) rfl (by show 2 * 0 + _ ≤ _; exact Nat.le_of_eq rfl) (hb hby at_228) (by decide) (by decide)
                obtain ⟨rfl, Nq138, eq138⟩ := hQ138
                have N138 := Fr.app N137 Nq138
                refine go st138 ?_
                show OwnEnd _ _ _ _ _ _ _ (T138.setTop (mkF m 231 (fL4 p0 p1 p2 p3 x1 (6 : Int32) (1 : Int32) b4) [(.int (own_sh p0 x1 1)), (.int (own_get (own_pk p0 x1 6) (8 : Int32)))]))
                by_cases hc231_139 : (own_get (own_pk p0 x1 6) (8 : Int32)) = (own_sh p0 x1 1)
                · refine go (fun _ k => by refine XS.icmpNo X138.here hx rfl (hb hby at_231) rfl (teq hc231_139).2 ?_; exact k) ?_
                  show OwnEnd _ _ _ _ _ _ _ (T138.setTop (mkF m 234 (fL4 p0 p1 p2 p3 x1 (6 : Int32) (1 : Int32) b4) []))
                  refine go (fun _ k => by refine XS.iconst X138.here hx rfl (hb hby at_234) ?_; exact k) ?_
                  refine go (fun _ k => by refine XS.goto X138.here hx rfl (pc0 := 235) (pc' := 239) rfl (hb hby at_235) (by decide) (by decide) ?_; exact k) ?_
                  show OwnEnd _ _ _ _ _ _ _ (T138.setTop (mkF m 239 (fL4 p0 p1 p2 p3 x1 (6 : Int32) (1 : Int32) b4) [(.int (1 : Int32))]))
                  refine endN X138 hx hlk (t := .boolean) (by simp) Bd.returns (hb hby at_239) eq138 (by decide) (by decide) ?_
                  exact ⟨rfl, N138⟩
                · refine go (fun _ k => by refine XS.icmpYes X138.here hx rfl (pc0 := 231) (pc' := 238) rfl (hb hby at_231) rfl (feq hc231_139).2 (by decide) (by decide) ?_; exact k) ?_
                  show OwnEnd _ _ _ _ _ _ _ (T138.setTop (mkF m 238 (fL4 p0 p1 p2 p3 x1 (6 : Int32) (1 : Int32) b4) []))
                  refine go (fun _ k => by refine XS.iconst X138.here hx rfl (hb hby at_238) ?_; exact k) ?_
                  show OwnEnd _ _ _ _ _ _ _ (T138.setTop (mkF m 239 (fL4 p0 p1 p2 p3 x1 (6 : Int32) (1 : Int32) b4) [(.int (0 : Int32))]))
                  refine endN X138 hx hlk (t := .boolean) (by simp) Bd.returns (hb hby at_239) eq138 (by decide) (by decide) ?_
                  exact absurd (own_at1_6 _ _) hc231_139
              · refine go (fun _ k => by refine XS.aload X22.here hx rfl (hb hby at_216) rfl rfl ?_; exact k) ?_
                refine go (fun _ k => by refine XS.iload X22.here hx rfl (hb hby at_218) rfl ?_; exact k) ?_
                show OwnEnd _ _ _ _ _ _ _ (T22.setTop (mkF m 220 (fL4 p0 p1 p2 p3 x1 (6 : Int32) (2 : Int32) b4) [(.int (2 : Int32)), (.ref b4)]))
                obtain ⟨_, T140, L140, X140, hQ140, st140⟩ := callVirt X22 hx hZ hown (hw _ (List.mem_of_getElem? (i := 28) rfl)) (hw _ (List.mem_of_getElem? (i := 24) rfl)) (notFace_of_selects (args := #[]) (mvT hZ (hw _ (List.mem_of_getElem? (i := 26) rfl)))) (hw _ (List.mem_of_getElem? (i := 26) rfl)) (hw _ (List.mem_of_getElem? (i := 25) rfl)) (hw _ (List.mem_of_getElem? (i := 3) rfl)) (hw _ (List.mem_of_getElem? (i := 27) rfl)) (by decide) (rm_get2 l Z a0 hw [] b4 (own_pk p0 x1 6) T22.heap n0 F_packed_b4) (W := 0) (by decide) (by decide) rfl E_b4 (g := (mkF m 220 (fL4 p0 p1 p2 p3 x1 (6 : Int32) (2 : Int32) b4) [(.int (2 : Int32)), (.ref b4)])) rfl (by rw [hml]; rfl) (argsL := [(.int (2 : Int32))]) (rest := []) rfl (lenOf pd__I_I rfl) rfl (by show 2 * 0 + _ ≤ _; exact Nat.le_of_eq rfl) (hb hby at_220) (by decide) (by decide)
                obtain ⟨rfl, Nq140, eq140⟩ := hQ140
                have N140 := Fr.app N22 Nq140
                refine go st140 ?_
                refine go (fun _ k => by refine XS.iloadN X140.here hx rfl (hb hby at_223) rfl ?_; exact k) ?_
                refine go (fun _ k => by refine XS.iload X140.here hx rfl (hb hby at_224) rfl ?_; exact k) ?_
                refine go (fun _ k => by refine XS.iload X140.here hx rfl (hb hby at_226) rfl ?_; exact k) ?_
                show OwnEnd _ _ _ _ _ _ _ (T140.setTop (mkF m 228 (fL4 p0 p1 p2 p3 x1 (6 : Int32) (2 : Int32) b4) [(.int (2 : Int32)), (.int x1), (.int p0), (.int (own_get (own_pk p0 x1 6) (16 : Int32)))]))
                obtain ⟨_, T141, L141, X141, hQ141, st141⟩ := callStat X140 hx hZ hown (hw _ (List.mem_of_getElem? (i := 10) rfl)) (hw _ (List.mem_of_getElem? (i := 11) rfl)) (hw _ (List.mem_of_getElem? (i := 12) rfl)) (hw _ (List.mem_of_getElem? (i := 13) rfl)) (by decide) (rm_sh l Z a0 hw [] p0 x1 (2 : Int32) T22.heap n0 ) (W := 1) (by decide) (by decide) eq140 (g := (mkF m 228 (fL4 p0 p1 p2 p3 x1 (6 : Int32) (2 : Int32) b4) [(.int (2 : Int32)), (.int x1), (.int p0), (.int (own_get (own_pk p0 x1 6) (16 : Int32)))])) rfl (by rw [hml]; rfl) (argsL := [(.int p0), (.int x1), (.int (2 : Int32))]) (rest := [(.int (own_get (own_pk p0 x1 6) (16 : Int32)))]) rfl (lenOf pd__III_I rfl) rfl (by show 2 * 0 + _ ≤ _; exact Nat.le_of_eq rfl) (hb hby at_228) (by decide) (by decide)
                obtain ⟨rfl, Nq141, eq141⟩ := hQ141
                have N141 := Fr.app N140 Nq141
                refine go st141 ?_
                show OwnEnd _ _ _ _ _ _ _ (T141.setTop (mkF m 231 (fL4 p0 p1 p2 p3 x1 (6 : Int32) (2 : Int32) b4) [(.int (own_sh p0 x1 2)), (.int (own_get (own_pk p0 x1 6) (16 : Int32)))]))
                by_cases hc231_142 : (own_get (own_pk p0 x1 6) (16 : Int32)) = (own_sh p0 x1 2)
                · refine go (fun _ k => by refine XS.icmpNo X141.here hx rfl (hb hby at_231) rfl (teq hc231_142).2 ?_; exact k) ?_
                  show OwnEnd _ _ _ _ _ _ _ (T141.setTop (mkF m 234 (fL4 p0 p1 p2 p3 x1 (6 : Int32) (2 : Int32) b4) []))
                  refine go (fun _ k => by refine XS.iconst X141.here hx rfl (hb hby at_234) ?_; exact k) ?_
                  refine go (fun _ k => by refine XS.goto X141.here hx rfl (pc0 := 235) (pc' := 239) rfl (hb hby at_235) (by decide) (by decide) ?_; exact k) ?_
                  show OwnEnd _ _ _ _ _ _ _ (T141.setTop (mkF m 239 (fL4 p0 p1 p2 p3 x1 (6 : Int32) (2 : Int32) b4) [(.int (1 : Int32))]))
                  refine endN X141 hx hlk (t := .boolean) (by simp) Bd.returns (hb hby at_239) eq141 (by decide) (by decide) ?_
                  exact ⟨rfl, N141⟩
                · refine go (fun _ k => by refine XS.icmpYes X141.here hx rfl (pc0 := 231) (pc' := 238) rfl (hb hby at_231) rfl (feq hc231_142).2 (by decide) (by decide) ?_; exact k) ?_
                  show OwnEnd _ _ _ _ _ _ _ (T141.setTop (mkF m 238 (fL4 p0 p1 p2 p3 x1 (6 : Int32) (2 : Int32) b4) []))
                  refine go (fun _ k => by refine XS.iconst X141.here hx rfl (hb hby at_238) ?_; exact k) ?_
                  show OwnEnd _ _ _ _ _ _ _ (T141.setTop (mkF m 239 (fL4 p0 p1 p2 p3 x1 (6 : Int32) (2 : Int32) b4) [(.int (0 : Int32))]))
                  refine endN X141 hx hlk (t := .boolean) (by simp) Bd.returns (hb hby at_239) eq141 (by decide) (by decide) ?_
                  exact absurd (own_at2_6 _ _) hc231_142
              · refine go (fun _ k => by refine XS.aload X22.here hx rfl (hb hby at_216) rfl rfl ?_; exact k) ?_
                refine go (fun _ k => by refine XS.iload X22.here hx rfl (hb hby at_218) rfl ?_; exact k) ?_
                show OwnEnd _ _ _ _ _ _ _ (T22.setTop (mkF m 220 (fL4 p0 p1 p2 p3 x1 (6 : Int32) (3 : Int32) b4) [(.int (3 : Int32)), (.ref b4)]))
                obtain ⟨_, T143, L143, X143, hQ143, st143⟩ := callVirt X22 hx hZ hown (hw _ (List.mem_of_getElem? (i := 28) rfl)) (hw _ (List.mem_of_getElem? (i := 24) rfl)) (notFace_of_selects (args := #[]) (mvT hZ (hw _ (List.mem_of_getElem? (i := 26) rfl)))) (hw _ (List.mem_of_getElem? (i := 26) rfl)) (hw _ (List.mem_of_getElem? (i := 25) rfl)) (hw _ (List.mem_of_getElem? (i := 3) rfl)) (hw _ (List.mem_of_getElem? (i := 27) rfl)) (by decide) (rm_get3 l Z a0 hw [] b4 (own_pk p0 x1 6) T22.heap n0 F_packed_b4) (W := 0) (by decide) (by decide) rfl E_b4 (g := (mkF m 220 (fL4 p0 p1 p2 p3 x1 (6 : Int32) (3 : Int32) b4) [(.int (3 : Int32)), (.ref b4)])) rfl (by rw [hml]; rfl) (argsL := [(.int (3 : Int32))]) (rest := []) rfl (lenOf pd__I_I rfl) rfl (by show 2 * 0 + _ ≤ _; exact Nat.le_of_eq rfl) (hb hby at_220) (by decide) (by decide)
                obtain ⟨rfl, Nq143, eq143⟩ := hQ143
                have N143 := Fr.app N22 Nq143
                refine go st143 ?_
                refine go (fun _ k => by refine XS.iloadN X143.here hx rfl (hb hby at_223) rfl ?_; exact k) ?_
                refine go (fun _ k => by refine XS.iload X143.here hx rfl (hb hby at_224) rfl ?_; exact k) ?_
                refine go (fun _ k => by refine XS.iload X143.here hx rfl (hb hby at_226) rfl ?_; exact k) ?_
                show OwnEnd _ _ _ _ _ _ _ (T143.setTop (mkF m 228 (fL4 p0 p1 p2 p3 x1 (6 : Int32) (3 : Int32) b4) [(.int (3 : Int32)), (.int x1), (.int p0), (.int (own_get (own_pk p0 x1 6) (24 : Int32)))]))
                obtain ⟨_, T144, L144, X144, hQ144, st144⟩ := callStat X143 hx hZ hown (hw _ (List.mem_of_getElem? (i := 10) rfl)) (hw _ (List.mem_of_getElem? (i := 11) rfl)) (hw _ (List.mem_of_getElem? (i := 12) rfl)) (hw _ (List.mem_of_getElem? (i := 13) rfl)) (by decide) (rm_sh l Z a0 hw [] p0 x1 (3 : Int32) T22.heap n0 ) (W := 1) (by decide) (by decide) eq143 (g := (mkF m 228 (fL4 p0 p1 p2 p3 x1 (6 : Int32) (3 : Int32) b4) [(.int (3 : Int32)), (.int x1), (.int p0), (.int (own_get (own_pk p0 x1 6) (24 : Int32)))])) rfl (by rw [hml]; rfl) (argsL := [(.int p0), (.int x1), (.int (3 : Int32))]) (rest := [(.int (own_get (own_pk p0 x1 6) (24 : Int32)))]) rfl (lenOf pd__III_I rfl) rfl (by show 2 * 0 + _ ≤ _; exact Nat.le_of_eq rfl) (hb hby at_228) (by decide) (by decide)
                obtain ⟨rfl, Nq144, eq144⟩ := hQ144
                have N144 := Fr.app N143 Nq144
                refine go st144 ?_
                show OwnEnd _ _ _ _ _ _ _ (T144.setTop (mkF m 231 (fL4 p0 p1 p2 p3 x1 (6 : Int32) (3 : Int32) b4) [(.int (own_sh p0 x1 3)), (.int (own_get (own_pk p0 x1 6) (24 : Int32)))]))
                by_cases hc231_145 : (own_get (own_pk p0 x1 6) (24 : Int32)) = (own_sh p0 x1 3)
                · refine go (fun _ k => by refine XS.icmpNo X144.here hx rfl (hb hby at_231) rfl (teq hc231_145).2 ?_; exact k) ?_
                  show OwnEnd _ _ _ _ _ _ _ (T144.setTop (mkF m 234 (fL4 p0 p1 p2 p3 x1 (6 : Int32) (3 : Int32) b4) []))
                  refine go (fun _ k => by refine XS.iconst X144.here hx rfl (hb hby at_234) ?_; exact k) ?_
                  refine go (fun _ k => by refine XS.goto X144.here hx rfl (pc0 := 235) (pc' := 239) rfl (hb hby at_235) (by decide) (by decide) ?_; exact k) ?_
                  show OwnEnd _ _ _ _ _ _ _ (T144.setTop (mkF m 239 (fL4 p0 p1 p2 p3 x1 (6 : Int32) (3 : Int32) b4) [(.int (1 : Int32))]))
                  refine endN X144 hx hlk (t := .boolean) (by simp) Bd.returns (hb hby at_239) eq144 (by decide) (by decide) ?_
                  exact ⟨rfl, N144⟩
                · refine go (fun _ k => by refine XS.icmpYes X144.here hx rfl (pc0 := 231) (pc' := 238) rfl (hb hby at_231) rfl (feq hc231_145).2 (by decide) (by decide) ?_; exact k) ?_
                  show OwnEnd _ _ _ _ _ _ _ (T144.setTop (mkF m 238 (fL4 p0 p1 p2 p3 x1 (6 : Int32) (3 : Int32) b4) []))
                  refine go (fun _ k => by refine XS.iconst X144.here hx rfl (hb hby at_238) ?_; exact k) ?_
                  show OwnEnd _ _ _ _ _ _ _ (T144.setTop (mkF m 239 (fL4 p0 p1 p2 p3 x1 (6 : Int32) (3 : Int32) b4) [(.int (0 : Int32))]))
                  refine endN X144 hx hlk (t := .boolean) (by simp) Bd.returns (hb hby at_239) eq144 (by decide) (by decide) ?_
                  exact absurd (own_at3_6 _ _) hc231_145
              · refine go (fun _ k => by refine XS.aload X22.here hx rfl (hb hby at_216) rfl rfl ?_; exact k) ?_
                refine go (fun _ k => by refine XS.iload X22.here hx rfl (hb hby at_218) rfl ?_; exact k) ?_
                show OwnEnd _ _ _ _ _ _ _ (T22.setTop (mkF m 220 (fL4 p0 p1 p2 p3 x1 (6 : Int32) (4 : Int32) b4) [(.int (4 : Int32)), (.ref b4)]))
                obtain ⟨_, T146, L146, X146, hQ146, st146⟩ := callVirt X22 hx hZ hown (hw _ (List.mem_of_getElem? (i := 28) rfl)) (hw _ (List.mem_of_getElem? (i := 24) rfl)) (notFace_of_selects (args := #[]) (mvT hZ (hw _ (List.mem_of_getElem? (i := 26) rfl)))) (hw _ (List.mem_of_getElem? (i := 26) rfl)) (hw _ (List.mem_of_getElem? (i := 25) rfl)) (hw _ (List.mem_of_getElem? (i := 3) rfl)) (hw _ (List.mem_of_getElem? (i := 27) rfl)) (by decide) (rm_get4 l Z a0 hw [] b4 (own_pk p0 x1 6) T22.heap n0 F_packed_b4) (W := 0) (by decide) (by decide) rfl E_b4 (g := (mkF m 220 (fL4 p0 p1 p2 p3 x1 (6 : Int32) (4 : Int32) b4) [(.int (4 : Int32)), (.ref b4)])) rfl (by rw [hml]; rfl) (argsL := [(.int (4 : Int32))]) (rest := []) rfl (lenOf pd__I_I rfl) rfl (by show 2 * 0 + _ ≤ _; exact Nat.le_of_eq rfl) (hb hby at_220) (by decide) (by decide)
                obtain ⟨rfl, Nq146, eq146⟩ := hQ146
                have N146 := Fr.app N22 Nq146
                refine go st146 ?_
                refine go (fun _ k => by refine XS.iloadN X146.here hx rfl (hb hby at_223) rfl ?_; exact k) ?_
                refine go (fun _ k => by refine XS.iload X146.here hx rfl (hb hby at_224) rfl ?_; exact k) ?_
                refine go (fun _ k => by refine XS.iload X146.here hx rfl (hb hby at_226) rfl ?_; exact k) ?_
                show OwnEnd _ _ _ _ _ _ _ (T146.setTop (mkF m 228 (fL4 p0 p1 p2 p3 x1 (6 : Int32) (4 : Int32) b4) [(.int (4 : Int32)), (.int x1), (.int p0), (.int (own_get (own_pk p0 x1 6) (32 : Int32)))]))
                obtain ⟨_, T147, L147, X147, hQ147, st147⟩ := callStat X146 hx hZ hown (hw _ (List.mem_of_getElem? (i := 10) rfl)) (hw _ (List.mem_of_getElem? (i := 11) rfl)) (hw _ (List.mem_of_getElem? (i := 12) rfl)) (hw _ (List.mem_of_getElem? (i := 13) rfl)) (by decide) (rm_sh l Z a0 hw [] p0 x1 (4 : Int32) T22.heap n0 ) (W := 1) (by decide) (by decide) eq146 (g := (mkF m 228 (fL4 p0 p1 p2 p3 x1 (6 : Int32) (4 : Int32) b4) [(.int (4 : Int32)), (.int x1), (.int p0), (.int (own_get (own_pk p0 x1 6) (32 : Int32)))])) rfl (by rw [hml]; rfl) (argsL := [(.int p0), (.int x1), (.int (4 : Int32))]) (rest := [(.int (own_get (own_pk p0 x1 6) (32 : Int32)))]) rfl (lenOf pd__III_I rfl) rfl (by show 2 * 0 + _ ≤ _; exact Nat.le_of_eq rfl) (hb hby at_228) (by decide) (by decide)
                obtain ⟨rfl, Nq147, eq147⟩ := hQ147
                have N147 := Fr.app N146 Nq147
                refine go st147 ?_
                show OwnEnd _ _ _ _ _ _ _ (T147.setTop (mkF m 231 (fL4 p0 p1 p2 p3 x1 (6 : Int32) (4 : Int32) b4) [(.int (own_sh p0 x1 4)), (.int (own_get (own_pk p0 x1 6) (32 : Int32)))]))
                by_cases hc231_148 : (own_get (own_pk p0 x1 6) (32 : Int32)) = (own_sh p0 x1 4)
                · refine go (fun _ k => by refine XS.icmpNo X147.here hx rfl (hb hby at_231) rfl (teq hc231_148).2 ?_; exact k) ?_
                  show OwnEnd _ _ _ _ _ _ _ (T147.setTop (mkF m 234 (fL4 p0 p1 p2 p3 x1 (6 : Int32) (4 : Int32) b4) []))
                  refine go (fun _ k => by refine XS.iconst X147.here hx rfl (hb hby at_234) ?_; exact k) ?_
                  refine go (fun _ k => by refine XS.goto X147.here hx rfl (pc0 := 235) (pc' := 239) rfl (hb hby at_235) (by decide) (by decide) ?_; exact k) ?_
                  show OwnEnd _ _ _ _ _ _ _ (T147.setTop (mkF m 239 (fL4 p0 p1 p2 p3 x1 (6 : Int32) (4 : Int32) b4) [(.int (1 : Int32))]))
                  refine endN X147 hx hlk (t := .boolean) (by simp) Bd.returns (hb hby at_239) eq147 (by decide) (by decide) ?_
                  exact ⟨rfl, N147⟩
                · refine go (fun _ k => by refine XS.icmpYes X147.here hx rfl (pc0 := 231) (pc' := 238) rfl (hb hby at_231) rfl (feq hc231_148).2 (by decide) (by decide) ?_; exact k) ?_
                  show OwnEnd _ _ _ _ _ _ _ (T147.setTop (mkF m 238 (fL4 p0 p1 p2 p3 x1 (6 : Int32) (4 : Int32) b4) []))
                  refine go (fun _ k => by refine XS.iconst X147.here hx rfl (hb hby at_238) ?_; exact k) ?_
                  show OwnEnd _ _ _ _ _ _ _ (T147.setTop (mkF m 239 (fL4 p0 p1 p2 p3 x1 (6 : Int32) (4 : Int32) b4) [(.int (0 : Int32))]))
                  refine endN X147 hx hlk (t := .boolean) (by simp) Bd.returns (hb hby at_239) eq147 (by decide) (by decide) ?_
                  exact absurd (own_at4_6 _ _) hc231_148
              · refine go (fun _ k => by refine XS.aload X22.here hx rfl (hb hby at_216) rfl rfl ?_; exact k) ?_
                refine go (fun _ k => by refine XS.iload X22.here hx rfl (hb hby at_218) rfl ?_; exact k) ?_
                show OwnEnd _ _ _ _ _ _ _ (T22.setTop (mkF m 220 (fL4 p0 p1 p2 p3 x1 (6 : Int32) (5 : Int32) b4) [(.int (5 : Int32)), (.ref b4)]))
                obtain ⟨_, T149, L149, X149, hQ149, st149⟩ := callVirt X22 hx hZ hown (hw _ (List.mem_of_getElem? (i := 28) rfl)) (hw _ (List.mem_of_getElem? (i := 24) rfl)) (notFace_of_selects (args := #[]) (mvT hZ (hw _ (List.mem_of_getElem? (i := 26) rfl)))) (hw _ (List.mem_of_getElem? (i := 26) rfl)) (hw _ (List.mem_of_getElem? (i := 25) rfl)) (hw _ (List.mem_of_getElem? (i := 3) rfl)) (hw _ (List.mem_of_getElem? (i := 27) rfl)) (by decide) (rm_get5 l Z a0 hw [] b4 (own_pk p0 x1 6) T22.heap n0 F_packed_b4) (W := 0) (by decide) (by decide) rfl E_b4 (g := (mkF m 220 (fL4 p0 p1 p2 p3 x1 (6 : Int32) (5 : Int32) b4) [(.int (5 : Int32)), (.ref b4)])) rfl (by rw [hml]; rfl) (argsL := [(.int (5 : Int32))]) (rest := []) rfl (lenOf pd__I_I rfl) rfl (by show 2 * 0 + _ ≤ _; exact Nat.le_of_eq rfl) (hb hby at_220) (by decide) (by decide)
                obtain ⟨rfl, Nq149, eq149⟩ := hQ149
                have N149 := Fr.app N22 Nq149
                refine go st149 ?_
                refine go (fun _ k => by refine XS.iloadN X149.here hx rfl (hb hby at_223) rfl ?_; exact k) ?_
                refine go (fun _ k => by refine XS.iload X149.here hx rfl (hb hby at_224) rfl ?_; exact k) ?_
                refine go (fun _ k => by refine XS.iload X149.here hx rfl (hb hby at_226) rfl ?_; exact k) ?_
                show OwnEnd _ _ _ _ _ _ _ (T149.setTop (mkF m 228 (fL4 p0 p1 p2 p3 x1 (6 : Int32) (5 : Int32) b4) [(.int (5 : Int32)), (.int x1), (.int p0), (.int (own_get (own_pk p0 x1 6) (40 : Int32)))]))
                obtain ⟨_, T150, L150, X150, hQ150, st150⟩ := callStat X149 hx hZ hown (hw _ (List.mem_of_getElem? (i := 10) rfl)) (hw _ (List.mem_of_getElem? (i := 11) rfl)) (hw _ (List.mem_of_getElem? (i := 12) rfl)) (hw _ (List.mem_of_getElem? (i := 13) rfl)) (by decide) (rm_sh l Z a0 hw [] p0 x1 (5 : Int32) T22.heap n0 ) (W := 1) (by decide) (by decide) eq149 (g := (mkF m 228 (fL4 p0 p1 p2 p3 x1 (6 : Int32) (5 : Int32) b4) [(.int (5 : Int32)), (.int x1), (.int p0), (.int (own_get (own_pk p0 x1 6) (40 : Int32)))])) rfl (by rw [hml]; rfl) (argsL := [(.int p0), (.int x1), (.int (5 : Int32))]) (rest := [(.int (own_get (own_pk p0 x1 6) (40 : Int32)))]) rfl (lenOf pd__III_I rfl) rfl (by show 2 * 0 + _ ≤ _; exact Nat.le_of_eq rfl) (hb hby at_228) (by decide) (by decide)
                obtain ⟨rfl, Nq150, eq150⟩ := hQ150
                have N150 := Fr.app N149 Nq150
                refine go st150 ?_
                show OwnEnd _ _ _ _ _ _ _ (T150.setTop (mkF m 231 (fL4 p0 p1 p2 p3 x1 (6 : Int32) (5 : Int32) b4) [(.int (own_sh p0 x1 5)), (.int (own_get (own_pk p0 x1 6) (40 : Int32)))]))
                by_cases hc231_151 : (own_get (own_pk p0 x1 6) (40 : Int32)) = (own_sh p0 x1 5)
                · refine go (fun _ k => by refine XS.icmpNo X150.here hx rfl (hb hby at_231) rfl (teq hc231_151).2 ?_; exact k) ?_
                  show OwnEnd _ _ _ _ _ _ _ (T150.setTop (mkF m 234 (fL4 p0 p1 p2 p3 x1 (6 : Int32) (5 : Int32) b4) []))
                  refine go (fun _ k => by refine XS.iconst X150.here hx rfl (hb hby at_234) ?_; exact k) ?_
                  refine go (fun _ k => by refine XS.goto X150.here hx rfl (pc0 := 235) (pc' := 239) rfl (hb hby at_235) (by decide) (by decide) ?_; exact k) ?_
                  show OwnEnd _ _ _ _ _ _ _ (T150.setTop (mkF m 239 (fL4 p0 p1 p2 p3 x1 (6 : Int32) (5 : Int32) b4) [(.int (1 : Int32))]))
                  refine endN X150 hx hlk (t := .boolean) (by simp) Bd.returns (hb hby at_239) eq150 (by decide) (by decide) ?_
                  exact ⟨rfl, N150⟩
                · refine go (fun _ k => by refine XS.icmpYes X150.here hx rfl (pc0 := 231) (pc' := 238) rfl (hb hby at_231) rfl (feq hc231_151).2 (by decide) (by decide) ?_; exact k) ?_
                  show OwnEnd _ _ _ _ _ _ _ (T150.setTop (mkF m 238 (fL4 p0 p1 p2 p3 x1 (6 : Int32) (5 : Int32) b4) []))
                  refine go (fun _ k => by refine XS.iconst X150.here hx rfl (hb hby at_238) ?_; exact k) ?_
                  show OwnEnd _ _ _ _ _ _ _ (T150.setTop (mkF m 239 (fL4 p0 p1 p2 p3 x1 (6 : Int32) (5 : Int32) b4) [(.int (0 : Int32))]))
                  refine endN X150 hx hlk (t := .boolean) (by simp) Bd.returns (hb hby at_239) eq150 (by decide) (by decide) ?_
                  exact absurd (own_at5_6 _ _) hc231_151
          · obtain rfl : x2 = 5 := own_m5 _ _ qx2 hc103_17 hc121_20
            refine go (fun _ k => by refine XS.icmpYes X19.here hx rfl (pc0 := 121) (pc' := 136) rfl (hb hby at_121) rfl (flt hc121_20).2.2.2 (by decide) (by decide) ?_; exact k) ?_
            show OwnEnd _ _ _ _ _ _ _ (T19.setTop (mkF m 136 (fL4 p0 p1 p2 p3 x1 (5 : Int32) x3 b4) []))
            refine go (fun _ k => by refine XS.iload X19.here hx rfl (hb hby at_136) rfl ?_; exact k) ?_
            refine go (fun _ k => by refine XS.bipush X19.here hx rfl (hb hby at_138) ?_; exact k) ?_
            show OwnEnd _ _ _ _ _ _ _ (T19.setTop (mkF m 140 (fL4 p0 p1 p2 p3 x1 (5 : Int32) x3 b4) [(.int (6 : Int32)), (.int (5 : Int32))]))
            refine go (fun _ k => by refine XS.icmpYes X19.here hx rfl (pc0 := 140) (pc' := 156) rfl (hb hby at_140) rfl (flt (by decide)).2.2.2 (by decide) (by decide) ?_; exact k) ?_
            refine go (fun _ k => by refine XS.iload X19.here hx rfl (hb hby at_156) rfl ?_; exact k) ?_
            refine go (fun _ k => by refine XS.bipush X19.here hx rfl (hb hby at_158) ?_; exact k) ?_
            show OwnEnd _ _ _ _ _ _ _ (T19.setTop (mkF m 160 (fL4 p0 p1 p2 p3 x1 (5 : Int32) x3 b4) [(.int (7 : Int32)), (.int (5 : Int32))]))
            refine go (fun _ k => by refine XS.icmpYes X19.here hx rfl (pc0 := 160) (pc' := 176) rfl (hb hby at_160) rfl (flt (by decide)).2.2.2 (by decide) (by decide) ?_; exact k) ?_
            refine go (fun _ k => by refine XS.iload X19.here hx rfl (hb hby at_176) rfl ?_; exact k) ?_
            refine go (fun _ k => by refine XS.bipush X19.here hx rfl (hb hby at_178) ?_; exact k) ?_
            show OwnEnd _ _ _ _ _ _ _ (T19.setTop (mkF m 180 (fL4 p0 p1 p2 p3 x1 (5 : Int32) x3 b4) [(.int (8 : Int32)), (.int (5 : Int32))]))
            refine go (fun _ k => by refine XS.icmpYes X19.here hx rfl (pc0 := 180) (pc' := 196) rfl (hb hby at_180) rfl (flt (by decide)).2.2.2 (by decide) (by decide) ?_; exact k) ?_
            refine go (fun _ k => by refine XS.iload X19.here hx rfl (hb hby at_196) rfl ?_; exact k) ?_
            refine go (fun _ k => by refine XS.bipush X19.here hx rfl (hb hby at_198) ?_; exact k) ?_
            show OwnEnd _ _ _ _ _ _ _ (T19.setTop (mkF m 200 (fL4 p0 p1 p2 p3 x1 (5 : Int32) x3 b4) [(.int (9 : Int32)), (.int (5 : Int32))]))
            refine go (fun _ k => by refine XS.icmpYes X19.here hx rfl (pc0 := 200) (pc' := 216) rfl (hb hby at_200) rfl (flt (by decide)).2.2.2 (by decide) (by decide) ?_; exact k) ?_
            show OwnEnd _ _ _ _ _ _ _ (T19.setTop (mkF m 216 (fL4 p0 p1 p2 p3 x1 (5 : Int32) x3 b4) []))
            rcases own_i5 _ _ qx3 with rfl | rfl | rfl | rfl | rfl
            · refine go (fun _ k => by refine XS.aload X19.here hx rfl (hb hby at_216) rfl rfl ?_; exact k) ?_
              refine go (fun _ k => by refine XS.iload X19.here hx rfl (hb hby at_218) rfl ?_; exact k) ?_
              show OwnEnd _ _ _ _ _ _ _ (T19.setTop (mkF m 220 (fL4 p0 p1 p2 p3 x1 (5 : Int32) (0 : Int32) b4) [(.int (0 : Int32)), (.ref b4)]))
              obtain ⟨_, T152, L152, X152, hQ152, st152⟩ := callVirt X19 hx hZ hown (hw _ (List.mem_of_getElem? (i := 28) rfl)) (hw _ (List.mem_of_getElem? (i := 24) rfl)) (notFace_of_selects (args := #[]) (mvT hZ (hw _ (List.mem_of_getElem? (i := 26) rfl)))) (hw _ (List.mem_of_getElem? (i := 26) rfl)) (hw _ (List.mem_of_getElem? (i := 25) rfl)) (hw _ (List.mem_of_getElem? (i := 3) rfl)) (hw _ (List.mem_of_getElem? (i := 27) rfl)) (by decide) (rm_get0 l Z a0 hw [] b4 (own_pk p0 x1 5) T19.heap n0 F_packed_b4) (W := 0) (by decide) (by decide) rfl E_b4 (g := (mkF m 220 (fL4 p0 p1 p2 p3 x1 (5 : Int32) (0 : Int32) b4) [(.int (0 : Int32)), (.ref b4)])) rfl (by rw [hml]; rfl) (argsL := [(.int (0 : Int32))]) (rest := []) rfl (lenOf pd__I_I rfl) rfl (by show 2 * 0 + _ ≤ _; exact Nat.le_of_eq rfl) (hb hby at_220) (by decide) (by decide)
              obtain ⟨rfl, Nq152, eq152⟩ := hQ152
              have N152 := Fr.app N19 Nq152
              refine go st152 ?_
              refine go (fun _ k => by refine XS.iloadN X152.here hx rfl (hb hby at_223) rfl ?_; exact k) ?_
              refine go (fun _ k => by refine XS.iload X152.here hx rfl (hb hby at_224) rfl ?_; exact k) ?_
              refine go (fun _ k => by refine XS.iload X152.here hx rfl (hb hby at_226) rfl ?_; exact k) ?_
              show OwnEnd _ _ _ _ _ _ _ (T152.setTop (mkF m 228 (fL4 p0 p1 p2 p3 x1 (5 : Int32) (0 : Int32) b4) [(.int (0 : Int32)), (.int x1), (.int p0), (.int (own_get (own_pk p0 x1 5) (0 : Int32)))]))
              obtain ⟨_, T153, L153, X153, hQ153, st153⟩ := callStat X152 hx hZ hown (hw _ (List.mem_of_getElem? (i := 10) rfl)) (hw _ (List.mem_of_getElem? (i := 11) rfl)) (hw _ (List.mem_of_getElem? (i := 12) rfl)) (hw _ (List.mem_of_getElem? (i := 13) rfl)) (by decide) (rm_sh l Z a0 hw [] p0 x1 (0 : Int32) T19.heap n0 ) (W := 1) (by decide) (by decide) eq152 (g := (mkF m 228 (fL4 p0 p1 p2 p3 x1 (5 : Int32) (0 : Int32) b4) [(.int (0 : Int32)), (.int x1), (.int p0), (.int (own_get (own_pk p0 x1 5) (0 : Int32)))])) rfl (by rw [hml]; rfl) (argsL := [(.int p0), (.int x1), (.int (0 : Int32))]) (rest := [(.int (own_get (own_pk p0 x1 5) (0 : Int32)))]) rfl (lenOf pd__III_I rfl) rfl (by show 2 * 0 + _ ≤ _; exact Nat.le_of_eq rfl) (hb hby at_228) (by decide) (by decide)
              obtain ⟨rfl, Nq153, eq153⟩ := hQ153
              have N153 := Fr.app N152 Nq153
              refine go st153 ?_
              show OwnEnd _ _ _ _ _ _ _ (T153.setTop (mkF m 231 (fL4 p0 p1 p2 p3 x1 (5 : Int32) (0 : Int32) b4) [(.int (own_sh p0 x1 0)), (.int (own_get (own_pk p0 x1 5) (0 : Int32)))]))
              by_cases hc231_154 : (own_get (own_pk p0 x1 5) (0 : Int32)) = (own_sh p0 x1 0)
              · refine go (fun _ k => by refine XS.icmpNo X153.here hx rfl (hb hby at_231) rfl (teq hc231_154).2 ?_; exact k) ?_
                show OwnEnd _ _ _ _ _ _ _ (T153.setTop (mkF m 234 (fL4 p0 p1 p2 p3 x1 (5 : Int32) (0 : Int32) b4) []))
                refine go (fun _ k => by refine XS.iconst X153.here hx rfl (hb hby at_234) ?_; exact k) ?_
                refine go (fun _ k => by refine XS.goto X153.here hx rfl (pc0 := 235) (pc' := 239) rfl (hb hby at_235) (by decide) (by decide) ?_; exact k) ?_
                show OwnEnd _ _ _ _ _ _ _ (T153.setTop (mkF m 239 (fL4 p0 p1 p2 p3 x1 (5 : Int32) (0 : Int32) b4) [(.int (1 : Int32))]))
                refine endN X153 hx hlk (t := .boolean) (by simp) Bd.returns (hb hby at_239) eq153 (by decide) (by decide) ?_
                exact ⟨rfl, N153⟩
              · refine go (fun _ k => by refine XS.icmpYes X153.here hx rfl (pc0 := 231) (pc' := 238) rfl (hb hby at_231) rfl (feq hc231_154).2 (by decide) (by decide) ?_; exact k) ?_
                show OwnEnd _ _ _ _ _ _ _ (T153.setTop (mkF m 238 (fL4 p0 p1 p2 p3 x1 (5 : Int32) (0 : Int32) b4) []))
                refine go (fun _ k => by refine XS.iconst X153.here hx rfl (hb hby at_238) ?_; exact k) ?_
                show OwnEnd _ _ _ _ _ _ _ (T153.setTop (mkF m 239 (fL4 p0 p1 p2 p3 x1 (5 : Int32) (0 : Int32) b4) [(.int (0 : Int32))]))
                refine endN X153 hx hlk (t := .boolean) (by simp) Bd.returns (hb hby at_239) eq153 (by decide) (by decide) ?_
                exact absurd (own_at0_5 _ _) hc231_154
            · refine go (fun _ k => by refine XS.aload X19.here hx rfl (hb hby at_216) rfl rfl ?_; exact k) ?_
              refine go (fun _ k => by refine XS.iload X19.here hx rfl (hb hby at_218) rfl ?_; exact k) ?_
              show OwnEnd _ _ _ _ _ _ _ (T19.setTop (mkF m 220 (fL4 p0 p1 p2 p3 x1 (5 : Int32) (1 : Int32) b4) [(.int (1 : Int32)), (.ref b4)]))
              obtain ⟨_, T155, L155, X155, hQ155, st155⟩ := callVirt X19 hx hZ hown (hw _ (List.mem_of_getElem? (i := 28) rfl)) (hw _ (List.mem_of_getElem? (i := 24) rfl)) (notFace_of_selects (args := #[]) (mvT hZ (hw _ (List.mem_of_getElem? (i := 26) rfl)))) (hw _ (List.mem_of_getElem? (i := 26) rfl)) (hw _ (List.mem_of_getElem? (i := 25) rfl)) (hw _ (List.mem_of_getElem? (i := 3) rfl)) (hw _ (List.mem_of_getElem? (i := 27) rfl)) (by decide) (rm_get1 l Z a0 hw [] b4 (own_pk p0 x1 5) T19.heap n0 F_packed_b4) (W := 0) (by decide) (by decide) rfl E_b4 (g := (mkF m 220 (fL4 p0 p1 p2 p3 x1 (5 : Int32) (1 : Int32) b4) [(.int (1 : Int32)), (.ref b4)])) rfl (by rw [hml]; rfl) (argsL := [(.int (1 : Int32))]) (rest := []) rfl (lenOf pd__I_I rfl) rfl (by show 2 * 0 + _ ≤ _; exact Nat.le_of_eq rfl) (hb hby at_220) (by decide) (by decide)
              obtain ⟨rfl, Nq155, eq155⟩ := hQ155
              have N155 := Fr.app N19 Nq155
              refine go st155 ?_
              refine go (fun _ k => by refine XS.iloadN X155.here hx rfl (hb hby at_223) rfl ?_; exact k) ?_
              refine go (fun _ k => by refine XS.iload X155.here hx rfl (hb hby at_224) rfl ?_; exact k) ?_
              refine go (fun _ k => by refine XS.iload X155.here hx rfl (hb hby at_226) rfl ?_; exact k) ?_
              show OwnEnd _ _ _ _ _ _ _ (T155.setTop (mkF m 228 (fL4 p0 p1 p2 p3 x1 (5 : Int32) (1 : Int32) b4) [(.int (1 : Int32)), (.int x1), (.int p0), (.int (own_get (own_pk p0 x1 5) (8 : Int32)))]))
              obtain ⟨_, T156, L156, X156, hQ156, st156⟩ := callStat X155 hx hZ hown (hw _ (List.mem_of_getElem? (i := 10) rfl)) (hw _ (List.mem_of_getElem? (i := 11) rfl)) (hw _ (List.mem_of_getElem? (i := 12) rfl)) (hw _ (List.mem_of_getElem? (i := 13) rfl)) (by decide) (rm_sh l Z a0 hw [] p0 x1 (1 : Int32) T19.heap n0 ) (W := 1) (by decide) (by decide) eq155 (g := (mkF m 228 (fL4 p0 p1 p2 p3 x1 (5 : Int32) (1 : Int32) b4) [(.int (1 : Int32)), (.int x1), (.int p0), (.int (own_get (own_pk p0 x1 5) (8 : Int32)))])) rfl (by rw [hml]; rfl) (argsL := [(.int p0), (.int x1), (.int (1 : Int32))]) (rest := [(.int (own_get (own_pk p0 x1 5) (8 : Int32)))]) rfl (lenOf pd__III_I rfl) rfl (by show 2 * 0 + _ ≤ _; exact Nat.le_of_eq rfl) (hb hby at_228) (by decide) (by decide)
              obtain ⟨rfl, Nq156, eq156⟩ := hQ156
              have N156 := Fr.app N155 Nq156
              refine go st156 ?_
              show OwnEnd _ _ _ _ _ _ _ (T156.setTop (mkF m 231 (fL4 p0 p1 p2 p3 x1 (5 : Int32) (1 : Int32) b4) [(.int (own_sh p0 x1 1)), (.int (own_get (own_pk p0 x1 5) (8 : Int32)))]))
              by_cases hc231_157 : (own_get (own_pk p0 x1 5) (8 : Int32)) = (own_sh p0 x1 1)
              · refine go (fun _ k => by refine XS.icmpNo X156.here hx rfl (hb hby at_231) rfl (teq hc231_157).2 ?_; exact k) ?_
                show OwnEnd _ _ _ _ _ _ _ (T156.setTop (mkF m 234 (fL4 p0 p1 p2 p3 x1 (5 : Int32) (1 : Int32) b4) []))
                refine go (fun _ k => by refine XS.iconst X156.here hx rfl (hb hby at_234) ?_; exact k) ?_
                refine go (fun _ k => by refine XS.goto X156.here hx rfl (pc0 := 235) (pc' := 239) rfl (hb hby at_235) (by decide) (by decide) ?_; exact k) ?_
                show OwnEnd _ _ _ _ _ _ _ (T156.setTop (mkF m 239 (fL4 p0 p1 p2 p3 x1 (5 : Int32) (1 : Int32) b4) [(.int (1 : Int32))]))
                refine endN X156 hx hlk (t := .boolean) (by simp) Bd.returns (hb hby at_239) eq156 (by decide) (by decide) ?_
                exact ⟨rfl, N156⟩
              · refine go (fun _ k => by refine XS.icmpYes X156.here hx rfl (pc0 := 231) (pc' := 238) rfl (hb hby at_231) rfl (feq hc231_157).2 (by decide) (by decide) ?_; exact k) ?_
                show OwnEnd _ _ _ _ _ _ _ (T156.setTop (mkF m 238 (fL4 p0 p1 p2 p3 x1 (5 : Int32) (1 : Int32) b4) []))
                refine go (fun _ k => by refine XS.iconst X156.here hx rfl (hb hby at_238) ?_; exact k) ?_
                show OwnEnd _ _ _ _ _ _ _ (T156.setTop (mkF m 239 (fL4 p0 p1 p2 p3 x1 (5 : Int32) (1 : Int32) b4) [(.int (0 : Int32))]))
                refine endN X156 hx hlk (t := .boolean) (by simp) Bd.returns (hb hby at_239) eq156 (by decide) (by decide) ?_
                exact absurd (own_at1_5 _ _) hc231_157
            · refine go (fun _ k => by refine XS.aload X19.here hx rfl (hb hby at_216) rfl rfl ?_; exact k) ?_
              refine go (fun _ k => by refine XS.iload X19.here hx rfl (hb hby at_218) rfl ?_; exact k) ?_
              show OwnEnd _ _ _ _ _ _ _ (T19.setTop (mkF m 220 (fL4 p0 p1 p2 p3 x1 (5 : Int32) (2 : Int32) b4) [(.int (2 : Int32)), (.ref b4)]))
              obtain ⟨_, T158, L158, X158, hQ158, st158⟩ := callVirt X19 hx hZ hown (hw _ (List.mem_of_getElem? (i := 28) rfl)) (hw _ (List.mem_of_getElem? (i := 24) rfl)) (notFace_of_selects (args := #[]) (mvT hZ (hw _ (List.mem_of_getElem? (i := 26) rfl)))) (hw _ (List.mem_of_getElem? (i := 26) rfl)) (hw _ (List.mem_of_getElem? (i := 25) rfl)) (hw _ (List.mem_of_getElem? (i := 3) rfl)) (hw _ (List.mem_of_getElem? (i := 27) rfl)) (by decide) (rm_get2 l Z a0 hw [] b4 (own_pk p0 x1 5) T19.heap n0 F_packed_b4) (W := 0) (by decide) (by decide) rfl E_b4 (g := (mkF m 220 (fL4 p0 p1 p2 p3 x1 (5 : Int32) (2 : Int32) b4) [(.int (2 : Int32)), (.ref b4)])) rfl (by rw [hml]; rfl) (argsL := [(.int (2 : Int32))]) (rest := []) rfl (lenOf pd__I_I rfl) rfl (by show 2 * 0 + _ ≤ _; exact Nat.le_of_eq rfl) (hb hby at_220) (by decide) (by decide)
              obtain ⟨rfl, Nq158, eq158⟩ := hQ158
              have N158 := Fr.app N19 Nq158
              refine go st158 ?_
              refine go (fun _ k => by refine XS.iloadN X158.here hx rfl (hb hby at_223) rfl ?_; exact k) ?_
              refine go (fun _ k => by refine XS.iload X158.here hx rfl (hb hby at_224) rfl ?_; exact k) ?_
              refine go (fun _ k => by refine XS.iload X158.here hx rfl (hb hby at_226) rfl ?_; exact k) ?_
              show OwnEnd _ _ _ _ _ _ _ (T158.setTop (mkF m 228 (fL4 p0 p1 p2 p3 x1 (5 : Int32) (2 : Int32) b4) [(.int (2 : Int32)), (.int x1), (.int p0), (.int (own_get (own_pk p0 x1 5) (16 : Int32)))]))
              obtain ⟨_, T159, L159, X159, hQ159, st159⟩ := callStat X158 hx hZ hown (hw _ (List.mem_of_getElem? (i := 10) rfl)) (hw _ (List.mem_of_getElem? (i := 11) rfl)) (hw _ (List.mem_of_getElem? (i := 12) rfl)) (hw _ (List.mem_of_getElem? (i := 13) rfl)) (by decide) (rm_sh l Z a0 hw [] p0 x1 (2 : Int32) T19.heap n0 ) (W := 1) (by decide) (by decide) eq158 (g := (mkF m 228 (fL4 p0 p1 p2 p3 x1 (5 : Int32) (2 : Int32) b4) [(.int (2 : Int32)), (.int x1), (.int p0), (.int (own_get (own_pk p0 x1 5) (16 : Int32)))])) rfl (by rw [hml]; rfl) (argsL := [(.int p0), (.int x1), (.int (2 : Int32))]) (rest := [(.int (own_get (own_pk p0 x1 5) (16 : Int32)))]) rfl (lenOf pd__III_I rfl) rfl (by show 2 * 0 + _ ≤ _; exact Nat.le_of_eq rfl) (hb hby at_228) (by decide) (by decide)
              obtain ⟨rfl, Nq159, eq159⟩ := hQ159
              have N159 := Fr.app N158 Nq159
              refine go st159 ?_
              show OwnEnd _ _ _ _ _ _ _ (T159.setTop (mkF m 231 (fL4 p0 p1 p2 p3 x1 (5 : Int32) (2 : Int32) b4) [(.int (own_sh p0 x1 2)), (.int (own_get (own_pk p0 x1 5) (16 : Int32)))]))
              by_cases hc231_160 : (own_get (own_pk p0 x1 5) (16 : Int32)) = (own_sh p0 x1 2)
              · refine go (fun _ k => by refine XS.icmpNo X159.here hx rfl (hb hby at_231) rfl (teq hc231_160).2 ?_; exact k) ?_
                show OwnEnd _ _ _ _ _ _ _ (T159.setTop (mkF m 234 (fL4 p0 p1 p2 p3 x1 (5 : Int32) (2 : Int32) b4) []))
                refine go (fun _ k => by refine XS.iconst X159.here hx rfl (hb hby at_234) ?_; exact k) ?_
                refine go (fun _ k => by refine XS.goto X159.here hx rfl (pc0 := 235) (pc' := 239) rfl (hb hby at_235) (by decide) (by decide) ?_; exact k) ?_
                show OwnEnd _ _ _ _ _ _ _ (T159.setTop (mkF m 239 (fL4 p0 p1 p2 p3 x1 (5 : Int32) (2 : Int32) b4) [(.int (1 : Int32))]))
                refine endN X159 hx hlk (t := .boolean) (by simp) Bd.returns (hb hby at_239) eq159 (by decide) (by decide) ?_
                exact ⟨rfl, N159⟩
              · refine go (fun _ k => by refine XS.icmpYes X159.here hx rfl (pc0 := 231) (pc' := 238) rfl (hb hby at_231) rfl (feq hc231_160).2 (by decide) (by decide) ?_; exact k) ?_
                show OwnEnd _ _ _ _ _ _ _ (T159.setTop (mkF m 238 (fL4 p0 p1 p2 p3 x1 (5 : Int32) (2 : Int32) b4) []))
                refine go (fun _ k => by refine XS.iconst X159.here hx rfl (hb hby at_238) ?_; exact k) ?_
                show OwnEnd _ _ _ _ _ _ _ (T159.setTop (mkF m 239 (fL4 p0 p1 p2 p3 x1 (5 : Int32) (2 : Int32) b4) [(.int (0 : Int32))]))
                refine endN X159 hx hlk (t := .boolean) (by simp) Bd.returns (hb hby at_239) eq159 (by decide) (by decide) ?_
                exact absurd (own_at2_5 _ _) hc231_160
            · refine go (fun _ k => by refine XS.aload X19.here hx rfl (hb hby at_216) rfl rfl ?_; exact k) ?_
              refine go (fun _ k => by refine XS.iload X19.here hx rfl (hb hby at_218) rfl ?_; exact k) ?_
              show OwnEnd _ _ _ _ _ _ _ (T19.setTop (mkF m 220 (fL4 p0 p1 p2 p3 x1 (5 : Int32) (3 : Int32) b4) [(.int (3 : Int32)), (.ref b4)]))
              obtain ⟨_, T161, L161, X161, hQ161, st161⟩ := callVirt X19 hx hZ hown (hw _ (List.mem_of_getElem? (i := 28) rfl)) (hw _ (List.mem_of_getElem? (i := 24) rfl)) (notFace_of_selects (args := #[]) (mvT hZ (hw _ (List.mem_of_getElem? (i := 26) rfl)))) (hw _ (List.mem_of_getElem? (i := 26) rfl)) (hw _ (List.mem_of_getElem? (i := 25) rfl)) (hw _ (List.mem_of_getElem? (i := 3) rfl)) (hw _ (List.mem_of_getElem? (i := 27) rfl)) (by decide) (rm_get3 l Z a0 hw [] b4 (own_pk p0 x1 5) T19.heap n0 F_packed_b4) (W := 0) (by decide) (by decide) rfl E_b4 (g := (mkF m 220 (fL4 p0 p1 p2 p3 x1 (5 : Int32) (3 : Int32) b4) [(.int (3 : Int32)), (.ref b4)])) rfl (by rw [hml]; rfl) (argsL := [(.int (3 : Int32))]) (rest := []) rfl (lenOf pd__I_I rfl) rfl (by show 2 * 0 + _ ≤ _; exact Nat.le_of_eq rfl) (hb hby at_220) (by decide) (by decide)
              obtain ⟨rfl, Nq161, eq161⟩ := hQ161
              have N161 := Fr.app N19 Nq161
              refine go st161 ?_
              refine go (fun _ k => by refine XS.iloadN X161.here hx rfl (hb hby at_223) rfl ?_; exact k) ?_
              refine go (fun _ k => by refine XS.iload X161.here hx rfl (hb hby at_224) rfl ?_; exact k) ?_
              refine go (fun _ k => by refine XS.iload X161.here hx rfl (hb hby at_226) rfl ?_; exact k) ?_
              show OwnEnd _ _ _ _ _ _ _ (T161.setTop (mkF m 228 (fL4 p0 p1 p2 p3 x1 (5 : Int32) (3 : Int32) b4) [(.int (3 : Int32)), (.int x1), (.int p0), (.int (own_get (own_pk p0 x1 5) (24 : Int32)))]))
              obtain ⟨_, T162, L162, X162, hQ162, st162⟩ := callStat X161 hx hZ hown (hw _ (List.mem_of_getElem? (i := 10) rfl)) (hw _ (List.mem_of_getElem? (i := 11) rfl)) (hw _ (List.mem_of_getElem? (i := 12) rfl)) (hw _ (List.mem_of_getElem? (i := 13) rfl)) (by decide) (rm_sh l Z a0 hw [] p0 x1 (3 : Int32) T19.heap n0 ) (W := 1) (by decide) (by decide) eq161 (g := (mkF m 228 (fL4 p0 p1 p2 p3 x1 (5 : Int32) (3 : Int32) b4) [(.int (3 : Int32)), (.int x1), (.int p0), (.int (own_get (own_pk p0 x1 5) (24 : Int32)))])) rfl (by rw [hml]; rfl) (argsL := [(.int p0), (.int x1), (.int (3 : Int32))]) (rest := [(.int (own_get (own_pk p0 x1 5) (24 : Int32)))]) rfl (lenOf pd__III_I rfl) rfl (by show 2 * 0 + _ ≤ _; exact Nat.le_of_eq rfl) (hb hby at_228) (by decide) (by decide)
              obtain ⟨rfl, Nq162, eq162⟩ := hQ162
              have N162 := Fr.app N161 Nq162
              refine go st162 ?_
              show OwnEnd _ _ _ _ _ _ _ (T162.setTop (mkF m 231 (fL4 p0 p1 p2 p3 x1 (5 : Int32) (3 : Int32) b4) [(.int (own_sh p0 x1 3)), (.int (own_get (own_pk p0 x1 5) (24 : Int32)))]))
              by_cases hc231_163 : (own_get (own_pk p0 x1 5) (24 : Int32)) = (own_sh p0 x1 3)
              · refine go (fun _ k => by refine XS.icmpNo X162.here hx rfl (hb hby at_231) rfl (teq hc231_163).2 ?_; exact k) ?_
                show OwnEnd _ _ _ _ _ _ _ (T162.setTop (mkF m 234 (fL4 p0 p1 p2 p3 x1 (5 : Int32) (3 : Int32) b4) []))
                refine go (fun _ k => by refine XS.iconst X162.here hx rfl (hb hby at_234) ?_; exact k) ?_
                refine go (fun _ k => by refine XS.goto X162.here hx rfl (pc0 := 235) (pc' := 239) rfl (hb hby at_235) (by decide) (by decide) ?_; exact k) ?_
                show OwnEnd _ _ _ _ _ _ _ (T162.setTop (mkF m 239 (fL4 p0 p1 p2 p3 x1 (5 : Int32) (3 : Int32) b4) [(.int (1 : Int32))]))
                refine endN X162 hx hlk (t := .boolean) (by simp) Bd.returns (hb hby at_239) eq162 (by decide) (by decide) ?_
                exact ⟨rfl, N162⟩
              · refine go (fun _ k => by refine XS.icmpYes X162.here hx rfl (pc0 := 231) (pc' := 238) rfl (hb hby at_231) rfl (feq hc231_163).2 (by decide) (by decide) ?_; exact k) ?_
                show OwnEnd _ _ _ _ _ _ _ (T162.setTop (mkF m 238 (fL4 p0 p1 p2 p3 x1 (5 : Int32) (3 : Int32) b4) []))
                refine go (fun _ k => by refine XS.iconst X162.here hx rfl (hb hby at_238) ?_; exact k) ?_
                show OwnEnd _ _ _ _ _ _ _ (T162.setTop (mkF m 239 (fL4 p0 p1 p2 p3 x1 (5 : Int32) (3 : Int32) b4) [(.int (0 : Int32))]))
                refine endN X162 hx hlk (t := .boolean) (by simp) Bd.returns (hb hby at_239) eq162 (by decide) (by decide) ?_
                exact absurd (own_at3_5 _ _) hc231_163
            · refine go (fun _ k => by refine XS.aload X19.here hx rfl (hb hby at_216) rfl rfl ?_; exact k) ?_
              refine go (fun _ k => by refine XS.iload X19.here hx rfl (hb hby at_218) rfl ?_; exact k) ?_
              show OwnEnd _ _ _ _ _ _ _ (T19.setTop (mkF m 220 (fL4 p0 p1 p2 p3 x1 (5 : Int32) (4 : Int32) b4) [(.int (4 : Int32)), (.ref b4)]))
              obtain ⟨_, T164, L164, X164, hQ164, st164⟩ := callVirt X19 hx hZ hown (hw _ (List.mem_of_getElem? (i := 28) rfl)) (hw _ (List.mem_of_getElem? (i := 24) rfl)) (notFace_of_selects (args := #[]) (mvT hZ (hw _ (List.mem_of_getElem? (i := 26) rfl)))) (hw _ (List.mem_of_getElem? (i := 26) rfl)) (hw _ (List.mem_of_getElem? (i := 25) rfl)) (hw _ (List.mem_of_getElem? (i := 3) rfl)) (hw _ (List.mem_of_getElem? (i := 27) rfl)) (by decide) (rm_get4 l Z a0 hw [] b4 (own_pk p0 x1 5) T19.heap n0 F_packed_b4) (W := 0) (by decide) (by decide) rfl E_b4 (g := (mkF m 220 (fL4 p0 p1 p2 p3 x1 (5 : Int32) (4 : Int32) b4) [(.int (4 : Int32)), (.ref b4)])) rfl (by rw [hml]; rfl) (argsL := [(.int (4 : Int32))]) (rest := []) rfl (lenOf pd__I_I rfl) rfl (by show 2 * 0 + _ ≤ _; exact Nat.le_of_eq rfl) (hb hby at_220) (by decide) (by decide)
              obtain ⟨rfl, Nq164, eq164⟩ := hQ164
              have N164 := Fr.app N19 Nq164
              refine go st164 ?_
              refine go (fun _ k => by refine XS.iloadN X164.here hx rfl (hb hby at_223) rfl ?_; exact k) ?_
              refine go (fun _ k => by refine XS.iload X164.here hx rfl (hb hby at_224) rfl ?_; exact k) ?_
              refine go (fun _ k => by refine XS.iload X164.here hx rfl (hb hby at_226) rfl ?_; exact k) ?_
              show OwnEnd _ _ _ _ _ _ _ (T164.setTop (mkF m 228 (fL4 p0 p1 p2 p3 x1 (5 : Int32) (4 : Int32) b4) [(.int (4 : Int32)), (.int x1), (.int p0), (.int (own_get (own_pk p0 x1 5) (32 : Int32)))]))
              obtain ⟨_, T165, L165, X165, hQ165, st165⟩ := callStat X164 hx hZ hown (hw _ (List.mem_of_getElem? (i := 10) rfl)) (hw _ (List.mem_of_getElem? (i := 11) rfl)) (hw _ (List.mem_of_getElem? (i := 12) rfl)) (hw _ (List.mem_of_getElem? (i := 13) rfl)) (by decide) (rm_sh l Z a0 hw [] p0 x1 (4 : Int32) T19.heap n0 ) (W := 1) (by decide) (by decide) eq164 (g := (mkF m 228 (fL4 p0 p1 p2 p3 x1 (5 : Int32) (4 : Int32) b4) [(.int (4 : Int32)), (.int x1), (.int p0), (.int (own_get (own_pk p0 x1 5) (32 : Int32)))])) rfl (by rw [hml]; rfl) (argsL := [(.int p0), (.int x1), (.int (4 : Int32))]) (rest := [(.int (own_get (own_pk p0 x1 5) (32 : Int32)))]) rfl (lenOf pd__III_I rfl) rfl (by show 2 * 0 + _ ≤ _; exact Nat.le_of_eq rfl) (hb hby at_228) (by decide) (by decide)
              obtain ⟨rfl, Nq165, eq165⟩ := hQ165
              have N165 := Fr.app N164 Nq165
              refine go st165 ?_
              show OwnEnd _ _ _ _ _ _ _ (T165.setTop (mkF m 231 (fL4 p0 p1 p2 p3 x1 (5 : Int32) (4 : Int32) b4) [(.int (own_sh p0 x1 4)), (.int (own_get (own_pk p0 x1 5) (32 : Int32)))]))
              by_cases hc231_166 : (own_get (own_pk p0 x1 5) (32 : Int32)) = (own_sh p0 x1 4)
              · refine go (fun _ k => by refine XS.icmpNo X165.here hx rfl (hb hby at_231) rfl (teq hc231_166).2 ?_; exact k) ?_
                show OwnEnd _ _ _ _ _ _ _ (T165.setTop (mkF m 234 (fL4 p0 p1 p2 p3 x1 (5 : Int32) (4 : Int32) b4) []))
                refine go (fun _ k => by refine XS.iconst X165.here hx rfl (hb hby at_234) ?_; exact k) ?_
                refine go (fun _ k => by refine XS.goto X165.here hx rfl (pc0 := 235) (pc' := 239) rfl (hb hby at_235) (by decide) (by decide) ?_; exact k) ?_
                show OwnEnd _ _ _ _ _ _ _ (T165.setTop (mkF m 239 (fL4 p0 p1 p2 p3 x1 (5 : Int32) (4 : Int32) b4) [(.int (1 : Int32))]))
                refine endN X165 hx hlk (t := .boolean) (by simp) Bd.returns (hb hby at_239) eq165 (by decide) (by decide) ?_
                exact ⟨rfl, N165⟩
              · refine go (fun _ k => by refine XS.icmpYes X165.here hx rfl (pc0 := 231) (pc' := 238) rfl (hb hby at_231) rfl (feq hc231_166).2 (by decide) (by decide) ?_; exact k) ?_
                show OwnEnd _ _ _ _ _ _ _ (T165.setTop (mkF m 238 (fL4 p0 p1 p2 p3 x1 (5 : Int32) (4 : Int32) b4) []))
                refine go (fun _ k => by refine XS.iconst X165.here hx rfl (hb hby at_238) ?_; exact k) ?_
                show OwnEnd _ _ _ _ _ _ _ (T165.setTop (mkF m 239 (fL4 p0 p1 p2 p3 x1 (5 : Int32) (4 : Int32) b4) [(.int (0 : Int32))]))
                refine endN X165 hx hlk (t := .boolean) (by simp) Bd.returns (hb hby at_239) eq165 (by decide) (by decide) ?_
                exact absurd (own_at4_5 _ _) hc231_166
        · obtain rfl : x2 = 4 := own_m4 _ _ qx2 hc85_14 hc103_17
          refine go (fun _ k => by refine XS.icmpYes X16.here hx rfl (pc0 := 103) (pc' := 118) rfl (hb hby at_103) rfl (flt hc103_17).2.2.2 (by decide) (by decide) ?_; exact k) ?_
          show OwnEnd _ _ _ _ _ _ _ (T16.setTop (mkF m 118 (fL4 p0 p1 p2 p3 x1 (4 : Int32) x3 b4) []))
          refine go (fun _ k => by refine XS.iload X16.here hx rfl (hb hby at_118) rfl ?_; exact k) ?_
          refine go (fun _ k => by refine XS.iconst X16.here hx rfl (hb hby at_120) ?_; exact k) ?_
          show OwnEnd _ _ _ _ _ _ _ (T16.setTop (mkF m 121 (fL4 p0 p1 p2 p3 x1 (4 : Int32) x3 b4) [(.int (5 : Int32)), (.int (4 : Int32))]))
          refine go (fun _ k => by refine XS.icmpYes X16.here hx rfl (pc0 := 121) (pc' := 136) rfl (hb hby at_121) rfl (flt (by decide)).2.2.2 (by decide) (by decide) ?_; exact k) ?_
          refine go (fun _ k => by refine XS.iload X16.here hx rfl (hb hby at_136) rfl ?_; exact k) ?_
          refine go (fun _ k => by refine XS.bipush X16.here hx rfl (hb hby at_138) ?_; exact k) ?_
          show OwnEnd _ _ _ _ _ _ _ (T16.setTop (mkF m 140 (fL4 p0 p1 p2 p3 x1 (4 : Int32) x3 b4) [(.int (6 : Int32)), (.int (4 : Int32))]))
          refine go (fun _ k => by refine XS.icmpYes X16.here hx rfl (pc0 := 140) (pc' := 156) rfl (hb hby at_140) rfl (flt (by decide)).2.2.2 (by decide) (by decide) ?_; exact k) ?_
          refine go (fun _ k => by refine XS.iload X16.here hx rfl (hb hby at_156) rfl ?_; exact k) ?_
          refine go (fun _ k => by refine XS.bipush X16.here hx rfl (hb hby at_158) ?_; exact k) ?_
          show OwnEnd _ _ _ _ _ _ _ (T16.setTop (mkF m 160 (fL4 p0 p1 p2 p3 x1 (4 : Int32) x3 b4) [(.int (7 : Int32)), (.int (4 : Int32))]))
          refine go (fun _ k => by refine XS.icmpYes X16.here hx rfl (pc0 := 160) (pc' := 176) rfl (hb hby at_160) rfl (flt (by decide)).2.2.2 (by decide) (by decide) ?_; exact k) ?_
          refine go (fun _ k => by refine XS.iload X16.here hx rfl (hb hby at_176) rfl ?_; exact k) ?_
          refine go (fun _ k => by refine XS.bipush X16.here hx rfl (hb hby at_178) ?_; exact k) ?_
          show OwnEnd _ _ _ _ _ _ _ (T16.setTop (mkF m 180 (fL4 p0 p1 p2 p3 x1 (4 : Int32) x3 b4) [(.int (8 : Int32)), (.int (4 : Int32))]))
          refine go (fun _ k => by refine XS.icmpYes X16.here hx rfl (pc0 := 180) (pc' := 196) rfl (hb hby at_180) rfl (flt (by decide)).2.2.2 (by decide) (by decide) ?_; exact k) ?_
          refine go (fun _ k => by refine XS.iload X16.here hx rfl (hb hby at_196) rfl ?_; exact k) ?_
          refine go (fun _ k => by refine XS.bipush X16.here hx rfl (hb hby at_198) ?_; exact k) ?_
          show OwnEnd _ _ _ _ _ _ _ (T16.setTop (mkF m 200 (fL4 p0 p1 p2 p3 x1 (4 : Int32) x3 b4) [(.int (9 : Int32)), (.int (4 : Int32))]))
          refine go (fun _ k => by refine XS.icmpYes X16.here hx rfl (pc0 := 200) (pc' := 216) rfl (hb hby at_200) rfl (flt (by decide)).2.2.2 (by decide) (by decide) ?_; exact k) ?_
          show OwnEnd _ _ _ _ _ _ _ (T16.setTop (mkF m 216 (fL4 p0 p1 p2 p3 x1 (4 : Int32) x3 b4) []))
          rcases own_i4 _ _ qx3 with rfl | rfl | rfl | rfl
          · refine go (fun _ k => by refine XS.aload X16.here hx rfl (hb hby at_216) rfl rfl ?_; exact k) ?_
            refine go (fun _ k => by refine XS.iload X16.here hx rfl (hb hby at_218) rfl ?_; exact k) ?_
            show OwnEnd _ _ _ _ _ _ _ (T16.setTop (mkF m 220 (fL4 p0 p1 p2 p3 x1 (4 : Int32) (0 : Int32) b4) [(.int (0 : Int32)), (.ref b4)]))
            obtain ⟨_, T167, L167, X167, hQ167, st167⟩ := callVirt X16 hx hZ hown (hw _ (List.mem_of_getElem? (i := 28) rfl)) (hw _ (List.mem_of_getElem? (i := 24) rfl)) (notFace_of_selects (args := #[]) (mvT hZ (hw _ (List.mem_of_getElem? (i := 26) rfl)))) (hw _ (List.mem_of_getElem? (i := 26) rfl)) (hw _ (List.mem_of_getElem? (i := 25) rfl)) (hw _ (List.mem_of_getElem? (i := 3) rfl)) (hw _ (List.mem_of_getElem? (i := 27) rfl)) (by decide) (rm_get0 l Z a0 hw [] b4 (own_pk p0 x1 4) T16.heap n0 F_packed_b4) (W := 0) (by decide) (by decide) rfl E_b4 (g := (mkF m 220 (fL4 p0 p1 p2 p3 x1 (4 : Int32) (0 : Int32) b4) [(.int (0 : Int32)), (.ref b4)])) rfl (by rw [hml]; rfl) (argsL := [(.int (0 : Int32))]) (rest := []) rfl (lenOf pd__I_I rfl) rfl (by show 2 * 0 + _ ≤ _; exact Nat.le_of_eq rfl) (hb hby at_220) (by decide) (by decide)
            obtain ⟨rfl, Nq167, eq167⟩ := hQ167
            have N167 := Fr.app N16 Nq167
            refine go st167 ?_
            refine go (fun _ k => by refine XS.iloadN X167.here hx rfl (hb hby at_223) rfl ?_; exact k) ?_
            refine go (fun _ k => by refine XS.iload X167.here hx rfl (hb hby at_224) rfl ?_; exact k) ?_
            refine go (fun _ k => by refine XS.iload X167.here hx rfl (hb hby at_226) rfl ?_; exact k) ?_
            show OwnEnd _ _ _ _ _ _ _ (T167.setTop (mkF m 228 (fL4 p0 p1 p2 p3 x1 (4 : Int32) (0 : Int32) b4) [(.int (0 : Int32)), (.int x1), (.int p0), (.int (own_get (own_pk p0 x1 4) (0 : Int32)))]))
            obtain ⟨_, T168, L168, X168, hQ168, st168⟩ := callStat X167 hx hZ hown (hw _ (List.mem_of_getElem? (i := 10) rfl)) (hw _ (List.mem_of_getElem? (i := 11) rfl)) (hw _ (List.mem_of_getElem? (i := 12) rfl)) (hw _ (List.mem_of_getElem? (i := 13) rfl)) (by decide) (rm_sh l Z a0 hw [] p0 x1 (0 : Int32) T16.heap n0 ) (W := 1) (by decide) (by decide) eq167 (g := (mkF m 228 (fL4 p0 p1 p2 p3 x1 (4 : Int32) (0 : Int32) b4) [(.int (0 : Int32)), (.int x1), (.int p0), (.int (own_get (own_pk p0 x1 4) (0 : Int32)))])) rfl (by rw [hml]; rfl) (argsL := [(.int p0), (.int x1), (.int (0 : Int32))]) (rest := [(.int (own_get (own_pk p0 x1 4) (0 : Int32)))]) rfl (lenOf pd__III_I rfl) rfl (by show 2 * 0 + _ ≤ _; exact Nat.le_of_eq rfl) (hb hby at_228) (by decide) (by decide)
            obtain ⟨rfl, Nq168, eq168⟩ := hQ168
            have N168 := Fr.app N167 Nq168
            refine go st168 ?_
            show OwnEnd _ _ _ _ _ _ _ (T168.setTop (mkF m 231 (fL4 p0 p1 p2 p3 x1 (4 : Int32) (0 : Int32) b4) [(.int (own_sh p0 x1 0)), (.int (own_get (own_pk p0 x1 4) (0 : Int32)))]))
            by_cases hc231_169 : (own_get (own_pk p0 x1 4) (0 : Int32)) = (own_sh p0 x1 0)
            · refine go (fun _ k => by refine XS.icmpNo X168.here hx rfl (hb hby at_231) rfl (teq hc231_169).2 ?_; exact k) ?_
              show OwnEnd _ _ _ _ _ _ _ (T168.setTop (mkF m 234 (fL4 p0 p1 p2 p3 x1 (4 : Int32) (0 : Int32) b4) []))
              refine go (fun _ k => by refine XS.iconst X168.here hx rfl (hb hby at_234) ?_; exact k) ?_
              refine go (fun _ k => by refine XS.goto X168.here hx rfl (pc0 := 235) (pc' := 239) rfl (hb hby at_235) (by decide) (by decide) ?_; exact k) ?_
              show OwnEnd _ _ _ _ _ _ _ (T168.setTop (mkF m 239 (fL4 p0 p1 p2 p3 x1 (4 : Int32) (0 : Int32) b4) [(.int (1 : Int32))]))
              refine endN X168 hx hlk (t := .boolean) (by simp) Bd.returns (hb hby at_239) eq168 (by decide) (by decide) ?_
              exact ⟨rfl, N168⟩
            · refine go (fun _ k => by refine XS.icmpYes X168.here hx rfl (pc0 := 231) (pc' := 238) rfl (hb hby at_231) rfl (feq hc231_169).2 (by decide) (by decide) ?_; exact k) ?_
              show OwnEnd _ _ _ _ _ _ _ (T168.setTop (mkF m 238 (fL4 p0 p1 p2 p3 x1 (4 : Int32) (0 : Int32) b4) []))
              refine go (fun _ k => by refine XS.iconst X168.here hx rfl (hb hby at_238) ?_; exact k) ?_
              show OwnEnd _ _ _ _ _ _ _ (T168.setTop (mkF m 239 (fL4 p0 p1 p2 p3 x1 (4 : Int32) (0 : Int32) b4) [(.int (0 : Int32))]))
              refine endN X168 hx hlk (t := .boolean) (by simp) Bd.returns (hb hby at_239) eq168 (by decide) (by decide) ?_
              exact absurd (own_at0_4 _ _) hc231_169
          · refine go (fun _ k => by refine XS.aload X16.here hx rfl (hb hby at_216) rfl rfl ?_; exact k) ?_
            refine go (fun _ k => by refine XS.iload X16.here hx rfl (hb hby at_218) rfl ?_; exact k) ?_
            show OwnEnd _ _ _ _ _ _ _ (T16.setTop (mkF m 220 (fL4 p0 p1 p2 p3 x1 (4 : Int32) (1 : Int32) b4) [(.int (1 : Int32)), (.ref b4)]))
            obtain ⟨_, T170, L170, X170, hQ170, st170⟩ := callVirt X16 hx hZ hown (hw _ (List.mem_of_getElem? (i := 28) rfl)) (hw _ (List.mem_of_getElem? (i := 24) rfl)) (notFace_of_selects (args := #[]) (mvT hZ (hw _ (List.mem_of_getElem? (i := 26) rfl)))) (hw _ (List.mem_of_getElem? (i := 26) rfl)) (hw _ (List.mem_of_getElem? (i := 25) rfl)) (hw _ (List.mem_of_getElem? (i := 3) rfl)) (hw _ (List.mem_of_getElem? (i := 27) rfl)) (by decide) (rm_get1 l Z a0 hw [] b4 (own_pk p0 x1 4) T16.heap n0 F_packed_b4) (W := 0) (by decide) (by decide) rfl E_b4 (g := (mkF m 220 (fL4 p0 p1 p2 p3 x1 (4 : Int32) (1 : Int32) b4) [(.int (1 : Int32)), (.ref b4)])) rfl (by rw [hml]; rfl) (argsL := [(.int (1 : Int32))]) (rest := []) rfl (lenOf pd__I_I rfl) rfl (by show 2 * 0 + _ ≤ _; exact Nat.le_of_eq rfl) (hb hby at_220) (by decide) (by decide)
            obtain ⟨rfl, Nq170, eq170⟩ := hQ170
            have N170 := Fr.app N16 Nq170
            refine go st170 ?_
            refine go (fun _ k => by refine XS.iloadN X170.here hx rfl (hb hby at_223) rfl ?_; exact k) ?_
            refine go (fun _ k => by refine XS.iload X170.here hx rfl (hb hby at_224) rfl ?_; exact k) ?_
            refine go (fun _ k => by refine XS.iload X170.here hx rfl (hb hby at_226) rfl ?_; exact k) ?_
            show OwnEnd _ _ _ _ _ _ _ (T170.setTop (mkF m 228 (fL4 p0 p1 p2 p3 x1 (4 : Int32) (1 : Int32) b4) [(.int (1 : Int32)), (.int x1), (.int p0), (.int (own_get (own_pk p0 x1 4) (8 : Int32)))]))
            obtain ⟨_, T171, L171, X171, hQ171, st171⟩ := callStat X170 hx hZ hown (hw _ (List.mem_of_getElem? (i := 10) rfl)) (hw _ (List.mem_of_getElem? (i := 11) rfl)) (hw _ (List.mem_of_getElem? (i := 12) rfl)) (hw _ (List.mem_of_getElem? (i := 13) rfl)) (by decide) (rm_sh l Z a0 hw [] p0 x1 (1 : Int32) T16.heap n0 ) (W := 1) (by decide) (by decide) eq170 (g := (mkF m 228 (fL4 p0 p1 p2 p3 x1 (4 : Int32) (1 : Int32) b4) [(.int (1 : Int32)), (.int x1), (.int p0), (.int (own_get (own_pk p0 x1 4) (8 : Int32)))])) rfl (by rw [hml]; rfl) (argsL := [(.int p0), (.int x1), (.int (1 : Int32))]) (rest := [(.int (own_get (own_pk p0 x1 4) (8 : Int32)))]) rfl (lenOf pd__III_I rfl) rfl (by show 2 * 0 + _ ≤ _; exact Nat.le_of_eq rfl) (hb hby at_228) (by decide) (by decide)
            obtain ⟨rfl, Nq171, eq171⟩ := hQ171
            have N171 := Fr.app N170 Nq171
            refine go st171 ?_
            show OwnEnd _ _ _ _ _ _ _ (T171.setTop (mkF m 231 (fL4 p0 p1 p2 p3 x1 (4 : Int32) (1 : Int32) b4) [(.int (own_sh p0 x1 1)), (.int (own_get (own_pk p0 x1 4) (8 : Int32)))]))
            by_cases hc231_172 : (own_get (own_pk p0 x1 4) (8 : Int32)) = (own_sh p0 x1 1)
            · refine go (fun _ k => by refine XS.icmpNo X171.here hx rfl (hb hby at_231) rfl (teq hc231_172).2 ?_; exact k) ?_
              show OwnEnd _ _ _ _ _ _ _ (T171.setTop (mkF m 234 (fL4 p0 p1 p2 p3 x1 (4 : Int32) (1 : Int32) b4) []))
              refine go (fun _ k => by refine XS.iconst X171.here hx rfl (hb hby at_234) ?_; exact k) ?_
              refine go (fun _ k => by refine XS.goto X171.here hx rfl (pc0 := 235) (pc' := 239) rfl (hb hby at_235) (by decide) (by decide) ?_; exact k) ?_
              show OwnEnd _ _ _ _ _ _ _ (T171.setTop (mkF m 239 (fL4 p0 p1 p2 p3 x1 (4 : Int32) (1 : Int32) b4) [(.int (1 : Int32))]))
              refine endN X171 hx hlk (t := .boolean) (by simp) Bd.returns (hb hby at_239) eq171 (by decide) (by decide) ?_
              exact ⟨rfl, N171⟩
            · refine go (fun _ k => by refine XS.icmpYes X171.here hx rfl (pc0 := 231) (pc' := 238) rfl (hb hby at_231) rfl (feq hc231_172).2 (by decide) (by decide) ?_; exact k) ?_
              show OwnEnd _ _ _ _ _ _ _ (T171.setTop (mkF m 238 (fL4 p0 p1 p2 p3 x1 (4 : Int32) (1 : Int32) b4) []))
              refine go (fun _ k => by refine XS.iconst X171.here hx rfl (hb hby at_238) ?_; exact k) ?_
              show OwnEnd _ _ _ _ _ _ _ (T171.setTop (mkF m 239 (fL4 p0 p1 p2 p3 x1 (4 : Int32) (1 : Int32) b4) [(.int (0 : Int32))]))
              refine endN X171 hx hlk (t := .boolean) (by simp) Bd.returns (hb hby at_239) eq171 (by decide) (by decide) ?_
              exact absurd (own_at1_4 _ _) hc231_172
          · refine go (fun _ k => by refine XS.aload X16.here hx rfl (hb hby at_216) rfl rfl ?_; exact k) ?_
            refine go (fun _ k => by refine XS.iload X16.here hx rfl (hb hby at_218) rfl ?_; exact k) ?_
            show OwnEnd _ _ _ _ _ _ _ (T16.setTop (mkF m 220 (fL4 p0 p1 p2 p3 x1 (4 : Int32) (2 : Int32) b4) [(.int (2 : Int32)), (.ref b4)]))
            obtain ⟨_, T173, L173, X173, hQ173, st173⟩ := callVirt X16 hx hZ hown (hw _ (List.mem_of_getElem? (i := 28) rfl)) (hw _ (List.mem_of_getElem? (i := 24) rfl)) (notFace_of_selects (args := #[]) (mvT hZ (hw _ (List.mem_of_getElem? (i := 26) rfl)))) (hw _ (List.mem_of_getElem? (i := 26) rfl)) (hw _ (List.mem_of_getElem? (i := 25) rfl)) (hw _ (List.mem_of_getElem? (i := 3) rfl)) (hw _ (List.mem_of_getElem? (i := 27) rfl)) (by decide) (rm_get2 l Z a0 hw [] b4 (own_pk p0 x1 4) T16.heap n0 F_packed_b4) (W := 0) (by decide) (by decide) rfl E_b4 (g := (mkF m 220 (fL4 p0 p1 p2 p3 x1 (4 : Int32) (2 : Int32) b4) [(.int (2 : Int32)), (.ref b4)])) rfl (by rw [hml]; rfl) (argsL := [(.int (2 : Int32))]) (rest := []) rfl (lenOf pd__I_I rfl) rfl (by show 2 * 0 + _ ≤ _; exact Nat.le_of_eq rfl) (hb hby at_220) (by decide) (by decide)
            obtain ⟨rfl, Nq173, eq173⟩ := hQ173
            have N173 := Fr.app N16 Nq173
            refine go st173 ?_
            refine go (fun _ k => by refine XS.iloadN X173.here hx rfl (hb hby at_223) rfl ?_; exact k) ?_
            refine go (fun _ k => by refine XS.iload X173.here hx rfl (hb hby at_224) rfl ?_; exact k) ?_
            refine go (fun _ k => by refine XS.iload X173.here hx rfl (hb hby at_226) rfl ?_; exact k) ?_
            show OwnEnd _ _ _ _ _ _ _ (T173.setTop (mkF m 228 (fL4 p0 p1 p2 p3 x1 (4 : Int32) (2 : Int32) b4) [(.int (2 : Int32)), (.int x1), (.int p0), (.int (own_get (own_pk p0 x1 4) (16 : Int32)))]))
            obtain ⟨_, T174, L174, X174, hQ174, st174⟩ := callStat X173 hx hZ hown (hw _ (List.mem_of_getElem? (i := 10) rfl)) (hw _ (List.mem_of_getElem? (i := 11) rfl)) (hw _ (List.mem_of_getElem? (i := 12) rfl)) (hw _ (List.mem_of_getElem? (i := 13) rfl)) (by decide) (rm_sh l Z a0 hw [] p0 x1 (2 : Int32) T16.heap n0 ) (W := 1) (by decide) (by decide) eq173 (g := (mkF m 228 (fL4 p0 p1 p2 p3 x1 (4 : Int32) (2 : Int32) b4) [(.int (2 : Int32)), (.int x1), (.int p0), (.int (own_get (own_pk p0 x1 4) (16 : Int32)))])) rfl (by rw [hml]; rfl) (argsL := [(.int p0), (.int x1), (.int (2 : Int32))]) (rest := [(.int (own_get (own_pk p0 x1 4) (16 : Int32)))]) rfl (lenOf pd__III_I rfl) rfl (by show 2 * 0 + _ ≤ _; exact Nat.le_of_eq rfl) (hb hby at_228) (by decide) (by decide)
            obtain ⟨rfl, Nq174, eq174⟩ := hQ174
            have N174 := Fr.app N173 Nq174
            refine go st174 ?_
            show OwnEnd _ _ _ _ _ _ _ (T174.setTop (mkF m 231 (fL4 p0 p1 p2 p3 x1 (4 : Int32) (2 : Int32) b4) [(.int (own_sh p0 x1 2)), (.int (own_get (own_pk p0 x1 4) (16 : Int32)))]))
            by_cases hc231_175 : (own_get (own_pk p0 x1 4) (16 : Int32)) = (own_sh p0 x1 2)
            · refine go (fun _ k => by refine XS.icmpNo X174.here hx rfl (hb hby at_231) rfl (teq hc231_175).2 ?_; exact k) ?_
              show OwnEnd _ _ _ _ _ _ _ (T174.setTop (mkF m 234 (fL4 p0 p1 p2 p3 x1 (4 : Int32) (2 : Int32) b4) []))
              refine go (fun _ k => by refine XS.iconst X174.here hx rfl (hb hby at_234) ?_; exact k) ?_
              refine go (fun _ k => by refine XS.goto X174.here hx rfl (pc0 := 235) (pc' := 239) rfl (hb hby at_235) (by decide) (by decide) ?_; exact k) ?_
              show OwnEnd _ _ _ _ _ _ _ (T174.setTop (mkF m 239 (fL4 p0 p1 p2 p3 x1 (4 : Int32) (2 : Int32) b4) [(.int (1 : Int32))]))
              refine endN X174 hx hlk (t := .boolean) (by simp) Bd.returns (hb hby at_239) eq174 (by decide) (by decide) ?_
              exact ⟨rfl, N174⟩
            · refine go (fun _ k => by refine XS.icmpYes X174.here hx rfl (pc0 := 231) (pc' := 238) rfl (hb hby at_231) rfl (feq hc231_175).2 (by decide) (by decide) ?_; exact k) ?_
              show OwnEnd _ _ _ _ _ _ _ (T174.setTop (mkF m 238 (fL4 p0 p1 p2 p3 x1 (4 : Int32) (2 : Int32) b4) []))
              refine go (fun _ k => by refine XS.iconst X174.here hx rfl (hb hby at_238) ?_; exact k) ?_
              show OwnEnd _ _ _ _ _ _ _ (T174.setTop (mkF m 239 (fL4 p0 p1 p2 p3 x1 (4 : Int32) (2 : Int32) b4) [(.int (0 : Int32))]))
              refine endN X174 hx hlk (t := .boolean) (by simp) Bd.returns (hb hby at_239) eq174 (by decide) (by decide) ?_
              exact absurd (own_at2_4 _ _) hc231_175
          · refine go (fun _ k => by refine XS.aload X16.here hx rfl (hb hby at_216) rfl rfl ?_; exact k) ?_
            refine go (fun _ k => by refine XS.iload X16.here hx rfl (hb hby at_218) rfl ?_; exact k) ?_
            show OwnEnd _ _ _ _ _ _ _ (T16.setTop (mkF m 220 (fL4 p0 p1 p2 p3 x1 (4 : Int32) (3 : Int32) b4) [(.int (3 : Int32)), (.ref b4)]))
            obtain ⟨_, T176, L176, X176, hQ176, st176⟩ := callVirt X16 hx hZ hown (hw _ (List.mem_of_getElem? (i := 28) rfl)) (hw _ (List.mem_of_getElem? (i := 24) rfl)) (notFace_of_selects (args := #[]) (mvT hZ (hw _ (List.mem_of_getElem? (i := 26) rfl)))) (hw _ (List.mem_of_getElem? (i := 26) rfl)) (hw _ (List.mem_of_getElem? (i := 25) rfl)) (hw _ (List.mem_of_getElem? (i := 3) rfl)) (hw _ (List.mem_of_getElem? (i := 27) rfl)) (by decide) (rm_get3 l Z a0 hw [] b4 (own_pk p0 x1 4) T16.heap n0 F_packed_b4) (W := 0) (by decide) (by decide) rfl E_b4 (g := (mkF m 220 (fL4 p0 p1 p2 p3 x1 (4 : Int32) (3 : Int32) b4) [(.int (3 : Int32)), (.ref b4)])) rfl (by rw [hml]; rfl) (argsL := [(.int (3 : Int32))]) (rest := []) rfl (lenOf pd__I_I rfl) rfl (by show 2 * 0 + _ ≤ _; exact Nat.le_of_eq rfl) (hb hby at_220) (by decide) (by decide)
            obtain ⟨rfl, Nq176, eq176⟩ := hQ176
            have N176 := Fr.app N16 Nq176
            refine go st176 ?_
            refine go (fun _ k => by refine XS.iloadN X176.here hx rfl (hb hby at_223) rfl ?_; exact k) ?_
            refine go (fun _ k => by refine XS.iload X176.here hx rfl (hb hby at_224) rfl ?_; exact k) ?_
            refine go (fun _ k => by refine XS.iload X176.here hx rfl (hb hby at_226) rfl ?_; exact k) ?_
            show OwnEnd _ _ _ _ _ _ _ (T176.setTop (mkF m 228 (fL4 p0 p1 p2 p3 x1 (4 : Int32) (3 : Int32) b4) [(.int (3 : Int32)), (.int x1), (.int p0), (.int (own_get (own_pk p0 x1 4) (24 : Int32)))]))
            obtain ⟨_, T177, L177, X177, hQ177, st177⟩ := callStat X176 hx hZ hown (hw _ (List.mem_of_getElem? (i := 10) rfl)) (hw _ (List.mem_of_getElem? (i := 11) rfl)) (hw _ (List.mem_of_getElem? (i := 12) rfl)) (hw _ (List.mem_of_getElem? (i := 13) rfl)) (by decide) (rm_sh l Z a0 hw [] p0 x1 (3 : Int32) T16.heap n0 ) (W := 1) (by decide) (by decide) eq176 (g := (mkF m 228 (fL4 p0 p1 p2 p3 x1 (4 : Int32) (3 : Int32) b4) [(.int (3 : Int32)), (.int x1), (.int p0), (.int (own_get (own_pk p0 x1 4) (24 : Int32)))])) rfl (by rw [hml]; rfl) (argsL := [(.int p0), (.int x1), (.int (3 : Int32))]) (rest := [(.int (own_get (own_pk p0 x1 4) (24 : Int32)))]) rfl (lenOf pd__III_I rfl) rfl (by show 2 * 0 + _ ≤ _; exact Nat.le_of_eq rfl) (hb hby at_228) (by decide) (by decide)
            obtain ⟨rfl, Nq177, eq177⟩ := hQ177
            have N177 := Fr.app N176 Nq177
            refine go st177 ?_
            show OwnEnd _ _ _ _ _ _ _ (T177.setTop (mkF m 231 (fL4 p0 p1 p2 p3 x1 (4 : Int32) (3 : Int32) b4) [(.int (own_sh p0 x1 3)), (.int (own_get (own_pk p0 x1 4) (24 : Int32)))]))
            by_cases hc231_178 : (own_get (own_pk p0 x1 4) (24 : Int32)) = (own_sh p0 x1 3)
            · refine go (fun _ k => by refine XS.icmpNo X177.here hx rfl (hb hby at_231) rfl (teq hc231_178).2 ?_; exact k) ?_
              show OwnEnd _ _ _ _ _ _ _ (T177.setTop (mkF m 234 (fL4 p0 p1 p2 p3 x1 (4 : Int32) (3 : Int32) b4) []))
              refine go (fun _ k => by refine XS.iconst X177.here hx rfl (hb hby at_234) ?_; exact k) ?_
              refine go (fun _ k => by refine XS.goto X177.here hx rfl (pc0 := 235) (pc' := 239) rfl (hb hby at_235) (by decide) (by decide) ?_; exact k) ?_
              show OwnEnd _ _ _ _ _ _ _ (T177.setTop (mkF m 239 (fL4 p0 p1 p2 p3 x1 (4 : Int32) (3 : Int32) b4) [(.int (1 : Int32))]))
              refine endN X177 hx hlk (t := .boolean) (by simp) Bd.returns (hb hby at_239) eq177 (by decide) (by decide) ?_
              exact ⟨rfl, N177⟩
            · refine go (fun _ k => by refine XS.icmpYes X177.here hx rfl (pc0 := 231) (pc' := 238) rfl (hb hby at_231) rfl (feq hc231_178).2 (by decide) (by decide) ?_; exact k) ?_
              show OwnEnd _ _ _ _ _ _ _ (T177.setTop (mkF m 238 (fL4 p0 p1 p2 p3 x1 (4 : Int32) (3 : Int32) b4) []))
              refine go (fun _ k => by refine XS.iconst X177.here hx rfl (hb hby at_238) ?_; exact k) ?_
              show OwnEnd _ _ _ _ _ _ _ (T177.setTop (mkF m 239 (fL4 p0 p1 p2 p3 x1 (4 : Int32) (3 : Int32) b4) [(.int (0 : Int32))]))
              refine endN X177 hx hlk (t := .boolean) (by simp) Bd.returns (hb hby at_239) eq177 (by decide) (by decide) ?_
              exact absurd (own_at3_4 _ _) hc231_178
      · obtain rfl : x2 = 3 := own_m3 _ _ qx2 hc67_11 hc85_14
        refine go (fun _ k => by refine XS.icmpYes X13.here hx rfl (pc0 := 85) (pc' := 100) rfl (hb hby at_85) rfl (flt hc85_14).2.2.2 (by decide) (by decide) ?_; exact k) ?_
        show OwnEnd _ _ _ _ _ _ _ (T13.setTop (mkF m 100 (fL4 p0 p1 p2 p3 x1 (3 : Int32) x3 b4) []))
        refine go (fun _ k => by refine XS.iload X13.here hx rfl (hb hby at_100) rfl ?_; exact k) ?_
        refine go (fun _ k => by refine XS.iconst X13.here hx rfl (hb hby at_102) ?_; exact k) ?_
        show OwnEnd _ _ _ _ _ _ _ (T13.setTop (mkF m 103 (fL4 p0 p1 p2 p3 x1 (3 : Int32) x3 b4) [(.int (4 : Int32)), (.int (3 : Int32))]))
        refine go (fun _ k => by refine XS.icmpYes X13.here hx rfl (pc0 := 103) (pc' := 118) rfl (hb hby at_103) rfl (flt (by decide)).2.2.2 (by decide) (by decide) ?_; exact k) ?_
        refine go (fun _ k => by refine XS.iload X13.here hx rfl (hb hby at_118) rfl ?_; exact k) ?_
        refine go (fun _ k => by refine XS.iconst X13.here hx rfl (hb hby at_120) ?_; exact k) ?_
        show OwnEnd _ _ _ _ _ _ _ (T13.setTop (mkF m 121 (fL4 p0 p1 p2 p3 x1 (3 : Int32) x3 b4) [(.int (5 : Int32)), (.int (3 : Int32))]))
        refine go (fun _ k => by refine XS.icmpYes X13.here hx rfl (pc0 := 121) (pc' := 136) rfl (hb hby at_121) rfl (flt (by decide)).2.2.2 (by decide) (by decide) ?_; exact k) ?_
        refine go (fun _ k => by refine XS.iload X13.here hx rfl (hb hby at_136) rfl ?_; exact k) ?_
        refine go (fun _ k => by refine XS.bipush X13.here hx rfl (hb hby at_138) ?_; exact k) ?_
        show OwnEnd _ _ _ _ _ _ _ (T13.setTop (mkF m 140 (fL4 p0 p1 p2 p3 x1 (3 : Int32) x3 b4) [(.int (6 : Int32)), (.int (3 : Int32))]))
        refine go (fun _ k => by refine XS.icmpYes X13.here hx rfl (pc0 := 140) (pc' := 156) rfl (hb hby at_140) rfl (flt (by decide)).2.2.2 (by decide) (by decide) ?_; exact k) ?_
        refine go (fun _ k => by refine XS.iload X13.here hx rfl (hb hby at_156) rfl ?_; exact k) ?_
        refine go (fun _ k => by refine XS.bipush X13.here hx rfl (hb hby at_158) ?_; exact k) ?_
        show OwnEnd _ _ _ _ _ _ _ (T13.setTop (mkF m 160 (fL4 p0 p1 p2 p3 x1 (3 : Int32) x3 b4) [(.int (7 : Int32)), (.int (3 : Int32))]))
        refine go (fun _ k => by refine XS.icmpYes X13.here hx rfl (pc0 := 160) (pc' := 176) rfl (hb hby at_160) rfl (flt (by decide)).2.2.2 (by decide) (by decide) ?_; exact k) ?_
        refine go (fun _ k => by refine XS.iload X13.here hx rfl (hb hby at_176) rfl ?_; exact k) ?_
        refine go (fun _ k => by refine XS.bipush X13.here hx rfl (hb hby at_178) ?_; exact k) ?_
        show OwnEnd _ _ _ _ _ _ _ (T13.setTop (mkF m 180 (fL4 p0 p1 p2 p3 x1 (3 : Int32) x3 b4) [(.int (8 : Int32)), (.int (3 : Int32))]))
        refine go (fun _ k => by refine XS.icmpYes X13.here hx rfl (pc0 := 180) (pc' := 196) rfl (hb hby at_180) rfl (flt (by decide)).2.2.2 (by decide) (by decide) ?_; exact k) ?_
        refine go (fun _ k => by refine XS.iload X13.here hx rfl (hb hby at_196) rfl ?_; exact k) ?_
        refine go (fun _ k => by refine XS.bipush X13.here hx rfl (hb hby at_198) ?_; exact k) ?_
        show OwnEnd _ _ _ _ _ _ _ (T13.setTop (mkF m 200 (fL4 p0 p1 p2 p3 x1 (3 : Int32) x3 b4) [(.int (9 : Int32)), (.int (3 : Int32))]))
        refine go (fun _ k => by refine XS.icmpYes X13.here hx rfl (pc0 := 200) (pc' := 216) rfl (hb hby at_200) rfl (flt (by decide)).2.2.2 (by decide) (by decide) ?_; exact k) ?_
        show OwnEnd _ _ _ _ _ _ _ (T13.setTop (mkF m 216 (fL4 p0 p1 p2 p3 x1 (3 : Int32) x3 b4) []))
        rcases own_i3 _ _ qx3 with rfl | rfl | rfl
        · refine go (fun _ k => by refine XS.aload X13.here hx rfl (hb hby at_216) rfl rfl ?_; exact k) ?_
          refine go (fun _ k => by refine XS.iload X13.here hx rfl (hb hby at_218) rfl ?_; exact k) ?_
          show OwnEnd _ _ _ _ _ _ _ (T13.setTop (mkF m 220 (fL4 p0 p1 p2 p3 x1 (3 : Int32) (0 : Int32) b4) [(.int (0 : Int32)), (.ref b4)]))
          obtain ⟨_, T179, L179, X179, hQ179, st179⟩ := callVirt X13 hx hZ hown (hw _ (List.mem_of_getElem? (i := 28) rfl)) (hw _ (List.mem_of_getElem? (i := 24) rfl)) (notFace_of_selects (args := #[]) (mvT hZ (hw _ (List.mem_of_getElem? (i := 26) rfl)))) (hw _ (List.mem_of_getElem? (i := 26) rfl)) (hw _ (List.mem_of_getElem? (i := 25) rfl)) (hw _ (List.mem_of_getElem? (i := 3) rfl)) (hw _ (List.mem_of_getElem? (i := 27) rfl)) (by decide) (rm_get0 l Z a0 hw [] b4 (own_pk p0 x1 3) T13.heap n0 F_packed_b4) (W := 0) (by decide) (by decide) rfl E_b4 (g := (mkF m 220 (fL4 p0 p1 p2 p3 x1 (3 : Int32) (0 : Int32) b4) [(.int (0 : Int32)), (.ref b4)])) rfl (by rw [hml]; rfl) (argsL := [(.int (0 : Int32))]) (rest := []) rfl (lenOf pd__I_I rfl) rfl (by show 2 * 0 + _ ≤ _; exact Nat.le_of_eq rfl) (hb hby at_220) (by decide) (by decide)
          obtain ⟨rfl, Nq179, eq179⟩ := hQ179
          have N179 := Fr.app N13 Nq179
          refine go st179 ?_
          refine go (fun _ k => by refine XS.iloadN X179.here hx rfl (hb hby at_223) rfl ?_; exact k) ?_
          refine go (fun _ k => by refine XS.iload X179.here hx rfl (hb hby at_224) rfl ?_; exact k) ?_
          refine go (fun _ k => by refine XS.iload X179.here hx rfl (hb hby at_226) rfl ?_; exact k) ?_
          show OwnEnd _ _ _ _ _ _ _ (T179.setTop (mkF m 228 (fL4 p0 p1 p2 p3 x1 (3 : Int32) (0 : Int32) b4) [(.int (0 : Int32)), (.int x1), (.int p0), (.int (own_get (own_pk p0 x1 3) (0 : Int32)))]))
          obtain ⟨_, T180, L180, X180, hQ180, st180⟩ := callStat X179 hx hZ hown (hw _ (List.mem_of_getElem? (i := 10) rfl)) (hw _ (List.mem_of_getElem? (i := 11) rfl)) (hw _ (List.mem_of_getElem? (i := 12) rfl)) (hw _ (List.mem_of_getElem? (i := 13) rfl)) (by decide) (rm_sh l Z a0 hw [] p0 x1 (0 : Int32) T13.heap n0 ) (W := 1) (by decide) (by decide) eq179 (g := (mkF m 228 (fL4 p0 p1 p2 p3 x1 (3 : Int32) (0 : Int32) b4) [(.int (0 : Int32)), (.int x1), (.int p0), (.int (own_get (own_pk p0 x1 3) (0 : Int32)))])) rfl (by rw [hml]; rfl) (argsL := [(.int p0), (.int x1), (.int (0 : Int32))]) (rest := [(.int (own_get (own_pk p0 x1 3) (0 : Int32)))]) rfl (lenOf pd__III_I rfl) rfl (by show 2 * 0 + _ ≤ _; exact Nat.le_of_eq rfl) (hb hby at_228) (by decide) (by decide)
          obtain ⟨rfl, Nq180, eq180⟩ := hQ180
          have N180 := Fr.app N179 Nq180
          refine go st180 ?_
          show OwnEnd _ _ _ _ _ _ _ (T180.setTop (mkF m 231 (fL4 p0 p1 p2 p3 x1 (3 : Int32) (0 : Int32) b4) [(.int (own_sh p0 x1 0)), (.int (own_get (own_pk p0 x1 3) (0 : Int32)))]))
          by_cases hc231_181 : (own_get (own_pk p0 x1 3) (0 : Int32)) = (own_sh p0 x1 0)
          · refine go (fun _ k => by refine XS.icmpNo X180.here hx rfl (hb hby at_231) rfl (teq hc231_181).2 ?_; exact k) ?_
            show OwnEnd _ _ _ _ _ _ _ (T180.setTop (mkF m 234 (fL4 p0 p1 p2 p3 x1 (3 : Int32) (0 : Int32) b4) []))
            refine go (fun _ k => by refine XS.iconst X180.here hx rfl (hb hby at_234) ?_; exact k) ?_
            refine go (fun _ k => by refine XS.goto X180.here hx rfl (pc0 := 235) (pc' := 239) rfl (hb hby at_235) (by decide) (by decide) ?_; exact k) ?_
            show OwnEnd _ _ _ _ _ _ _ (T180.setTop (mkF m 239 (fL4 p0 p1 p2 p3 x1 (3 : Int32) (0 : Int32) b4) [(.int (1 : Int32))]))
            refine endN X180 hx hlk (t := .boolean) (by simp) Bd.returns (hb hby at_239) eq180 (by decide) (by decide) ?_
            exact ⟨rfl, N180⟩
          · refine go (fun _ k => by refine XS.icmpYes X180.here hx rfl (pc0 := 231) (pc' := 238) rfl (hb hby at_231) rfl (feq hc231_181).2 (by decide) (by decide) ?_; exact k) ?_
            show OwnEnd _ _ _ _ _ _ _ (T180.setTop (mkF m 238 (fL4 p0 p1 p2 p3 x1 (3 : Int32) (0 : Int32) b4) []))
            refine go (fun _ k => by refine XS.iconst X180.here hx rfl (hb hby at_238) ?_; exact k) ?_
            show OwnEnd _ _ _ _ _ _ _ (T180.setTop (mkF m 239 (fL4 p0 p1 p2 p3 x1 (3 : Int32) (0 : Int32) b4) [(.int (0 : Int32))]))
            refine endN X180 hx hlk (t := .boolean) (by simp) Bd.returns (hb hby at_239) eq180 (by decide) (by decide) ?_
            exact absurd (own_at0_3 _ _) hc231_181
        · refine go (fun _ k => by refine XS.aload X13.here hx rfl (hb hby at_216) rfl rfl ?_; exact k) ?_
          refine go (fun _ k => by refine XS.iload X13.here hx rfl (hb hby at_218) rfl ?_; exact k) ?_
          show OwnEnd _ _ _ _ _ _ _ (T13.setTop (mkF m 220 (fL4 p0 p1 p2 p3 x1 (3 : Int32) (1 : Int32) b4) [(.int (1 : Int32)), (.ref b4)]))
          obtain ⟨_, T182, L182, X182, hQ182, st182⟩ := callVirt X13 hx hZ hown (hw _ (List.mem_of_getElem? (i := 28) rfl)) (hw _ (List.mem_of_getElem? (i := 24) rfl)) (notFace_of_selects (args := #[]) (mvT hZ (hw _ (List.mem_of_getElem? (i := 26) rfl)))) (hw _ (List.mem_of_getElem? (i := 26) rfl)) (hw _ (List.mem_of_getElem? (i := 25) rfl)) (hw _ (List.mem_of_getElem? (i := 3) rfl)) (hw _ (List.mem_of_getElem? (i := 27) rfl)) (by decide) (rm_get1 l Z a0 hw [] b4 (own_pk p0 x1 3) T13.heap n0 F_packed_b4) (W := 0) (by decide) (by decide) rfl E_b4 (g := (mkF m 220 (fL4 p0 p1 p2 p3 x1 (3 : Int32) (1 : Int32) b4) [(.int (1 : Int32)), (.ref b4)])) rfl (by rw [hml]; rfl) (argsL := [(.int (1 : Int32))]) (rest := []) rfl (lenOf pd__I_I rfl) rfl (by show 2 * 0 + _ ≤ _; exact Nat.le_of_eq rfl) (hb hby at_220) (by decide) (by decide)
          obtain ⟨rfl, Nq182, eq182⟩ := hQ182
          have N182 := Fr.app N13 Nq182
          refine go st182 ?_
          refine go (fun _ k => by refine XS.iloadN X182.here hx rfl (hb hby at_223) rfl ?_; exact k) ?_
          refine go (fun _ k => by refine XS.iload X182.here hx rfl (hb hby at_224) rfl ?_; exact k) ?_
          refine go (fun _ k => by refine XS.iload X182.here hx rfl (hb hby at_226) rfl ?_; exact k) ?_
          show OwnEnd _ _ _ _ _ _ _ (T182.setTop (mkF m 228 (fL4 p0 p1 p2 p3 x1 (3 : Int32) (1 : Int32) b4) [(.int (1 : Int32)), (.int x1), (.int p0), (.int (own_get (own_pk p0 x1 3) (8 : Int32)))]))
          obtain ⟨_, T183, L183, X183, hQ183, st183⟩ := callStat X182 hx hZ hown (hw _ (List.mem_of_getElem? (i := 10) rfl)) (hw _ (List.mem_of_getElem? (i := 11) rfl)) (hw _ (List.mem_of_getElem? (i := 12) rfl)) (hw _ (List.mem_of_getElem? (i := 13) rfl)) (by decide) (rm_sh l Z a0 hw [] p0 x1 (1 : Int32) T13.heap n0 ) (W := 1) (by decide) (by decide) eq182 (g := (mkF m 228 (fL4 p0 p1 p2 p3 x1 (3 : Int32) (1 : Int32) b4) [(.int (1 : Int32)), (.int x1), (.int p0), (.int (own_get (own_pk p0 x1 3) (8 : Int32)))])) rfl (by rw [hml]; rfl) (argsL := [(.int p0), (.int x1), (.int (1 : Int32))]) (rest := [(.int (own_get (own_pk p0 x1 3) (8 : Int32)))]) rfl (lenOf pd__III_I rfl) rfl (by show 2 * 0 + _ ≤ _; exact Nat.le_of_eq rfl) (hb hby at_228) (by decide) (by decide)
          obtain ⟨rfl, Nq183, eq183⟩ := hQ183
          have N183 := Fr.app N182 Nq183
          refine go st183 ?_
          show OwnEnd _ _ _ _ _ _ _ (T183.setTop (mkF m 231 (fL4 p0 p1 p2 p3 x1 (3 : Int32) (1 : Int32) b4) [(.int (own_sh p0 x1 1)), (.int (own_get (own_pk p0 x1 3) (8 : Int32)))]))
          by_cases hc231_184 : (own_get (own_pk p0 x1 3) (8 : Int32)) = (own_sh p0 x1 1)
          · refine go (fun _ k => by refine XS.icmpNo X183.here hx rfl (hb hby at_231) rfl (teq hc231_184).2 ?_; exact k) ?_
            show OwnEnd _ _ _ _ _ _ _ (T183.setTop (mkF m 234 (fL4 p0 p1 p2 p3 x1 (3 : Int32) (1 : Int32) b4) []))
            refine go (fun _ k => by refine XS.iconst X183.here hx rfl (hb hby at_234) ?_; exact k) ?_
            refine go (fun _ k => by refine XS.goto X183.here hx rfl (pc0 := 235) (pc' := 239) rfl (hb hby at_235) (by decide) (by decide) ?_; exact k) ?_
            show OwnEnd _ _ _ _ _ _ _ (T183.setTop (mkF m 239 (fL4 p0 p1 p2 p3 x1 (3 : Int32) (1 : Int32) b4) [(.int (1 : Int32))]))
            refine endN X183 hx hlk (t := .boolean) (by simp) Bd.returns (hb hby at_239) eq183 (by decide) (by decide) ?_
            exact ⟨rfl, N183⟩
          · refine go (fun _ k => by refine XS.icmpYes X183.here hx rfl (pc0 := 231) (pc' := 238) rfl (hb hby at_231) rfl (feq hc231_184).2 (by decide) (by decide) ?_; exact k) ?_
            show OwnEnd _ _ _ _ _ _ _ (T183.setTop (mkF m 238 (fL4 p0 p1 p2 p3 x1 (3 : Int32) (1 : Int32) b4) []))
            refine go (fun _ k => by refine XS.iconst X183.here hx rfl (hb hby at_238) ?_; exact k) ?_
            show OwnEnd _ _ _ _ _ _ _ (T183.setTop (mkF m 239 (fL4 p0 p1 p2 p3 x1 (3 : Int32) (1 : Int32) b4) [(.int (0 : Int32))]))
            refine endN X183 hx hlk (t := .boolean) (by simp) Bd.returns (hb hby at_239) eq183 (by decide) (by decide) ?_
            exact absurd (own_at1_3 _ _) hc231_184
        · refine go (fun _ k => by refine XS.aload X13.here hx rfl (hb hby at_216) rfl rfl ?_; exact k) ?_
          refine go (fun _ k => by refine XS.iload X13.here hx rfl (hb hby at_218) rfl ?_; exact k) ?_
          show OwnEnd _ _ _ _ _ _ _ (T13.setTop (mkF m 220 (fL4 p0 p1 p2 p3 x1 (3 : Int32) (2 : Int32) b4) [(.int (2 : Int32)), (.ref b4)]))
          obtain ⟨_, T185, L185, X185, hQ185, st185⟩ := callVirt X13 hx hZ hown (hw _ (List.mem_of_getElem? (i := 28) rfl)) (hw _ (List.mem_of_getElem? (i := 24) rfl)) (notFace_of_selects (args := #[]) (mvT hZ (hw _ (List.mem_of_getElem? (i := 26) rfl)))) (hw _ (List.mem_of_getElem? (i := 26) rfl)) (hw _ (List.mem_of_getElem? (i := 25) rfl)) (hw _ (List.mem_of_getElem? (i := 3) rfl)) (hw _ (List.mem_of_getElem? (i := 27) rfl)) (by decide) (rm_get2 l Z a0 hw [] b4 (own_pk p0 x1 3) T13.heap n0 F_packed_b4) (W := 0) (by decide) (by decide) rfl E_b4 (g := (mkF m 220 (fL4 p0 p1 p2 p3 x1 (3 : Int32) (2 : Int32) b4) [(.int (2 : Int32)), (.ref b4)])) rfl (by rw [hml]; rfl) (argsL := [(.int (2 : Int32))]) (rest := []) rfl (lenOf pd__I_I rfl) rfl (by show 2 * 0 + _ ≤ _; exact Nat.le_of_eq rfl) (hb hby at_220) (by decide) (by decide)
          obtain ⟨rfl, Nq185, eq185⟩ := hQ185
          have N185 := Fr.app N13 Nq185
          refine go st185 ?_
          refine go (fun _ k => by refine XS.iloadN X185.here hx rfl (hb hby at_223) rfl ?_; exact k) ?_
          refine go (fun _ k => by refine XS.iload X185.here hx rfl (hb hby at_224) rfl ?_; exact k) ?_
          refine go (fun _ k => by refine XS.iload X185.here hx rfl (hb hby at_226) rfl ?_; exact k) ?_
          show OwnEnd _ _ _ _ _ _ _ (T185.setTop (mkF m 228 (fL4 p0 p1 p2 p3 x1 (3 : Int32) (2 : Int32) b4) [(.int (2 : Int32)), (.int x1), (.int p0), (.int (own_get (own_pk p0 x1 3) (16 : Int32)))]))
          obtain ⟨_, T186, L186, X186, hQ186, st186⟩ := callStat X185 hx hZ hown (hw _ (List.mem_of_getElem? (i := 10) rfl)) (hw _ (List.mem_of_getElem? (i := 11) rfl)) (hw _ (List.mem_of_getElem? (i := 12) rfl)) (hw _ (List.mem_of_getElem? (i := 13) rfl)) (by decide) (rm_sh l Z a0 hw [] p0 x1 (2 : Int32) T13.heap n0 ) (W := 1) (by decide) (by decide) eq185 (g := (mkF m 228 (fL4 p0 p1 p2 p3 x1 (3 : Int32) (2 : Int32) b4) [(.int (2 : Int32)), (.int x1), (.int p0), (.int (own_get (own_pk p0 x1 3) (16 : Int32)))])) rfl (by rw [hml]; rfl) (argsL := [(.int p0), (.int x1), (.int (2 : Int32))]) (rest := [(.int (own_get (own_pk p0 x1 3) (16 : Int32)))]) rfl (lenOf pd__III_I rfl) rfl (by show 2 * 0 + _ ≤ _; exact Nat.le_of_eq rfl) (hb hby at_228) (by decide) (by decide)
          obtain ⟨rfl, Nq186, eq186⟩ := hQ186
          have N186 := Fr.app N185 Nq186
          refine go st186 ?_
          show OwnEnd _ _ _ _ _ _ _ (T186.setTop (mkF m 231 (fL4 p0 p1 p2 p3 x1 (3 : Int32) (2 : Int32) b4) [(.int (own_sh p0 x1 2)), (.int (own_get (own_pk p0 x1 3) (16 : Int32)))]))
          by_cases hc231_187 : (own_get (own_pk p0 x1 3) (16 : Int32)) = (own_sh p0 x1 2)
          · refine go (fun _ k => by refine XS.icmpNo X186.here hx rfl (hb hby at_231) rfl (teq hc231_187).2 ?_; exact k) ?_
            show OwnEnd _ _ _ _ _ _ _ (T186.setTop (mkF m 234 (fL4 p0 p1 p2 p3 x1 (3 : Int32) (2 : Int32) b4) []))
            refine go (fun _ k => by refine XS.iconst X186.here hx rfl (hb hby at_234) ?_; exact k) ?_
            refine go (fun _ k => by refine XS.goto X186.here hx rfl (pc0 := 235) (pc' := 239) rfl (hb hby at_235) (by decide) (by decide) ?_; exact k) ?_
            show OwnEnd _ _ _ _ _ _ _ (T186.setTop (mkF m 239 (fL4 p0 p1 p2 p3 x1 (3 : Int32) (2 : Int32) b4) [(.int (1 : Int32))]))
            refine endN X186 hx hlk (t := .boolean) (by simp) Bd.returns (hb hby at_239) eq186 (by decide) (by decide) ?_
            exact ⟨rfl, N186⟩
          · refine go (fun _ k => by refine XS.icmpYes X186.here hx rfl (pc0 := 231) (pc' := 238) rfl (hb hby at_231) rfl (feq hc231_187).2 (by decide) (by decide) ?_; exact k) ?_
            show OwnEnd _ _ _ _ _ _ _ (T186.setTop (mkF m 238 (fL4 p0 p1 p2 p3 x1 (3 : Int32) (2 : Int32) b4) []))
            refine go (fun _ k => by refine XS.iconst X186.here hx rfl (hb hby at_238) ?_; exact k) ?_
            show OwnEnd _ _ _ _ _ _ _ (T186.setTop (mkF m 239 (fL4 p0 p1 p2 p3 x1 (3 : Int32) (2 : Int32) b4) [(.int (0 : Int32))]))
            refine endN X186 hx hlk (t := .boolean) (by simp) Bd.returns (hb hby at_239) eq186 (by decide) (by decide) ?_
            exact absurd (own_at2_3 _ _) hc231_187
    · obtain rfl : x2 = 2 := own_m2 _ _ qx2 hc49_8 hc67_11
      refine go (fun _ k => by refine XS.icmpYes X10.here hx rfl (pc0 := 67) (pc' := 82) rfl (hb hby at_67) rfl (flt hc67_11).2.2.2 (by decide) (by decide) ?_; exact k) ?_
      show OwnEnd _ _ _ _ _ _ _ (T10.setTop (mkF m 82 (fL4 p0 p1 p2 p3 x1 (2 : Int32) x3 b4) []))
      refine go (fun _ k => by refine XS.iload X10.here hx rfl (hb hby at_82) rfl ?_; exact k) ?_
      refine go (fun _ k => by refine XS.iconst X10.here hx rfl (hb hby at_84) ?_; exact k) ?_
      show OwnEnd _ _ _ _ _ _ _ (T10.setTop (mkF m 85 (fL4 p0 p1 p2 p3 x1 (2 : Int32) x3 b4) [(.int (3 : Int32)), (.int (2 : Int32))]))
      refine go (fun _ k => by refine XS.icmpYes X10.here hx rfl (pc0 := 85) (pc' := 100) rfl (hb hby at_85) rfl (flt (by decide)).2.2.2 (by decide) (by decide) ?_; exact k) ?_
      refine go (fun _ k => by refine XS.iload X10.here hx rfl (hb hby at_100) rfl ?_; exact k) ?_
      refine go (fun _ k => by refine XS.iconst X10.here hx rfl (hb hby at_102) ?_; exact k) ?_
      show OwnEnd _ _ _ _ _ _ _ (T10.setTop (mkF m 103 (fL4 p0 p1 p2 p3 x1 (2 : Int32) x3 b4) [(.int (4 : Int32)), (.int (2 : Int32))]))
      refine go (fun _ k => by refine XS.icmpYes X10.here hx rfl (pc0 := 103) (pc' := 118) rfl (hb hby at_103) rfl (flt (by decide)).2.2.2 (by decide) (by decide) ?_; exact k) ?_
      refine go (fun _ k => by refine XS.iload X10.here hx rfl (hb hby at_118) rfl ?_; exact k) ?_
      refine go (fun _ k => by refine XS.iconst X10.here hx rfl (hb hby at_120) ?_; exact k) ?_
      show OwnEnd _ _ _ _ _ _ _ (T10.setTop (mkF m 121 (fL4 p0 p1 p2 p3 x1 (2 : Int32) x3 b4) [(.int (5 : Int32)), (.int (2 : Int32))]))
      refine go (fun _ k => by refine XS.icmpYes X10.here hx rfl (pc0 := 121) (pc' := 136) rfl (hb hby at_121) rfl (flt (by decide)).2.2.2 (by decide) (by decide) ?_; exact k) ?_
      refine go (fun _ k => by refine XS.iload X10.here hx rfl (hb hby at_136) rfl ?_; exact k) ?_
      refine go (fun _ k => by refine XS.bipush X10.here hx rfl (hb hby at_138) ?_; exact k) ?_
      show OwnEnd _ _ _ _ _ _ _ (T10.setTop (mkF m 140 (fL4 p0 p1 p2 p3 x1 (2 : Int32) x3 b4) [(.int (6 : Int32)), (.int (2 : Int32))]))
      refine go (fun _ k => by refine XS.icmpYes X10.here hx rfl (pc0 := 140) (pc' := 156) rfl (hb hby at_140) rfl (flt (by decide)).2.2.2 (by decide) (by decide) ?_; exact k) ?_
      refine go (fun _ k => by refine XS.iload X10.here hx rfl (hb hby at_156) rfl ?_; exact k) ?_
      refine go (fun _ k => by refine XS.bipush X10.here hx rfl (hb hby at_158) ?_; exact k) ?_
      show OwnEnd _ _ _ _ _ _ _ (T10.setTop (mkF m 160 (fL4 p0 p1 p2 p3 x1 (2 : Int32) x3 b4) [(.int (7 : Int32)), (.int (2 : Int32))]))
      refine go (fun _ k => by refine XS.icmpYes X10.here hx rfl (pc0 := 160) (pc' := 176) rfl (hb hby at_160) rfl (flt (by decide)).2.2.2 (by decide) (by decide) ?_; exact k) ?_
      refine go (fun _ k => by refine XS.iload X10.here hx rfl (hb hby at_176) rfl ?_; exact k) ?_
      refine go (fun _ k => by refine XS.bipush X10.here hx rfl (hb hby at_178) ?_; exact k) ?_
      show OwnEnd _ _ _ _ _ _ _ (T10.setTop (mkF m 180 (fL4 p0 p1 p2 p3 x1 (2 : Int32) x3 b4) [(.int (8 : Int32)), (.int (2 : Int32))]))
      refine go (fun _ k => by refine XS.icmpYes X10.here hx rfl (pc0 := 180) (pc' := 196) rfl (hb hby at_180) rfl (flt (by decide)).2.2.2 (by decide) (by decide) ?_; exact k) ?_
      refine go (fun _ k => by refine XS.iload X10.here hx rfl (hb hby at_196) rfl ?_; exact k) ?_
      refine go (fun _ k => by refine XS.bipush X10.here hx rfl (hb hby at_198) ?_; exact k) ?_
      show OwnEnd _ _ _ _ _ _ _ (T10.setTop (mkF m 200 (fL4 p0 p1 p2 p3 x1 (2 : Int32) x3 b4) [(.int (9 : Int32)), (.int (2 : Int32))]))
      refine go (fun _ k => by refine XS.icmpYes X10.here hx rfl (pc0 := 200) (pc' := 216) rfl (hb hby at_200) rfl (flt (by decide)).2.2.2 (by decide) (by decide) ?_; exact k) ?_
      show OwnEnd _ _ _ _ _ _ _ (T10.setTop (mkF m 216 (fL4 p0 p1 p2 p3 x1 (2 : Int32) x3 b4) []))
      rcases own_i2 _ _ qx3 with rfl | rfl
      · refine go (fun _ k => by refine XS.aload X10.here hx rfl (hb hby at_216) rfl rfl ?_; exact k) ?_
        refine go (fun _ k => by refine XS.iload X10.here hx rfl (hb hby at_218) rfl ?_; exact k) ?_
        show OwnEnd _ _ _ _ _ _ _ (T10.setTop (mkF m 220 (fL4 p0 p1 p2 p3 x1 (2 : Int32) (0 : Int32) b4) [(.int (0 : Int32)), (.ref b4)]))
        obtain ⟨_, T188, L188, X188, hQ188, st188⟩ := callVirt X10 hx hZ hown (hw _ (List.mem_of_getElem? (i := 28) rfl)) (hw _ (List.mem_of_getElem? (i := 24) rfl)) (notFace_of_selects (args := #[]) (mvT hZ (hw _ (List.mem_of_getElem? (i := 26) rfl)))) (hw _ (List.mem_of_getElem? (i := 26) rfl)) (hw _ (List.mem_of_getElem? (i := 25) rfl)) (hw _ (List.mem_of_getElem? (i := 3) rfl)) (hw _ (List.mem_of_getElem? (i := 27) rfl)) (by decide) (rm_get0 l Z a0 hw [] b4 (own_pk p0 x1 2) T10.heap n0 F_packed_b4) (W := 0) (by decide) (by decide) rfl E_b4 (g := (mkF m 220 (fL4 p0 p1 p2 p3 x1 (2 : Int32) (0 : Int32) b4) [(.int (0 : Int32)), (.ref b4)])) rfl (by rw [hml]; rfl) (argsL := [(.int (0 : Int32))]) (rest := []) rfl (lenOf pd__I_I rfl) rfl (by show 2 * 0 + _ ≤ _; exact Nat.le_of_eq rfl) (hb hby at_220) (by decide) (by decide)
        obtain ⟨rfl, Nq188, eq188⟩ := hQ188
        have N188 := Fr.app N10 Nq188
        refine go st188 ?_
        refine go (fun _ k => by refine XS.iloadN X188.here hx rfl (hb hby at_223) rfl ?_; exact k) ?_
        refine go (fun _ k => by refine XS.iload X188.here hx rfl (hb hby at_224) rfl ?_; exact k) ?_
        refine go (fun _ k => by refine XS.iload X188.here hx rfl (hb hby at_226) rfl ?_; exact k) ?_
        show OwnEnd _ _ _ _ _ _ _ (T188.setTop (mkF m 228 (fL4 p0 p1 p2 p3 x1 (2 : Int32) (0 : Int32) b4) [(.int (0 : Int32)), (.int x1), (.int p0), (.int (own_get (own_pk p0 x1 2) (0 : Int32)))]))
        obtain ⟨_, T189, L189, X189, hQ189, st189⟩ := callStat X188 hx hZ hown (hw _ (List.mem_of_getElem? (i := 10) rfl)) (hw _ (List.mem_of_getElem? (i := 11) rfl)) (hw _ (List.mem_of_getElem? (i := 12) rfl)) (hw _ (List.mem_of_getElem? (i := 13) rfl)) (by decide) (rm_sh l Z a0 hw [] p0 x1 (0 : Int32) T10.heap n0 ) (W := 1) (by decide) (by decide) eq188 (g := (mkF m 228 (fL4 p0 p1 p2 p3 x1 (2 : Int32) (0 : Int32) b4) [(.int (0 : Int32)), (.int x1), (.int p0), (.int (own_get (own_pk p0 x1 2) (0 : Int32)))])) rfl (by rw [hml]; rfl) (argsL := [(.int p0), (.int x1), (.int (0 : Int32))]) (rest := [(.int (own_get (own_pk p0 x1 2) (0 : Int32)))]) rfl (lenOf pd__III_I rfl) rfl (by show 2 * 0 + _ ≤ _; exact Nat.le_of_eq rfl) (hb hby at_228) (by decide) (by decide)
        obtain ⟨rfl, Nq189, eq189⟩ := hQ189
        have N189 := Fr.app N188 Nq189
        refine go st189 ?_
        show OwnEnd _ _ _ _ _ _ _ (T189.setTop (mkF m 231 (fL4 p0 p1 p2 p3 x1 (2 : Int32) (0 : Int32) b4) [(.int (own_sh p0 x1 0)), (.int (own_get (own_pk p0 x1 2) (0 : Int32)))]))
        by_cases hc231_190 : (own_get (own_pk p0 x1 2) (0 : Int32)) = (own_sh p0 x1 0)
        · refine go (fun _ k => by refine XS.icmpNo X189.here hx rfl (hb hby at_231) rfl (teq hc231_190).2 ?_; exact k) ?_
          show OwnEnd _ _ _ _ _ _ _ (T189.setTop (mkF m 234 (fL4 p0 p1 p2 p3 x1 (2 : Int32) (0 : Int32) b4) []))
          refine go (fun _ k => by refine XS.iconst X189.here hx rfl (hb hby at_234) ?_; exact k) ?_
          refine go (fun _ k => by refine XS.goto X189.here hx rfl (pc0 := 235) (pc' := 239) rfl (hb hby at_235) (by decide) (by decide) ?_; exact k) ?_
          show OwnEnd _ _ _ _ _ _ _ (T189.setTop (mkF m 239 (fL4 p0 p1 p2 p3 x1 (2 : Int32) (0 : Int32) b4) [(.int (1 : Int32))]))
          refine endN X189 hx hlk (t := .boolean) (by simp) Bd.returns (hb hby at_239) eq189 (by decide) (by decide) ?_
          exact ⟨rfl, N189⟩
        · refine go (fun _ k => by refine XS.icmpYes X189.here hx rfl (pc0 := 231) (pc' := 238) rfl (hb hby at_231) rfl (feq hc231_190).2 (by decide) (by decide) ?_; exact k) ?_
          show OwnEnd _ _ _ _ _ _ _ (T189.setTop (mkF m 238 (fL4 p0 p1 p2 p3 x1 (2 : Int32) (0 : Int32) b4) []))
          refine go (fun _ k => by refine XS.iconst X189.here hx rfl (hb hby at_238) ?_; exact k) ?_
          show OwnEnd _ _ _ _ _ _ _ (T189.setTop (mkF m 239 (fL4 p0 p1 p2 p3 x1 (2 : Int32) (0 : Int32) b4) [(.int (0 : Int32))]))
          refine endN X189 hx hlk (t := .boolean) (by simp) Bd.returns (hb hby at_239) eq189 (by decide) (by decide) ?_
          exact absurd (own_at0_2 _ _) hc231_190
      · refine go (fun _ k => by refine XS.aload X10.here hx rfl (hb hby at_216) rfl rfl ?_; exact k) ?_
        refine go (fun _ k => by refine XS.iload X10.here hx rfl (hb hby at_218) rfl ?_; exact k) ?_
        show OwnEnd _ _ _ _ _ _ _ (T10.setTop (mkF m 220 (fL4 p0 p1 p2 p3 x1 (2 : Int32) (1 : Int32) b4) [(.int (1 : Int32)), (.ref b4)]))
        obtain ⟨_, T191, L191, X191, hQ191, st191⟩ := callVirt X10 hx hZ hown (hw _ (List.mem_of_getElem? (i := 28) rfl)) (hw _ (List.mem_of_getElem? (i := 24) rfl)) (notFace_of_selects (args := #[]) (mvT hZ (hw _ (List.mem_of_getElem? (i := 26) rfl)))) (hw _ (List.mem_of_getElem? (i := 26) rfl)) (hw _ (List.mem_of_getElem? (i := 25) rfl)) (hw _ (List.mem_of_getElem? (i := 3) rfl)) (hw _ (List.mem_of_getElem? (i := 27) rfl)) (by decide) (rm_get1 l Z a0 hw [] b4 (own_pk p0 x1 2) T10.heap n0 F_packed_b4) (W := 0) (by decide) (by decide) rfl E_b4 (g := (mkF m 220 (fL4 p0 p1 p2 p3 x1 (2 : Int32) (1 : Int32) b4) [(.int (1 : Int32)), (.ref b4)])) rfl (by rw [hml]; rfl) (argsL := [(.int (1 : Int32))]) (rest := []) rfl (lenOf pd__I_I rfl) rfl (by show 2 * 0 + _ ≤ _; exact Nat.le_of_eq rfl) (hb hby at_220) (by decide) (by decide)
        obtain ⟨rfl, Nq191, eq191⟩ := hQ191
        have N191 := Fr.app N10 Nq191
        refine go st191 ?_
        refine go (fun _ k => by refine XS.iloadN X191.here hx rfl (hb hby at_223) rfl ?_; exact k) ?_
        refine go (fun _ k => by refine XS.iload X191.here hx rfl (hb hby at_224) rfl ?_; exact k) ?_
        refine go (fun _ k => by refine XS.iload X191.here hx rfl (hb hby at_226) rfl ?_; exact k) ?_
        show OwnEnd _ _ _ _ _ _ _ (T191.setTop (mkF m 228 (fL4 p0 p1 p2 p3 x1 (2 : Int32) (1 : Int32) b4) [(.int (1 : Int32)), (.int x1), (.int p0), (.int (own_get (own_pk p0 x1 2) (8 : Int32)))]))
        obtain ⟨_, T192, L192, X192, hQ192, st192⟩ := callStat X191 hx hZ hown (hw _ (List.mem_of_getElem? (i := 10) rfl)) (hw _ (List.mem_of_getElem? (i := 11) rfl)) (hw _ (List.mem_of_getElem? (i := 12) rfl)) (hw _ (List.mem_of_getElem? (i := 13) rfl)) (by decide) (rm_sh l Z a0 hw [] p0 x1 (1 : Int32) T10.heap n0 ) (W := 1) (by decide) (by decide) eq191 (g := (mkF m 228 (fL4 p0 p1 p2 p3 x1 (2 : Int32) (1 : Int32) b4) [(.int (1 : Int32)), (.int x1), (.int p0), (.int (own_get (own_pk p0 x1 2) (8 : Int32)))])) rfl (by rw [hml]; rfl) (argsL := [(.int p0), (.int x1), (.int (1 : Int32))]) (rest := [(.int (own_get (own_pk p0 x1 2) (8 : Int32)))]) rfl (lenOf pd__III_I rfl) rfl (by show 2 * 0 + _ ≤ _; exact Nat.le_of_eq rfl) (hb hby at_228) (by decide) (by decide)
        obtain ⟨rfl, Nq192, eq192⟩ := hQ192
        have N192 := Fr.app N191 Nq192
        refine go st192 ?_
        show OwnEnd _ _ _ _ _ _ _ (T192.setTop (mkF m 231 (fL4 p0 p1 p2 p3 x1 (2 : Int32) (1 : Int32) b4) [(.int (own_sh p0 x1 1)), (.int (own_get (own_pk p0 x1 2) (8 : Int32)))]))
        by_cases hc231_193 : (own_get (own_pk p0 x1 2) (8 : Int32)) = (own_sh p0 x1 1)
        · refine go (fun _ k => by refine XS.icmpNo X192.here hx rfl (hb hby at_231) rfl (teq hc231_193).2 ?_; exact k) ?_
          show OwnEnd _ _ _ _ _ _ _ (T192.setTop (mkF m 234 (fL4 p0 p1 p2 p3 x1 (2 : Int32) (1 : Int32) b4) []))
          refine go (fun _ k => by refine XS.iconst X192.here hx rfl (hb hby at_234) ?_; exact k) ?_
          refine go (fun _ k => by refine XS.goto X192.here hx rfl (pc0 := 235) (pc' := 239) rfl (hb hby at_235) (by decide) (by decide) ?_; exact k) ?_
          show OwnEnd _ _ _ _ _ _ _ (T192.setTop (mkF m 239 (fL4 p0 p1 p2 p3 x1 (2 : Int32) (1 : Int32) b4) [(.int (1 : Int32))]))
          refine endN X192 hx hlk (t := .boolean) (by simp) Bd.returns (hb hby at_239) eq192 (by decide) (by decide) ?_
          exact ⟨rfl, N192⟩
        · refine go (fun _ k => by refine XS.icmpYes X192.here hx rfl (pc0 := 231) (pc' := 238) rfl (hb hby at_231) rfl (feq hc231_193).2 (by decide) (by decide) ?_; exact k) ?_
          show OwnEnd _ _ _ _ _ _ _ (T192.setTop (mkF m 238 (fL4 p0 p1 p2 p3 x1 (2 : Int32) (1 : Int32) b4) []))
          refine go (fun _ k => by refine XS.iconst X192.here hx rfl (hb hby at_238) ?_; exact k) ?_
          show OwnEnd _ _ _ _ _ _ _ (T192.setTop (mkF m 239 (fL4 p0 p1 p2 p3 x1 (2 : Int32) (1 : Int32) b4) [(.int (0 : Int32))]))
          refine endN X192 hx hlk (t := .boolean) (by simp) Bd.returns (hb hby at_239) eq192 (by decide) (by decide) ?_
          exact absurd (own_at1_2 _ _) hc231_193
  · obtain rfl : x2 = 1 := own_m1 _ _ qx2 hc49_8
    refine go (fun _ k => by refine XS.icmpYes X7.here hx rfl (pc0 := 49) (pc' := 64) rfl (hb hby at_49) rfl (flt hc49_8).2.2.2 (by decide) (by decide) ?_; exact k) ?_
    show OwnEnd _ _ _ _ _ _ _ (T7.setTop (mkF m 64 (fL4 p0 p1 p2 p3 x1 (1 : Int32) x3 b4) []))
    refine go (fun _ k => by refine XS.iload X7.here hx rfl (hb hby at_64) rfl ?_; exact k) ?_
    refine go (fun _ k => by refine XS.iconst X7.here hx rfl (hb hby at_66) ?_; exact k) ?_
    show OwnEnd _ _ _ _ _ _ _ (T7.setTop (mkF m 67 (fL4 p0 p1 p2 p3 x1 (1 : Int32) x3 b4) [(.int (2 : Int32)), (.int (1 : Int32))]))
    refine go (fun _ k => by refine XS.icmpYes X7.here hx rfl (pc0 := 67) (pc' := 82) rfl (hb hby at_67) rfl (flt (by decide)).2.2.2 (by decide) (by decide) ?_; exact k) ?_
    refine go (fun _ k => by refine XS.iload X7.here hx rfl (hb hby at_82) rfl ?_; exact k) ?_
    refine go (fun _ k => by refine XS.iconst X7.here hx rfl (hb hby at_84) ?_; exact k) ?_
    show OwnEnd _ _ _ _ _ _ _ (T7.setTop (mkF m 85 (fL4 p0 p1 p2 p3 x1 (1 : Int32) x3 b4) [(.int (3 : Int32)), (.int (1 : Int32))]))
    refine go (fun _ k => by refine XS.icmpYes X7.here hx rfl (pc0 := 85) (pc' := 100) rfl (hb hby at_85) rfl (flt (by decide)).2.2.2 (by decide) (by decide) ?_; exact k) ?_
    refine go (fun _ k => by refine XS.iload X7.here hx rfl (hb hby at_100) rfl ?_; exact k) ?_
    refine go (fun _ k => by refine XS.iconst X7.here hx rfl (hb hby at_102) ?_; exact k) ?_
    show OwnEnd _ _ _ _ _ _ _ (T7.setTop (mkF m 103 (fL4 p0 p1 p2 p3 x1 (1 : Int32) x3 b4) [(.int (4 : Int32)), (.int (1 : Int32))]))
    refine go (fun _ k => by refine XS.icmpYes X7.here hx rfl (pc0 := 103) (pc' := 118) rfl (hb hby at_103) rfl (flt (by decide)).2.2.2 (by decide) (by decide) ?_; exact k) ?_
    refine go (fun _ k => by refine XS.iload X7.here hx rfl (hb hby at_118) rfl ?_; exact k) ?_
    refine go (fun _ k => by refine XS.iconst X7.here hx rfl (hb hby at_120) ?_; exact k) ?_
    show OwnEnd _ _ _ _ _ _ _ (T7.setTop (mkF m 121 (fL4 p0 p1 p2 p3 x1 (1 : Int32) x3 b4) [(.int (5 : Int32)), (.int (1 : Int32))]))
    refine go (fun _ k => by refine XS.icmpYes X7.here hx rfl (pc0 := 121) (pc' := 136) rfl (hb hby at_121) rfl (flt (by decide)).2.2.2 (by decide) (by decide) ?_; exact k) ?_
    refine go (fun _ k => by refine XS.iload X7.here hx rfl (hb hby at_136) rfl ?_; exact k) ?_
    refine go (fun _ k => by refine XS.bipush X7.here hx rfl (hb hby at_138) ?_; exact k) ?_
    show OwnEnd _ _ _ _ _ _ _ (T7.setTop (mkF m 140 (fL4 p0 p1 p2 p3 x1 (1 : Int32) x3 b4) [(.int (6 : Int32)), (.int (1 : Int32))]))
    refine go (fun _ k => by refine XS.icmpYes X7.here hx rfl (pc0 := 140) (pc' := 156) rfl (hb hby at_140) rfl (flt (by decide)).2.2.2 (by decide) (by decide) ?_; exact k) ?_
    refine go (fun _ k => by refine XS.iload X7.here hx rfl (hb hby at_156) rfl ?_; exact k) ?_
    refine go (fun _ k => by refine XS.bipush X7.here hx rfl (hb hby at_158) ?_; exact k) ?_
    show OwnEnd _ _ _ _ _ _ _ (T7.setTop (mkF m 160 (fL4 p0 p1 p2 p3 x1 (1 : Int32) x3 b4) [(.int (7 : Int32)), (.int (1 : Int32))]))
    refine go (fun _ k => by refine XS.icmpYes X7.here hx rfl (pc0 := 160) (pc' := 176) rfl (hb hby at_160) rfl (flt (by decide)).2.2.2 (by decide) (by decide) ?_; exact k) ?_
    refine go (fun _ k => by refine XS.iload X7.here hx rfl (hb hby at_176) rfl ?_; exact k) ?_
    refine go (fun _ k => by refine XS.bipush X7.here hx rfl (hb hby at_178) ?_; exact k) ?_
    show OwnEnd _ _ _ _ _ _ _ (T7.setTop (mkF m 180 (fL4 p0 p1 p2 p3 x1 (1 : Int32) x3 b4) [(.int (8 : Int32)), (.int (1 : Int32))]))
    refine go (fun _ k => by refine XS.icmpYes X7.here hx rfl (pc0 := 180) (pc' := 196) rfl (hb hby at_180) rfl (flt (by decide)).2.2.2 (by decide) (by decide) ?_; exact k) ?_
    refine go (fun _ k => by refine XS.iload X7.here hx rfl (hb hby at_196) rfl ?_; exact k) ?_
    refine go (fun _ k => by refine XS.bipush X7.here hx rfl (hb hby at_198) ?_; exact k) ?_
    show OwnEnd _ _ _ _ _ _ _ (T7.setTop (mkF m 200 (fL4 p0 p1 p2 p3 x1 (1 : Int32) x3 b4) [(.int (9 : Int32)), (.int (1 : Int32))]))
    refine go (fun _ k => by refine XS.icmpYes X7.here hx rfl (pc0 := 200) (pc' := 216) rfl (hb hby at_200) rfl (flt (by decide)).2.2.2 (by decide) (by decide) ?_; exact k) ?_
    show OwnEnd _ _ _ _ _ _ _ (T7.setTop (mkF m 216 (fL4 p0 p1 p2 p3 x1 (1 : Int32) x3 b4) []))
    rcases own_i1 _ _ qx3 with rfl
    · refine go (fun _ k => by refine XS.aload X7.here hx rfl (hb hby at_216) rfl rfl ?_; exact k) ?_
      refine go (fun _ k => by refine XS.iload X7.here hx rfl (hb hby at_218) rfl ?_; exact k) ?_
      show OwnEnd _ _ _ _ _ _ _ (T7.setTop (mkF m 220 (fL4 p0 p1 p2 p3 x1 (1 : Int32) (0 : Int32) b4) [(.int (0 : Int32)), (.ref b4)]))
      obtain ⟨_, T194, L194, X194, hQ194, st194⟩ := callVirt X7 hx hZ hown (hw _ (List.mem_of_getElem? (i := 28) rfl)) (hw _ (List.mem_of_getElem? (i := 24) rfl)) (notFace_of_selects (args := #[]) (mvT hZ (hw _ (List.mem_of_getElem? (i := 26) rfl)))) (hw _ (List.mem_of_getElem? (i := 26) rfl)) (hw _ (List.mem_of_getElem? (i := 25) rfl)) (hw _ (List.mem_of_getElem? (i := 3) rfl)) (hw _ (List.mem_of_getElem? (i := 27) rfl)) (by decide) (rm_get0 l Z a0 hw [] b4 (own_pk p0 x1 1) T7.heap n0 F_packed_b4) (W := 0) (by decide) (by decide) rfl E_b4 (g := (mkF m 220 (fL4 p0 p1 p2 p3 x1 (1 : Int32) (0 : Int32) b4) [(.int (0 : Int32)), (.ref b4)])) rfl (by rw [hml]; rfl) (argsL := [(.int (0 : Int32))]) (rest := []) rfl (lenOf pd__I_I rfl) rfl (by show 2 * 0 + _ ≤ _; exact Nat.le_of_eq rfl) (hb hby at_220) (by decide) (by decide)
      obtain ⟨rfl, Nq194, eq194⟩ := hQ194
      have N194 := Fr.app N7 Nq194
      refine go st194 ?_
      refine go (fun _ k => by refine XS.iloadN X194.here hx rfl (hb hby at_223) rfl ?_; exact k) ?_
      refine go (fun _ k => by refine XS.iload X194.here hx rfl (hb hby at_224) rfl ?_; exact k) ?_
      refine go (fun _ k => by refine XS.iload X194.here hx rfl (hb hby at_226) rfl ?_; exact k) ?_
      show OwnEnd _ _ _ _ _ _ _ (T194.setTop (mkF m 228 (fL4 p0 p1 p2 p3 x1 (1 : Int32) (0 : Int32) b4) [(.int (0 : Int32)), (.int x1), (.int p0), (.int (own_get (own_pk p0 x1 1) (0 : Int32)))]))
      obtain ⟨_, T195, L195, X195, hQ195, st195⟩ := callStat X194 hx hZ hown (hw _ (List.mem_of_getElem? (i := 10) rfl)) (hw _ (List.mem_of_getElem? (i := 11) rfl)) (hw _ (List.mem_of_getElem? (i := 12) rfl)) (hw _ (List.mem_of_getElem? (i := 13) rfl)) (by decide) (rm_sh l Z a0 hw [] p0 x1 (0 : Int32) T7.heap n0 ) (W := 1) (by decide) (by decide) eq194 (g := (mkF m 228 (fL4 p0 p1 p2 p3 x1 (1 : Int32) (0 : Int32) b4) [(.int (0 : Int32)), (.int x1), (.int p0), (.int (own_get (own_pk p0 x1 1) (0 : Int32)))])) rfl (by rw [hml]; rfl) (argsL := [(.int p0), (.int x1), (.int (0 : Int32))]) (rest := [(.int (own_get (own_pk p0 x1 1) (0 : Int32)))]) rfl (lenOf pd__III_I rfl) rfl (by show 2 * 0 + _ ≤ _; exact Nat.le_of_eq rfl) (hb hby at_228) (by decide) (by decide)
      obtain ⟨rfl, Nq195, eq195⟩ := hQ195
      have N195 := Fr.app N194 Nq195
      refine go st195 ?_
      show OwnEnd _ _ _ _ _ _ _ (T195.setTop (mkF m 231 (fL4 p0 p1 p2 p3 x1 (1 : Int32) (0 : Int32) b4) [(.int (own_sh p0 x1 0)), (.int (own_get (own_pk p0 x1 1) (0 : Int32)))]))
      by_cases hc231_196 : (own_get (own_pk p0 x1 1) (0 : Int32)) = (own_sh p0 x1 0)
      · refine go (fun _ k => by refine XS.icmpNo X195.here hx rfl (hb hby at_231) rfl (teq hc231_196).2 ?_; exact k) ?_
        show OwnEnd _ _ _ _ _ _ _ (T195.setTop (mkF m 234 (fL4 p0 p1 p2 p3 x1 (1 : Int32) (0 : Int32) b4) []))
        refine go (fun _ k => by refine XS.iconst X195.here hx rfl (hb hby at_234) ?_; exact k) ?_
        refine go (fun _ k => by refine XS.goto X195.here hx rfl (pc0 := 235) (pc' := 239) rfl (hb hby at_235) (by decide) (by decide) ?_; exact k) ?_
        show OwnEnd _ _ _ _ _ _ _ (T195.setTop (mkF m 239 (fL4 p0 p1 p2 p3 x1 (1 : Int32) (0 : Int32) b4) [(.int (1 : Int32))]))
        refine endN X195 hx hlk (t := .boolean) (by simp) Bd.returns (hb hby at_239) eq195 (by decide) (by decide) ?_
        exact ⟨rfl, N195⟩
      · refine go (fun _ k => by refine XS.icmpYes X195.here hx rfl (pc0 := 231) (pc' := 238) rfl (hb hby at_231) rfl (feq hc231_196).2 (by decide) (by decide) ?_; exact k) ?_
        show OwnEnd _ _ _ _ _ _ _ (T195.setTop (mkF m 238 (fL4 p0 p1 p2 p3 x1 (1 : Int32) (0 : Int32) b4) []))
        refine go (fun _ k => by refine XS.iconst X195.here hx rfl (hb hby at_238) ?_; exact k) ?_
        show OwnEnd _ _ _ _ _ _ _ (T195.setTop (mkF m 239 (fL4 p0 p1 p2 p3 x1 (1 : Int32) (0 : Int32) b4) [(.int (0 : Int32))]))
        refine endN X195 hx hlk (t := .boolean) (by simp) Bd.returns (hb hby at_239) eq195 (by decide) (by decide) ?_
        exact absurd (own_at0_1 _ _) hc231_196
set_option maxRecDepth 65536 in
set_option maxHeartbeats 40000000 in
theorem comes_1 {Post : Tables → Env → Array Value → State → Outcome → State → Prop} (hpost : ∀ tb e args s v u, (limb_1_1.after args s (.returned v) u = true ∧ limb_1_2.after args s (.returned v) u = true ∧ True) → FrameEnd s (.returned v) u (Jvm.fieldLocs frame_1_writes args s ++ Jvm.arrayLocs frame_1_arrays args s ++ Jvm.staticLocs frame_1_statics s) 16 128 → Post tb e args s (.returned v) u) :
    ArmFor flags0 classFile x code maxLocals ret World_1 tables_1 room_1 Calls_1 rest_1 Pre_1 Post := by
  intro l hfl _ _ p e ha hc hk s m args below hf hA hF happ hP
  obtain ⟨hcalls, hrest, hpre⟩ := hP
  obtain ⟨-, -, -, hnamed, -, -, -, hat⟩ := (Spec.applies_iff hf).mp happ
  obtain ⟨hg, hn⟩ := and_e (Cond.before_iff.mp (show (Jvm.Cond.and given_1 narrow_1).before args s = true from hpre))
  obtain ⟨gv1, gv2⟩ := and_e hg
  obtain ⟨gv3, gv4⟩ := and_e gv2
  obtain ⟨gv5, gv6⟩ := and_e gv4
  obtain ⟨gv7, gv8⟩ := and_e gv6
  obtain ⟨w0, w1, w2, w3, rfl⟩ : ∃ w0 w1 w2 w3 : Value, args = #[w0, w1, w2, w3] := by
    have hs : args.size = 4 := by simpa [Cond.value, given_1] using gv1
    obtain ⟨L⟩ := args
    match L, hs with
    | [w0, w1, w2, w3], _ => exact ⟨w0, w1, w2, w3, rfl⟩
  have hw := fun d (hd : d ∈ tables_1) => atoms_spec (ws := Jvm.Cond.code x code maxLocals ret :: tables_1) hat d (List.mem_cons_of_mem _ hd)
  have hfit : Fit s := fun {y c} hc i hi => by
    obtain ⟨ha, rfl⟩ := Array.getElem?_eq_some_iff.mp hc
    have q := List.all_eq_true.mp ((Array.all_eq_true_iff_forall_mem.mp hF) _ (Array.getElem_mem ha)) i (List.mem_range.mpr hi)
    simpa [Array.getElem?_eq_getElem hi] using q
  obtain ⟨i0, ei0⟩ := is_v gv3
  obtain rfl : w0 = (.int i0) := Option.some.inj ei0
  obtain ⟨i1, ei1⟩ := is_v gv5
  obtain rfl : w1 = (.int i1) := Option.some.inj ei1
  obtain ⟨i2, ei2⟩ := is_v gv7
  obtain rfl : w2 = (.int i2) := Option.some.inj ei2
  obtain ⟨i3, ei3⟩ := is_v gv8
  obtain rfl : w3 = (.int i3) := Option.some.inj ei3
  obtain ⟨n, o, h1, h2, h3, _, L, rfl, ⟨rfl, N⟩, hq⟩ := rm_law l s _ hw tables_1 i0 i1 i2 i3  s.heap s.heap.size (Nat.le_refl _) p e ha hc hk s m _ below hf ((Spec.applies_iff_loose hf).mp happ).1 ⟨rfl, State.Warmed39.refl s, rfl⟩ trivial
  refine ⟨n, _, h1, h2, h3, hpost _ _ _ _ _ _ ⟨Cond.after_iff.mpr rfl, Cond.after_iff.mpr (eq_i res_at (Term.int_eval (1)) rfl), trivial⟩ ⟨hq.1, hq.2.1, (hq.2.2.sift fun y hy => Or.inr (N y hy)).mono (by decide) (by decide)⟩⟩
theorem main_1_1 : Claimed_1_1 := comes_1 fun _ _ _ _ _ _ h hF => ⟨h.1, hF⟩
theorem main_1_2 : Claimed_1_2 := comes_1 fun _ _ _ _ _ _ h hF => ⟨h.2.1, hF⟩
end Jvm.Pilot.@@N@@
namespace Jvm.Pilot.@@N@@
open Jvm Jvm.ClassFile Sem Op Lib Jvm.Free Jvm.Stand Jvm.Pilot.@@N@@.Jvm.D
/-! MADE BY PROGRAM (witnessworld.py) out of the Statement's table words and the real class files: 9 classes; the members and pool entries that the words name. The judged class is class 1, her method 2. -/
namespace start1
open Jvm.ClassFile
def u (s : String) : CpInfo := .utf8 (stringToUtf16 s)
/-- a pool by its gaps: so many unusable entries, then the entry; so many at the end -/
def gap : Nat → List CpInfo → List CpInfo
  | 0, r => r
  | n + 1, r => .unusable :: gap n r
def poolList (es : List (Nat × CpInfo)) (last : Nat) : List CpInfo := es.foldr (fun e r => gap e.1 (e.2 :: r)) (gap last [])
def pool (es : List (Nat × CpInfo)) (last : Nat) : Array CpInfo := ⟨poolList es last⟩
def fileOf (pool : Array CpInfo) (this : Nat) (attrs : Array Attribute := #[]) (ms : Array MethodInfo := #[]) (fl : Nat := 33) (sup : Nat := 0) (ifs : Array Nat := #[]) (fds : Array FieldInfo := #[]) : ClassFile where
  minorVersion := 0
  majorVersion := 65
  constantPool := pool
  accessFlags := fl
  thisClass := this
  superClass := sup
  interfaces := ifs
  fields := fds
  methods := ms
  attributes := attrs
def plain (name : String) (sup : Option ClassId) : Class where
  name := name
  kind := .ordinary
  loader := none
  accessFlags := 33
  super := sup
  interfaces := #[]
  cf := none
  fields := #[]
  methods := #[]
  instanceTypes := #[]
  staticTypes := #[]
  resolved := #[]
  callSites := []
  init := .initialized
  statics := none
  mirror := none

def pool0 : Array CpInfo := pool [(5, u "<init>"), (0, u "()V"), (1, .class_ 10), (1, u "java/lang/Object")] 113

def k0c0 : Code := { maxStack := 0, maxLocals := 1, code := object_method_1_code, exceptionTable := #[], attributes := #[] }
def k0m0 : Method := { name := "<init>", desc := "()V", sig := { parameters := [], returnType := none }, accessFlags := 1, code := some k0c0 }
/-- java/lang/Object -/
def k0 : Class := { plain "java/lang/Object" none with
  accessFlags := 33
  interfaces := #[]
  cf := some (fileOf pool0 8 #[] #[{ accessFlags := 1, nameIndex := 5, descriptorIndex := 6, attributes := #[] }] 33 0 #[] #[])
  fields := #[]
  methods := #[k0m0]
  instanceTypes := #[]
  staticTypes := #[]
  resolved := Array.replicate 124 none
  statics := none }

def pool1 : Array CpInfo := pool [(2, .class_ 4), (0, .nameAndType 5 6), (0, u "java/lang/Object"), (0, u "<init>"), (0, u "()V"), (0, .integer 2147483647), (0, .class_ 9), (0, u "com/example/waitsfor/waitsfor/ShardSet"), (0, .methodref 8 3), (0, .methodref 12 13), (0, .class_ 14), (0, .nameAndType 15 16), (0, u "com/example/waitsfor/waitsfor/ShardSetGetPinLaw"), (0, u "shard"), (0, u "(III)I"), (0, .methodref 8 18), (0, .nameAndType 19 20), (0, u "add"), (0, u "(I)V"), (0, .methodref 8 22), (0, .nameAndType 23 24), (0, u "get"), (0, u "(I)I"), (2, u "law"), (0, u "(IIII)Z")] 3

def k1m0 : Method := { name := "<init>", desc := "()V", sig := { parameters := [], returnType := none }, accessFlags := 1, code := none }
def k1c1 : Code := { maxStack := 3, maxLocals := 3, code := method_2_code, exceptionTable := #[], attributes := #[] }
def k1m1 : Method := { name := "shard", desc := "(III)I", sig := { parameters := [.int, .int, .int], returnType := some .int }, accessFlags := 10, code := some k1c1 }
def k1c2 : Code := { maxStack := 4, maxLocals := 8, code := code, exceptionTable := #[], attributes := #[] }
def k1m2 : Method := { name := "law", desc := "(IIII)Z", sig := { parameters := [.int, .int, .int, .int], returnType := some .boolean }, accessFlags := 9, code := some k1c2 }
/-- com/example/waitsfor/waitsfor/ShardSetGetPinLaw -/
def k1 : Class := { plain "com/example/waitsfor/waitsfor/ShardSetGetPinLaw" (some 0) with
  accessFlags := 49
  interfaces := #[]
  cf := some (fileOf pool1 12 #[] #[{ accessFlags := 1, nameIndex := 5, descriptorIndex := 6, attributes := #[] }, { accessFlags := 10, nameIndex := 15, descriptorIndex := 16, attributes := #[] }, { accessFlags := 9, nameIndex := 27, descriptorIndex := 28, attributes := #[] }] 49 2 #[] #[])
  fields := #[]
  methods := #[k1m0, k1m1, k1m2]
  instanceTypes := #[]
  staticTypes := #[]
  resolved := Array.replicate 32 none
  statics := none }

def pool2 : Array CpInfo := pool [(3, .methodref 4 5), (0, .class_ 6), (0, .nameAndType 7 8), (0, u "java/lang/Object"), (0, u "<init>"), (0, u "()V"), (0, .fieldref 10 11), (0, .class_ 12), (0, .nameAndType 13 14), (0, u "com/example/waitsfor/waitsfor/ShardSet"), (0, u "size"), (0, u "I"), (0, .methodref 10 16), (0, .nameAndType 17 18), (0, u "get"), (0, u "(I)I"), (0, .fieldref 10 20), (0, .nameAndType 21 22), (0, u "packed"), (0, u "J"), (2, .methodref 10 26), (0, .nameAndType 27 28), (0, u "addMore"), (0, u "(I)V"), (0, .fieldref 10 30), (0, .nameAndType 31 32), (0, u "more"), (0, u "[I"), (6, u "PACKED"), (4, u "add")] 7

def k2c0 : Code := { maxStack := 1, maxLocals := 1, code := prog_69_method_1_code, exceptionTable := #[], attributes := #[] }
def k2m0 : Method := { name := "<init>", desc := "()V", sig := { parameters := [], returnType := none }, accessFlags := 0, code := some k2c0 }
def k2c1 : Code := { maxStack := 7, maxLocals := 3, code := prog_69_method_2_code, exceptionTable := #[], attributes := #[] }
def k2m1 : Method := { name := "add", desc := "(I)V", sig := { parameters := [.int], returnType := none }, accessFlags := 0, code := some k2c1 }
def k2c2 : Code := { maxStack := 4, maxLocals := 2, code := prog_69_method_4_code, exceptionTable := #[], attributes := #[] }
def k2m2 : Method := { name := "get", desc := "(I)I", sig := { parameters := [.int], returnType := some .int }, accessFlags := 0, code := some k2c2 }
def k2c3 : Code := { maxStack := 4, maxLocals := 3, code := prog_69_method_7_code, exceptionTable := #[], attributes := #[] }
def k2m3 : Method := { name := "addMore", desc := "(I)V", sig := { parameters := [.int], returnType := none }, accessFlags := 2, code := some k2c3 }
/-- com/example/waitsfor/waitsfor/ShardSet -/
def k2 : Class := { plain "com/example/waitsfor/waitsfor/ShardSet" (some 0) with
  accessFlags := 48
  interfaces := #[]
  cf := some (fileOf pool2 10 #[] #[{ accessFlags := 0, nameIndex := 7, descriptorIndex := 8, attributes := #[] }, { accessFlags := 0, nameIndex := 44, descriptorIndex := 28, attributes := #[] }, { accessFlags := 0, nameIndex := 17, descriptorIndex := 18, attributes := #[] }, { accessFlags := 2, nameIndex := 27, descriptorIndex := 28, attributes := #[] }] 48 4 #[] #[{ accessFlags := 26, nameIndex := 39, descriptorIndex := 14, attributes := #[] }, { accessFlags := 2, nameIndex := 21, descriptorIndex := 22, attributes := #[] }, { accessFlags := 2, nameIndex := 31, descriptorIndex := 32, attributes := #[] }, { accessFlags := 2, nameIndex := 13, descriptorIndex := 14, attributes := #[] }])
  fields := #[{ name := "PACKED", type := .int, accessFlags := 26, slot := 0, constantValue := 0 }, { name := "packed", type := .long, accessFlags := 2, slot := 0, constantValue := 0 }, { name := "more", type := (.array .int), accessFlags := 2, slot := 1, constantValue := 0 }, { name := "size", type := .int, accessFlags := 2, slot := 2, constantValue := 0 }]
  methods := #[k2m0, k2m1, k2m2, k2m3]
  instanceTypes := #[.long, (.array .int), .int]
  staticTypes := #[.int]
  resolved := Array.replicate 52 none
  statics := none }

def pool3 : Array CpInfo := pool [(1, u "java/lang/Cloneable"), (0, .class_ 1), (0, u "java/lang/Object"), (0, .class_ 3)] 3

/-- java/lang/Cloneable -/
def k3 : Class := { plain "java/lang/Cloneable" (some 0) with
  accessFlags := 1537
  interfaces := #[]
  cf := some (fileOf pool3 2 #[] #[] 1537 4 #[] #[])
  fields := #[]
  methods := #[]
  instanceTypes := #[]
  staticTypes := #[]
  resolved := Array.replicate 8 none
  statics := none }

def pool4 : Array CpInfo := pool [(1, u "java/io/Serializable"), (0, .class_ 1), (0, u "java/lang/Object"), (0, .class_ 3)] 3

/-- java/io/Serializable -/
def k4 : Class := { plain "java/io/Serializable" (some 0) with
  accessFlags := 1537
  interfaces := #[]
  cf := some (fileOf pool4 2 #[] #[] 1537 4 #[] #[])
  fields := #[]
  methods := #[]
  instanceTypes := #[]
  staticTypes := #[]
  resolved := Array.replicate 8 none
  statics := none }

/-- the primitive byte -/
def k5 : Class := { plain "byte" none with kind := .primitive 'B', accessFlags := 0x411 }
/-- [B -/
def k6 : Class := { plain "[B" (some 0) with kind := .array 5 .byte, interfaces := #[3, 4], accessFlags := 1041 }

/-- the primitive int -/
def k7 : Class := { plain "int" none with kind := .primitive 'I', accessFlags := 0x411 }
/-- [I -/
def k8 : Class := { plain "[I" (some 0) with kind := .array 7 .int, interfaces := #[3, 4], accessFlags := 1041 }

def heap : Heap := #[]
def classes : Array Class := #[k0, k1, k2, k3, k4, k5, k6, k7, k8]
def interned : List (Array UInt16 × Addr) := []
def slotsUsed : Nat := 0
def theMethod : MethodId := ⟨1, 2⟩
def args0 : Array Value := #[.int 5, .int 3, .int 2, .int 7]
def aboutOver (below : List Frame) : State where
  vm := { classes := classes, interned := interned.toArray }
  heap := heap
  slotsUsed := slotsUsed
  threads := #[{ frames := .invoking theMethod args0 :: below }]
def below0 : List Frame := [.native { method := ⟨0, 0⟩, args := #[] }]
def about1 : State := aboutOver below0
def p0 : Program := .bare "" "" ""
def e0 : Env := launch0.env 0 0 0
theorem w_frames : about1.frames = Frame.invoking theMethod args0 :: below0 := rfl
set_option maxRecDepth 65536 in
theorem w_args : argsFit about1.vm theMethod args0 = true := by decide +kernel
set_option maxRecDepth 65536 in
theorem w_heap : heapFits about1 = true := by decide +kernel
set_option maxRecDepth 65536 in
theorem w_runnable : about1.curStatus? = some .runnable := by decide +kernel
set_option maxRecDepth 65536 in
theorem w_alone : about1.alone = true := by decide +kernel
set_option maxRecDepth 65536 in
theorem w_named : about1.methodNamed? x = some theMethod := by decide +kernel
set_option maxRecDepth 65536 in
theorem w_hears : about1.hears theMethod below0 = true := by decide +kernel
set_option maxRecDepth 65536 in
theorem w_ripe : about1.ripe theMethod args0 below0 = true := by decide +kernel
theorem w_running : about1.status = .running := rfl
set_option maxRecDepth 65536 in
theorem w_room : about1.hasRoom e0.platform room_1 = true :=
  launch0.hasRoom_least _ room_1 (by decide +kernel) (by decide +kernel) (by decide +kernel) (by decide +kernel) (by decide +kernel) (by decide +kernel)
theorem allAtoms_all (ts : List Jvm.Cond) (a : Array Jvm.Value) (st : Jvm.State) : (allAtoms ts).before a st = ts.all (fun c => c.before a st) := by
  induction ts with
  | nil => rfl
  | cons c t ih =>
    show (Jvm.Cond.and c (allAtoms t)).before a st = _
    rw [Jvm.Cond.before_and, ih, List.all_cons]
def words1 : List Jvm.Cond := Jvm.Cond.code x code maxLocals ret :: tables_1
/-- a 'code' word, met by the world's own term for the bytes: nothing is compared byte by byte -/
theorem code_word {y : MethodName} {bytes : ByteArray} {mx : Nat} {rt : Option FieldType} {a : Array Value} {s : State} {m : MethodId} {meth : Method} {c : Code} (h1 : s.methodNamed? y = some m) (h2 : s.vm.method? m = some meth) (h3 : meth.code = some c) (h4 : c.code = bytes)
    (h5 : (c.maxLocals == mx && c.exceptionTable.isEmpty && decide (c.maxStack ≤ mostOperands) && decide (meth.sig.returnType = rt) && !meth.locks && decide (parseMethodDescriptor y.desc = some meth.sig)) = true) : (Jvm.Cond.code y bytes mx rt).before a s = true := by
  simp only [Bool.and_eq_true, beq_iff_eq, Bool.not_eq_true', decide_eq_true_eq] at h5
  obtain ⟨⟨⟨⟨⟨g1, g2⟩, g3⟩, g4⟩, g5⟩, g6⟩ := h5
  simp [Cond.before, Cond.holds, Cond.value, h1, h2, h3, h4, g1, g2, g3, g4, g5, g6]
def isCode : Jvm.Cond → Bool
  | .code _ _ _ _ => true
  | _ => false
theorem all_split {L : List Jvm.Cond} {P : Jvm.Cond → Bool} (h1 : L.all (fun c => isCode c || P c) = true) (h2 : ∀ c ∈ L.filter isCode, P c = true) : L.all P = true := by
  refine List.all_eq_true.mpr fun c hc => ?_
  have h := List.all_eq_true.mp h1 c hc
  rcases Bool.eq_false_or_eq_true (isCode c) with hi | hi
  · exact h2 c (List.mem_filter.mpr ⟨hc, hi⟩)
  · simpa [hi] using h
set_option maxRecDepth 65536 in
theorem w_c0 : (Jvm.Cond.code x code maxLocals ret).before args0 about1 = true := code_word (m := ⟨1, 2⟩) (meth := k1m2) (c := k1c2) (by decide +kernel) rfl rfl rfl (by decide +kernel)
set_option maxRecDepth 65536 in
theorem w_c1 : (Jvm.Cond.code ({ cls := "com/example/waitsfor/waitsfor/ShardSet", name := "<init>", desc := "()V" } : Jvm.MethodName) prog_69_method_1_code (1 : Nat) (Option.none : Option Jvm.ClassFile.FieldType)).before args0 about1 = true := code_word (m := ⟨2, 0⟩) (meth := k2m0) (c := k2c0) (by decide +kernel) rfl rfl rfl (by decide +kernel)
set_option maxRecDepth 65536 in
theorem w_c2 : (Jvm.Cond.code ({ cls := "java/lang/Object", name := "<init>", desc := "()V" } : Jvm.MethodName) object_method_1_code (1 : Nat) (Option.none : Option Jvm.ClassFile.FieldType)).before args0 about1 = true := code_word (m := ⟨0, 0⟩) (meth := k0m0) (c := k0c0) (by decide +kernel) rfl rfl rfl (by decide +kernel)
set_option maxRecDepth 65536 in
theorem w_c3 : (Jvm.Cond.code ({ cls := "com/example/waitsfor/waitsfor/ShardSetGetPinLaw", name := "shard", desc := "(III)I" } : Jvm.MethodName) method_2_code (3 : Nat) (Option.some Jvm.ClassFile.FieldType.int)).before args0 about1 = true := code_word (m := ⟨1, 1⟩) (meth := k1m1) (c := k1c1) (by decide +kernel) rfl rfl rfl (by decide +kernel)
set_option maxRecDepth 65536 in
theorem w_c4 : (Jvm.Cond.code ({ cls := "com/example/waitsfor/waitsfor/ShardSet", name := "add", desc := "(I)V" } : Jvm.MethodName) prog_69_method_2_code (3 : Nat) (Option.none : Option Jvm.ClassFile.FieldType)).before args0 about1 = true := code_word (m := ⟨2, 1⟩) (meth := k2m1) (c := k2c1) (by decide +kernel) rfl rfl rfl (by decide +kernel)
set_option maxRecDepth 65536 in
theorem w_c5 : (Jvm.Cond.code ({ cls := "com/example/waitsfor/waitsfor/ShardSet", name := "get", desc := "(I)I" } : Jvm.MethodName) prog_69_method_4_code (2 : Nat) (Option.some Jvm.ClassFile.FieldType.int)).before args0 about1 = true := code_word (m := ⟨2, 2⟩) (meth := k2m2) (c := k2c2) (by decide +kernel) rfl rfl rfl (by decide +kernel)
set_option maxRecDepth 65536 in
theorem w_c6 : (Jvm.Cond.code ({ cls := "com/example/waitsfor/waitsfor/ShardSet", name := "addMore", desc := "(I)V" } : Jvm.MethodName) prog_69_method_7_code (3 : Nat) (Option.none : Option Jvm.ClassFile.FieldType)).before args0 about1 = true := code_word (m := ⟨2, 3⟩) (meth := k2m3) (c := k2c3) (by decide +kernel) rfl rfl rfl (by decide +kernel)
def codes1 : List Jvm.Cond := [Jvm.Cond.code x code maxLocals ret, Jvm.Cond.code ({ cls := "com/example/waitsfor/waitsfor/ShardSet", name := "<init>", desc := "()V" } : Jvm.MethodName) prog_69_method_1_code (1 : Nat) (Option.none : Option Jvm.ClassFile.FieldType), Jvm.Cond.code ({ cls := "java/lang/Object", name := "<init>", desc := "()V" } : Jvm.MethodName) object_method_1_code (1 : Nat) (Option.none : Option Jvm.ClassFile.FieldType), Jvm.Cond.code ({ cls := "com/example/waitsfor/waitsfor/ShardSetGetPinLaw", name := "shard", desc := "(III)I" } : Jvm.MethodName) method_2_code (3 : Nat) (Option.some Jvm.ClassFile.FieldType.int), Jvm.Cond.code ({ cls := "com/example/waitsfor/waitsfor/ShardSet", name := "add", desc := "(I)V" } : Jvm.MethodName) prog_69_method_2_code (3 : Nat) (Option.none : Option Jvm.ClassFile.FieldType), Jvm.Cond.code ({ cls := "com/example/waitsfor/waitsfor/ShardSet", name := "get", desc := "(I)I" } : Jvm.MethodName) prog_69_method_4_code (2 : Nat) (Option.some Jvm.ClassFile.FieldType.int), Jvm.Cond.code ({ cls := "com/example/waitsfor/waitsfor/ShardSet", name := "addMore", desc := "(I)V" } : Jvm.MethodName) prog_69_method_7_code (3 : Nat) (Option.none : Option Jvm.ClassFile.FieldType)]
set_option maxRecDepth 65536 in
theorem codes_eq : words1.filter isCode = codes1 := rfl
theorem w_codes : ∀ c ∈ words1.filter isCode, c.before args0 about1 = true := by
  rw [codes_eq]
  intro c hc
  simp only [codes1, List.mem_cons, List.not_mem_nil, or_false] at hc
  rcases hc with rfl | rfl | rfl | rfl | rfl | rfl | rfl
  · exact w_c0
  · exact w_c1
  · exact w_c2
  · exact w_c3
  · exact w_c4
  · exact w_c5
  · exact w_c6
set_option maxRecDepth 65536 in
theorem w_t1 : (words1.take 24).all (fun c => isCode c || c.before args0 about1) = true := by decide +kernel
set_option maxRecDepth 65536 in
theorem w_t2 : (words1.drop 24).all (fun c => isCode c || c.before args0 about1) = true := by decide +kernel
theorem w_tables : (allAtoms (Jvm.Cond.code x code maxLocals ret :: tables_1)).before args0 about1 = true := by
  rw [allAtoms_all]
  show words1.all (fun c => c.before args0 about1) = true
  refine all_split ?_ w_codes
  rw [← List.take_append_drop 24 words1, List.all_append, w_t1, w_t2]
  rfl
set_option maxRecDepth 65536 in
theorem w_case : (Jvm.Cond.and given_1 narrow_1).before args0 about1 = true := by decide +kernel
theorem w_applies : (headSpec (Jvm.Cond.code x code maxLocals ret :: tables_1) room_1).applies x e0.platform about1 = true :=
  (Spec.applies_iff w_frames).mpr ⟨w_running, w_runnable, w_alone, w_named, w_hears, w_ripe, w_room, w_tables⟩
theorem atStart : AtStart classFile x code maxLocals ret World_1 tables_1 room_1 Calls_1 rest_1 Pre_1 launch0 p0 e0 about1 theMethod args0 below0 :=
  ⟨lists_1, trivial, launch0.admits_env _ _ _, launch0.least_env, fairChoices_fair.cas, fairChoices_fair.clock, w_frames, w_args, w_heap, w_applies, trivial, trivial, w_case⟩
end start1
theorem witness_1 : WitnessClaimed_1 := ⟨start1.p0, start1.e0, start1.about1, start1.theMethod, start1.args0, start1.below0, start1.atStart⟩
end Jvm.Pilot.@@N@@
