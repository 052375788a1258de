import JvmDerived
import JvmDerived.Pilot.@@N@@Statement
import JvmDerived.Pilot.@@N@@Code
set_option linter.unusedVariables false
set_option linter.unusedSimpArgs false
namespace Jvm.RoadKit
open Sem ClassFile Op Lib Jvm.Stand Jvm.Free Jvm.LawKit
section New
variable {p : Program} {l : Launch} {e : Env} {R : Room} {s : State} {m : MethodId} {args : Array Value} {below : List Frame} {meth : Method} {c : Code} {T : State} {locs : List Loc} {cells slots : Nat}
theorem retI (X : Stand p l e R s m args below meth c T locs cells slots) (hx : p.tables.exec = Jvm.exec) {pc : Nat} {Ls : Array Slot} {z : Int32} {rest : List Value} (hret : meth.sig.returnType = some .int) (hd : decode c.code pc = .ok (.ireturn, 1)) {fs : List Frame}
    (hl : ∀ (f : JFrame) (acts : List Action), f.method = m → f.locked = none → f.entered = [] → (doReturn e (T.setTop f) acts (some (.int z))).1 = T.setFrames fs) : Steps p.tables e below (T.setTop (mkF m pc Ls (.int z :: rest))) (T.setFrames fs) := retOut X hx hret rfl (Or.inl ⟨rfl, Or.inl rfl, _, rfl⟩) hd hl
end New
end Jvm.RoadKit
namespace Jvm.Pilot.@@N@@
open Jvm Jvm.ClassFile Sem Op Lib Jvm.Free Jvm.Stand Jvm.LawKit Jvm.RoadKit Bundle Jvm.Pilot.@@N@@.Jvm.D
section OwnKit
variable {p : Program} {l : Launch} {e : Env} {R : Room} {s : State} {m : MethodId} {args : Array Value} {below : List Frame} {meth : Method} {c : Code} {T : State} {locs : List Loc} {cells slots : Nat} {Z : State} {a0 : Array Value} {h : Heap}
def Go (p : Program) (e : Env) (below : List Frame) (Q : Outcome → State → Prop) (S : State) : Prop := ∃ s₂ o, Steps p.tables e below S s₂ ∧ s₂.status = .running ∧ Ended s₂ below o ∧ Q o s₂
theorem Go.of {Q : Outcome → State → Prop} {S : State} (k : Go p e below Q S) : ∃ s₂ o, Steps p.tables e below S s₂ ∧ s₂.status = .running ∧ Ended s₂ below o ∧ Q o s₂ := k
theorem Go.st {Q : Outcome → State → Prop} {S S' : State} (h : ∀ t, Steps p.tables e below S' t → Steps p.tables e below S t) (k : Go p e below Q S') : Go p e below Q S := by
  obtain ⟨s2, o, h1, h2⟩ := k; exact ⟨s2, o, h _ h1, h2⟩
theorem Go.op {α : Type} {Q : Outcome → State → Prop} {S : State} {F : α → State} {x : α} (h : ∀ t, Steps p.tables e below (F x) t → Steps p.tables e below S t) (k : ∀ z, z = x → Go p e below Q (F z)) : Go p e below Q S := Go.st h (k x rfl)
theorem Go.join {α : Type} {Q : Outcome → State → Prop} {S : State} (C : α → Prop) (F : α → State) (k : ∀ r, C r → Go p e below Q (F r)) (j : (∀ r, C r → Go p e below Q (F r)) → Go p e below Q S) : Go p e below Q S := j k
theorem Go.joinT {α : Type} {Q : Outcome → State → Prop} {S : State} (X : Stand p l e R s m args below meth c T locs cells slots) (eT : T.heap = h) (C : α → Prop) (F : State → α → State) (k : ∀ T', Stand p l e R s m args below meth c T' locs cells slots → T'.heap = h → ∀ r, C r → Go p e below Q (F T' r)) (j : (∀ T', Stand p l e R s m args below meth c T' locs cells slots → T'.heap = h → ∀ r, C r → Go p e below Q (F T' r)) → Go p e below Q S) : Go p e below Q S := j k
theorem Go.loop {α : Type} {Q : Outcome → State → Prop} (I : Nat → α → Prop) (F : α → State) (k0 : Nat) (x0 : α) (h0 : I k0 x0) (step : ∀ k x, I k x → (∀ k' x', k' < k → I k' x' → Go p e below Q (F x')) → Go p e below Q (F x)) : Go p e below Q (F x0) := by
  have H : ∀ k x, I k x → Go p e below Q (F x) := by
    intro k
    induction k using Nat.strongRecOn with
    | _ k ih => intro x hx; exact step k x hx fun k' x' hk hx' => ih k' hk x' hx'
  exact H k0 x0 h0
theorem Go.ret {Qn : Option Value → Heap → List Loc → Prop} {rc rs : Nat} (X : Stand p l e R s m args below meth c T locs cells slots) {v : Option Value} (hv : meth.sig.returnType = none → v = none) (hlk : meth.locks = false) {f : JFrame}
    (st : ∀ fs, (∀ (f : JFrame) (acts : List Action), f.method = m → f.locked = none → f.entered = [] → (doReturn e (T.setTop f) acts v).1 = T.setFrames fs) → Steps p.tables e below (T.setTop f) (T.setFrames fs))
    (hc : cells ≤ rc) (hs : slots ≤ rs) (hQ : Qn v T.heap locs) : Go p e below (fun o U' => ∃ v L, o = .returned v ∧ Qn v U'.heap L ∧ FrameEnd s o U' L rc rs) (T.setTop f) := by
  obtain ⟨fs, hr, hrun, hended, hW, hsame⟩ := X.leave (v := v) hv hlk
  exact ⟨_, _, st fs hr, hrun, hended, v, locs, rfl, hQ, ⟨_, rfl⟩, hW, hsame.mono hc hs⟩
abbrev Con (l : Launch) (Z : State) (y : MethodName) (bytes : ByteArray) (maxL : Nat) (ret : Option FieldType) (ws : List Jvm.Cond) (rm : Room) (as' : Array Value) (h : Heap) (rc rs : Nat) (Q : Option Value → Heap → List Loc → Prop) : Prop :=
  MetFree l y (head1 (Jvm.Cond.code y bytes maxL ret :: ws) rm) (fun a U => a = as' ∧ Z.Warmed39 U.vm ∧ U.heap = h) (fun _ _ _ _ _ => True) (fun _ U o U' => ∃ v L, o = .returned v ∧ Q v U'.heap L ∧ FrameEnd U o U' L rc rs)
theorem own_eh {a : Addr} {cl : Cell} (eT : T.heap = h) (q : h[a]? = some cl) : T.heap[a]? = some cl := by rw [eT]; exact q
theorem own_callS {own : String} {index : Nat} {y : MethodName} {bytes : ByteArray} {maxL : Nat} {ret : Option FieldType} {rm : Room} {as' : Array Value} {Q : Option Value → Heap → List Loc → Prop} {W : Nat} {g : JFrame} {argsL rest : List Value}
    (X : Stand p l e R s m args below meth c T locs cells slots) (hx : p.tables.exec = Jvm.exec) (hZ : Z.Warmed39 s.vm) (eT : T.heap = h) (hown : s.vm.findClass own = some m.cls)
    (w1 : (Jvm.Cond.methodLink own index y).before a0 Z = true) (w2 : (Jvm.Cond.static y).before a0 Z = true) (w3 : (Jvm.Cond.initialized y.cls).before a0 Z = true) (w4 : (Jvm.Cond.code y bytes maxL ret).before a0 Z = true)
    (hy : y.cls ≠ "java/lang/invoke/MethodHandle" ∧ y.cls ≠ "java/lang/invoke/VarHandle")
    (hM : Con l Z y bytes maxL ret [] rm as' h rm.cells rm.slots Q)
    (hf : rm.frames + 1 ≤ R.frames) (hl : W + (maxL + 11) + rm.locals ≤ R.locals) (hc : cells + rm.cells ≤ R.cells) (hs : slots + rm.slots ≤ R.slots)
    (hg : g.method = m) (hsize : g.locals.size = c.maxLocals) (has : argsL.toArray = as') (hlen : ∀ sig, parseMethodDescriptor y.desc = some sig → argsL.length = sig.parameters.length)
    (hstack : g.stack = argsL.reverse ++ rest) (hW : 2 * g.monitorRoom + (rest.map fun v => v.category).sum ≤ W) (hdg : decode c.code g.pc = .ok (.invokestatic index, 3)) :
    ∃ v T' L, Stand p l e R s m args below meth c T' (locs ++ L) (cells + rm.cells) (slots + rm.slots) ∧ Q v T'.heap L ∧ ∀ target, Steps p.tables e below (T'.setTop { g with pc := g.pc + 3, stack := v.toList ++ rest }) target → Steps p.tables e below (T.setTop g) target := by
  obtain ⟨v, _, ⟨T', L', k', n'⟩, -, X', ⟨L, hQ, l', y', z'⟩, st⟩ := Jvm.LawKit.callS X hx (y := y) hown (mvT hZ w1) (mvT hZ w2) (mvT hZ w3) (mvT hZ w4) hy (backOf (W := W) hM hZ w4 w3 hf hl) (g := g) hg hsize (argsL := argsL) (rest := rest) hlen hstack hW hdg (fun _ _ => ⟨has, eT, hc, hs⟩)
  dsimp only [Pt.U, Pt.locs, Pt.cells, Pt.slots] at X' l' y' z' st hQ
  subst l' y' z'
  exact ⟨v, T', L, X', hQ, st⟩
theorem own_callI {own : String} {index : Nat} {y : MethodName} {bytes : ByteArray} {maxL : Nat} {rm : Room} {as' : Array Value} {Q : Option Value → Heap → List Loc → Prop} {W : Nat} {g : JFrame} {a : Addr} {argsL rest : List Value}
    (X : Stand p l e R s m args below meth c T locs cells slots) (hx : p.tables.exec = Jvm.exec) (hZ : Z.Warmed39 s.vm) (eT : T.heap = h) (hown : s.vm.findClass own = some m.cls) (hyn : y.name = "<init>")
    (w1 : (Jvm.Cond.methodLink own index y).before a0 Z = true) (w2 : (Jvm.Cond.instanceMethod y).before a0 Z = true) (w3 : (Jvm.Cond.initialized y.cls).before a0 Z = true) (w4 : (Jvm.Cond.code y bytes maxL none).before a0 Z = true)
    (hy : y.cls ≠ "java/lang/invoke/MethodHandle" ∧ y.cls ≠ "java/lang/invoke/VarHandle")
    (hM : Con l Z y bytes maxL none [] rm as' h rm.cells rm.slots Q)
    (hf : rm.frames + 1 ≤ R.frames) (hl : W + (maxL + 11) + rm.locals ≤ R.locals) (hc : cells + rm.cells ≤ R.cells) (hs : slots + rm.slots ≤ R.slots)
    (hg : g.method = m) (hsize : g.locals.size = c.maxLocals) (has : (Value.ref a :: argsL).toArray = as') (hlen : ∀ sig, parseMethodDescriptor y.desc = some sig → argsL.length = sig.parameters.length)
    (hstack : g.stack = argsL.reverse ++ .ref a :: rest) (hW : 2 * g.monitorRoom + (rest.map fun v => v.category).sum ≤ W) (hdg : decode c.code g.pc = .ok (.invokespecial index, 3)) :
    ∃ v T' L, Stand p l e R s m args below meth c T' (locs ++ L) (cells + rm.cells) (slots + rm.slots) ∧ Q v T'.heap L ∧ ∀ target, Steps p.tables e below (T'.setTop { g with pc := g.pc + 3, stack := v.toList ++ rest }) target → Steps p.tables e below (T.setTop g) target := by
  obtain ⟨v, _, ⟨T', L', k', n'⟩, -, X', ⟨L, hQ, l', y', z'⟩, st⟩ := X.specialBack hx (y := y) hyn hown (mvT hZ w1) (mvT hZ w2) (mvT hZ w4) hy (backOf (W := W) hM hZ w4 w3 hf hl) (g := g) hg hsize (Steps.refl _) (a := a) (argsL := argsL) (rest := rest) hlen hstack hW hdg (fun _ _ => ⟨has, eT, hc, hs⟩)
  dsimp only [Pt.U, Pt.locs, Pt.cells, Pt.slots] at X' l' y' z' st hQ
  subst l' y' z'
  exact ⟨v, T', L, X', hQ, fun _ k => st.trans k⟩
theorem own_mvMN {own host : String} {index : Nat} {y : MethodName} (hZ : Z.Warmed39 s.vm) (w : (Jvm.Cond.methodLinkNest own index y host).before a0 Z = true) : (Jvm.Cond.methodLinkNest own index y host).before args s = true := (Cond.methodLinkNest_wide hZ w :)
theorem own_callN {own host : String} {index : Nat} {y : MethodName} {bytes : ByteArray} {maxL : Nat} {rm : Room} {as' : Array Value} {Q : Option Value → Heap → List Loc → Prop} {W : Nat} {g : JFrame} {a : Addr} {argsL rest : List Value}
    (X : Stand p l e R s m args below meth c T locs cells slots) (hx : p.tables.exec = Jvm.exec) (hZ : Z.Warmed39 s.vm) (eT : T.heap = h) (hown : s.vm.findClass own = some m.cls) (hyn : y.name = "<init>")
    (w1 : (Jvm.Cond.methodLinkNest own index y host).before a0 Z = true) (w2 : (Jvm.Cond.instanceMethod y).before a0 Z = true) (w3 : (Jvm.Cond.initialized y.cls).before a0 Z = true) (w4 : (Jvm.Cond.code y bytes maxL none).before a0 Z = true)
    (hy : y.cls ≠ "java/lang/invoke/MethodHandle" ∧ y.cls ≠ "java/lang/invoke/VarHandle")
    (hM : Con l Z y bytes maxL none [] rm as' h rm.cells rm.slots Q)
    (hf : rm.frames + 1 ≤ R.frames) (hl : W + (maxL + 11) + rm.locals ≤ R.locals) (hc : cells + rm.cells ≤ R.cells) (hs : slots + rm.slots ≤ R.slots)
    (hg : g.method = m) (hsize : g.locals.size = c.maxLocals) (has : (Value.ref a :: argsL).toArray = as') (hlen : ∀ sig, parseMethodDescriptor y.desc = some sig → argsL.length = sig.parameters.length)
    (hstack : g.stack = argsL.reverse ++ .ref a :: rest) (hW : 2 * g.monitorRoom + (rest.map fun v => v.category).sum ≤ W) (hdg : decode c.code g.pc = .ok (.invokespecial index, 3)) :
    ∃ v T' L, Stand p l e R s m args below meth c T' (locs ++ L) (cells + rm.cells) (slots + rm.slots) ∧ Q v T'.heap L ∧ ∀ target, Steps p.tables e below (T'.setTop { g with pc := g.pc + 3, stack := v.toList ++ rest }) target → Steps p.tables e below (T.setTop g) target := by
  obtain ⟨v, _, ⟨T', L', k', n'⟩, -, X', ⟨L, hQ, l', y', z'⟩, st⟩ := X.specialBackNest hx (y := y) hyn hown (own_mvMN hZ w1) (mvT hZ w2) (mvT hZ w4) hy (backOf (W := W) hM hZ w4 w3 hf hl) (g := g) hg hsize (Steps.refl _) (a := a) (argsL := argsL) (rest := rest) hlen hstack hW hdg (fun _ _ => ⟨has, eT, hc, hs⟩)
  dsimp only [Pt.U, Pt.locs, Pt.cells, Pt.slots] at X' l' y' z' st hQ
  subst l' y' z'
  exact ⟨v, T', L, X', hQ, fun _ k => st.trans k⟩
theorem own_callV {own C : String} {index : Nat} {y z : MethodName} {bytes : ByteArray} {maxL : Nat} {ret : Option FieldType} {rm : Room} {as' : Array Value} {Q : Option Value → Heap → List Loc → Prop} {W : Nat} {g : JFrame} {a : Addr} {argsL rest : List Value}
    (X : Stand p l e R s m args below meth c T locs cells slots) (hx : p.tables.exec = Jvm.exec) (hZ : Z.Warmed39 s.vm) (eT : T.heap = h) (hown : s.vm.findClass own = some m.cls)
    (w1 : (Jvm.Cond.methodLink own index y).before a0 Z = true) (w2 : (Jvm.Cond.declares y).before a0 Z = true) (nf : NotFace s y) (w5 : (Jvm.Cond.selects C y z).before a0 Z = true) (w6 : (Jvm.Cond.instanceMethod z).before a0 Z = true) (w3 : (Jvm.Cond.initialized z.cls).before a0 Z = true) (w4 : (Jvm.Cond.code z bytes maxL ret).before a0 Z = true)
    (hy : y.cls ≠ "java/lang/invoke/MethodHandle" ∧ y.cls ≠ "java/lang/invoke/VarHandle") (E : Exa Z h a C)
    (hM : Con l Z z bytes maxL ret [] rm as' h rm.cells rm.slots Q)
    (hf : rm.frames + 1 ≤ R.frames) (hl : W + (maxL + 11) + rm.locals ≤ R.locals) (hc : cells + rm.cells ≤ R.cells) (hs : slots + rm.slots ≤ R.slots)
    (hg : g.method = m) (hsize : g.locals.size = c.maxLocals) (has : (Value.ref a :: argsL).toArray = as') (hlen : ∀ sig, parseMethodDescriptor y.desc = some sig → argsL.length = sig.parameters.length)
    (hstack : g.stack = argsL.reverse ++ .ref a :: rest) (hW : 2 * g.monitorRoom + (rest.map fun v => v.category).sum ≤ W) (hdg : decode c.code g.pc = .ok (.invokevirtual index, 3)) :
    ∃ v T' L, Stand p l e R s m args below meth c T' (locs ++ L) (cells + rm.cells) (slots + rm.slots) ∧ Q v T'.heap L ∧ ∀ target, Steps p.tables e below (T'.setTop { g with pc := g.pc + 3, stack := v.toList ++ rest }) target → Steps p.tables e below (T.setTop g) target := by
  obtain ⟨cq, kq, qa, qb, qc⟩ := isOf hZ eT E
  obtain ⟨v, _, ⟨T', L', k', n'⟩, -, X', ⟨L, hQ, l', y', z'⟩, st⟩ := X.virtualBack hx (y := y) (z := z) hown (mvT hZ w1) (mvT hZ w2) nf (mvT hZ w5) (mvT hZ w6) hy (backOf (W := W) hM hZ w4 w3 hf hl) qa qc (g := g) hg hsize (Steps.refl _) (argsL := argsL) (rest := rest) hlen hstack hW hdg (fun _ _ => ⟨has, eT, hc, hs⟩)
  dsimp only [Pt.U, Pt.locs, Pt.cells, Pt.slots] at X' l' y' z' st hQ
  subst l' y' z'
  exact ⟨v, T', L, X', hQ, fun _ k => st.trans k⟩
theorem own_sta_keep {C n d : String} {w : Value} {h h' : Heap} {ws : List Addr} (F : Sta Z h C n d w) (K : Keep h h' ws) (q : ∀ x ∈ ws, ∃ cl : Cell, h[x]? = some cl ∧ cl.vm.isStatics = false) : Sta Z h' C n d w := by
  obtain ⟨cf, i, k, f, st, cell, h1, h2, h3, h4, h5, h6, h7⟩ := F
  refine ⟨cf, i, k, f, st, cell, h1, h2, h3, h4, K.2.1 st cell h5 fun z => ?_, h6, h7⟩
  obtain ⟨cl, q1, q2⟩ := q st z
  cases h5.symm.trans q1
  rw [h6] at q2; cases q2
theorem own_exa_plain {a : Addr} {C : String} {h : Heap} (F : Exa Z h a C) : ∃ cl : Cell, h[a]? = some cl ∧ cl.vm.isStatics = false := by
  obtain ⟨cell, k, h1, -, -, h4, -⟩ := F; exact ⟨cell, h1, h4⟩
theorem own_arv_plain {a : Addr} {k : ClassId} {ty : FieldType} {z : Int32} {vs : List Value} {dv : Value} {h : Heap} (F : Arv Z h a k ty z vs dv) : ∃ cl : Cell, h[a]? = some cl ∧ cl.vm.isStatics = false := by
  obtain ⟨cell, A, -⟩ := F; exact ⟨cell, A.1, A.plain⟩
theorem own_getR {own O n d : String} {index : Nat} {a : Addr} {v : Value} {g : JFrame} {rest : List Value} (X : Stand p l e R s m args below meth c T locs cells slots) (hx : p.tables.exec = Jvm.exec) (hZ : Z.Warmed39 s.vm) (hown : s.vm.findClass own = some m.cls)
    (w : (Jvm.Cond.fieldRef own index O n d).before a0 Z = true) (eT : T.heap = h) (F : Fld Z h a O n d v) (hg : g.method = m) (hs : g.stack = .ref a :: rest) (hd : decode c.code g.pc = .ok (.getfield index, 3)) :
    ∀ target, Steps p.tables e below (T.setTop { g with pc := g.pc + 3, stack := v :: rest }) target → Steps p.tables e below (T.setTop g) target := by
  have hU : Z.Warmed39 T.vm := wtrans hZ X.warmed
  have w2 := Cond.fieldRef_warmed39 hU w
  have hc : (Z.setVm T.vm).vm.findClass own = some m.cls := by
    show T.vm.findClass own = some m.cls
    rw [X.warmed.alike.findClass]; exact hown
  obtain ⟨c1, k1, i1, f1, hf1, hr⟩ := Cond.fieldRef_spec hc w2
  obtain ⟨cell, cf, k, i, f, h1, h2, h3, h4, -, -, h7⟩ := F
  obtain ⟨k', hi, -⟩ := State.fieldFound?_setVm (s := Z) hU.alike h2
  cases hi.symm.trans hf1
  intro t kk
  exact (X.getfieldR hx hg hr h3 hs (by rw [eT]; exact h1) h4 h7 hd (Steps.refl _)).trans kk
theorem own_callP {own C : String} {index : Nat} {y : MethodName} {bytes : ByteArray} {maxL : Nat} {ret : Option FieldType} {rm : Room} {as' : Array Value} {Q : Option Value → Heap → List Loc → Prop} {W : Nat} {g : JFrame} {a : Addr} {argsL rest : List Value}
    (X : Stand p l e R s m args below meth c T locs cells slots) (hx : p.tables.exec = Jvm.exec) (hZ : Z.Warmed39 s.vm) (eT : T.heap = h) (hown : s.vm.findClass own = some m.cls)
    (w1 : (Jvm.Cond.methodLink own index y).before a0 Z = true) (w2 : (Jvm.Cond.instanceMethod y).before a0 Z = true) (w5 : (Jvm.Cond.selects y.cls y y).before a0 Z = true) (w6 : (Jvm.Cond.privateMethod y).before a0 Z = true) (w3 : (Jvm.Cond.initialized y.cls).before a0 Z = true) (w4 : (Jvm.Cond.code y bytes maxL ret).before a0 Z = true)
    (hy : y.cls ≠ "java/lang/invoke/MethodHandle" ∧ y.cls ≠ "java/lang/invoke/VarHandle") (E : Exa Z h a C)
    (hM : Con l Z y bytes maxL ret [] rm as' h rm.cells rm.slots Q)
    (hf : rm.frames + 1 ≤ R.frames) (hl : W + (maxL + 11) + rm.locals ≤ R.locals) (hc : cells + rm.cells ≤ R.cells) (hs : slots + rm.slots ≤ R.slots)
    (hg : g.method = m) (hsize : g.locals.size = c.maxLocals) (has : (Value.ref a :: argsL).toArray = as') (hlen : ∀ sig, parseMethodDescriptor y.desc = some sig → argsL.length = sig.parameters.length)
    (hstack : g.stack = argsL.reverse ++ .ref a :: rest) (hW : 2 * g.monitorRoom + (rest.map fun v => v.category).sum ≤ W) (hdg : decode c.code g.pc = .ok (.invokevirtual index, 3)) :
    ∃ v T' L, Stand p l e R s m args below meth c T' (locs ++ L) (cells + rm.cells) (slots + rm.slots) ∧ Q v T'.heap L ∧ ∀ target, Steps p.tables e below (T'.setTop { g with pc := g.pc + 3, stack := v.toList ++ rest }) target → Steps p.tables e below (T.setTop g) target := by
  obtain ⟨cq, q1, q2⟩ := E.cell
  obtain ⟨v, _, ⟨T', L', k', n'⟩, -, X', ⟨L, hQ, l', y', z'⟩, st⟩ := X.privateBack hx (y := y) hown (mvT hZ w1) (mvT hZ w2) (mvT hZ w5) (Cond.privateMethod_at (mvP hZ w6 (args := #[]))) (mvT hZ w4) hy (backOf (W := W) hM hZ w4 w3 hf hl) (g := g) hg hsize (Steps.refl _) (a := a) (by rw [eT]; exact q1) q2 (argsL := argsL) (rest := rest) hlen hstack hW hdg (fun _ _ => ⟨has, eT, hc, hs⟩)
  dsimp only [Pt.U, Pt.locs, Pt.cells, Pt.slots] at X' l' y' z' st hQ
  subst l' y' z'
  exact ⟨v, T', L, X', hQ, fun _ k => st.trans k⟩
theorem own_callF {own C : String} {index count : Nat} {xi y : MethodName} {bytes : ByteArray} {maxL : Nat} {ret : Option FieldType} {rm : Room} {as' : Array Value} {Q : Option Value → Heap → List Loc → Prop} {W : Nat} {g : JFrame} {a : Addr} {argsL rest : List Value}
    (X : Stand p l e R s m args below meth c T locs cells slots) (hx : p.tables.exec = Jvm.exec) (hZ : Z.Warmed39 s.vm) (eT : T.heap = h) (hown : s.vm.findClass own = some m.cls)
    (w1 : (Jvm.Cond.methodLink own index xi).before a0 Z = true) (w2 : (Jvm.Cond.declares xi).before a0 Z = true) (w7 : (Jvm.Cond.interfaceMethod xi.cls xi.cls xi.name xi.desc).before args s = true) (w5 : (Jvm.Cond.selects C xi y).before a0 Z = true) (w6 : (Jvm.Cond.instanceMethod y).before a0 Z = true)
    (w8 : (Jvm.Cond.publicMethod y).before a0 Z = true) (w9 : (Jvm.Cond.unhidden C xi.name xi.desc).before a0 Z = true) (w10 : (Jvm.Cond.castable C xi.cls).before a0 Z = true) (w3 : (Jvm.Cond.initialized y.cls).before a0 Z = true) (w4 : (Jvm.Cond.code y bytes maxL ret).before a0 Z = true)
    (hy : xi.cls ≠ "java/lang/invoke/MethodHandle" ∧ xi.cls ≠ "java/lang/invoke/VarHandle") (E : Exa Z h a C)
    (hM : Con l Z y bytes maxL ret [] rm as' h rm.cells rm.slots Q)
    (hf : rm.frames + 1 ≤ R.frames) (hl : W + (maxL + 11) + rm.locals ≤ R.locals) (hc : cells + rm.cells ≤ R.cells) (hs : slots + rm.slots ≤ R.slots)
    (hg : g.method = m) (hsize : g.locals.size = c.maxLocals) (has : (Value.ref a :: argsL).toArray = as') (hlen : ∀ sig, parseMethodDescriptor xi.desc = some sig → argsL.length = sig.parameters.length)
    (hstack : g.stack = argsL.reverse ++ .ref a :: rest) (hW : 2 * g.monitorRoom + (rest.map fun v => v.category).sum ≤ W) (hdg : decode c.code g.pc = .ok (.invokeinterface index count, 5)) :
    ∃ v T' L, Stand p l e R s m args below meth c T' (locs ++ L) (cells + rm.cells) (slots + rm.slots) ∧ Q v T'.heap L ∧ ∀ target, Steps p.tables e below (T'.setTop { g with pc := g.pc + 5, stack := v.toList ++ rest }) target → Steps p.tables e below (T.setTop g) target := by
  obtain ⟨cq, kq, qa, qb, qc⟩ := isOf hZ eT E
  obtain ⟨v, _, ⟨T', L', k', n'⟩, -, X', ⟨L, hQ, l', y', z'⟩, st⟩ := X.interfaceBack hx (xi := xi) (y := y) hown (mvT hZ w1) (mvT hZ w2) w7 (mvT hZ w5) (mvT hZ w6) (mvT hZ w8) (mvT hZ w9) (mvT hZ w10) hy (backOf (W := W) hM hZ w4 w3 hf hl) qa qb qc (g := g) hg hsize (Steps.refl _) (argsL := argsL) (rest := rest) hlen hstack hW hdg (fun _ _ => ⟨has, eT, hc, hs⟩)
  dsimp only [Pt.U, Pt.locs, Pt.cells, Pt.slots] at X' l' y' z' st hQ
  subst l' y' z'
  exact ⟨v, T', L, X', hQ, fun _ k => st.trans k⟩
theorem own_ns_root {O K : String} {n : Nat} (w : (Jvm.Cond.noSuperclass O).before a0 Z = true) (wk : (Jvm.Cond.instantiable K n).before a0 Z = true) (hn : O ≠ K) : NS Z O K := by
  obtain ⟨c, k, h1, h2, h3, -, -⟩ := Cond.noSuperclass_spec w
  obtain ⟨t, kt, g1, -⟩ := Cond.instantiable_spec wk
  have ne := ids_ne h1 g1 hn
  refine ⟨c, t, h1, g1, fun fuel => ?_⟩
  cases fuel with
  | zero => rfl
  | succ f => simp [Vm.isSubclassAux, ne, h2, h3]
theorem own_ns_no {C S K : String} {n : Nat} (w : (Jvm.Cond.superclass C S).before a0 Z = true) (wk : (Jvm.Cond.instantiable K n).before a0 Z = true) (hN : NS Z C K) (hn : C ≠ K) : ∃ c t, Z.vm.findClass C = some c ∧ Z.vm.findClass K = some t ∧ Z.vm.assignable c t = false := by
  obtain ⟨c, t, h0, g0, n3⟩ := hN
  obtain ⟨p, k, kp, h1, h2, h3, h4, h5, -, h7⟩ := Cond.superclass_spec h0 w
  obtain ⟨t', kt, g1, g2, g3, g4, -⟩ := Cond.instantiable_spec wk
  cases g0.symm.trans g1
  have g7 : kt.isInterface = false := by
    cases hq : kt.isInterface
    · rfl
    · simp [hq] at g4
  have ne := ids_ne h0 g0 hn
  refine ⟨c, t, h0, g0, ?_⟩
  show Z.vm.assignableAux (255 + 1) c t = false
  simp [Vm.assignableAux, ne, h2, g2, h5, g3, g7, Vm.isSubclass, n3]
theorem own_ldcM {own C : String} {index : Nat} {mr : Addr} {g : JFrame} (X : Stand p l e R s m args below meth c T locs cells slots) (hx : p.tables.exec = Jvm.exec) (hZ : Z.Warmed39 s.vm) (hown : s.vm.findClass own = some m.cls) (w : (Jvm.Cond.classLink own index C).before a0 Z = true) (eT : T.heap = h) (M : Mir Z C mr)
    (hg : g.method = m) (hd : decode c.code g.pc = .ok (.ldc index, 2)) :
    ∃ T', Stand p l e R s m args below meth c T' locs cells slots ∧ T'.heap = h ∧ ∀ target, Steps p.tables e below (T'.setTop { g with pc := g.pc + 2, stack := .ref mr :: g.stack }) target → Steps p.tables e below (T.setTop g) target := by
  obtain ⟨cc, kc, m1, m2, m3, -⟩ := M
  obtain ⟨k', q, ek⟩ := hZ.alike.2.2 _ _ m2
  have ev : (Term.mirror C).eval args s none [] s = some (.ref mr) := by
    have h1 : s.vm.findClass C = some cc := by rw [hZ.alike.findClass]; exact m1
    have h2 : k'.mirror = some mr := by rw [ek]; exact m3
    simp [Term.eval, h1, q, h2]
  obtain ⟨vm', X', st⟩ := X.ldcMirror hx hown (mv hZ w) ev hg hd
  exact ⟨_, X', eT, st⟩
theorem own_declares {Z : State} {a0 : Array Value} {y : MethodName} {bytes : ByteArray} {maxL : Nat} {ret : Option FieldType} (w6 : (Jvm.Cond.instanceMethod y).before a0 Z = true) (w4 : (Jvm.Cond.code y bytes maxL ret).before a0 Z = true) : (Jvm.Cond.declares y).before a0 Z = true := by
  obtain ⟨mk, methM, hnamed, hmethM, hstM, habM⟩ := Cond.instanceMethod_spec w6
  obtain ⟨methM', cM, hmethM', hcodeM', -, hlocalsM, -, -, -, hsigM⟩ := Cond.code_spec hnamed w4
  cases hmethM.symm.trans hmethM'
  simp [Cond.before, Cond.value, Cond.holds, hnamed, hmethM, hstM, hsigM]
theorem own_sameM {y y' : MethodName} {C' : String} (w3 : (Jvm.Cond.instanceMethod y).before a0 Z = true) (ws : (Jvm.Cond.selects C' y' y').before a0 Z = true) (hcls : y'.cls = y.cls) (hy : y.cls ≠ "java/lang/invoke/MethodHandle" ∧ y.cls ≠ "java/lang/invoke/VarHandle") : (Jvm.Cond.sameMethod y.cls y.cls y.name y.desc).before a0 Z = true := by
  obtain ⟨mk, methM, hnamed, hmethM, hstM, habM⟩ := Cond.instanceMethod_spec w3
  obtain ⟨c2, r2, m2, q1, q2, q3, q4, kP, hkP, hkPi⟩ := Cond.selects_spec ws
  have hc := findClass_of_methodNamed hnamed
  have hc' := findClass_of_methodNamed q3
  rw [hcls] at hc'
  have e : mk.cls = m2.cls := by rw [hc] at hc'; injection hc'
  have hf := State.methodFound?_of_named hnamed hy
  have hkP' : Z.vm.classes[mk.cls]? = some kP := by rw [e]; exact hkP
  have hn' : Z.methodNamed? ⟨y.cls, y.name, y.desc⟩ = some mk := hnamed
  simp only [Cond.before, Cond.holds, Cond.value, hc, hf, hn', hkP']
  simp [hkPi]
theorem own_callU {own C C' : String} {y' : MethodName} {ret : Option FieldType} {index : Nat} {y : MethodName} {bytes : ByteArray} {maxL : Nat} {rm : Room} {as' : Array Value} {Q : Option Value → Heap → List Loc → Prop} {W : Nat} {g : JFrame} {a : Addr} {argsL rest : List Value}
    (X : Stand p l e R s m args below meth c T locs cells slots) (hx : p.tables.exec = Jvm.exec) (hZ : Z.Warmed39 s.vm) (eT : T.heap = h) (hown : s.vm.findClass own = some m.cls) (hyn : y.name ≠ "<init>") (E : Exa Z h a C)
    (w1 : (Jvm.Cond.methodLink own index y).before a0 Z = true) (w2 : (Jvm.Cond.instanceMethod y).before a0 Z = true) (wu : (Jvm.Cond.superclass own y.cls).before a0 Z = true) (ws : (Jvm.Cond.selects C' y' y').before a0 Z = true) (hcls : y'.cls = y.cls) (w3 : (Jvm.Cond.initialized y.cls).before a0 Z = true) (w4 : (Jvm.Cond.code y bytes maxL ret).before a0 Z = true)
    (hy : y.cls ≠ "java/lang/invoke/MethodHandle" ∧ y.cls ≠ "java/lang/invoke/VarHandle")
    (hM : Con l Z y bytes maxL ret [] rm as' h rm.cells rm.slots Q)
    (hf : rm.frames + 1 ≤ R.frames) (hl : W + (maxL + 11) + rm.locals ≤ R.locals) (hc : cells + rm.cells ≤ R.cells) (hs : slots + rm.slots ≤ R.slots)
    (hg : g.method = m) (hsize : g.locals.size = c.maxLocals) (has : (Value.ref a :: argsL).toArray = as') (hlen : ∀ sig, parseMethodDescriptor y.desc = some sig → argsL.length = sig.parameters.length)
    (hstack : g.stack = argsL.reverse ++ .ref a :: rest) (hW : 2 * g.monitorRoom + (rest.map fun v => v.category).sum ≤ W) (hdg : decode c.code g.pc = .ok (.invokespecial index, 3)) :
    ∃ v T' L, Stand p l e R s m args below meth c T' (locs ++ L) (cells + rm.cells) (slots + rm.slots) ∧ Q v T'.heap L ∧ ∀ target, Steps p.tables e below (T'.setTop { g with pc := g.pc + 3, stack := v.toList ++ rest }) target → Steps p.tables e below (T.setTop g) target := by
  obtain ⟨v, _, ⟨T', L', k', n'⟩, -, X', ⟨L, hQ, l', y', z'⟩, st⟩ := superBack X hx hZ (y := y) hown w1 (own_sameM w2 ws hcls hy) w2 wu hyn (backOf (W := W) hM hZ w4 w3 hf hl) eT (a := a) (Ins.self E) (g := g) hg hsize w4 (argsL := argsL) (rest := rest) hlen hstack hW hdg (fun _ _ => ⟨has, eT, hc, hs⟩)
  dsimp only [Pt.U, Pt.locs, Pt.cells, Pt.slots] at X' l' y' z' st hQ
  subst l' y' z'
  exact ⟨v, T', L, X', hQ, fun _ k => st.trans k⟩
theorem own_notface {y y' : MethodName} {C' : String} (hcls : y'.cls = y.cls) (ws : (Jvm.Cond.selects C' y' y').before args s = true) : NotFace s y := fun r0 h0 => by
  obtain ⟨c2, r2, m2, q1, q2, q3, q4, kP, hkP, hkPi⟩ := Cond.selects_spec ws
  have hc := findClass_of_methodNamed h0
  have hc' := findClass_of_methodNamed q3
  rw [hcls] at hc'
  have e : r0.cls = m2.cls := by rw [hc] at hc'; injection hc'
  exact ⟨kP, by rw [e]; exact hkP, hkPi⟩
theorem own_capI {z c : Int32} {n : Nat} (h : ¬ (c < z)) (hc : c.toInt = n) : z.toNatClampNeg ≤ n := by
  rw [Int32.lt_iff_toInt_lt] at h
  show z.toInt.toNat ≤ n
  omega
end OwnKit
section OwnFP
open Jvm.FP.Core
theorem own_bits {v k : Nat} (h1 : 2 ^ (52 + k) ≤ v) (h2 : v < 2 ^ (53 + k)) (hk : k ≤ 10) : fromInt b64 (v : Int) = (k + 1074) * 2 ^ 52 + nearest v (2 ^ k) := by
  have hv : 0 < v := Nat.lt_of_lt_of_le (Nat.two_pow_pos _) h1
  have e : v.log2 = 52 + k := (Nat.log2_eq_iff (by omega)).mpr ⟨h1, by rw [show 52 + k + 1 = 53 + k by omega]; exact h2⟩
  have hl : leading v 1 = ((52 + k : Nat) : Int) := by
    unfold leading
    have e1 : (1 : Nat).log2 = 0 := by decide
    simp only [e, e1]
    have t1 : (((52 + k : Nat) : Int) - ((0 : Nat) : Int)).toNat = 52 + k := by omega
    have t2 : (-(((52 + k : Nat) : Int) - ((0 : Nat) : Int))).toNat = 0 := by omega
    rw [t1, t2, if_pos (by simpa using h1)]
    omega
  have hq : quantum b64 v 1 0 = (k : Int) := by
    unfold quantum
    rw [hl]
    have a : b64.qmin = -1074 := by decide
    have b : b64.p = 53 := rfl
    rw [a, b]
    omega
  have hc1 : 2 ^ 52 ≤ nearest v (2 ^ k) := nearest_ge (Nat.two_pow_pos _) (by rw [← Nat.pow_add]; exact h1)
  have hc2 : nearest v (2 ^ k) ≤ 2 ^ 53 := nearest_le (Nat.two_pow_pos _) (by rw [← Nat.pow_add]; exact Nat.le_of_lt h2)
  have hu : unitsNum v 0 (k : Int) = v := by unfold unitsNum; rw [show ((0 : Int) - (k : Int)).toNat = 0 by omega]; simp
  have hd : unitsDen 1 0 (k : Int) = 2 ^ k := by unfold unitsDen; rw [show ((k : Int) - 0).toNat = k by omega]; simp
  have hr : round b64 (ofInt (v : Int)) = settle b64 false (nearest v (2 ^ k)) (k : Int) := by
    unfold ofInt round roundRatio
    simp only [Int.natAbs_natCast]
    rw [if_neg (by omega), hq]
    unfold roundAt
    rw [hu, hd, show decide ((v : Int) < 0) = false from by simp]
  unfold fromInt
  rw [hr]
  have qx : b64.qmax = 971 := by decide
  have qn : b64.qmin = -1074 := by decide
  have tl : b64.tails = 2 ^ 52 := by decide
  have pp : b64.p = 53 := rfl
  unfold settle bound
  rw [qx, tl, pp]
  by_cases hc : nearest v (2 ^ k) < 2 ^ 53
  · rw [if_pos hc, if_pos (by omega)]
    simp only [encode, assemble]
    rw [tl, if_neg (by omega), qn, show (((k : Int) - -1074).toNat + 1) = k + 1075 by omega]
    simp only [Bool.toNat_false]
    omega
  · rw [if_neg hc, if_pos (by omega)]
    have key : ∀ c : Nat, c = 2 ^ 52 → encode b64 (.fin false c ((k : Int) + 1)) = (k + 1074) * 2 ^ 52 + 2 ^ 53 := by
      intro c hcc
      simp only [encode, assemble]
      rw [tl, if_neg (by omega), qn, show (((k : Int) + 1 - -1074).toNat + 1) = k + 1076 by omega]
      simp only [Bool.toNat_false]
      omega
    rw [key _ rfl, show nearest v (2 ^ k) = 2 ^ 53 by omega]
theorem own_up {p k c x : Nat} (hk : k ≤ 4) (h1 : 2 ^ (52 + k) ≤ p) (h2 : p < 2 ^ (53 + k)) (hc : c = nearest p (2 ^ k)) (hx : x = c * 2 ^ k + (if c < 2 ^ 53 then 2 ^ k else 2 ^ (k + 1))) : fromInt b64 (p : Int) + 1 = fromInt b64 (x : Int) := by
  have b := own_bits h1 h2 (by omega)
  have hc1 : 2 ^ 52 ≤ c := by rw [hc]; exact nearest_ge (Nat.two_pow_pos _) (by rw [← Nat.pow_add]; exact h1)
  have hc2 : c ≤ 2 ^ 53 := by rw [hc]; exact nearest_le (Nat.two_pow_pos _) (by rw [← Nat.pow_add]; exact Nat.le_of_lt h2)
  rw [b, ← hc]
  have P := Nat.two_pow_pos k
  have P1 : 2 ^ (k + 1) = 2 * 2 ^ k := by rw [Nat.pow_succ, Nat.mul_comm]
  by_cases q : c < 2 ^ 53
  · rw [if_pos q] at hx
    have hx' : x = (c + 1) * 2 ^ k := by rw [hx, Nat.add_mul, Nat.one_mul]
    by_cases q2 : c + 1 < 2 ^ 53
    · rw [own_bits (v := x) (k := k) (by rw [hx', Nat.pow_add]; exact Nat.mul_le_mul_right _ (by omega)) (by rw [hx', Nat.pow_add]; exact Nat.mul_lt_mul_of_pos_right q2 P) (by omega), hx', nearest_exact _ P]
      omega
    · have e : c + 1 = 2 * 2 ^ 52 := by omega
      have hx2 : x = 2 ^ 52 * 2 ^ (k + 1) := by rw [hx', e, P1, Nat.mul_comm 2 (2 ^ 52), Nat.mul_assoc]
      rw [own_bits (v := x) (k := k + 1) (by rw [hx2, Nat.pow_add]; exact Nat.le_refl _) (by rw [hx2, Nat.pow_add 2 53]; refine Nat.mul_lt_mul_of_pos_right ?_ (Nat.two_pow_pos _); decide) (by omega), hx2, nearest_exact _ (Nat.two_pow_pos _)]
      omega
  · rw [if_neg q] at hx
    have e : c = 2 * 2 ^ 52 := by omega
    have hx2 : x = (2 ^ 52 + 1) * 2 ^ (k + 1) := by rw [hx, e, P1, Nat.add_mul, Nat.one_mul, Nat.mul_comm 2 (2 ^ 52), Nat.mul_assoc]
    rw [own_bits (v := x) (k := k + 1) (by rw [hx2, Nat.pow_add]; exact Nat.mul_le_mul_right _ (by omega)) (by rw [hx2, Nat.pow_add 2 53]; refine Nat.mul_lt_mul_of_pos_right ?_ (Nat.two_pow_pos _); decide) (by omega), hx2, nearest_exact _ (Nat.two_pow_pos _)]
    omega
end OwnFP
section OwnFP2
open Jvm.FP.Core
theorem own_kof {v : Nat} (h1 : 9007199254740992 ≤ v) (h2 : v ≤ 72057594037927936) : ∃ k, 1 ≤ k ∧ k ≤ 4 ∧ 2 ^ (52 + k) ≤ v ∧ v < 2 ^ (53 + k) := by
  by_cases a : v < 18014398509481984
  · exact ⟨1, by decide, by decide, by show 9007199254740992 ≤ v; exact h1, by show v < 18014398509481984; exact a⟩
  · by_cases b : v < 36028797018963968
    · exact ⟨2, by decide, by decide, by show 18014398509481984 ≤ v; omega, by show v < 36028797018963968; exact b⟩
    · by_cases c : v < 72057594037927936
      · exact ⟨3, by decide, by decide, by show 36028797018963968 ≤ v; omega, by show v < 72057594037927936; exact c⟩
      · exact ⟨4, by decide, by decide, by show 72057594037927936 ≤ v; omega, by show v < 144115188075855872; omega⟩
theorem own_bd {p : Int64} (h1 : 9007199254740992 ≤ p.toInt) (h2 : p.toInt ≤ 72057594037927936) : 4845873199050653696 ≤ (FP.l2d p).toNat ∧ (FP.l2d p).toNat ≤ 4863887597560135680 := by
  obtain ⟨k, k1, k4, a, b⟩ := own_kof (v := p.toInt.toNat) (by omega) (by omega)
  have e : ((p.toInt.toNat : Nat) : Int) = p.toInt := Int.toNat_of_nonneg (by omega)
  have hb := own_bits a b (by omega)
  rw [e] at hb
  have hc1 : 2 ^ 52 ≤ nearest p.toInt.toNat (2 ^ k) := nearest_ge (Nat.two_pow_pos _) (by rw [← Nat.pow_add]; exact a)
  have hc2 : nearest p.toInt.toNat (2 ^ k) ≤ 2 ^ 53 := nearest_le (Nat.two_pow_pos _) (by rw [← Nat.pow_add]; exact Nat.le_of_lt b)
  have hn : (FP.l2d p).toNat = fromInt b64 p.toInt := by
    show (UInt64.ofNat (fromInt b64 p.toInt)).toNat = _
    rw [UInt64.toNat_ofNat']
    exact Nat.mod_eq_of_lt (by omega)
  rw [hn, hb]
  omega
theorem own_mul {a b : Int64} (h : (1 ≤ a.toInt ∧ a.toInt ≤ 268435456) ∧ 1 ≤ b.toInt ∧ b.toInt ≤ 268435456) : FP.dmul (FP.l2d a) (FP.l2d b) = FP.l2d (a * b) ∧ (a * b).toInt = a.toInt * b.toInt ∧ 1 ≤ (a * b).toInt ∧ (a * b).toInt ≤ 72057594037927936 := by
  obtain ⟨⟨a1, a2⟩, b1, b2⟩ := h
  have m1 : 1 * 1 ≤ a.toInt * b.toInt := Int.mul_le_mul a1 b1 (by decide) (by omega)
  have m2 : a.toInt * b.toInt ≤ 268435456 * 268435456 := Int.mul_le_mul a2 b2 (by omega) (by decide)
  have na : ¬ a = 0 := fun e => by rw [e] at a1; exact absurd a1 (by decide)
  have nb : ¬ b = 0 := fun e => by rw [e] at b1; exact absurd b1 (by decide)
  have c := c_lmul a b
  have r := rng64 (a * b)
  refine ⟨dmul_w ⟨by omega, by omega⟩ ⟨by omega, by omega⟩ na nb (by omega) (by omega), ?_, ?_, ?_⟩ <;> omega
theorem own_lt53 {p : Int64} (h1 : 1 ≤ p.toInt) (h2 : p < 9007199254740992) : cmpValue (FP.dcmp (FP.l2d p) 4845873199050653696) .g = -1 := by
  have h3 : p.toInt < 9007199254740992 := Int64.lt_iff_toInt_lt.mp h2
  have e : (4845873199050653696 : UInt64) = l2d 9007199254740992 := by decide +kernel
  have q : dcmp (l2d p) (4845873199050653696 : UInt64) = some .lt := by
    rw [e, dcmp_int (l2d_int (by omega)) (l2d_int (by decide)), Option.some.injEq, compare_lt_iff]
    exact h3
  rw [show FP.dcmp (FP.l2d p) 4845873199050653696 = some .lt from q]; rfl
theorem own_ge53 {p : Int64} (h1 : ¬ p < 9007199254740992) (h2 : p.toInt ≤ 72057594037927936) : ∃ c : Int32, cmpValue (FP.dcmp (FP.l2d p) 4845873199050653696) .g = c ∧ ¬ c < 0 := by
  have h3 : 9007199254740992 ≤ p.toInt := Int.not_lt.mp fun z => h1 (Int64.lt_iff_toInt_lt.mpr z)
  obtain ⟨b1, b2⟩ := own_bd h3 h2
  have e : (4845873199050653696 : UInt64).toNat = 4845873199050653696 := by decide
  have m := mono_bits (a := l2d p) (b := 4845873199050653696) (l2d_fin p).ne_nan (by decide +kernel) (Nat.lt_of_le_of_lt b2 (by decide)) (by decide)
  rw [e] at m
  by_cases q : (l2d p).toNat = 4845873199050653696
  · exact ⟨0, by rw [show FP.dcmp (FP.l2d p) 4845873199050653696 = some .eq from m.2.1.mpr q]; rfl, by decide⟩
  · exact ⟨1, by rw [show FP.dcmp (FP.l2d p) 4845873199050653696 = some .gt from m.2.2.mpr (Nat.lt_of_le_of_ne b1 (Ne.symm q))]; rfl, by decide⟩
theorem own_add0 {p : Int64} (h1 : 9007199254740992 ≤ p.toInt) (h2 : p.toInt ≤ 72057594037927936) : FP.dadd (FP.l2d p) (FP.l2d 0) = FP.l2d p := by
  obtain ⟨b1, b2⟩ := own_bd h1 h2
  have nz : ¬ DZero (l2d p) := by
    rw [zero_bits2]
    intro z
    have : (l2d p).toNat % 2 ^ 63 = (l2d p).toNat := Nat.mod_eq_of_lt (Nat.lt_of_le_of_lt b2 (by decide))
    rw [this] at z
    exact absurd (show (FP.l2d p).toNat = 0 from z) (by omega)
  have z0 : DZero (l2d 0) := by rw [zero_bits2]; decide +kernel
  exact eq_bits nz (dadd_zero_eq (l2d_fin p) z0).1
theorem own_bitsI {p z : Int64} (h1 : 9007199254740992 ≤ p.toInt) (h2 : p.toInt ≤ 72057594037927936) (hz : z = (FP.l2d p).toInt64) : z.toInt = ((FP.l2d p).toNat : Int) := by
  obtain ⟨b1, b2⟩ := own_bd h1 h2
  rw [hz]
  show (FP.l2d p).toBitVec.toInt = _
  rw [BitVec.toInt_eq_toNat_of_lt (by show 2 * (FP.l2d p).toNat < 2 ^ 64; omega)]; rfl
theorem own_bits0 {p z : Int64} (h1 : 9007199254740992 ≤ p.toInt) (h2 : p.toInt ≤ 72057594037927936) (hz : z = (FP.l2d p).toInt64) : ¬ z < 0 := by
  rw [Int64.lt_iff_toInt_lt, own_bitsI h1 h2 hz]
  have : (0 : Int64).toInt = 0 := by decide
  omega
theorem own_bits1 {p z v : Int64} (hz : z = (FP.l2d p).toInt64) (hv : v = z + 1) : v.toUInt64 = FP.l2d p + 1 := by
  rw [hv, hz, Int64.toUInt64_add]; rfl
theorem own_bits2 {p z v : Int64} (h1 : 9007199254740992 ≤ p.toInt) (h2 : p.toInt ≤ 72057594037927936) (hz : z = (FP.l2d p).toInt64) (hv : v = z + 1) : (v.toUInt64 &&& 0x7fffffffffffffff > 0x7ff0000000000000 && v.toUInt64 &&& 0x0008000000000000 == 0) = false := by
  obtain ⟨b1, b2⟩ := own_bd h1 h2
  rw [own_bits1 hz hv]
  refine Bool.and_eq_false_iff.mpr (Or.inl (decide_eq_false ?_))
  intro q
  have q2 : (0x7ff0000000000000 : UInt64).toNat < ((FP.l2d p + 1) &&& 0x7fffffffffffffff).toNat := UInt64.lt_iff_toNat_lt.mp q
  rw [mask_toNat, UInt64.toNat_add] at q2
  have e1 : (1 : UInt64).toNat = 1 := rfl
  have e2 : (0x7ff0000000000000 : UInt64).toNat = 9218868437227405312 := rfl
  omega
end OwnFP2
section OwnFP3
open Jvm.FP.Core
def own_ulp (v u : Int64) : Prop := (v < 18014398509481984 ∧ u = 2) ∨ (¬ (v < 18014398509481984) ∧ v < 36028797018963968 ∧ u = 4) ∨ (¬ (v < 18014398509481984) ∧ ¬ (v < 36028797018963968) ∧ v < 72057594037927936 ∧ u = 8) ∨ (¬ (v < 18014398509481984) ∧ ¬ (v < 36028797018963968) ∧ ¬ (v < 72057594037927936) ∧ u = 16)
theorem own_case1 {p q rem r e u2 qq : Int64} (h1 : 9007199254740992 ≤ p.toInt) (h2 : p.toInt < 18014398509481984) (h3 : p.toInt ≤ 72057594037927936) (hq : q = p / 2) (hrem : rem = p % 2) (hqq : ((1 : Int64) < rem ∨ rem = 1 ∧ ¬ (q &&& 1) = 0) ∧ qq = q + 1 ∨ ¬ ((1 : Int64) < rem) ∧ (¬ rem = 1 ∨ (q &&& 1) = 0) ∧ qq = q) (hr : r = qq * 2) (hu : own_ulp r u2) (he : e = r + u2) : FP.l2d p + 1 = FP.l2d e := by
  have f1 : q.toInt = p.toInt / 2 := by rw [hq]; exact (c_ldiv p 2 2 (by decide) (by decide)).1 (by omega)
  have f2 : rem.toInt = p.toInt % 2 := by rw [hrem, Int64.toInt_mod, Int.tmod_eq_emod_of_nonneg (by omega)]; rfl
  have f3 := c_maskL q 1 1 (by decide) (by decide)
  have f4 := c_ladd q 1
  have f5 := rng64 (q + 1)
  have l1 : (1 : Int64).toInt = 1 := by decide
  have l0 : (0 : Int64).toInt = 0 := by decide
  have ld : (2 : Int64).toInt = 2 := by decide
  have lh : (1 : Int64).toInt = 1 := by decide
  have g : qq.toInt = ((nearest p.toInt.toNat 2 : Nat) : Int) := by
    simp only [Int64.lt_iff_toInt_lt, ← Int64.toInt_inj] at hqq
    unfold nearest
    split
    · omega
    · split <;> omega
  have c1 : 2 ^ 52 ≤ nearest p.toInt.toNat 2 := nearest_ge (by decide) (by omega)
  have c2 : nearest p.toInt.toNat 2 ≤ 2 ^ 53 := nearest_le (by decide) (by omega)
  generalize hc : nearest p.toInt.toNat 2 = c at g c1 c2
  have f6 := c_lmul qq 2
  rw [← hr, ld] at f6
  have f7 := rng64 r
  have f8 : r.toInt = 2 * (c : Int) := by omega
  have f9 := c_ladd r u2
  rw [← he] at f9
  have f10 := rng64 e
  have k1 : (18014398509481984 : Int64).toInt = 18014398509481984 := by decide
  have k2 : (36028797018963968 : Int64).toInt = 36028797018963968 := by decide
  have k3 : (72057594037927936 : Int64).toInt = 72057594037927936 := by decide
  have m2 : (2 : Int64).toInt = 2 := by decide
  have m4 : (4 : Int64).toInt = 4 := by decide
  have m8 : (8 : Int64).toInt = 8 := by decide
  have m16 : (16 : Int64).toInt = 16 := by decide
  unfold own_ulp at hu
  simp only [Int64.lt_iff_toInt_lt, ← Int64.toInt_inj] at hu
  have hx : e.toInt.toNat = c * 2 ^ 1 + (if c < 2 ^ 53 then 2 ^ 1 else 2 ^ (1 + 1)) := by
    split <;> omega
  have up := own_up (p := p.toInt.toNat) (k := 1) (c := c) (x := e.toInt.toNat) (by decide) (by show 9007199254740992 ≤ p.toInt.toNat; omega) (by show p.toInt.toNat < 18014398509481984; omega) hc.symm hx
  rw [Int.toNat_of_nonneg (by omega : 0 ≤ p.toInt), Int.toNat_of_nonneg (by omega : 0 ≤ e.toInt)] at up
  show UInt64.ofNat (fromInt b64 p.toInt) + 1 = UInt64.ofNat (fromInt b64 e.toInt)
  rw [← up, UInt64.ofNat_add]; rfl
theorem own_case2 {p q rem r e u2 qq : Int64} (h1 : 18014398509481984 ≤ p.toInt) (h2 : p.toInt < 36028797018963968) (h3 : p.toInt ≤ 72057594037927936) (hq : q = p / 4) (hrem : rem = p % 4) (hqq : ((2 : Int64) < rem ∨ rem = 2 ∧ ¬ (q &&& 1) = 0) ∧ qq = q + 1 ∨ ¬ ((2 : Int64) < rem) ∧ (¬ rem = 2 ∨ (q &&& 1) = 0) ∧ qq = q) (hr : r = qq * 4) (hu : own_ulp r u2) (he : e = r + u2) : FP.l2d p + 1 = FP.l2d e := by
  have f1 : q.toInt = p.toInt / 4 := by rw [hq]; exact (c_ldiv p 4 4 (by decide) (by decide)).1 (by omega)
  have f2 : rem.toInt = p.toInt % 4 := by rw [hrem, Int64.toInt_mod, Int.tmod_eq_emod_of_nonneg (by omega)]; rfl
  have f3 := c_maskL q 1 1 (by decide) (by decide)
  have f4 := c_ladd q 1
  have f5 := rng64 (q + 1)
  have l1 : (1 : Int64).toInt = 1 := by decide
  have l0 : (0 : Int64).toInt = 0 := by decide
  have ld : (4 : Int64).toInt = 4 := by decide
  have lh : (2 : Int64).toInt = 2 := by decide
  have g : qq.toInt = ((nearest p.toInt.toNat 4 : Nat) : Int) := by
    simp only [Int64.lt_iff_toInt_lt, ← Int64.toInt_inj] at hqq
    unfold nearest
    split
    · omega
    · split <;> omega
  have c1 : 2 ^ 52 ≤ nearest p.toInt.toNat 4 := nearest_ge (by decide) (by omega)
  have c2 : nearest p.toInt.toNat 4 ≤ 2 ^ 53 := nearest_le (by decide) (by omega)
  generalize hc : nearest p.toInt.toNat 4 = c at g c1 c2
  have f6 := c_lmul qq 4
  rw [← hr, ld] at f6
  have f7 := rng64 r
  have f8 : r.toInt = 4 * (c : Int) := by omega
  have f9 := c_ladd r u2
  rw [← he] at f9
  have f10 := rng64 e
  have k1 : (18014398509481984 : Int64).toInt = 18014398509481984 := by decide
  have k2 : (36028797018963968 : Int64).toInt = 36028797018963968 := by decide
  have k3 : (72057594037927936 : Int64).toInt = 72057594037927936 := by decide
  have m2 : (2 : Int64).toInt = 2 := by decide
  have m4 : (4 : Int64).toInt = 4 := by decide
  have m8 : (8 : Int64).toInt = 8 := by decide
  have m16 : (16 : Int64).toInt = 16 := by decide
  unfold own_ulp at hu
  simp only [Int64.lt_iff_toInt_lt, ← Int64.toInt_inj] at hu
  have hx : e.toInt.toNat = c * 2 ^ 2 + (if c < 2 ^ 53 then 2 ^ 2 else 2 ^ (2 + 1)) := by
    split <;> omega
  have up := own_up (p := p.toInt.toNat) (k := 2) (c := c) (x := e.toInt.toNat) (by decide) (by show 18014398509481984 ≤ p.toInt.toNat; omega) (by show p.toInt.toNat < 36028797018963968; omega) hc.symm hx
  rw [Int.toNat_of_nonneg (by omega : 0 ≤ p.toInt), Int.toNat_of_nonneg (by omega : 0 ≤ e.toInt)] at up
  show UInt64.ofNat (fromInt b64 p.toInt) + 1 = UInt64.ofNat (fromInt b64 e.toInt)
  rw [← up, UInt64.ofNat_add]; rfl
theorem own_case3 {p q rem r e u2 qq : Int64} (h1 : 36028797018963968 ≤ p.toInt) (h2 : p.toInt < 72057594037927936) (h3 : p.toInt ≤ 72057594037927936) (hq : q = p / 8) (hrem : rem = p % 8) (hqq : ((4 : Int64) < rem ∨ rem = 4 ∧ ¬ (q &&& 1) = 0) ∧ qq = q + 1 ∨ ¬ ((4 : Int64) < rem) ∧ (¬ rem = 4 ∨ (q &&& 1) = 0) ∧ qq = q) (hr : r = qq * 8) (hu : own_ulp r u2) (he : e = r + u2) : FP.l2d p + 1 = FP.l2d e := by
  have f1 : q.toInt = p.toInt / 8 := by rw [hq]; exact (c_ldiv p 8 8 (by decide) (by decide)).1 (by omega)
  have f2 : rem.toInt = p.toInt % 8 := by rw [hrem, Int64.toInt_mod, Int.tmod_eq_emod_of_nonneg (by omega)]; rfl
  have f3 := c_maskL q 1 1 (by decide) (by decide)
  have f4 := c_ladd q 1
  have f5 := rng64 (q + 1)
  have l1 : (1 : Int64).toInt = 1 := by decide
  have l0 : (0 : Int64).toInt = 0 := by decide
  have ld : (8 : Int64).toInt = 8 := by decide
  have lh : (4 : Int64).toInt = 4 := by decide
  have g : qq.toInt = ((nearest p.toInt.toNat 8 : Nat) : Int) := by
    simp only [Int64.lt_iff_toInt_lt, ← Int64.toInt_inj] at hqq
    unfold nearest
    split
    · omega
    · split <;> omega
  have c1 : 2 ^ 52 ≤ nearest p.toInt.toNat 8 := nearest_ge (by decide) (by omega)
  have c2 : nearest p.toInt.toNat 8 ≤ 2 ^ 53 := nearest_le (by decide) (by omega)
  generalize hc : nearest p.toInt.toNat 8 = c at g c1 c2
  have f6 := c_lmul qq 8
  rw [← hr, ld] at f6
  have f7 := rng64 r
  have f8 : r.toInt = 8 * (c : Int) := by omega
  have f9 := c_ladd r u2
  rw [← he] at f9
  have f10 := rng64 e
  have k1 : (18014398509481984 : Int64).toInt = 18014398509481984 := by decide
  have k2 : (36028797018963968 : Int64).toInt = 36028797018963968 := by decide
  have k3 : (72057594037927936 : Int64).toInt = 72057594037927936 := by decide
  have m2 : (2 : Int64).toInt = 2 := by decide
  have m4 : (4 : Int64).toInt = 4 := by decide
  have m8 : (8 : Int64).toInt = 8 := by decide
  have m16 : (16 : Int64).toInt = 16 := by decide
  unfold own_ulp at hu
  simp only [Int64.lt_iff_toInt_lt, ← Int64.toInt_inj] at hu
  have hx : e.toInt.toNat = c * 2 ^ 3 + (if c < 2 ^ 53 then 2 ^ 3 else 2 ^ (3 + 1)) := by
    split <;> omega
  have up := own_up (p := p.toInt.toNat) (k := 3) (c := c) (x := e.toInt.toNat) (by decide) (by show 36028797018963968 ≤ p.toInt.toNat; omega) (by show p.toInt.toNat < 72057594037927936; omega) hc.symm hx
  rw [Int.toNat_of_nonneg (by omega : 0 ≤ p.toInt), Int.toNat_of_nonneg (by omega : 0 ≤ e.toInt)] at up
  show UInt64.ofNat (fromInt b64 p.toInt) + 1 = UInt64.ofNat (fromInt b64 e.toInt)
  rw [← up, UInt64.ofNat_add]; rfl
theorem own_case4 {p q rem r e u2 qq : Int64} (h1 : 72057594037927936 ≤ p.toInt) (h2 : p.toInt < 144115188075855872) (h3 : p.toInt ≤ 72057594037927936) (hq : q = p / 16) (hrem : rem = p % 16) (hqq : ((8 : Int64) < rem ∨ rem = 8 ∧ ¬ (q &&& 1) = 0) ∧ qq = q + 1 ∨ ¬ ((8 : Int64) < rem) ∧ (¬ rem = 8 ∨ (q &&& 1) = 0) ∧ qq = q) (hr : r = qq * 16) (hu : own_ulp r u2) (he : e = r + u2) : FP.l2d p + 1 = FP.l2d e := by
  have f1 : q.toInt = p.toInt / 16 := by rw [hq]; exact (c_ldiv p 16 16 (by decide) (by decide)).1 (by omega)
  have f2 : rem.toInt = p.toInt % 16 := by rw [hrem, Int64.toInt_mod, Int.tmod_eq_emod_of_nonneg (by omega)]; rfl
  have f3 := c_maskL q 1 1 (by decide) (by decide)
  have f4 := c_ladd q 1
  have f5 := rng64 (q + 1)
  have l1 : (1 : Int64).toInt = 1 := by decide
  have l0 : (0 : Int64).toInt = 0 := by decide
  have ld : (16 : Int64).toInt = 16 := by decide
  have lh : (8 : Int64).toInt = 8 := by decide
  have g : qq.toInt = ((nearest p.toInt.toNat 16 : Nat) : Int) := by
    simp only [Int64.lt_iff_toInt_lt, ← Int64.toInt_inj] at hqq
    unfold nearest
    split
    · omega
    · split <;> omega
  have c1 : 2 ^ 52 ≤ nearest p.toInt.toNat 16 := nearest_ge (by decide) (by omega)
  have c2 : nearest p.toInt.toNat 16 ≤ 2 ^ 52 := nearest_le (by decide) (by omega)
  generalize hc : nearest p.toInt.toNat 16 = c at g c1 c2
  have f6 := c_lmul qq 16
  rw [← hr, ld] at f6
  have f7 := rng64 r
  have f8 : r.toInt = 16 * (c : Int) := by omega
  have f9 := c_ladd r u2
  rw [← he] at f9
  have f10 := rng64 e
  have k1 : (18014398509481984 : Int64).toInt = 18014398509481984 := by decide
  have k2 : (36028797018963968 : Int64).toInt = 36028797018963968 := by decide
  have k3 : (72057594037927936 : Int64).toInt = 72057594037927936 := by decide
  have m2 : (2 : Int64).toInt = 2 := by decide
  have m4 : (4 : Int64).toInt = 4 := by decide
  have m8 : (8 : Int64).toInt = 8 := by decide
  have m16 : (16 : Int64).toInt = 16 := by decide
  unfold own_ulp at hu
  simp only [Int64.lt_iff_toInt_lt, ← Int64.toInt_inj] at hu
  have hx : e.toInt.toNat = c * 2 ^ 4 + (if c < 2 ^ 53 then 2 ^ 4 else 2 ^ (4 + 1)) := by
    split <;> omega
  have up := own_up (p := p.toInt.toNat) (k := 4) (c := c) (x := e.toInt.toNat) (by decide) (by show 72057594037927936 ≤ p.toInt.toNat; omega) (by show p.toInt.toNat < 144115188075855872; omega) hc.symm hx
  rw [Int.toNat_of_nonneg (by omega : 0 ≤ p.toInt), Int.toNat_of_nonneg (by omega : 0 ≤ e.toInt)] at up
  show UInt64.ofNat (fromInt b64 p.toInt) + 1 = UInt64.ofNat (fromInt b64 e.toInt)
  rw [← up, UInt64.ofNat_add]; rfl
theorem own_law {p u q rem half qq r u2 e : Int64} (h1 : 9007199254740992 ≤ p.toInt) (h2 : p.toInt ≤ 72057594037927936) (hu : own_ulp p u) (hq : q = p / u) (hrem : rem = p % u) (hh : half = u / 2) (hqq : (half < rem ∨ rem = half ∧ ¬ (q &&& 1) = 0) ∧ qq = q + 1 ∨ ¬ (half < rem) ∧ (¬ rem = half ∨ (q &&& 1) = 0) ∧ qq = q) (hr : r = qq * u) (hu2 : own_ulp r u2) (he : e = r + u2) : FP.l2d p + 1 = FP.l2d e := by
  have k1 : (18014398509481984 : Int64).toInt = 18014398509481984 := by decide
  have k2 : (36028797018963968 : Int64).toInt = 36028797018963968 := by decide
  have k3 : (72057594037927936 : Int64).toInt = 72057594037927936 := by decide
  rcases hu with ⟨a, rfl⟩ | ⟨a, b, rfl⟩ | ⟨a, b, c, rfl⟩ | ⟨a, b, c, rfl⟩
  · simp only [Int64.lt_iff_toInt_lt] at a
    obtain rfl : (1 : Int64) = half := (hh.trans (by decide)).symm
    exact own_case1 (by omega) (by omega) h2 hq hrem hqq hr hu2 he
  · simp only [Int64.lt_iff_toInt_lt] at a b
    obtain rfl : (2 : Int64) = half := (hh.trans (by decide)).symm
    exact own_case2 (by omega) (by omega) h2 hq hrem hqq hr hu2 he
  · simp only [Int64.lt_iff_toInt_lt] at a b c
    obtain rfl : (4 : Int64) = half := (hh.trans (by decide)).symm
    exact own_case3 (by omega) (by omega) h2 hq hrem hqq hr hu2 he
  · simp only [Int64.lt_iff_toInt_lt] at a b c
    obtain rfl : (8 : Int64) = half := (hh.trans (by decide)).symm
    exact own_case4 (by omega) (by omega) h2 hq hrem hqq hr hu2 he
end OwnFP3
theorem own_inf (p : Int64) : cmpValue (FP.dcmp (FP.l2d p) 9218868437227405312) .g = -1 := by
  rw [show FP.dcmp (FP.l2d p) 9218868437227405312 = some .lt from (FP.Core.fin_lt_inf (FP.Core.l2d_fin p)).1]; rfl
theorem own_ge {p : Int64} (h1 : ¬ p < 9007199254740992) : 9007199254740992 ≤ p.toInt := Int.not_lt.mp fun z => h1 (Int64.lt_iff_toInt_lt.mpr z)
theorem djdk_29_method_95_code_0 : decode jdk_29_method_95_code 0 = .ok (.dload_n 0, 1) := by decide +kernel
theorem djdk_29_method_95_code_1 : decode jdk_29_method_95_code 1 = .ok (.ldc2_w 327, 3) := by decide +kernel
theorem djdk_29_method_95_code_4 : decode jdk_29_method_95_code 4 = .ok (.dcmp .g, 1) := by decide +kernel
theorem djdk_29_method_95_code_5 : decode jdk_29_method_95_code 5 = .ok (.ifCond .ge 29, 3) := by decide +kernel
theorem djdk_29_method_95_code_8 : decode jdk_29_method_95_code 8 = .ok (.dload_n 0, 1) := by decide +kernel
theorem djdk_29_method_95_code_9 : decode jdk_29_method_95_code 9 = .ok (.dconst 0, 1) := by decide +kernel
theorem djdk_29_method_95_code_10 : decode jdk_29_method_95_code 10 = .ok (.dadd, 1) := by decide +kernel
theorem djdk_29_method_95_code_11 : decode jdk_29_method_95_code 11 = .ok (.invokestatic 79, 3) := by decide +kernel
theorem djdk_29_method_95_code_14 : decode jdk_29_method_95_code 14 = .ok (.lstore_n 2, 1) := by decide +kernel
theorem djdk_29_method_95_code_15 : decode jdk_29_method_95_code 15 = .ok (.lload_n 2, 1) := by decide +kernel
theorem djdk_29_method_95_code_16 : decode jdk_29_method_95_code 16 = .ok (.lload_n 2, 1) := by decide +kernel
theorem djdk_29_method_95_code_17 : decode jdk_29_method_95_code 17 = .ok (.lconst 0, 1) := by decide +kernel
theorem djdk_29_method_95_code_18 : decode jdk_29_method_95_code 18 = .ok (.lcmp, 1) := by decide +kernel
theorem djdk_29_method_95_code_19 : decode jdk_29_method_95_code 19 = .ok (.ifCond .lt 7, 3) := by decide +kernel
theorem djdk_29_method_95_code_22 : decode jdk_29_method_95_code 22 = .ok (.lconst 1, 1) := by decide +kernel
theorem djdk_29_method_95_code_23 : decode jdk_29_method_95_code 23 = .ok (.goto 6, 3) := by decide +kernel
theorem djdk_29_method_95_code_29 : decode jdk_29_method_95_code 29 = .ok (.ladd, 1) := by decide +kernel
theorem djdk_29_method_95_code_30 : decode jdk_29_method_95_code 30 = .ok (.invokestatic 166, 3) := by decide +kernel
theorem djdk_29_method_95_code_33 : decode jdk_29_method_95_code 33 = .ok (.dreturn, 1) := by decide +kernel
theorem dmethod_3_code_0 : decode method_3_code 0 = .ok (.lload_n 0, 1) := by decide +kernel
theorem dmethod_3_code_1 : decode method_3_code 1 = .ok (.ldc2_w 24, 3) := by decide +kernel
theorem dmethod_3_code_4 : decode method_3_code 4 = .ok (.lcmp, 1) := by decide +kernel
theorem dmethod_3_code_5 : decode method_3_code 5 = .ok (.ifCond .ge 7, 3) := by decide +kernel
theorem dmethod_3_code_8 : decode method_3_code 8 = .ok (.ldc2_w 22, 3) := by decide +kernel
theorem dmethod_3_code_11 : decode method_3_code 11 = .ok (.lreturn, 1) := by decide +kernel
theorem dmethod_3_code_12 : decode method_3_code 12 = .ok (.lload_n 0, 1) := by decide +kernel
theorem dmethod_3_code_13 : decode method_3_code 13 = .ok (.ldc2_w 26, 3) := by decide +kernel
theorem dmethod_3_code_16 : decode method_3_code 16 = .ok (.lcmp, 1) := by decide +kernel
theorem dmethod_3_code_17 : decode method_3_code 17 = .ok (.ifCond .ge 7, 3) := by decide +kernel
theorem dmethod_3_code_20 : decode method_3_code 20 = .ok (.ldc2_w 28, 3) := by decide +kernel
theorem dmethod_3_code_23 : decode method_3_code 23 = .ok (.lreturn, 1) := by decide +kernel
theorem dmethod_3_code_24 : decode method_3_code 24 = .ok (.lload_n 0, 1) := by decide +kernel
theorem dmethod_3_code_25 : decode method_3_code 25 = .ok (.ldc2_w 30, 3) := by decide +kernel
theorem dmethod_3_code_28 : decode method_3_code 28 = .ok (.lcmp, 1) := by decide +kernel
theorem dmethod_3_code_29 : decode method_3_code 29 = .ok (.ifCond .ge 7, 3) := by decide +kernel
theorem dmethod_3_code_32 : decode method_3_code 32 = .ok (.ldc2_w 32, 3) := by decide +kernel
theorem dmethod_3_code_35 : decode method_3_code 35 = .ok (.lreturn, 1) := by decide +kernel
theorem dmethod_3_code_36 : decode method_3_code 36 = .ok (.ldc2_w 34, 3) := by decide +kernel
theorem dmethod_3_code_39 : decode method_3_code 39 = .ok (.lreturn, 1) := by decide +kernel
theorem dprog_8_method_15_code_0 : decode prog_8_method_15_code 0 = .ok (.dload_n 0, 1) := by decide +kernel
theorem dprog_8_method_15_code_1 : decode prog_8_method_15_code 1 = .ok (.dload_n 2, 1) := by decide +kernel
theorem dprog_8_method_15_code_2 : decode prog_8_method_15_code 2 = .ok (.dmul, 1) := by decide +kernel
theorem dprog_8_method_15_code_3 : decode prog_8_method_15_code 3 = .ok (.dstore 4, 2) := by decide +kernel
theorem dprog_8_method_15_code_5 : decode prog_8_method_15_code 5 = .ok (.dload 4, 2) := by decide +kernel
theorem dprog_8_method_15_code_7 : decode prog_8_method_15_code 7 = .ok (.ldc2_w 252, 3) := by decide +kernel
theorem dprog_8_method_15_code_10 : decode prog_8_method_15_code 10 = .ok (.dcmp .g, 1) := by decide +kernel
theorem dprog_8_method_15_code_11 : decode prog_8_method_15_code 11 = .ok (.ifCond .ge 8, 3) := by decide +kernel
theorem dprog_8_method_15_code_14 : decode prog_8_method_15_code 14 = .ok (.dload 4, 2) := by decide +kernel
theorem dprog_8_method_15_code_16 : decode prog_8_method_15_code 16 = .ok (.goto 8, 3) := by decide +kernel
theorem dprog_8_method_15_code_19 : decode prog_8_method_15_code 19 = .ok (.dload 4, 2) := by decide +kernel
theorem dprog_8_method_15_code_21 : decode prog_8_method_15_code 21 = .ok (.invokestatic 254, 3) := by decide +kernel
theorem dprog_8_method_15_code_24 : decode prog_8_method_15_code 24 = .ok (.dreturn, 1) := by decide +kernel
theorem pn_0 : plainName "com/example/signbound/signbound/arith/RootClasses" = true := by first | (simp [plainName, overriddenIn]; done) | decide +kernel
theorem pn_1 : plainName "com/example/signbound/signbound/arith/RootClassesProductUpPinLaw" = true := by first | (simp [plainName, overriddenIn]; done) | decide +kernel
theorem pd_0 : parseMethodDescriptor "(D)D" = some ⟨[.double], some .double⟩ := by decide +kernel
theorem pd_1 : parseMethodDescriptor "(DD)D" = some ⟨[.double, .double], some .double⟩ := by decide +kernel
theorem pd_2 : parseMethodDescriptor "(J)J" = some ⟨[.long], some .long⟩ := by decide +kernel
theorem ef_1 (m : MethodId) (x_d0 : UInt64) : entryFrame m #[(.double x_d0)] 4 = mkF m 0 #[.val (.double x_d0), .second, .unset, .unset] [] := by first | (simp [entryFrame, mkF, argsToLocals, Value.category, maxLocals]; done) | rfl
def Q1 (Z : State) (d0 : Int64) (h0 : Heap) (n0 : Nat) (v : Option Value) (h : Heap) (L : List Loc) : Prop := ∃ r : UInt64, (r = FP.l2d d0 + 1) ∧ v = some (.double r) ∧ Fr n0 L ∧ h = h0
set_option maxRecDepth 65536 in
set_option maxHeartbeats 40000000 in
theorem rm1 (l : Launch) (Z : State) (a0 : Array Value) (hw : ∀ d ∈ tables_1, d.before a0 Z = true) (ws : List Jvm.Cond) (d0 : Int64) (h0 : Heap) (n0 : Nat) (Z0 : n0 ≤ h0.size) (hpre : 9007199254740992 ≤ d0.toInt ∧ d0.toInt ≤ 72057594037927936) :
    Con l Z (⟨"java/lang/Math", "nextUp", "(D)D"⟩ : MethodName) jdk_29_method_95_code 4 (some .double) ws ({ frames := 1, cells := 0, slots := 0, locals := 40 } : Room) #[(.double (FP.l2d d0))] h0 0 0 (Q1 Z d0 h0 n0) := by
  refine MetFree.of_bodySF (by decide +kernel) hisR ?_
  intro p e s m args below meth c s₁ Bd hml0 hP hK
  obtain ⟨rfl, hZ, hh⟩ := hP
  have hx := Bd.exec
  have hby := Bd.bytes
  have hml : c.maxLocals = 4 := hml0
  have hown : s.vm.findClass "java/lang/Math" = some m.cls := findClass_of_methodNamed Bd.named
  have hnm := (name_of_methodNamed Bd.named Bd.method).1
  have X0 : Stand p l e ({ frames := 1, cells := 0, slots := 0, locals := 40 } : Room) s m #[(.double (FP.l2d d0))] below meth c s₁ [] 0 0 := Stand.of_body Bd
  have e0 : s₁.heap = h0 := by rw [← hh, Bd.state]; rfl
  have N0 := Fr.nil n0
  refine Go.of ?_
  refine Go.st (S' := s₁.setTop (mkF m 0 #[.val (.double (FP.l2d d0)), .second, .unset, .unset] [])) (fun t k => castTop (ef_1 m (FP.l2d d0)) k) ?_
  refine Go.st (S' := s₁.setTop (mkF m 1 #[.val (.double (FP.l2d d0)), .second, .unset, .unset] [(.double (FP.l2d d0))])) (fun t k => XS.dloadN X0.here hx rfl (hb hby djdk_29_method_95_code_0) rfl k) ?_
  refine Go.st (S' := s₁.setTop (mkF m 4 #[.val (.double (FP.l2d d0)), .second, .unset, .unset] [(.double (9218868437227405312 : UInt64)), (.double (FP.l2d d0))])) (fun t k => X0.ldc2DoubleC hx hown (mvT hZ (hw _ (List.mem_of_getElem? (i := 11) rfl))) (g := (mkF m 1 #[.val (.double (FP.l2d d0)), .second, .unset, .unset] [(.double (FP.l2d d0))])) rfl (hb hby djdk_29_method_95_code_1) t k) ?_
  refine Go.st (S' := s₁.setTop (mkF m 5 #[.val (.double (FP.l2d d0)), .second, .unset, .unset] [(.int (-1 : Int32))])) (fun t k => XS.dcmpS X0.here hx rfl (hb hby djdk_29_method_95_code_4) rfl (own_inf _) k) ?_
  refine Go.st (S' := s₁.setTop (mkF m 8 #[.val (.double (FP.l2d d0)), .second, .unset, .unset] [])) (fun t k => XS.ifNo X0.here hx rfl (hb hby djdk_29_method_95_code_5) rfl ((if0 _ _).trans (tlt (by decide : ((-1 : Int32) < (0 : Int32)))).2.1) k) ?_
  refine Go.st (S' := s₁.setTop (mkF m 9 #[.val (.double (FP.l2d d0)), .second, .unset, .unset] [(.double (FP.l2d d0))])) (fun t k => XS.dloadN X0.here hx rfl (hb hby djdk_29_method_95_code_8) rfl k) ?_
  refine Go.st (S' := s₁.setTop (mkF m 10 #[.val (.double (FP.l2d d0)), .second, .unset, .unset] [(.double (FP.l2d (0 : Int64))), (.double (FP.l2d d0))])) (fun t k => XS.dconst0 X0.here hx rfl (hb hby djdk_29_method_95_code_9) (by decide +kernel) k) ?_
  refine Go.st (S' := s₁.setTop (mkF m 11 #[.val (.double (FP.l2d d0)), .second, .unset, .unset] [(.double (FP.l2d d0))])) (fun t k => XS.daddS X0.here hx rfl (hb hby djdk_29_method_95_code_10) rfl (nn_w (own_add0 hpre.1 hpre.2)) (own_add0 hpre.1 hpre.2) k) ?_
  obtain ⟨vm17, X17, st17⟩ := X0.doubleToRawLongBits hx hown (mvT hZ (hw _ (List.mem_of_getElem? (i := 12) rfl))) (mvT hZ (hw _ (List.mem_of_getElem? (i := 15) rfl))) (mvT hZ (hw _ (List.mem_of_getElem? (i := 13) rfl))) (mvT hZ (hw _ (List.mem_of_getElem? (i := 14) rfl))) (g := (mkF m 11 #[.val (.double (FP.l2d d0)), .second, .unset, .unset] [(.double (FP.l2d d0))])) rfl (by rw [hml]; rfl) (rest := []) (b := FP.l2d d0) rfl (hb hby djdk_29_method_95_code_11) (by decide) (by show 2 * 0 + 0 + (nativeFrameWords "java/lang/Double" "doubleToRawLongBits" 2 + 11) ≤ 40; decide +kernel)
  have e17 : (s₁.setVm vm17).heap = h0 := e0
  obtain ⟨z18, hz18⟩ : ∃ z, z = (FP.l2d d0).toInt64 := ⟨_, rfl⟩
  rw [← hz18] at st17
  have nz18 : ¬ (z18 < (0 : Int64)) := own_bits0 hpre.1 hpre.2 hz18
  refine Go.st (S' := (s₁.setVm vm17).setTop (mkF m 14 #[.val (.double (FP.l2d d0)), .second, .unset, .unset] [(.long z18)])) st17 ?_
  let A19 : Array Slot := #[.val (.double (FP.l2d d0)), .second, .val (.long z18), .second]
  refine Go.st (S' := (s₁.setVm vm17).setTop (mkF m 15 A19 [])) (fun t k => XS.lstoreN X17.here hx rfl (hb hby djdk_29_method_95_code_14) rfl (l' := A19) rfl k) ?_
  refine Go.st (S' := (s₁.setVm vm17).setTop (mkF m 16 A19 [(.long z18)])) (fun t k => XS.lloadN X17.here hx rfl (hb hby djdk_29_method_95_code_15) rfl k) ?_
  refine Go.st (S' := (s₁.setVm vm17).setTop (mkF m 17 A19 [(.long z18), (.long z18)])) (fun t k => XS.lloadN X17.here hx rfl (hb hby djdk_29_method_95_code_16) rfl k) ?_
  refine Go.st (S' := (s₁.setVm vm17).setTop (mkF m 18 A19 [(.long (0 : Int64)), (.long z18), (.long z18)])) (fun t k => XS.lconst X17.here hx rfl (hb hby djdk_29_method_95_code_17) k) ?_
  refine Go.op (F := fun z => (s₁.setVm vm17).setTop (mkF m 19 A19 [(.int z), (.long z18)])) (x := (lcmpW z18 (0 : Int64))) (fun t k => XS.lcmp X17.here hx rfl (hb hby djdk_29_method_95_code_18) rfl k) ?_
  intro v20 hv20
  refine Go.st (S' := (s₁.setVm vm17).setTop (mkF m 22 A19 [(.long z18)])) (fun t k => XS.ifNo X17.here hx rfl (hb hby djdk_29_method_95_code_19) rfl ((if0 _ _).trans (flt (by rw [hv20]; exact fun z => nz18 ((lw_lt _ _).1 z))).1) k) ?_
  refine Go.st (S' := (s₁.setVm vm17).setTop (mkF m 23 A19 [(.long (1 : Int64)), (.long z18)])) (fun t k => XS.lconst X17.here hx rfl (hb hby djdk_29_method_95_code_22) k) ?_
  refine Go.st (S' := (s₁.setVm vm17).setTop (mkF m 29 A19 [(.long (1 : Int64)), (.long z18)])) (fun t k => XS.goto X17.here hx rfl (pc0 := 23) (pc' := 29) rfl (hb hby djdk_29_method_95_code_23) (by decide) (by decide) k) ?_
  refine Go.op (F := fun z => (s₁.setVm vm17).setTop (mkF m 30 A19 [(.long z)])) (x := (z18 + (1 : Int64))) (fun t k => XS.ladd X17.here hx rfl (hb hby djdk_29_method_95_code_29) rfl k) ?_
  intro v21 hv21
  obtain ⟨vm22, X22, st22⟩ := X17.longBitsToDouble hx hown (mvT hZ (hw _ (List.mem_of_getElem? (i := 16) rfl))) (mvT hZ (hw _ (List.mem_of_getElem? (i := 18) rfl))) (mvT hZ (hw _ (List.mem_of_getElem? (i := 17) rfl))) (mvT hZ (hw _ (List.mem_of_getElem? (i := 14) rfl))) (g := (mkF m 30 A19 [(.long v21)])) rfl (by rw [hml]; rfl) (rest := []) (b := v21) (own_bits2 hpre.1 hpre.2 hz18 hv21) rfl (hb hby djdk_29_method_95_code_30) (by decide) (by show 2 * 0 + 0 + (nativeFrameWords "java/lang/Double" "longBitsToDouble" 2 + 11) ≤ 40; decide +kernel)
  have e22 : ((s₁.setVm vm17).setVm vm22).heap = h0 := e17
  rw [own_bits1 hz18 hv21] at st22
  refine Go.st (S' := ((s₁.setVm vm17).setVm vm22).setTop (mkF m 33 A19 [(.double (FP.l2d d0 + 1))])) st22 ?_
  exact Go.ret X22 (v := some (.double (FP.l2d d0 + 1))) (fun h => by rw [Bd.returns] at h; cases h) Bd.notSynchronized (fun fs hr => retOut X22 hx Bd.returns rfl (Or.inr (Or.inr (Or.inl ⟨rfl, rfl, _, rfl⟩))) (hb hby djdk_29_method_95_code_33) hr) (by decide) (by decide) (⟨(FP.l2d d0 + 1), rfl, rfl, N0, e22⟩)
theorem ef_2 (m : MethodId) (x_d0 : UInt64) (x_d1 : UInt64) : entryFrame m #[(.double x_d0), (.double x_d1)] 6 = mkF m 0 #[.val (.double x_d0), .second, .val (.double x_d1), .second, .unset, .unset] [] := by first | (simp [entryFrame, mkF, argsToLocals, Value.category, maxLocals]; done) | rfl
def Q2 (Z : State) (d0 : Int64) (d1 : Int64) (h0 : Heap) (n0 : Nat) (v : Option Value) (h : Heap) (L : List Loc) : Prop := ∃ r : UInt64, (((d0 * d1) < (9007199254740992 : Int64) → r = FP.l2d (d0 * d1)) ∧ (¬ ((d0 * d1) < (9007199254740992 : Int64)) → r = FP.l2d (d0 * d1) + 1)) ∧ v = some (.double r) ∧ Fr n0 L ∧ h = h0
set_option maxRecDepth 65536 in
set_option maxHeartbeats 40000000 in
theorem rm2 (l : Launch) (Z : State) (a0 : Array Value) (hw : ∀ d ∈ tables_1, d.before a0 Z = true) (ws : List Jvm.Cond) (d0 : Int64) (d1 : Int64) (h0 : Heap) (n0 : Nat) (Z0 : n0 ≤ h0.size) (hpre : (1 ≤ d0.toInt ∧ d0.toInt ≤ 268435456) ∧ 1 ≤ d1.toInt ∧ d1.toInt ≤ 268435456) :
    Con l Z (⟨"com/example/signbound/signbound/arith/RootClasses", "productUp", "(DD)D"⟩ : MethodName) prog_8_method_15_code 6 (some .double) ws ({ frames := 2, cells := 0, slots := 0, locals := 55 } : Room) #[(.double (FP.l2d d0)), (.double (FP.l2d d1))] h0 0 0 (Q2 Z d0 d1 h0 n0) := by
  refine MetFree.of_bodySF (plainFor_of_name pn_0) hisR ?_
  intro p e s m args below meth c s₁ Bd hml0 hP hK
  obtain ⟨rfl, hZ, hh⟩ := hP
  have hx := Bd.exec
  have hby := Bd.bytes
  have hml : c.maxLocals = 6 := hml0
  have hown : s.vm.findClass "com/example/signbound/signbound/arith/RootClasses" = some m.cls := findClass_of_methodNamed Bd.named
  have hnm := (name_of_methodNamed Bd.named Bd.method).1
  have X0 : Stand p l e ({ frames := 2, cells := 0, slots := 0, locals := 55 } : Room) s m #[(.double (FP.l2d d0)), (.double (FP.l2d d1))] below meth c s₁ [] 0 0 := Stand.of_body Bd
  have e0 : s₁.heap = h0 := by rw [← hh, Bd.state]; rfl
  have N0 := Fr.nil n0
  refine Go.of ?_
  refine Go.st (S' := s₁.setTop (mkF m 0 #[.val (.double (FP.l2d d0)), .second, .val (.double (FP.l2d d1)), .second, .unset, .unset] [])) (fun t k => castTop (ef_2 m (FP.l2d d0) (FP.l2d d1)) k) ?_
  let A12 : Array Slot := #[.val (.double (FP.l2d d0)), .second, .val (.double (FP.l2d d1)), .second, .unset, .unset]
  refine Go.st (S' := s₁.setTop (mkF m 1 A12 [(.double (FP.l2d d0))])) (fun t k => XS.dloadN X0.here hx rfl (hb hby dprog_8_method_15_code_0) rfl k) ?_
  refine Go.st (S' := s₁.setTop (mkF m 2 A12 [(.double (FP.l2d d1)), (.double (FP.l2d d0))])) (fun t k => XS.dloadN X0.here hx rfl (hb hby dprog_8_method_15_code_1) rfl k) ?_
  obtain ⟨v13, hv13⟩ : ∃ z, z = (d0 * d1) := ⟨_, rfl⟩
  obtain ⟨hm1, hm2, hm3, hm4⟩ := own_mul hpre
  rw [← hv13] at hm1 hm2 hm3 hm4
  refine Go.st (S' := s₁.setTop (mkF m 3 A12 [(.double (FP.l2d v13))])) (fun t k => XS.dmulS X0.here hx rfl (hb hby dprog_8_method_15_code_2) rfl (nn_w hm1) hm1 k) ?_
  let A14 : Array Slot := #[.val (.double (FP.l2d d0)), .second, .val (.double (FP.l2d d1)), .second, .val (.double (FP.l2d v13)), .second]
  refine Go.st (S' := s₁.setTop (mkF m 5 A14 [])) (fun t k => XS.dstore X0.here hx rfl (hb hby dprog_8_method_15_code_3) rfl (l' := A14) rfl k) ?_
  refine Go.st (S' := s₁.setTop (mkF m 7 A14 [(.double (FP.l2d v13))])) (fun t k => XS.dload X0.here hx rfl (hb hby dprog_8_method_15_code_5) rfl k) ?_
  refine Go.st (S' := s₁.setTop (mkF m 10 A14 [(.double (4845873199050653696 : UInt64)), (.double (FP.l2d v13))])) (fun t k => X0.ldc2DoubleC hx hown (mvT hZ (hw _ (List.mem_of_getElem? (i := 5) rfl))) (g := (mkF m 7 A14 [(.double (FP.l2d v13))])) rfl (hb hby dprog_8_method_15_code_7) t k) ?_
  by_cases hc15 : v13 < (9007199254740992 : Int64)
  · refine Go.st (S' := s₁.setTop (mkF m 11 A14 [(.int (-1 : Int32))])) (fun t k => XS.dcmpS X0.here hx rfl (hb hby dprog_8_method_15_code_10) rfl (own_lt53 hm3 hc15) k) ?_
    refine Go.st (S' := s₁.setTop (mkF m 14 A14 [])) (fun t k => XS.ifNo X0.here hx rfl (hb hby dprog_8_method_15_code_11) rfl ((if0 _ _).trans (tlt (by decide : ((-1 : Int32) < (0 : Int32)))).2.1) k) ?_
    refine Go.st (S' := s₁.setTop (mkF m 16 A14 [(.double (FP.l2d v13))])) (fun t k => XS.dload X0.here hx rfl (hb hby dprog_8_method_15_code_14) rfl k) ?_
    refine Go.st (S' := s₁.setTop (mkF m 24 A14 [(.double (FP.l2d v13))])) (fun t k => XS.goto X0.here hx rfl (pc0 := 16) (pc' := 24) rfl (hb hby dprog_8_method_15_code_16) (by decide) (by decide) k) ?_
    exact Go.ret X0 (v := some (.double (FP.l2d v13))) (fun h => by rw [Bd.returns] at h; cases h) Bd.notSynchronized (fun fs hr => retOut X0 hx Bd.returns rfl (Or.inr (Or.inr (Or.inl ⟨rfl, rfl, _, rfl⟩))) (hb hby dprog_8_method_15_code_24) hr) (by decide) (by decide) (⟨(FP.l2d v13), (by rw [← hv13]; exact ⟨fun _ => rfl, fun h => absurd hc15 h⟩), rfl, N0, e0⟩)
  · obtain ⟨c16, hc16, nc16⟩ := own_ge53 hc15 hm4
    refine Go.st (S' := s₁.setTop (mkF m 11 A14 [(.int c16)])) (fun t k => XS.dcmpS X0.here hx rfl (hb hby dprog_8_method_15_code_10) rfl hc16 k) ?_
    refine Go.st (S' := s₁.setTop (mkF m 19 A14 [])) (fun t k => XS.ifYes X0.here hx rfl (pc0 := 11) (pc' := 19) rfl (hb hby dprog_8_method_15_code_11) rfl ((if0 _ _).trans (flt nc16).2.1) (by decide) (by decide) k) ?_
    refine Go.st (S' := s₁.setTop (mkF m 21 A14 [(.double (FP.l2d v13))])) (fun t k => XS.dload X0.here hx rfl (hb hby dprog_8_method_15_code_19) rfl k) ?_
    have pre23 : 9007199254740992 ≤ v13.toInt ∧ v13.toInt ≤ 72057594037927936 := by
      exact ⟨own_ge hc15, hm4⟩
    obtain ⟨r24, T24, L24, X24, hQ24, st24⟩ := own_callS (W := 0) X0 hx hZ e0 hown (y := (⟨"java/lang/Math", "nextUp", "(D)D"⟩ : MethodName)) (hw _ (List.mem_of_getElem? (i := 7) rfl)) (hw _ (List.mem_of_getElem? (i := 8) rfl)) (hw _ (List.mem_of_getElem? (i := 9) rfl)) (hw _ (List.mem_of_getElem? (i := 10) rfl)) (by decide) (rm1 l Z a0 hw [] v13 h0 n0 Z0 (pre23)) (by decide) (by decide) (by decide) (by decide) (g := (mkF m 21 A14 [(.double (FP.l2d v13))])) rfl (by rw [hml]; rfl) (argsL := [(.double (FP.l2d v13))]) (rest := []) rfl (lenOf pd_0 rfl) rfl (by show 2 * 0 + _ ≤ _; exact Nat.le_of_eq rfl) (hb hby dprog_8_method_15_code_21)
    obtain ⟨r25, hp26, rfl, N24, e24⟩ := hQ24
    have N24_ := Fr.app N0 N24
    refine Go.st (S' := T24.setTop (mkF m 24 A14 [(.double r25)])) st24 ?_
    exact Go.ret X24 (v := some (.double r25)) (fun h => by rw [Bd.returns] at h; cases h) Bd.notSynchronized (fun fs hr => retOut X24 hx Bd.returns rfl (Or.inr (Or.inr (Or.inl ⟨rfl, rfl, _, rfl⟩))) (hb hby dprog_8_method_15_code_24) hr) (by decide) (by decide) (⟨r25, (by rw [← hv13]; exact ⟨fun h => absurd h hc15, fun _ => hp26⟩), rfl, N24_, e24⟩)
theorem ef_3 (m : MethodId) (q0 : Int64) : entryFrame m #[(.long q0)] 2 = mkF m 0 #[.val (.long q0), .second] [] := by first | (simp [entryFrame, mkF, argsToLocals, Value.category, maxLocals]; done) | rfl
def Q3 (Z : State) (q0 : Int64) (h0 : Heap) (n0 : Nat) (v : Option Value) (h : Heap) (L : List Loc) : Prop := (∃ (rv3 : Int64), (((q0 < (18014398509481984 : Int64)) ∧ (rv3 = (2 : Int64))) ∨ ((¬ (q0 < (18014398509481984 : Int64))) ∧ (q0 < (36028797018963968 : Int64)) ∧ (rv3 = (4 : Int64))) ∨ ((¬ (q0 < (18014398509481984 : Int64))) ∧ (¬ (q0 < (36028797018963968 : Int64))) ∧ (q0 < (72057594037927936 : Int64)) ∧ (rv3 = (8 : Int64))) ∨ ((¬ (q0 < (18014398509481984 : Int64))) ∧ (¬ (q0 < (36028797018963968 : Int64))) ∧ (¬ (q0 < (72057594037927936 : Int64))) ∧ (rv3 = (16 : Int64)))) ∧ v = some (.long rv3) ∧ Fr n0 L ∧ h = h0)
set_option maxRecDepth 65536 in
set_option maxHeartbeats 40000000 in
theorem rm3 (l : Launch) (Z : State) (a0 : Array Value) (hw : ∀ d ∈ tables_1, d.before a0 Z = true) (ws : List Jvm.Cond) (q0 : Int64) (h0 : Heap) (n0 : Nat) (Z0 : n0 ≤ h0.size)  :
    Con l Z (⟨"com/example/signbound/signbound/arith/RootClassesProductUpPinLaw", "ulpAt", "(J)J"⟩ : MethodName) method_3_code 2 (some .long) ws ({ frames := 0, cells := 0, slots := 0, locals := 0 } : Room) #[(.long q0)] h0 0 0 (Q3 Z q0 h0 n0) := by
  refine MetFree.of_bodySF (plainFor_of_name pn_1) hisR ?_
  intro p e s m args below meth c s₁ Bd hml0 hP hK
  obtain ⟨rfl, hZ, hh⟩ := hP
  have hx := Bd.exec
  have hby := Bd.bytes
  have hml : c.maxLocals = 2 := hml0
  have hown : s.vm.findClass "com/example/signbound/signbound/arith/RootClassesProductUpPinLaw" = some m.cls := findClass_of_methodNamed Bd.named
  have hnm := (name_of_methodNamed Bd.named Bd.method).1
  have X0 : Stand p l e ({ frames := 0, cells := 0, slots := 0, locals := 0 } : Room) s m #[(.long q0)] below meth c s₁ [] 0 0 := Stand.of_body Bd
  have e0 : s₁.heap = h0 := by rw [← hh, Bd.state]; rfl
  have N0 := Fr.nil n0
  refine Go.of ?_
  refine Go.st (S' := s₁.setTop (mkF m 0 #[.val (.long q0), .second] [])) (fun t k => castTop (ef_3 m q0) k) ?_
  refine Go.st (S' := s₁.setTop (mkF m 1 #[.val (.long q0), .second] [(.long q0)])) (fun t k => XS.lloadN X0.here hx rfl (hb hby dmethod_3_code_0) rfl k) ?_
  refine Go.st (S' := s₁.setTop (mkF m 4 #[.val (.long q0), .second] [(.long (18014398509481984 : Int64)), (.long q0)])) (fun t k => X0.ldc2Long hx hown (mvT hZ (hw _ (List.mem_of_getElem? (i := 23) rfl))) (g := (mkF m 1 #[.val (.long q0), .second] [(.long q0)])) rfl (hb hby dmethod_3_code_1) t k) ?_
  refine Go.op (F := fun z => s₁.setTop (mkF m 5 #[.val (.long q0), .second] [(.int z)])) (x := (lcmpW q0 (18014398509481984 : Int64))) (fun t k => XS.lcmp X0.here hx rfl (hb hby dmethod_3_code_4) rfl k) ?_
  intro v35 hv35
  by_cases hc36 : (q0 < (18014398509481984 : Int64))
  · refine Go.st (S' := s₁.setTop (mkF m 8 #[.val (.long q0), .second] [])) (fun t k => XS.ifNo X0.here hx rfl (hb hby dmethod_3_code_5) rfl ((if0 _ _).trans (tlt (by rw [hv35]; exact (lw_lt _ _).2 hc36)).2.1) k) ?_
    refine Go.st (S' := s₁.setTop (mkF m 11 #[.val (.long q0), .second] [(.long (2 : Int64))])) (fun t k => X0.ldc2Long hx hown (mvT hZ (hw _ (List.mem_of_getElem? (i := 27) rfl))) (g := (mkF m 8 #[.val (.long q0), .second] [])) rfl (hb hby dmethod_3_code_8) t k) ?_
    exact Go.ret X0 (v := some (.long (2 : Int64))) (fun h => by rw [Bd.returns] at h; cases h) Bd.notSynchronized (fun fs hr => retOut X0 hx Bd.returns rfl (Or.inr (Or.inl ⟨rfl, rfl, _, rfl⟩)) (hb hby dmethod_3_code_11) hr) (by decide) (by decide) (⟨(2 : Int64), (Or.inl ⟨hc36, rfl⟩), rfl, N0, (e0)⟩)
  · refine Go.st (S' := s₁.setTop (mkF m 12 #[.val (.long q0), .second] [])) (fun t k => XS.ifYes X0.here hx rfl (pc0 := 5) (pc' := 12) rfl (hb hby dmethod_3_code_5) rfl ((if0 _ _).trans (flt (by rw [hv35]; exact fun z => hc36 ((lw_lt _ _).1 z))).2.1) (by decide) (by decide) k) ?_
    refine Go.st (S' := s₁.setTop (mkF m 13 #[.val (.long q0), .second] [(.long q0)])) (fun t k => XS.lloadN X0.here hx rfl (hb hby dmethod_3_code_12) rfl k) ?_
    refine Go.st (S' := s₁.setTop (mkF m 16 #[.val (.long q0), .second] [(.long (36028797018963968 : Int64)), (.long q0)])) (fun t k => X0.ldc2Long hx hown (mvT hZ (hw _ (List.mem_of_getElem? (i := 24) rfl))) (g := (mkF m 13 #[.val (.long q0), .second] [(.long q0)])) rfl (hb hby dmethod_3_code_13) t k) ?_
    refine Go.op (F := fun z => s₁.setTop (mkF m 17 #[.val (.long q0), .second] [(.int z)])) (x := (lcmpW q0 (36028797018963968 : Int64))) (fun t k => XS.lcmp X0.here hx rfl (hb hby dmethod_3_code_16) rfl k) ?_
    intro v37 hv37
    by_cases hc38 : (q0 < (36028797018963968 : Int64))
    · refine Go.st (S' := s₁.setTop (mkF m 20 #[.val (.long q0), .second] [])) (fun t k => XS.ifNo X0.here hx rfl (hb hby dmethod_3_code_17) rfl ((if0 _ _).trans (tlt (by rw [hv37]; exact (lw_lt _ _).2 hc38)).2.1) k) ?_
      refine Go.st (S' := s₁.setTop (mkF m 23 #[.val (.long q0), .second] [(.long (4 : Int64))])) (fun t k => X0.ldc2Long hx hown (mvT hZ (hw _ (List.mem_of_getElem? (i := 28) rfl))) (g := (mkF m 20 #[.val (.long q0), .second] [])) rfl (hb hby dmethod_3_code_20) t k) ?_
      exact Go.ret X0 (v := some (.long (4 : Int64))) (fun h => by rw [Bd.returns] at h; cases h) Bd.notSynchronized (fun fs hr => retOut X0 hx Bd.returns rfl (Or.inr (Or.inl ⟨rfl, rfl, _, rfl⟩)) (hb hby dmethod_3_code_23) hr) (by decide) (by decide) (⟨(4 : Int64), (Or.inr (Or.inl ⟨hc36, hc38, rfl⟩)), rfl, N0, (e0)⟩)
    · refine Go.st (S' := s₁.setTop (mkF m 24 #[.val (.long q0), .second] [])) (fun t k => XS.ifYes X0.here hx rfl (pc0 := 17) (pc' := 24) rfl (hb hby dmethod_3_code_17) rfl ((if0 _ _).trans (flt (by rw [hv37]; exact fun z => hc38 ((lw_lt _ _).1 z))).2.1) (by decide) (by decide) k) ?_
      refine Go.st (S' := s₁.setTop (mkF m 25 #[.val (.long q0), .second] [(.long q0)])) (fun t k => XS.lloadN X0.here hx rfl (hb hby dmethod_3_code_24) rfl k) ?_
      refine Go.st (S' := s₁.setTop (mkF m 28 #[.val (.long q0), .second] [(.long (72057594037927936 : Int64)), (.long q0)])) (fun t k => X0.ldc2Long hx hown (mvT hZ (hw _ (List.mem_of_getElem? (i := 25) rfl))) (g := (mkF m 25 #[.val (.long q0), .second] [(.long q0)])) rfl (hb hby dmethod_3_code_25) t k) ?_
      refine Go.op (F := fun z => s₁.setTop (mkF m 29 #[.val (.long q0), .second] [(.int z)])) (x := (lcmpW q0 (72057594037927936 : Int64))) (fun t k => XS.lcmp X0.here hx rfl (hb hby dmethod_3_code_28) rfl k) ?_
      intro v39 hv39
      by_cases hc40 : (q0 < (72057594037927936 : Int64))
      · refine Go.st (S' := s₁.setTop (mkF m 32 #[.val (.long q0), .second] [])) (fun t k => XS.ifNo X0.here hx rfl (hb hby dmethod_3_code_29) rfl ((if0 _ _).trans (tlt (by rw [hv39]; exact (lw_lt _ _).2 hc40)).2.1) k) ?_
        refine Go.st (S' := s₁.setTop (mkF m 35 #[.val (.long q0), .second] [(.long (8 : Int64))])) (fun t k => X0.ldc2Long hx hown (mvT hZ (hw _ (List.mem_of_getElem? (i := 26) rfl))) (g := (mkF m 32 #[.val (.long q0), .second] [])) rfl (hb hby dmethod_3_code_32) t k) ?_
        exact Go.ret X0 (v := some (.long (8 : Int64))) (fun h => by rw [Bd.returns] at h; cases h) Bd.notSynchronized (fun fs hr => retOut X0 hx Bd.returns rfl (Or.inr (Or.inl ⟨rfl, rfl, _, rfl⟩)) (hb hby dmethod_3_code_35) hr) (by decide) (by decide) (⟨(8 : Int64), (Or.inr (Or.inr (Or.inl ⟨hc36, hc38, hc40, rfl⟩))), rfl, N0, (e0)⟩)
      · refine Go.st (S' := s₁.setTop (mkF m 36 #[.val (.long q0), .second] [])) (fun t k => XS.ifYes X0.here hx rfl (pc0 := 29) (pc' := 36) rfl (hb hby dmethod_3_code_29) rfl ((if0 _ _).trans (flt (by rw [hv39]; exact fun z => hc40 ((lw_lt _ _).1 z))).2.1) (by decide) (by decide) k) ?_
        refine Go.st (S' := s₁.setTop (mkF m 39 #[.val (.long q0), .second] [(.long (16 : Int64))])) (fun t k => X0.ldc2Long hx hown (mvT hZ (hw _ (List.mem_of_getElem? (i := 29) rfl))) (g := (mkF m 36 #[.val (.long q0), .second] [])) rfl (hb hby dmethod_3_code_36) t k) ?_
        exact Go.ret X0 (v := some (.long (16 : Int64))) (fun h => by rw [Bd.returns] at h; cases h) Bd.notSynchronized (fun fs hr => retOut X0 hx Bd.returns rfl (Or.inr (Or.inl ⟨rfl, rfl, _, rfl⟩)) (hb hby dmethod_3_code_39) hr) (by decide) (by decide) (⟨(16 : Int64), (Or.inr (Or.inr (Or.inr ⟨hc36, hc38, hc40, rfl⟩))), rfl, N0, (e0)⟩)
theorem ef_4 (m : MethodId) (p0 : Int32) (p1 : Int32) : entryFrame m #[(.int p0), (.int p1)] maxLocals = mkF m 0 #[.val (.int p0), .val (.int p1), .unset, .unset, .unset, .unset, .unset, .unset, .unset, .unset, .unset, .unset, .unset, .unset, .unset, .unset, .unset, .unset, .unset, .unset, .unset, .unset] [] := by first | (simp [entryFrame, mkF, argsToLocals, Value.category, maxLocals]; done) | rfl
def Q4 (Z : State) (p0 : Int32) (p1 : Int32) (h0 : Heap) (n0 : Nat) (v : Option Value) (h : Heap) (L : List Loc) : Prop := v = some (.int 1) ∧ Fr n0 L
set_option maxRecDepth 65536 in
set_option maxHeartbeats 40000000 in
theorem rm4 (l : Launch) (Z : State) (a0 : Array Value) (hw : ∀ d ∈ tables_1, d.before a0 Z = true) (ws : List Jvm.Cond) (p0 : Int32) (p1 : Int32) (h0 : Heap) (n0 : Nat) (Z0 : n0 ≤ h0.size)  :
    Con l Z x code maxLocals ret ws room_1 #[(.int p0), (.int p1)] h0 0 0 (Q4 Z p0 p1 h0 n0) := by
  refine MetFree.of_bodySF (plainFor_of_name pn_1) hisR ?_
  intro p e s m args below meth c s₁ Bd hml0 hP hK
  obtain ⟨rfl, hZ, hh⟩ := hP
  have hx := Bd.exec
  have hby := Bd.bytes
  have hml : c.maxLocals = 22 := hml0
  have hown : s.vm.findClass "com/example/signbound/signbound/arith/RootClassesProductUpPinLaw" = some m.cls := findClass_of_methodNamed Bd.named
  have hnm := (name_of_methodNamed Bd.named Bd.method).1
  have X0 : Stand p l e room_1 s m #[(.int p0), (.int p1)] below meth c s₁ [] 0 0 := Stand.of_body Bd
  have e0 : s₁.heap = h0 := by rw [← hh, Bd.state]; rfl
  have N0 := Fr.nil n0
  refine Go.of ?_
  refine Go.st (S' := s₁.setTop (mkF m 0 #[.val (.int p0), .val (.int p1), .unset, .unset, .unset, .unset, .unset, .unset, .unset, .unset, .unset, .unset, .unset, .unset, .unset, .unset, .unset, .unset, .unset, .unset, .unset, .unset] [])) (fun t k => castTop (ef_4 m p0 p1) k) ?_
  let A1 : Array Slot := #[.val (.int p0), .val (.int p1), .unset, .unset, .unset, .unset, .unset, .unset, .unset, .unset, .unset, .unset, .unset, .unset, .unset, .unset, .unset, .unset, .unset, .unset, .unset, .unset]
  refine Go.st (S' := s₁.setTop (mkF m 1 A1 [(.int p0)])) (fun t k => XS.iloadN X0.here hx rfl (hb hby at_0) rfl k) ?_
  refine Go.st (S' := s₁.setTop (mkF m 3 A1 [(.int (268435455 : Int32)), (.int p0)])) (fun t k => X0.ldcInt hx hown (mvT hZ (hw _ (List.mem_of_getElem? (i := 0) rfl))) (g := (mkF m 1 A1 [(.int p0)])) rfl (hb hby at_1) t k) ?_
  refine Go.op (F := fun z => s₁.setTop (mkF m 4 A1 [(.int z)])) (x := (p0 &&& (268435455 : Int32))) (fun t k => XS.iand X0.here hx rfl (hb hby at_3) rfl k) ?_
  intro v2 hv2
  refine Go.op (F := fun z => s₁.setTop (mkF m 5 A1 [(.long z)])) (x := v2.toInt64) (fun t k => XS.i2l X0.here hx rfl (hb hby at_4) rfl k) ?_
  intro v3 hv3
  refine Go.st (S' := s₁.setTop (mkF m 6 A1 [(.long (1 : Int64)), (.long v3)])) (fun t k => XS.lconst X0.here hx rfl (hb hby at_5) k) ?_
  refine Go.op (F := fun z => s₁.setTop (mkF m 7 A1 [(.long z)])) (x := (v3 + (1 : Int64))) (fun t k => XS.ladd X0.here hx rfl (hb hby at_6) rfl k) ?_
  intro v4 hv4
  let A5 : Array Slot := #[.val (.int p0), .val (.int p1), .val (.long v4), .second, .unset, .unset, .unset, .unset, .unset, .unset, .unset, .unset, .unset, .unset, .unset, .unset, .unset, .unset, .unset, .unset, .unset, .unset]
  refine Go.st (S' := s₁.setTop (mkF m 8 A5 [])) (fun t k => XS.lstoreN X0.here hx rfl (hb hby at_7) rfl (l' := A5) rfl k) ?_
  refine Go.st (S' := s₁.setTop (mkF m 9 A5 [(.int p1)])) (fun t k => XS.iloadN X0.here hx rfl (hb hby at_8) rfl k) ?_
  refine Go.st (S' := s₁.setTop (mkF m 11 A5 [(.int (268435455 : Int32)), (.int p1)])) (fun t k => X0.ldcInt hx hown (mvT hZ (hw _ (List.mem_of_getElem? (i := 0) rfl))) (g := (mkF m 9 A5 [(.int p1)])) rfl (hb hby at_9) t k) ?_
  refine Go.op (F := fun z => s₁.setTop (mkF m 12 A5 [(.int z)])) (x := (p1 &&& (268435455 : Int32))) (fun t k => XS.iand X0.here hx rfl (hb hby at_11) rfl k) ?_
  intro v6 hv6
  refine Go.op (F := fun z => s₁.setTop (mkF m 13 A5 [(.long z)])) (x := v6.toInt64) (fun t k => XS.i2l X0.here hx rfl (hb hby at_12) rfl k) ?_
  intro v7 hv7
  refine Go.st (S' := s₁.setTop (mkF m 14 A5 [(.long (1 : Int64)), (.long v7)])) (fun t k => XS.lconst X0.here hx rfl (hb hby at_13) k) ?_
  refine Go.op (F := fun z => s₁.setTop (mkF m 15 A5 [(.long z)])) (x := (v7 + (1 : Int64))) (fun t k => XS.ladd X0.here hx rfl (hb hby at_14) rfl k) ?_
  intro v8 hv8
  let A9 : Array Slot := #[.val (.int p0), .val (.int p1), .val (.long v4), .second, .val (.long v8), .second, .unset, .unset, .unset, .unset, .unset, .unset, .unset, .unset, .unset, .unset, .unset, .unset, .unset, .unset, .unset, .unset]
  refine Go.st (S' := s₁.setTop (mkF m 17 A9 [])) (fun t k => XS.lstore X0.here hx rfl (hb hby at_15) rfl (l' := A9) rfl k) ?_
  refine Go.st (S' := s₁.setTop (mkF m 18 A9 [(.long v4)])) (fun t k => XS.lloadN X0.here hx rfl (hb hby at_17) rfl k) ?_
  refine Go.st (S' := s₁.setTop (mkF m 20 A9 [(.long v8), (.long v4)])) (fun t k => XS.lload X0.here hx rfl (hb hby at_18) rfl k) ?_
  refine Go.op (F := fun z => s₁.setTop (mkF m 21 A9 [(.long z)])) (x := (v4 * v8)) (fun t k => XS.lmul X0.here hx rfl (hb hby at_20) rfl k) ?_
  intro v10 hv10
  let A11 : Array Slot := #[.val (.int p0), .val (.int p1), .val (.long v4), .second, .val (.long v8), .second, .val (.long v10), .second, .unset, .unset, .unset, .unset, .unset, .unset, .unset, .unset, .unset, .unset, .unset, .unset, .unset, .unset]
  refine Go.st (S' := s₁.setTop (mkF m 23 A11 [])) (fun t k => XS.lstore X0.here hx rfl (hb hby at_21) rfl (l' := A11) rfl k) ?_
  refine Go.st (S' := s₁.setTop (mkF m 24 A11 [(.long v4)])) (fun t k => XS.lloadN X0.here hx rfl (hb hby at_23) rfl k) ?_
  refine Go.st (S' := s₁.setTop (mkF m 25 A11 [(.double (FP.l2d v4))])) (fun t k => XS.l2dS X0.here hx rfl (hb hby at_24) rfl rfl k) ?_
  refine Go.st (S' := s₁.setTop (mkF m 27 A11 [(.long v8), (.double (FP.l2d v4))])) (fun t k => XS.lload X0.here hx rfl (hb hby at_25) rfl k) ?_
  refine Go.st (S' := s₁.setTop (mkF m 28 A11 [(.double (FP.l2d v8)), (.double (FP.l2d v4))])) (fun t k => XS.l2dS X0.here hx rfl (hb hby at_27) rfl rfl k) ?_
  have pre27 : (1 ≤ v4.toInt ∧ v4.toInt ≤ 268435456) ∧ 1 ≤ v8.toInt ∧ v8.toInt ≤ 268435456 := by
    have rv2 := rng32 v2
    have wv2 := c_mask p0 (268435455 : Int32) 28 (by decide) (by decide)
    rw [← hv2] at wv2
    have rv3 := rng64 v3
    have wv3 := c_i2l v2
    rw [← hv3] at wv3
    have rv4 := rng64 v4
    have wv4 := c_ladd v3 (1 : Int64)
    rw [← hv4] at wv4
    have rv6 := rng32 v6
    have wv6 := c_mask p1 (268435455 : Int32) 28 (by decide) (by decide)
    rw [← hv6] at wv6
    have rv7 := rng64 v7
    have wv7 := c_i2l v6
    rw [← hv7] at wv7
    have rv8 := rng64 v8
    have wv8 := c_ladd v7 (1 : Int64)
    rw [← hv8] at wv8
    have rp0 := rng32 p0
    have rp1 := rng32 p1
    have lI268435455 : (268435455 : Int32).toInt = 268435455 := by decide
    have lJ1 : (1 : Int64).toInt = 1 := by decide
    exact ⟨⟨by omega, by omega⟩, by omega, by omega⟩
  obtain ⟨r28, T28, L28, X28, hQ28, st28⟩ := own_callS (W := 0) X0 hx hZ e0 hown (y := (⟨"com/example/signbound/signbound/arith/RootClasses", "productUp", "(DD)D"⟩ : MethodName)) (hw _ (List.mem_of_getElem? (i := 1) rfl)) (hw _ (List.mem_of_getElem? (i := 2) rfl)) (hw _ (List.mem_of_getElem? (i := 3) rfl)) (hw _ (List.mem_of_getElem? (i := 4) rfl)) (by decide) (rm2 l Z a0 hw [] v4 v8 h0 n0 Z0 (pre27)) (by decide) (by decide) (by decide) (by decide) (g := (mkF m 28 A11 [(.double (FP.l2d v8)), (.double (FP.l2d v4))])) rfl (by rw [hml]; rfl) (argsL := [(.double (FP.l2d v4)), (.double (FP.l2d v8))]) (rest := []) rfl (lenOf pd_1 rfl) rfl (by show 2 * 0 + _ ≤ _; exact Nat.le_of_eq rfl) (hb hby at_28)
  obtain ⟨r29, hp30, rfl, N28, e28⟩ := hQ28
  have N28_ := Fr.app N0 N28
  refine Go.st (S' := T28.setTop (mkF m 31 A11 [(.double r29)])) st28 ?_
  let A31 : Array Slot := #[.val (.int p0), .val (.int p1), .val (.long v4), .second, .val (.long v8), .second, .val (.long v10), .second, .val (.double r29), .second, .unset, .unset, .unset, .unset, .unset, .unset, .unset, .unset, .unset, .unset, .unset, .unset]
  refine Go.st (S' := T28.setTop (mkF m 33 A31 [])) (fun t k => XS.dstore X28.here hx rfl (hb hby at_31) rfl (l' := A31) rfl k) ?_
  refine Go.st (S' := T28.setTop (mkF m 35 A31 [(.long v10)])) (fun t k => XS.lload X28.here hx rfl (hb hby at_33) rfl k) ?_
  refine Go.st (S' := T28.setTop (mkF m 38 A31 [(.long (9007199254740992 : Int64)), (.long v10)])) (fun t k => X28.ldc2Long hx hown (mvT hZ (hw _ (List.mem_of_getElem? (i := 6) rfl))) (g := (mkF m 35 A31 [(.long v10)])) rfl (hb hby at_35) t k) ?_
  refine Go.op (F := fun z => T28.setTop (mkF m 39 A31 [(.int z)])) (x := (lcmpW v10 (9007199254740992 : Int64))) (fun t k => XS.lcmp X28.here hx rfl (hb hby at_38) rfl k) ?_
  intro v32 hv32
  by_cases hc94 : (v10 < (9007199254740992 : Int64))
  · refine Go.st (S' := T28.setTop (mkF m 42 A31 [])) (fun t k => XS.ifNo X28.here hx rfl (hb hby at_39) rfl ((if0 _ _).trans (tlt (by rw [hv32]; exact (lw_lt _ _).2 hc94)).2.1) k) ?_
    refine Go.st (S' := T28.setTop (mkF m 44 A31 [(.long v10)])) (fun t k => XS.lload X28.here hx rfl (hb hby at_42) rfl k) ?_
    let A95 : Array Slot := #[.val (.int p0), .val (.int p1), .val (.long v4), .second, .val (.long v8), .second, .val (.long v10), .second, .val (.double r29), .second, .val (.long v10), .second, .unset, .unset, .unset, .unset, .unset, .unset, .unset, .unset, .unset, .unset]
    refine Go.st (S' := T28.setTop (mkF m 46 A95 [])) (fun t k => XS.lstore X28.here hx rfl (hb hby at_44) rfl (l' := A95) rfl k) ?_
    refine Go.st (S' := T28.setTop (mkF m 126 A95 [])) (fun t k => XS.goto X28.here hx rfl (pc0 := 46) (pc' := 126) rfl (hb hby at_46) (by decide) (by decide) k) ?_
    refine Go.st (S' := T28.setTop (mkF m 128 A95 [(.double r29)])) (fun t k => XS.dload X28.here hx rfl (hb hby at_126) rfl k) ?_
    refine Go.st (S' := T28.setTop (mkF m 130 A95 [(.long v10), (.double r29)])) (fun t k => XS.lload X28.here hx rfl (hb hby at_128) rfl k) ?_
    refine Go.st (S' := T28.setTop (mkF m 131 A95 [(.double (FP.l2d v10)), (.double r29)])) (fun t k => XS.l2dS X28.here hx rfl (hb hby at_130) rfl rfl k) ?_
    have hp2 := hp30
    rw [← hv10] at hp2
    have hE96 : r29 = FP.l2d v10 := hp2.1 hc94
    refine Go.st (S' := T28.setTop (mkF m 132 A95 [(.int (0 : Int32))])) (fun t k => XS.dcmpS X28.here hx rfl (hb hby at_131) rfl (dcmpV_eq hE96 (nn_w hE96) .l) k) ?_
    refine Go.st (S' := T28.setTop (mkF m 135 A95 [])) (fun t k => XS.ifNo X28.here hx rfl (hb hby at_132) rfl ((if0 _ _).trans (teq (by decide : ((0 : Int32) = (0 : Int32)))).2) k) ?_
    refine Go.st (S' := T28.setTop (mkF m 136 A95 [(.int (1 : Int32))])) (fun t k => XS.iconst X28.here hx rfl (hb hby at_135) k) ?_
    refine Go.st (S' := T28.setTop (mkF m 140 A95 [(.int (1 : Int32))])) (fun t k => XS.goto X28.here hx rfl (pc0 := 136) (pc' := 140) rfl (hb hby at_136) (by decide) (by decide) k) ?_
    exact Go.ret X28 (v := some (.int (1 : Int32))) (fun h => by rw [Bd.returns] at h; cases h) Bd.notSynchronized (fun fs hr => retN X28 hx (t := .boolean) Bd.returns (by simp) (hb hby at_140) hr) (by decide) (by decide) ⟨rfl, N28_⟩
  · refine Go.st (S' := T28.setTop (mkF m 49 A31 [])) (fun t k => XS.ifYes X28.here hx rfl (pc0 := 39) (pc' := 49) rfl (hb hby at_39) rfl ((if0 _ _).trans (flt (by rw [hv32]; exact fun z => hc94 ((lw_lt _ _).1 z))).2.1) (by decide) (by decide) k) ?_
    refine Go.st (S' := T28.setTop (mkF m 51 A31 [(.long v10)])) (fun t k => XS.lload X28.here hx rfl (hb hby at_49) rfl k) ?_
    obtain ⟨r97, T97, L97, X97, hQ97, st97⟩ := own_callS (W := 0) X28 hx hZ e28 hown (y := (⟨"com/example/signbound/signbound/arith/RootClassesProductUpPinLaw", "ulpAt", "(J)J"⟩ : MethodName)) (hw _ (List.mem_of_getElem? (i := 19) rfl)) (hw _ (List.mem_of_getElem? (i := 20) rfl)) (hw _ (List.mem_of_getElem? (i := 21) rfl)) (hw _ (List.mem_of_getElem? (i := 22) rfl)) (by decide) (rm3 l Z a0 hw [] v10 h0 n0 Z0 ) (by decide) (by decide) (by decide) (by decide) (g := (mkF m 51 A31 [(.long v10)])) rfl (by rw [hml]; rfl) (argsL := [(.long v10)]) (rest := []) rfl (lenOf pd_2 rfl) rfl (by show 2 * 0 + _ ≤ _; exact Nat.le_of_eq rfl) (hb hby at_51)
    obtain ⟨r98, hc99, rfl, N97, e97⟩ := hQ97
    have N97_ := Fr.app N28_ N97
    refine Go.st (S' := T97.setTop (mkF m 54 A31 [(.long r98)])) st97 ?_
    let A100 : Array Slot := #[.val (.int p0), .val (.int p1), .val (.long v4), .second, .val (.long v8), .second, .val (.long v10), .second, .val (.double r29), .second, .unset, .unset, .val (.long r98), .second, .unset, .unset, .unset, .unset, .unset, .unset, .unset, .unset]
    refine Go.st (S' := T97.setTop (mkF m 56 A100 [])) (fun t k => XS.lstore X97.here hx rfl (hb hby at_54) rfl (l' := A100) rfl k) ?_
    refine Go.st (S' := T97.setTop (mkF m 58 A100 [(.long v10)])) (fun t k => XS.lload X97.here hx rfl (hb hby at_56) rfl k) ?_
    refine Go.st (S' := T97.setTop (mkF m 60 A100 [(.long r98), (.long v10)])) (fun t k => XS.lload X97.here hx rfl (hb hby at_58) rfl k) ?_
    have nz102 : r98 ≠ 0 := by
      intro hz101
      have rv2 := rng32 v2
      have wv2 := c_mask p0 (268435455 : Int32) 28 (by decide) (by decide)
      rw [← hv2] at wv2
      have rv3 := rng64 v3
      have wv3 := c_i2l v2
      rw [← hv3] at wv3
      have rv4 := rng64 v4
      have wv4 := c_ladd v3 (1 : Int64)
      rw [← hv4] at wv4
      have rv6 := rng32 v6
      have wv6 := c_mask p1 (268435455 : Int32) 28 (by decide) (by decide)
      rw [← hv6] at wv6
      have rv7 := rng64 v7
      have wv7 := c_i2l v6
      rw [← hv7] at wv7
      have rv8 := rng64 v8
      have wv8 := c_ladd v7 (1 : Int64)
      rw [← hv8] at wv8
      have rv10 := rng64 v10
      have wv10 := c_lmul v4 v8
      rw [← hv10] at wv10
      have rp0 := rng32 p0
      have rp1 := rng32 p1
      have rr98 := rng64 r98
      have lI268435455 : (268435455 : Int32).toInt = 268435455 := by decide
      have lJ0 : (0 : Int64).toInt = 0 := by decide
      have lJ1 : (1 : Int64).toInt = 1 := by decide
      have lJ2 : (2 : Int64).toInt = 2 := by decide
      have lJ4 : (4 : Int64).toInt = 4 := by decide
      have lJ8 : (8 : Int64).toInt = 8 := by decide
      have lJ16 : (16 : Int64).toInt = 16 := by decide
      have lJ9007199254740992 : (9007199254740992 : Int64).toInt = 9007199254740992 := by decide
      have lJ18014398509481984 : (18014398509481984 : Int64).toInt = 18014398509481984 := by decide
      have lJ36028797018963968 : (36028797018963968 : Int64).toInt = 36028797018963968 := by decide
      have lJ72057594037927936 : (72057594037927936 : Int64).toInt = 72057594037927936 := by decide
      simp only [Int32.lt_iff_toInt_lt, Int64.lt_iff_toInt_lt, ← Int32.toInt_inj, ← Int64.toInt_inj] at hc94 hc99 hz101
      omega
    refine Go.op (F := fun z => T97.setTop (mkF m 61 A100 [(.long z)])) (x := (v10 / r98)) (fun t k => XS.ldiv X97.here hx rfl (hb hby at_60) rfl nz102 k) ?_
    intro v103 hv103
    let A104 : Array Slot := #[.val (.int p0), .val (.int p1), .val (.long v4), .second, .val (.long v8), .second, .val (.long v10), .second, .val (.double r29), .second, .unset, .unset, .val (.long r98), .second, .val (.long v103), .second, .unset, .unset, .unset, .unset, .unset, .unset]
    refine Go.st (S' := T97.setTop (mkF m 63 A104 [])) (fun t k => XS.lstore X97.here hx rfl (hb hby at_61) rfl (l' := A104) rfl k) ?_
    refine Go.st (S' := T97.setTop (mkF m 65 A104 [(.long v10)])) (fun t k => XS.lload X97.here hx rfl (hb hby at_63) rfl k) ?_
    refine Go.st (S' := T97.setTop (mkF m 67 A104 [(.long r98), (.long v10)])) (fun t k => XS.lload X97.here hx rfl (hb hby at_65) rfl k) ?_
    have nz106 : r98 ≠ 0 := by
      intro hz105
      have rv2 := rng32 v2
      have wv2 := c_mask p0 (268435455 : Int32) 28 (by decide) (by decide)
      rw [← hv2] at wv2
      have rv3 := rng64 v3
      have wv3 := c_i2l v2
      rw [← hv3] at wv3
      have rv4 := rng64 v4
      have wv4 := c_ladd v3 (1 : Int64)
      rw [← hv4] at wv4
      have rv6 := rng32 v6
      have wv6 := c_mask p1 (268435455 : Int32) 28 (by decide) (by decide)
      rw [← hv6] at wv6
      have rv7 := rng64 v7
      have wv7 := c_i2l v6
      rw [← hv7] at wv7
      have rv8 := rng64 v8
      have wv8 := c_ladd v7 (1 : Int64)
      rw [← hv8] at wv8
      have rv10 := rng64 v10
      have wv10 := c_lmul v4 v8
      rw [← hv10] at wv10
      have rp0 := rng32 p0
      have rp1 := rng32 p1
      have rr98 := rng64 r98
      have lI268435455 : (268435455 : Int32).toInt = 268435455 := by decide
      have lJ0 : (0 : Int64).toInt = 0 := by decide
      have lJ1 : (1 : Int64).toInt = 1 := by decide
      have lJ2 : (2 : Int64).toInt = 2 := by decide
      have lJ4 : (4 : Int64).toInt = 4 := by decide
      have lJ8 : (8 : Int64).toInt = 8 := by decide
      have lJ16 : (16 : Int64).toInt = 16 := by decide
      have lJ9007199254740992 : (9007199254740992 : Int64).toInt = 9007199254740992 := by decide
      have lJ18014398509481984 : (18014398509481984 : Int64).toInt = 18014398509481984 := by decide
      have lJ36028797018963968 : (36028797018963968 : Int64).toInt = 36028797018963968 := by decide
      have lJ72057594037927936 : (72057594037927936 : Int64).toInt = 72057594037927936 := by decide
      simp only [Int32.lt_iff_toInt_lt, Int64.lt_iff_toInt_lt, ← Int32.toInt_inj, ← Int64.toInt_inj] at hc94 hc99 hz105
      omega
    refine Go.op (F := fun z => T97.setTop (mkF m 68 A104 [(.long z)])) (x := (v10 - (v10 / r98) * r98)) (fun t k => XS.lrem X97.here hx rfl (hb hby at_67) rfl nz106 k) ?_
    intro v107 hv107
    rw [lrem_mod] at hv107
    let A108 : Array Slot := #[.val (.int p0), .val (.int p1), .val (.long v4), .second, .val (.long v8), .second, .val (.long v10), .second, .val (.double r29), .second, .unset, .unset, .val (.long r98), .second, .val (.long v103), .second, .val (.long v107), .second, .unset, .unset, .unset, .unset]
    refine Go.st (S' := T97.setTop (mkF m 70 A108 [])) (fun t k => XS.lstore X97.here hx rfl (hb hby at_68) rfl (l' := A108) rfl k) ?_
    refine Go.st (S' := T97.setTop (mkF m 72 A108 [(.long r98)])) (fun t k => XS.lload X97.here hx rfl (hb hby at_70) rfl k) ?_
    refine Go.st (S' := T97.setTop (mkF m 75 A108 [(.long (2 : Int64)), (.long r98)])) (fun t k => X97.ldc2Long hx hown (mvT hZ (hw _ (List.mem_of_getElem? (i := 27) rfl))) (g := (mkF m 72 A108 [(.long r98)])) rfl (hb hby at_72) t k) ?_
    refine Go.op (F := fun z => T97.setTop (mkF m 76 A108 [(.long z)])) (x := (r98 / (2 : Int64))) (fun t k => XS.ldiv X97.here hx rfl (hb hby at_75) rfl (by decide) k) ?_
    intro v109 hv109
    let A110 : Array Slot := #[.val (.int p0), .val (.int p1), .val (.long v4), .second, .val (.long v8), .second, .val (.long v10), .second, .val (.double r29), .second, .unset, .unset, .val (.long r98), .second, .val (.long v103), .second, .val (.long v107), .second, .val (.long v109), .second, .unset, .unset]
    refine Go.st (S' := T97.setTop (mkF m 78 A110 [])) (fun t k => XS.lstore X97.here hx rfl (hb hby at_76) rfl (l' := A110) rfl k) ?_
    refine Go.st (S' := T97.setTop (mkF m 80 A110 [(.long v107)])) (fun t k => XS.lload X97.here hx rfl (hb hby at_78) rfl k) ?_
    refine Go.st (S' := T97.setTop (mkF m 82 A110 [(.long v109), (.long v107)])) (fun t k => XS.lload X97.here hx rfl (hb hby at_80) rfl k) ?_
    refine Go.op (F := fun z => T97.setTop (mkF m 83 A110 [(.int z)])) (x := (lcmpW v107 v109)) (fun t k => XS.lcmp X97.here hx rfl (hb hby at_82) rfl k) ?_
    intro v111 hv111
    obtain ⟨v122, hv122⟩ : ∃ z, z = (v103 + (1 : Int64)) := ⟨_, rfl⟩
    obtain ⟨v123, hv123⟩ : ∃ z, z = (v103 &&& (1 : Int64)) := ⟨_, rfl⟩
    obtain ⟨v124, hv124⟩ : ∃ z, z = (lcmpW v123 (0 : Int64)) := ⟨_, rfl⟩
    refine Go.join (α := Int64) (fun r => (((v109 < v107) ∧ (r = v122)) ∨ ((¬ (v109 < v107)) ∧ (v107 = v109) ∧ (v123 = (0 : Int64)) ∧ (r = v103)) ∨ ((¬ (v109 < v107)) ∧ (v107 = v109) ∧ (¬ (v123 = (0 : Int64))) ∧ (r = v122)) ∨ ((¬ (v109 < v107)) ∧ (¬ (v107 = v109)) ∧ (r = v103)))) (fun r => T97.setTop (mkF m 109 #[.val (.int p0), .val (.int p1), .val (.long v4), .second, .val (.long v8), .second, .val (.long v10), .second, .val (.double r29), .second, .unset, .unset, .val (.long r98), .second, .val (.long r), .second, .val (.long v107), .second, .val (.long v109), .second, .unset, .unset] [])) ?_ ?_
    · intro r135 hc136
      let A137 : Array Slot := #[.val (.int p0), .val (.int p1), .val (.long v4), .second, .val (.long v8), .second, .val (.long v10), .second, .val (.double r29), .second, .unset, .unset, .val (.long r98), .second, .val (.long r135), .second, .val (.long v107), .second, .val (.long v109), .second, .unset, .unset]
      refine Go.st (S' := T97.setTop (mkF m 111 A137 [(.long r135)])) (fun t k => XS.lload X97.here hx rfl (hb hby at_109) rfl k) ?_
      refine Go.st (S' := T97.setTop (mkF m 113 A137 [(.long r98), (.long r135)])) (fun t k => XS.lload X97.here hx rfl (hb hby at_111) rfl k) ?_
      refine Go.op (F := fun z => T97.setTop (mkF m 114 A137 [(.long z)])) (x := (r135 * r98)) (fun t k => XS.lmul X97.here hx rfl (hb hby at_113) rfl k) ?_
      intro v138 hv138
      let A139 : Array Slot := #[.val (.int p0), .val (.int p1), .val (.long v4), .second, .val (.long v8), .second, .val (.long v10), .second, .val (.double r29), .second, .unset, .unset, .val (.long r98), .second, .val (.long r135), .second, .val (.long v107), .second, .val (.long v109), .second, .val (.long v138), .second]
      refine Go.st (S' := T97.setTop (mkF m 116 A139 [])) (fun t k => XS.lstore X97.here hx rfl (hb hby at_114) rfl (l' := A139) rfl k) ?_
      refine Go.st (S' := T97.setTop (mkF m 118 A139 [(.long v138)])) (fun t k => XS.lload X97.here hx rfl (hb hby at_116) rfl k) ?_
      refine Go.st (S' := T97.setTop (mkF m 120 A139 [(.long v138), (.long v138)])) (fun t k => XS.lload X97.here hx rfl (hb hby at_118) rfl k) ?_
      obtain ⟨r140, T140, L140, X140, hQ140, st140⟩ := own_callS (W := 2) X97 hx hZ e97 hown (y := (⟨"com/example/signbound/signbound/arith/RootClassesProductUpPinLaw", "ulpAt", "(J)J"⟩ : MethodName)) (hw _ (List.mem_of_getElem? (i := 19) rfl)) (hw _ (List.mem_of_getElem? (i := 20) rfl)) (hw _ (List.mem_of_getElem? (i := 21) rfl)) (hw _ (List.mem_of_getElem? (i := 22) rfl)) (by decide) (rm3 l Z a0 hw [] v138 h0 n0 Z0 ) (by decide) (by decide) (by decide) (by decide) (g := (mkF m 120 A139 [(.long v138), (.long v138)])) rfl (by rw [hml]; rfl) (argsL := [(.long v138)]) (rest := [(.long v138)]) rfl (lenOf pd_2 rfl) rfl (by show 2 * 0 + _ ≤ _; exact Nat.le_of_eq rfl) (hb hby at_120)
      obtain ⟨r141, hc142, rfl, N140, e140⟩ := hQ140
      have N140_ := Fr.app N97_ N140
      refine Go.st (S' := T140.setTop (mkF m 123 A139 [(.long r141), (.long v138)])) st140 ?_
      refine Go.op (F := fun z => T140.setTop (mkF m 124 A139 [(.long z)])) (x := (v138 + r141)) (fun t k => XS.ladd X140.here hx rfl (hb hby at_123) rfl k) ?_
      intro v143 hv143
      let A144 : Array Slot := #[.val (.int p0), .val (.int p1), .val (.long v4), .second, .val (.long v8), .second, .val (.long v10), .second, .val (.double r29), .second, .val (.long v143), .second, .val (.long r98), .second, .val (.long r135), .second, .val (.long v107), .second, .val (.long v109), .second, .val (.long v138), .second]
      refine Go.st (S' := T140.setTop (mkF m 126 A144 [])) (fun t k => XS.lstore X140.here hx rfl (hb hby at_124) rfl (l' := A144) rfl k) ?_
      refine Go.st (S' := T140.setTop (mkF m 128 A144 [(.double r29)])) (fun t k => XS.dload X140.here hx rfl (hb hby at_126) rfl k) ?_
      refine Go.st (S' := T140.setTop (mkF m 130 A144 [(.long v143), (.double r29)])) (fun t k => XS.lload X140.here hx rfl (hb hby at_128) rfl k) ?_
      refine Go.st (S' := T140.setTop (mkF m 131 A144 [(.double (FP.l2d v143)), (.double r29)])) (fun t k => XS.l2dS X140.here hx rfl (hb hby at_130) rfl rfl k) ?_
      have hp2 := hp30
      rw [← hv10] at hp2
      obtain ⟨-, hb2, hb3, hb4⟩ := own_mul pre27
      rw [← hv10] at hb2 hb3 hb4
      have hqq : (v109 < v107 ∨ v107 = v109 ∧ ¬ (v103 &&& 1) = 0) ∧ r135 = v103 + 1 ∨ ¬ (v109 < v107) ∧ (¬ v107 = v109 ∨ (v103 &&& 1) = 0) ∧ r135 = v103 := by
        rw [← hv122, ← hv123]
        rcases hc136 with ⟨a, b⟩ | ⟨a, b, c, d⟩ | ⟨a, b, c, d⟩ | ⟨a, b, c⟩
        · exact Or.inl ⟨Or.inl a, b⟩
        · exact Or.inr ⟨a, Or.inr c, d⟩
        · exact Or.inl ⟨Or.inr ⟨b, c⟩, d⟩
        · exact Or.inr ⟨a, Or.inl b, c⟩
      have hE145 : r29 = FP.l2d v143 := (hp2.2 hc94).trans (own_law (own_ge hc94) hb4 hc99 hv103 hv107 hv109 hqq hv138 hc142 hv143)
      refine Go.st (S' := T140.setTop (mkF m 132 A144 [(.int (0 : Int32))])) (fun t k => XS.dcmpS X140.here hx rfl (hb hby at_131) rfl (dcmpV_eq hE145 (nn_w hE145) .l) k) ?_
      refine Go.st (S' := T140.setTop (mkF m 135 A144 [])) (fun t k => XS.ifNo X140.here hx rfl (hb hby at_132) rfl ((if0 _ _).trans (teq (by decide : ((0 : Int32) = (0 : Int32)))).2) k) ?_
      refine Go.st (S' := T140.setTop (mkF m 136 A144 [(.int (1 : Int32))])) (fun t k => XS.iconst X140.here hx rfl (hb hby at_135) k) ?_
      refine Go.st (S' := T140.setTop (mkF m 140 A144 [(.int (1 : Int32))])) (fun t k => XS.goto X140.here hx rfl (pc0 := 136) (pc' := 140) rfl (hb hby at_136) (by decide) (by decide) k) ?_
      exact Go.ret X140 (v := some (.int (1 : Int32))) (fun h => by rw [Bd.returns] at h; cases h) Bd.notSynchronized (fun fs hr => retN X140 hx (t := .boolean) Bd.returns (by simp) (hb hby at_140) hr) (by decide) (by decide) ⟨rfl, N140_⟩
    · intro J146
      by_cases hc147 : (v109 < v107)
      · refine Go.st (S' := T97.setTop (mkF m 103 A110 [])) (fun t k => XS.ifYes X97.here hx rfl (pc0 := 83) (pc' := 103) rfl (hb hby at_83) rfl ((if0 _ _).trans (tlt (by rw [hv111]; exact (lw_gt _ _).2 hc147)).2.2.1) (by decide) (by decide) k) ?_
        refine Go.st (S' := T97.setTop (mkF m 105 A110 [(.long v103)])) (fun t k => XS.lload X97.here hx rfl (hb hby at_103) rfl k) ?_
        refine Go.st (S' := T97.setTop (mkF m 106 A110 [(.long (1 : Int64)), (.long v103)])) (fun t k => XS.lconst X97.here hx rfl (hb hby at_105) k) ?_
        refine Go.op (F := fun z => T97.setTop (mkF m 107 A110 [(.long z)])) (x := (v103 + (1 : Int64))) (fun t k => XS.ladd X97.here hx rfl (hb hby at_106) rfl k) ?_
        intro v148 hv148
        obtain rfl : v122 = v148 := hv122.trans hv148.symm
        let A149 : Array Slot := #[.val (.int p0), .val (.int p1), .val (.long v4), .second, .val (.long v8), .second, .val (.long v10), .second, .val (.double r29), .second, .unset, .unset, .val (.long r98), .second, .val (.long v122), .second, .val (.long v107), .second, .val (.long v109), .second, .unset, .unset]
        refine Go.st (S' := T97.setTop (mkF m 109 A149 [])) (fun t k => XS.lstore X97.here hx rfl (hb hby at_107) rfl (l' := A149) rfl k) ?_
        exact J146 (v122) (Or.inl ⟨hc147, rfl⟩)
      · refine Go.st (S' := T97.setTop (mkF m 86 A110 [])) (fun t k => XS.ifNo X97.here hx rfl (hb hby at_83) rfl ((if0 _ _).trans (flt (by rw [hv111]; exact fun z => hc147 ((lw_gt _ _).1 z))).2.2.1) k) ?_
        refine Go.st (S' := T97.setTop (mkF m 88 A110 [(.long v107)])) (fun t k => XS.lload X97.here hx rfl (hb hby at_86) rfl k) ?_
        refine Go.st (S' := T97.setTop (mkF m 90 A110 [(.long v109), (.long v107)])) (fun t k => XS.lload X97.here hx rfl (hb hby at_88) rfl k) ?_
        refine Go.op (F := fun z => T97.setTop (mkF m 91 A110 [(.int z)])) (x := (lcmpW v107 v109)) (fun t k => XS.lcmp X97.here hx rfl (hb hby at_90) rfl k) ?_
        intro v150 hv150
        obtain rfl : v111 = v150 := hv111.trans hv150.symm
        by_cases hc151 : (v107 = v109)
        · refine Go.st (S' := T97.setTop (mkF m 94 A110 [])) (fun t k => XS.ifNo X97.here hx rfl (hb hby at_91) rfl ((if0 _ _).trans (teq (by rw [hv111]; exact (lw_eq _ _).2 hc151)).2) k) ?_
          refine Go.st (S' := T97.setTop (mkF m 96 A110 [(.long v103)])) (fun t k => XS.lload X97.here hx rfl (hb hby at_94) rfl k) ?_
          refine Go.st (S' := T97.setTop (mkF m 97 A110 [(.long (1 : Int64)), (.long v103)])) (fun t k => XS.lconst X97.here hx rfl (hb hby at_96) k) ?_
          refine Go.op (F := fun z => T97.setTop (mkF m 98 A110 [(.long z)])) (x := (v103 &&& (1 : Int64))) (fun t k => XS.land X97.here hx rfl (hb hby at_97) rfl k) ?_
          intro v152 hv152
          obtain rfl : v123 = v152 := hv123.trans hv152.symm
          refine Go.st (S' := T97.setTop (mkF m 99 A110 [(.long (0 : Int64)), (.long v123)])) (fun t k => XS.lconst X97.here hx rfl (hb hby at_98) k) ?_
          refine Go.op (F := fun z => T97.setTop (mkF m 100 A110 [(.int z)])) (x := (lcmpW v123 (0 : Int64))) (fun t k => XS.lcmp X97.here hx rfl (hb hby at_99) rfl k) ?_
          intro v153 hv153
          obtain rfl : v124 = v153 := hv124.trans hv153.symm
          by_cases hc154 : (v123 = (0 : Int64))
          · refine Go.st (S' := T97.setTop (mkF m 109 A110 [])) (fun t k => XS.ifYes X97.here hx rfl (pc0 := 100) (pc' := 109) rfl (hb hby at_100) rfl ((if0 _ _).trans (teq (by rw [hv124]; exact (lw_eq _ _).2 hc154)).1) (by decide) (by decide) k) ?_
            exact J146 (v103) (Or.inr (Or.inl ⟨hc147, hc151, hc154, rfl⟩))
          · refine Go.st (S' := T97.setTop (mkF m 103 A110 [])) (fun t k => XS.ifNo X97.here hx rfl (hb hby at_100) rfl ((if0 _ _).trans (feq (by rw [hv124]; exact fun z => hc154 ((lw_eq _ _).1 z))).1) k) ?_
            refine Go.st (S' := T97.setTop (mkF m 105 A110 [(.long v103)])) (fun t k => XS.lload X97.here hx rfl (hb hby at_103) rfl k) ?_
            refine Go.st (S' := T97.setTop (mkF m 106 A110 [(.long (1 : Int64)), (.long v103)])) (fun t k => XS.lconst X97.here hx rfl (hb hby at_105) k) ?_
            refine Go.op (F := fun z => T97.setTop (mkF m 107 A110 [(.long z)])) (x := (v103 + (1 : Int64))) (fun t k => XS.ladd X97.here hx rfl (hb hby at_106) rfl k) ?_
            intro v155 hv155
            obtain rfl : v122 = v155 := hv122.trans hv155.symm
            let A156 : Array Slot := #[.val (.int p0), .val (.int p1), .val (.long v4), .second, .val (.long v8), .second, .val (.long v10), .second, .val (.double r29), .second, .unset, .unset, .val (.long r98), .second, .val (.long v122), .second, .val (.long v107), .second, .val (.long v109), .second, .unset, .unset]
            refine Go.st (S' := T97.setTop (mkF m 109 A156 [])) (fun t k => XS.lstore X97.here hx rfl (hb hby at_107) rfl (l' := A156) rfl k) ?_
            exact J146 (v122) (Or.inr (Or.inr (Or.inl ⟨hc147, hc151, hc154, rfl⟩)))
        · refine Go.st (S' := T97.setTop (mkF m 109 A110 [])) (fun t k => XS.ifYes X97.here hx rfl (pc0 := 91) (pc' := 109) rfl (hb hby at_91) rfl ((if0 _ _).trans (feq (by rw [hv111]; exact fun z => hc151 ((lw_eq _ _).1 z))).2) (by decide) (by decide) k) ?_
          exact J146 (v103) (Or.inr (Or.inr (Or.inr ⟨hc147, hc151, rfl⟩)))
set_option maxRecDepth 65536 in
set_option maxHeartbeats 40000000 in
theorem comes_1 {Post : Tables → Env → Array Value → State → Outcome → State → Prop} (hpost : ∀ tb e args s v u, (limb_1_1.after args s (.returned v) u = true ∧ limb_1_2.after args s (.returned v) u = true ∧ True) → FrameEnd s (.returned v) u (Jvm.fieldLocs frame_1_writes args s ++ Jvm.arrayLocs frame_1_arrays args s ++ Jvm.staticLocs frame_1_statics s) 0 0 → Post tb e args s (.returned v) u) :
    ArmFor flags0 classFile x code maxLocals ret World_1 tables_1 room_1 Calls_1 rest_1 Pre_1 Post := by
  intro l hfl _ _ p e ha hc hk s m args below hf hA hF happ hP
  obtain ⟨hcalls, hrest, hpre⟩ := hP
  obtain ⟨-, -, -, hnamed, -, -, -, hat⟩ := (Spec.applies_iff hf).mp happ
  obtain ⟨hg, hn⟩ := and_e (Cond.before_iff.mp (show (Jvm.Cond.and given_1 narrow_1).before args s = true from hpre))
  obtain ⟨h1, h2⟩ := and_e hg
  obtain ⟨w0, w1, rfl⟩ : ∃ w0 w1 : Value, args = #[w0, w1] := by
    have hs : args.size = 2 := by simpa [Cond.value, given_1] using h1
    obtain ⟨L⟩ := args
    match L, hs with
    | [w0, w1], _ => exact ⟨w0, w1, rfl⟩
  have hw := fun d (hd : d ∈ tables_1) => atoms_spec (ws := Jvm.Cond.code x code maxLocals ret :: tables_1) hat d (List.mem_cons_of_mem _ hd)
  have hfit : Fit s := fun {y c} hc i hi => by
    obtain ⟨ha, rfl⟩ := Array.getElem?_eq_some_iff.mp hc
    have q := List.all_eq_true.mp ((Array.all_eq_true_iff_forall_mem.mp hF) _ (Array.getElem_mem ha)) i (List.mem_range.mpr hi)
    simpa [Array.getElem?_eq_getElem hi] using q
  obtain ⟨q0, h2_0⟩ := and_e h2
  obtain ⟨i0, ee0⟩ := is_v q0
  obtain rfl : w0 = (.int i0) := Option.some.inj ee0
  obtain ⟨i1, ee1⟩ := is_v h2_0
  obtain rfl : w1 = (.int i1) := Option.some.inj ee1
  obtain ⟨n, o, h1, h2, h3, _, L, rfl, ⟨rfl, N⟩, hq⟩ := rm4 l s _ hw tables_1 i0 i1 s.heap s.heap.size (Nat.le_refl _)  p e ha hc hk s m _ below hf ((Spec.applies_iff_loose hf).mp happ).1 ⟨rfl, State.Warmed39.refl s, rfl⟩ trivial
  refine ⟨n, _, h1, h2, h3, hpost _ _ _ _ _ _ ⟨Cond.after_iff.mpr rfl, Cond.after_iff.mpr (eq_i res_at (Term.int_eval (1)) rfl), trivial⟩ ⟨hq.1, hq.2.1, (hq.2.2.sift fun y hy => Or.inr (N y hy)).mono (by decide) (by decide)⟩⟩
theorem main_1_1 : Claimed_1_1 := comes_1 fun _ _ _ _ _ _ h hF => ⟨h.1, hF⟩
theorem main_1_2 : Claimed_1_2 := comes_1 fun _ _ _ _ _ _ h hF => ⟨h.2.1, hF⟩
end Jvm.Pilot.@@N@@
namespace Jvm.Pilot.@@N@@
open Jvm Jvm.ClassFile Sem Op Lib Jvm.Free Jvm.Stand Jvm.Pilot.@@N@@.Jvm.D
/-! MADE BY PROGRAM (witnessworld.py) out of the Statement's table words and the real class files: 15 classes; the members and pool entries that the words name. The judged class is class 1, her method 1. -/
namespace start1
open Jvm.ClassFile
def u (s : String) : CpInfo := .utf8 (stringToUtf16 s)
/-- a pool by its gaps: so many unusable entries, then the entry; so many at the end -/
def gap : Nat → List CpInfo → List CpInfo
  | 0, r => r
  | n + 1, r => .unusable :: gap n r
def poolList (es : List (Nat × CpInfo)) (last : Nat) : List CpInfo := es.foldr (fun e r => gap e.1 (e.2 :: r)) (gap last [])
def pool (es : List (Nat × CpInfo)) (last : Nat) : Array CpInfo := ⟨poolList es last⟩
def fileOf (pool : Array CpInfo) (this : Nat) (attrs : Array Attribute := #[]) (ms : Array MethodInfo := #[]) (fl : Nat := 33) (sup : Nat := 0) (ifs : Array Nat := #[]) (fds : Array FieldInfo := #[]) : ClassFile where
  minorVersion := 0
  majorVersion := 65
  constantPool := pool
  accessFlags := fl
  thisClass := this
  superClass := sup
  interfaces := ifs
  fields := fds
  methods := ms
  attributes := attrs
def plain (name : String) (sup : Option ClassId) : Class where
  name := name
  kind := .ordinary
  loader := none
  accessFlags := 33
  super := sup
  interfaces := #[]
  cf := none
  fields := #[]
  methods := #[]
  instanceTypes := #[]
  staticTypes := #[]
  resolved := #[]
  callSites := []
  init := .initialized
  statics := none
  mirror := none

def pool0 : Array CpInfo := pool [(5, u "<init>"), (0, u "()V"), (1, .class_ 10), (1, u "java/lang/Object")] 113

def k0m0 : Method := { name := "<init>", desc := "()V", sig := { parameters := [], returnType := none }, accessFlags := 1, code := none }
/-- java/lang/Object -/
def k0 : Class := { plain "java/lang/Object" none with
  accessFlags := 33
  interfaces := #[]
  cf := some (fileOf pool0 8 #[] #[{ accessFlags := 1, nameIndex := 5, descriptorIndex := 6, attributes := #[] }] 33 0 #[] #[])
  fields := #[]
  methods := #[k0m0]
  instanceTypes := #[]
  staticTypes := #[]
  resolved := Array.replicate 124 none
  statics := none }

def pool1 : Array CpInfo := pool [(2, .class_ 4), (1, u "java/lang/Object"), (0, u "<init>"), (0, u "()V"), (0, .integer 268435455), (0, .methodref 9 10), (0, .class_ 11), (0, .nameAndType 12 13), (0, u "com/example/signbound/signbound/arith/RootClasses"), (0, u "productUp"), (0, u "(DD)D"), (0, .long 9007199254740992), (1, .methodref 17 18), (0, .class_ 19), (0, .nameAndType 20 21), (0, u "com/example/signbound/signbound/arith/RootClassesProductUpPinLaw"), (0, u "ulpAt"), (0, u "(J)J"), (0, .long 2), (1, .long 18014398509481984), (1, .long 36028797018963968), (1, .long 4), (1, .long 72057594037927936), (1, .long 8), (1, .long 16), (3, u "law"), (0, u "(II)Z")] 3

def k1m0 : Method := { name := "<init>", desc := "()V", sig := { parameters := [], returnType := none }, accessFlags := 1, code := none }
def k1c1 : Code := { maxStack := 4, maxLocals := 22, code := code, exceptionTable := #[], attributes := #[] }
def k1m1 : Method := { name := "law", desc := "(II)Z", sig := { parameters := [.int, .int], returnType := some .boolean }, accessFlags := 9, code := some k1c1 }
def k1c2 : Code := { maxStack := 4, maxLocals := 2, code := method_3_code, exceptionTable := #[], attributes := #[] }
def k1m2 : Method := { name := "ulpAt", desc := "(J)J", sig := { parameters := [.long], returnType := some .long }, accessFlags := 10, code := some k1c2 }
/-- com/example/signbound/signbound/arith/RootClassesProductUpPinLaw -/
def k1 : Class := { plain "com/example/signbound/signbound/arith/RootClassesProductUpPinLaw" (some 0) with
  accessFlags := 49
  interfaces := #[]
  cf := some (fileOf pool1 17 #[] #[{ accessFlags := 1, nameIndex := 5, descriptorIndex := 6, attributes := #[] }, { accessFlags := 9, nameIndex := 38, descriptorIndex := 39, attributes := #[] }, { accessFlags := 10, nameIndex := 20, descriptorIndex := 21, attributes := #[] }] 49 2 #[] #[])
  fields := #[]
  methods := #[k1m0, k1m1, k1m2]
  instanceTypes := #[]
  staticTypes := #[]
  resolved := Array.replicate 43 none
  statics := none }

def pool2 : Array CpInfo := pool [(2, .class_ 4), (1, u "java/lang/Object"), (0, u "<init>"), (0, u "()V"), (4, .class_ 13), (1, u "com/example/signbound/signbound/arith/RootClasses"), (0, u "base"), (0, u "Ljava/util/List;"), (2, u "components"), (2, u "inFull"), (0, u "D"), (92, u "productUp"), (0, u "(DD)D"), (27, .class_ 146), (1, u "com/example/signbound/signbound/arith/RootClasses$Power"), (16, .class_ 165), (1, u "com/example/signbound/signbound/arith/RootClasses$Division"), (86, .double 4845873199050653696), (1, .methodref 255 256), (0, .class_ 257), (0, .nameAndType 258 259), (0, u "java/lang/Math"), (0, u "nextUp"), (0, u "(D)D"), (0, u "MAX_EXACT_DEGREE"), (1, u "MAX_BITS"), (0, u "I"), (1, u "MAX_BASE")] 34

def k2m0 : Method := { name := "<init>", desc := "()V", sig := { parameters := [], returnType := none }, accessFlags := 1, code := none }
def k2c1 : Code := { maxStack := 4, maxLocals := 6, code := prog_8_method_15_code, exceptionTable := #[], attributes := #[] }
def k2m1 : Method := { name := "productUp", desc := "(DD)D", sig := { parameters := [.double, .double], returnType := some .double }, accessFlags := 8, code := some k2c1 }
/-- com/example/signbound/signbound/arith/RootClasses -/
def k2 : Class := { plain "com/example/signbound/signbound/arith/RootClasses" (some 0) with
  accessFlags := 49
  interfaces := #[]
  cf := some (fileOf pool2 11 #[.nestMembers #[144, 163]] #[{ accessFlags := 1, nameIndex := 5, descriptorIndex := 6, attributes := #[] }, { accessFlags := 8, nameIndex := 115, descriptorIndex := 116, attributes := #[] }] 49 2 #[] #[{ accessFlags := 24, nameIndex := 260, descriptorIndex := 22, attributes := #[] }, { accessFlags := 24, nameIndex := 262, descriptorIndex := 263, attributes := #[] }, { accessFlags := 24, nameIndex := 265, descriptorIndex := 263, attributes := #[] }, { accessFlags := 18, nameIndex := 14, descriptorIndex := 15, attributes := #[] }, { accessFlags := 18, nameIndex := 18, descriptorIndex := 15, attributes := #[] }, { accessFlags := 2, nameIndex := 21, descriptorIndex := 22, attributes := #[] }])
  fields := #[{ name := "MAX_EXACT_DEGREE", type := .double, accessFlags := 24, slot := 0, constantValue := 0 }, { name := "MAX_BITS", type := .int, accessFlags := 24, slot := 1, constantValue := 0 }, { name := "MAX_BASE", type := .int, accessFlags := 24, slot := 2, constantValue := 0 }, { name := "base", type := (.object "java/util/List"), accessFlags := 18, slot := 0, constantValue := 0 }, { name := "components", type := (.object "java/util/List"), accessFlags := 18, slot := 1, constantValue := 0 }, { name := "inFull", type := .double, accessFlags := 2, slot := 2, constantValue := 0 }]
  methods := #[k2m0, k2m1]
  instanceTypes := #[(.object "java/util/List"), (.object "java/util/List"), .double]
  staticTypes := #[.double, .int, .int]
  resolved := Array.replicate 300 none
  statics := none }

def pool3 : Array CpInfo := pool [(1, .class_ 2), (0, u "java/lang/Math"), (1, .class_ 6), (1, u "java/lang/Object"), (0, u "<init>"), (0, u "()V"), (5, u "(D)D"), (64, .methodref 80 81), (0, .class_ 82), (0, .nameAndType 83 84), (0, u "java/lang/Double"), (0, u "doubleToRawLongBits"), (0, u "(D)J"), (13, .class_ 100), (1, u "java/lang/Math$RandomNumberGeneratorHolder"), (65, .methodref 80 167), (0, .nameAndType 168 169), (0, u "longBitsToDouble"), (0, u "(J)D"), (2, u "negativeZeroFloatBits"), (0, u "J"), (2, u "negativeZeroDoubleBits"), (68, u "$assertionsDisabled"), (0, u "Z"), (80, .double 9218868437227405312), (10, u "twoToTheDoubleScaleDown"), (0, u "D"), (4, u "twoToTheDoubleScaleUp"), (9, u "E"), (3, u "PI"), (2, u "TAU"), (2, u "DEGREES_TO_RADIANS"), (0, u "RADIANS_TO_DEGREES"), (77, u "nextUp")] 16

def k3m0 : Method := { name := "<init>", desc := "()V", sig := { parameters := [], returnType := none }, accessFlags := 2, code := none }
def k3c1 : Code := { maxStack := 6, maxLocals := 4, code := jdk_29_method_95_code, exceptionTable := #[], attributes := #[] }
def k3m1 : Method := { name := "nextUp", desc := "(D)D", sig := { parameters := [.double], returnType := some .double }, accessFlags := 9, code := some k3c1 }
/-- java/lang/Math -/
def k3 : Class := { plain "java/lang/Math" (some 0) with
  accessFlags := 49
  interfaces := #[]
  cf := some (fileOf pool3 1 #[.nestMembers #[98]] #[{ accessFlags := 2, nameIndex := 7, descriptorIndex := 8, attributes := #[] }, { accessFlags := 9, nameIndex := 443, descriptorIndex := 14, attributes := #[] }] 49 4 #[] #[{ accessFlags := 25, nameIndex := 354, descriptorIndex := 339, attributes := #[] }, { accessFlags := 25, nameIndex := 358, descriptorIndex := 339, attributes := #[] }, { accessFlags := 25, nameIndex := 361, descriptorIndex := 339, attributes := #[] }, { accessFlags := 26, nameIndex := 364, descriptorIndex := 339, attributes := #[] }, { accessFlags := 26, nameIndex := 365, descriptorIndex := 339, attributes := #[] }, { accessFlags := 26, nameIndex := 172, descriptorIndex := 173, attributes := #[] }, { accessFlags := 26, nameIndex := 176, descriptorIndex := 173, attributes := #[] }, { accessFlags := 8, nameIndex := 344, descriptorIndex := 339, attributes := #[] }, { accessFlags := 8, nameIndex := 338, descriptorIndex := 339, attributes := #[] }, { accessFlags := 4120, nameIndex := 245, descriptorIndex := 246, attributes := #[] }])
  fields := #[{ name := "E", type := .double, accessFlags := 25, slot := 0, constantValue := 0 }, { name := "PI", type := .double, accessFlags := 25, slot := 1, constantValue := 0 }, { name := "TAU", type := .double, accessFlags := 25, slot := 2, constantValue := 0 }, { name := "DEGREES_TO_RADIANS", type := .double, accessFlags := 26, slot := 3, constantValue := 0 }, { name := "RADIANS_TO_DEGREES", type := .double, accessFlags := 26, slot := 4, constantValue := 0 }, { name := "negativeZeroFloatBits", type := .long, accessFlags := 26, slot := 5, constantValue := 0 }, { name := "negativeZeroDoubleBits", type := .long, accessFlags := 26, slot := 6, constantValue := 0 }, { name := "twoToTheDoubleScaleUp", type := .double, accessFlags := 8, slot := 7, constantValue := 0 }, { name := "twoToTheDoubleScaleDown", type := .double, accessFlags := 8, slot := 8, constantValue := 0 }, { name := "$assertionsDisabled", type := .boolean, accessFlags := 4120, slot := 9, constantValue := 0 }]
  methods := #[k3m0, k3m1]
  instanceTypes := #[]
  staticTypes := #[.double, .double, .double, .double, .double, .long, .long, .double, .double, .boolean]
  resolved := Array.replicate 460 none
  statics := none }

def pool4 : Array CpInfo := pool [(1, .class_ 2), (0, u "java/io/Serializable"), (0, .class_ 4), (0, u "java/lang/Object")] 2

/-- java/io/Serializable -/
def k4 : Class := { plain "java/io/Serializable" (some 0) with
  accessFlags := 1537
  interfaces := #[]
  cf := some (fileOf pool4 1 #[] #[] 1537 3 #[] #[])
  fields := #[]
  methods := #[]
  instanceTypes := #[]
  staticTypes := #[]
  resolved := Array.replicate 7 none
  statics := none }

def pool5 : Array CpInfo := pool [(2, .class_ 4), (1, u "java/lang/Object"), (0, u "<init>"), (0, u "()V"), (1, .class_ 10), (1, u "java/lang/Number"), (2, .class_ 14), (0, u "java/io/Serializable"), (0, u "serialVersionUID"), (0, u "J")] 20

def k5m0 : Method := { name := "<init>", desc := "()V", sig := { parameters := [], returnType := none }, accessFlags := 1, code := none }
/-- java/lang/Number -/
def k5 : Class := { plain "java/lang/Number" (some 0) with
  accessFlags := 1057
  interfaces := #[4]
  cf := some (fileOf pool5 8 #[] #[{ accessFlags := 1, nameIndex := 5, descriptorIndex := 6, attributes := #[] }] 1057 2 #[13] #[{ accessFlags := 26, nameIndex := 15, descriptorIndex := 16, attributes := #[] }])
  fields := #[{ name := "serialVersionUID", type := .long, accessFlags := 26, slot := 0, constantValue := 0 }]
  methods := #[k5m0]
  instanceTypes := #[]
  staticTypes := #[.long]
  resolved := Array.replicate 37 none
  statics := none }

def pool6 : Array CpInfo := pool [(1, .class_ 2), (0, u "java/lang/Comparable"), (0, .class_ 4), (0, u "java/lang/Object")] 7

/-- java/lang/Comparable -/
def k6 : Class := { plain "java/lang/Comparable" (some 0) with
  accessFlags := 1537
  interfaces := #[]
  cf := some (fileOf pool6 1 #[] #[] 1537 3 #[] #[])
  fields := #[]
  methods := #[]
  instanceTypes := #[]
  staticTypes := #[]
  resolved := Array.replicate 12 none
  statics := none }

def pool7 : Array CpInfo := pool [(1, .class_ 2), (0, u "java/lang/constant/Constable"), (0, .class_ 4), (0, u "java/lang/Object")] 6

/-- java/lang/constant/Constable -/
def k7 : Class := { plain "java/lang/constant/Constable" (some 0) with
  accessFlags := 1537
  interfaces := #[]
  cf := some (fileOf pool7 1 #[] #[] 1537 3 #[] #[])
  fields := #[]
  methods := #[]
  instanceTypes := #[]
  staticTypes := #[]
  resolved := Array.replicate 11 none
  statics := none }

def pool8 : Array CpInfo := pool [(1, .class_ 2), (0, u "java/lang/constant/ConstantDesc"), (0, .class_ 4), (0, u "java/lang/Object")] 32

/-- java/lang/constant/ConstantDesc -/
def k8 : Class := { plain "java/lang/constant/ConstantDesc" (some 0) with
  accessFlags := 1537
  interfaces := #[]
  cf := some (fileOf pool8 1 #[] #[] 1537 3 #[] #[])
  fields := #[]
  methods := #[]
  instanceTypes := #[]
  staticTypes := #[]
  resolved := Array.replicate 37 none
  statics := none }

def pool9 : Array CpInfo := pool [(1, .class_ 2), (0, u "java/lang/Double"), (46, u "(D)J"), (64, .class_ 116), (1, u "java/lang/Number"), (3, u "value"), (0, u "D"), (14, u "doubleToRawLongBits"), (36, u "TYPE"), (0, u "Ljava/lang/Class;"), (0, .class_ 176), (0, u "java/lang/Comparable"), (0, .class_ 178), (0, u "java/lang/constant/Constable"), (0, .class_ 180), (0, u "java/lang/constant/ConstantDesc"), (0, u "POSITIVE_INFINITY"), (3, u "NEGATIVE_INFINITY"), (2, u "NaN"), (2, u "MAX_VALUE"), (0, u "MIN_NORMAL"), (0, u "MIN_VALUE"), (2, u "SIZE"), (0, u "I"), (1, u "PRECISION"), (1, u "MAX_EXPONENT"), (1, u "MIN_EXPONENT"), (1, u "BYTES"), (3, u "serialVersionUID"), (0, u "J"), (48, u "longBitsToDouble"), (0, u "(J)D")] 29

def k9m0 : Method := { name := "doubleToRawLongBits", desc := "(D)J", sig := { parameters := [.double], returnType := some .long }, accessFlags := 265, code := none }
def k9m1 : Method := { name := "longBitsToDouble", desc := "(J)D", sig := { parameters := [.long], returnType := some .double }, accessFlags := 265, code := none }
/-- java/lang/Double -/
def k9 : Class := { plain "java/lang/Double" (some 5) with
  accessFlags := 49
  interfaces := #[6, 7, 8]
  cf := some (fileOf pool9 1 #[] #[{ accessFlags := 265, nameIndex := 136, descriptorIndex := 49, attributes := #[] }, { accessFlags := 265, nameIndex := 259, descriptorIndex := 260, attributes := #[] }] 49 114 #[175, 177, 179] #[{ accessFlags := 25, nameIndex := 181, descriptorIndex := 121, attributes := #[] }, { accessFlags := 25, nameIndex := 185, descriptorIndex := 121, attributes := #[] }, { accessFlags := 25, nameIndex := 188, descriptorIndex := 121, attributes := #[] }, { accessFlags := 25, nameIndex := 191, descriptorIndex := 121, attributes := #[] }, { accessFlags := 25, nameIndex := 192, descriptorIndex := 121, attributes := #[] }, { accessFlags := 25, nameIndex := 193, descriptorIndex := 121, attributes := #[] }, { accessFlags := 25, nameIndex := 196, descriptorIndex := 197, attributes := #[] }, { accessFlags := 25, nameIndex := 199, descriptorIndex := 197, attributes := #[] }, { accessFlags := 25, nameIndex := 201, descriptorIndex := 197, attributes := #[] }, { accessFlags := 25, nameIndex := 203, descriptorIndex := 197, attributes := #[] }, { accessFlags := 25, nameIndex := 205, descriptorIndex := 197, attributes := #[] }, { accessFlags := 25, nameIndex := 173, descriptorIndex := 174, attributes := #[] }, { accessFlags := 18, nameIndex := 120, descriptorIndex := 121, attributes := #[] }, { accessFlags := 26, nameIndex := 209, descriptorIndex := 210, attributes := #[] }])
  fields := #[{ name := "POSITIVE_INFINITY", type := .double, accessFlags := 25, slot := 0, constantValue := 0 }, { name := "NEGATIVE_INFINITY", type := .double, accessFlags := 25, slot := 1, constantValue := 0 }, { name := "NaN", type := .double, accessFlags := 25, slot := 2, constantValue := 0 }, { name := "MAX_VALUE", type := .double, accessFlags := 25, slot := 3, constantValue := 0 }, { name := "MIN_NORMAL", type := .double, accessFlags := 25, slot := 4, constantValue := 0 }, { name := "MIN_VALUE", type := .double, accessFlags := 25, slot := 5, constantValue := 0 }, { name := "SIZE", type := .int, accessFlags := 25, slot := 6, constantValue := 0 }, { name := "PRECISION", type := .int, accessFlags := 25, slot := 7, constantValue := 0 }, { name := "MAX_EXPONENT", type := .int, accessFlags := 25, slot := 8, constantValue := 0 }, { name := "MIN_EXPONENT", type := .int, accessFlags := 25, slot := 9, constantValue := 0 }, { name := "BYTES", type := .int, accessFlags := 25, slot := 10, constantValue := 0 }, { name := "TYPE", type := (.object "java/lang/Class"), accessFlags := 25, slot := 11, constantValue := 0 }, { name := "value", type := .double, accessFlags := 18, slot := 0, constantValue := 0 }, { name := "serialVersionUID", type := .long, accessFlags := 26, slot := 12, constantValue := 0 }]
  methods := #[k9m0, k9m1]
  instanceTypes := #[.double]
  staticTypes := #[.double, .double, .double, .double, .double, .double, .int, .int, .int, .int, .int, (.object "java/lang/Class"), .long]
  resolved := Array.replicate 290 none
  statics := none }

def pool10 : Array CpInfo := pool [(1, u "java/lang/Cloneable"), (0, .class_ 1), (0, u "java/lang/Object"), (0, .class_ 3)] 3

/-- java/lang/Cloneable -/
def k10 : Class := { plain "java/lang/Cloneable" (some 0) with
  accessFlags := 1537
  interfaces := #[]
  cf := some (fileOf pool10 2 #[] #[] 1537 4 #[] #[])
  fields := #[]
  methods := #[]
  instanceTypes := #[]
  staticTypes := #[]
  resolved := Array.replicate 8 none
  statics := none }

/-- the primitive byte -/
def k11 : Class := { plain "byte" none with kind := .primitive 'B', accessFlags := 0x411 }
/-- [B -/
def k12 : Class := { plain "[B" (some 0) with kind := .array 11 .byte, interfaces := #[10, 4], accessFlags := 1041 }

/-- the primitive int -/
def k13 : Class := { plain "int" none with kind := .primitive 'I', accessFlags := 0x411 }
/-- [I -/
def k14 : Class := { plain "[I" (some 0) with kind := .array 13 .int, interfaces := #[10, 4], accessFlags := 1041 }

def heap : Heap := #[]
def classes : Array Class := #[k0, k1, k2, k3, k4, k5, k6, k7, k8, k9, k10, k11, k12, k13, k14]
def interned : List (Array UInt16 × Addr) := []
def slotsUsed : Nat := 0
def theMethod : MethodId := ⟨1, 1⟩
def args0 : Array Value := #[.int 5, .int 3]
def aboutOver (below : List Frame) : State where
  vm := { classes := classes, interned := interned.toArray }
  heap := heap
  slotsUsed := slotsUsed
  threads := #[{ frames := .invoking theMethod args0 :: below }]
def below0 : List Frame := [.native { method := ⟨0, 0⟩, args := #[] }]
def about1 : State := aboutOver below0
def p0 : Program := .bare "" "" ""
def e0 : Env := launch0.env 0 0 0
theorem w_frames : about1.frames = Frame.invoking theMethod args0 :: below0 := rfl
set_option maxRecDepth 65536 in
theorem w_args : argsFit about1.vm theMethod args0 = true := by decide +kernel
set_option maxRecDepth 65536 in
theorem w_heap : heapFits about1 = true := by decide +kernel
set_option maxRecDepth 65536 in
theorem w_runnable : about1.curStatus? = some .runnable := by decide +kernel
set_option maxRecDepth 65536 in
theorem w_alone : about1.alone = true := by decide +kernel
set_option maxRecDepth 65536 in
theorem w_named : about1.methodNamed? x = some theMethod := by decide +kernel
set_option maxRecDepth 65536 in
theorem w_hears : about1.hears theMethod below0 = true := by decide +kernel
set_option maxRecDepth 65536 in
theorem w_ripe : about1.ripe theMethod args0 below0 = true := by decide +kernel
theorem w_running : about1.status = .running := rfl
set_option maxRecDepth 65536 in
theorem w_room : about1.hasRoom e0.platform room_1 = true :=
  launch0.hasRoom_least _ room_1 (by decide +kernel) (by decide +kernel) (by decide +kernel) (by decide +kernel) (by decide +kernel) (by decide +kernel)
theorem allAtoms_all (ts : List Jvm.Cond) (a : Array Jvm.Value) (st : Jvm.State) : (allAtoms ts).before a st = ts.all (fun c => c.before a st) := by
  induction ts with
  | nil => rfl
  | cons c t ih =>
    show (Jvm.Cond.and c (allAtoms t)).before a st = _
    rw [Jvm.Cond.before_and, ih, List.all_cons]
def words1 : List Jvm.Cond := Jvm.Cond.code x code maxLocals ret :: tables_1
/-- a 'code' word, met by the world's own term for the bytes: nothing is compared byte by byte -/
theorem code_word {y : MethodName} {bytes : ByteArray} {mx : Nat} {rt : Option FieldType} {a : Array Value} {s : State} {m : MethodId} {meth : Method} {c : Code} (h1 : s.methodNamed? y = some m) (h2 : s.vm.method? m = some meth) (h3 : meth.code = some c) (h4 : c.code = bytes)
    (h5 : (c.maxLocals == mx && c.exceptionTable.isEmpty && decide (c.maxStack ≤ mostOperands) && decide (meth.sig.returnType = rt) && !meth.locks && decide (parseMethodDescriptor y.desc = some meth.sig)) = true) : (Jvm.Cond.code y bytes mx rt).before a s = true := by
  simp only [Bool.and_eq_true, beq_iff_eq, Bool.not_eq_true', decide_eq_true_eq] at h5
  obtain ⟨⟨⟨⟨⟨g1, g2⟩, g3⟩, g4⟩, g5⟩, g6⟩ := h5
  simp [Cond.before, Cond.holds, Cond.value, h1, h2, h3, h4, g1, g2, g3, g4, g5, g6]
def isCode : Jvm.Cond → Bool
  | .code _ _ _ _ => true
  | _ => false
theorem all_split {L : List Jvm.Cond} {P : Jvm.Cond → Bool} (h1 : L.all (fun c => isCode c || P c) = true) (h2 : ∀ c ∈ L.filter isCode, P c = true) : L.all P = true := by
  refine List.all_eq_true.mpr fun c hc => ?_
  have h := List.all_eq_true.mp h1 c hc
  rcases Bool.eq_false_or_eq_true (isCode c) with hi | hi
  · exact h2 c (List.mem_filter.mpr ⟨hc, hi⟩)
  · simpa [hi] using h
set_option maxRecDepth 65536 in
theorem w_c0 : (Jvm.Cond.code x code maxLocals ret).before args0 about1 = true := code_word (m := ⟨1, 1⟩) (meth := k1m1) (c := k1c1) (by decide +kernel) rfl rfl rfl (by decide +kernel)
set_option maxRecDepth 65536 in
theorem w_c1 : (Jvm.Cond.code ({ cls := "com/example/signbound/signbound/arith/RootClasses", name := "productUp", desc := "(DD)D" } : Jvm.MethodName) prog_8_method_15_code (6 : Nat) (Option.some Jvm.ClassFile.FieldType.double)).before args0 about1 = true := code_word (m := ⟨2, 1⟩) (meth := k2m1) (c := k2c1) (by decide +kernel) rfl rfl rfl (by decide +kernel)
set_option maxRecDepth 65536 in
theorem w_c2 : (Jvm.Cond.code ({ cls := "java/lang/Math", name := "nextUp", desc := "(D)D" } : Jvm.MethodName) jdk_29_method_95_code (4 : Nat) (Option.some Jvm.ClassFile.FieldType.double)).before args0 about1 = true := code_word (m := ⟨3, 1⟩) (meth := k3m1) (c := k3c1) (by decide +kernel) rfl rfl rfl (by decide +kernel)
set_option maxRecDepth 65536 in
theorem w_c3 : (Jvm.Cond.code ({ cls := "com/example/signbound/signbound/arith/RootClassesProductUpPinLaw", name := "ulpAt", desc := "(J)J" } : Jvm.MethodName) method_3_code (2 : Nat) (Option.some Jvm.ClassFile.FieldType.long)).before args0 about1 = true := code_word (m := ⟨1, 2⟩) (meth := k1m2) (c := k1c2) (by decide +kernel) rfl rfl rfl (by decide +kernel)
def codes1 : List Jvm.Cond := [Jvm.Cond.code x code maxLocals ret, Jvm.Cond.code ({ cls := "com/example/signbound/signbound/arith/RootClasses", name := "productUp", desc := "(DD)D" } : Jvm.MethodName) prog_8_method_15_code (6 : Nat) (Option.some Jvm.ClassFile.FieldType.double), Jvm.Cond.code ({ cls := "java/lang/Math", name := "nextUp", desc := "(D)D" } : Jvm.MethodName) jdk_29_method_95_code (4 : Nat) (Option.some Jvm.ClassFile.FieldType.double), Jvm.Cond.code ({ cls := "com/example/signbound/signbound/arith/RootClassesProductUpPinLaw", name := "ulpAt", desc := "(J)J" } : Jvm.MethodName) method_3_code (2 : Nat) (Option.some Jvm.ClassFile.FieldType.long)]
set_option maxRecDepth 65536 in
theorem codes_eq : words1.filter isCode = codes1 := rfl
theorem w_codes : ∀ c ∈ words1.filter isCode, c.before args0 about1 = true := by
  rw [codes_eq]
  intro c hc
  simp only [codes1, List.mem_cons, List.not_mem_nil, or_false] at hc
  rcases hc with rfl | rfl | rfl | rfl
  · exact w_c0
  · exact w_c1
  · exact w_c2
  · exact w_c3
set_option maxRecDepth 65536 in
theorem w_t1 : (words1.take 24).all (fun c => isCode c || c.before args0 about1) = true := by decide +kernel
set_option maxRecDepth 65536 in
theorem w_t2 : (words1.drop 24).all (fun c => isCode c || c.before args0 about1) = true := by decide +kernel
theorem w_tables : (allAtoms (Jvm.Cond.code x code maxLocals ret :: tables_1)).before args0 about1 = true := by
  rw [allAtoms_all]
  show words1.all (fun c => c.before args0 about1) = true
  refine all_split ?_ w_codes
  rw [← List.take_append_drop 24 words1, List.all_append, w_t1, w_t2]
  rfl
set_option maxRecDepth 65536 in
theorem w_case : (Jvm.Cond.and given_1 narrow_1).before args0 about1 = true := by decide +kernel
theorem w_applies : (headSpec (Jvm.Cond.code x code maxLocals ret :: tables_1) room_1).applies x e0.platform about1 = true :=
  (Spec.applies_iff w_frames).mpr ⟨w_running, w_runnable, w_alone, w_named, w_hears, w_ripe, w_room, w_tables⟩
theorem atStart : AtStart classFile x code maxLocals ret World_1 tables_1 room_1 Calls_1 rest_1 Pre_1 launch0 p0 e0 about1 theMethod args0 below0 :=
  ⟨lists_1, trivial, launch0.admits_env _ _ _, launch0.least_env, fairChoices_fair.cas, fairChoices_fair.clock, w_frames, w_args, w_heap, w_applies, trivial, trivial, w_case⟩
end start1
theorem witness_1 : WitnessClaimed_1 := ⟨start1.p0, start1.e0, start1.about1, start1.theMethod, start1.args0, start1.below0, start1.atStart⟩
end Jvm.Pilot.@@N@@
