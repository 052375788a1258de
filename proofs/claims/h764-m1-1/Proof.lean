import JvmDerived
import JvmDerived.Pilot.@@N@@Statement
import JvmDerived.Pilot.@@N@@Code
set_option linter.unusedVariables false
set_option linter.unusedSimpArgs false
namespace Jvm.RoadKit
open Sem ClassFile Op Lib Jvm.Stand Jvm.Free Jvm.LawKit
section New
variable {p : Program} {l : Launch} {e : Env} {R : Room} {s : State} {m : MethodId} {args : Array Value} {below : List Frame} {meth : Method} {c : Code} {T : State} {locs : List Loc} {cells slots : Nat}
theorem retI (X : Stand p l e R s m args below meth c T locs cells slots) (hx : p.tables.exec = Jvm.exec) {pc : Nat} {Ls : Array Slot} {z : Int32} {rest : List Value} (hret : meth.sig.returnType = some .int) (hd : decode c.code pc = .ok (.ireturn, 1)) {fs : List Frame}
    (hl : ∀ (f : JFrame) (acts : List Action), f.method = m → f.locked = none → f.entered = [] → (doReturn e (T.setTop f) acts (some (.int z))).1 = T.setFrames fs) : Steps p.tables e below (T.setTop (mkF m pc Ls (.int z :: rest))) (T.setFrames fs) := retOut X hx hret rfl (Or.inl ⟨rfl, Or.inl rfl, _, rfl⟩) hd hl
end New
end Jvm.RoadKit
namespace Jvm.Pilot.@@N@@
open Jvm Jvm.ClassFile Sem Op Lib Jvm.Free Jvm.Stand Jvm.LawKit Jvm.RoadKit Bundle Jvm.Pilot.@@N@@.Jvm.D
section OwnKit
variable {p : Program} {l : Launch} {e : Env} {R : Room} {s : State} {m : MethodId} {args : Array Value} {below : List Frame} {meth : Method} {c : Code} {T : State} {locs : List Loc} {cells slots : Nat} {Z : State} {a0 : Array Value} {h : Heap}
def Go (p : Program) (e : Env) (below : List Frame) (Q : Outcome → State → Prop) (S : State) : Prop := ∃ s₂ o, Steps p.tables e below S s₂ ∧ s₂.status = .running ∧ Ended s₂ below o ∧ Q o s₂
theorem Go.of {Q : Outcome → State → Prop} {S : State} (k : Go p e below Q S) : ∃ s₂ o, Steps p.tables e below S s₂ ∧ s₂.status = .running ∧ Ended s₂ below o ∧ Q o s₂ := k
theorem Go.st {Q : Outcome → State → Prop} {S S' : State} (h : ∀ t, Steps p.tables e below S' t → Steps p.tables e below S t) (k : Go p e below Q S') : Go p e below Q S := by
  obtain ⟨s2, o, h1, h2⟩ := k; exact ⟨s2, o, h _ h1, h2⟩
theorem Go.op {α : Type} {Q : Outcome → State → Prop} {S : State} {F : α → State} {x : α} (h : ∀ t, Steps p.tables e below (F x) t → Steps p.tables e below S t) (k : ∀ z, z = x → Go p e below Q (F z)) : Go p e below Q S := Go.st h (k x rfl)
theorem Go.join {α : Type} {Q : Outcome → State → Prop} {S : State} (C : α → Prop) (F : α → State) (k : ∀ r, C r → Go p e below Q (F r)) (j : (∀ r, C r → Go p e below Q (F r)) → Go p e below Q S) : Go p e below Q S := j k
theorem Go.joinT {α : Type} {Q : Outcome → State → Prop} {S : State} (X : Stand p l e R s m args below meth c T locs cells slots) (eT : T.heap = h) (C : α → Prop) (F : State → α → State) (k : ∀ T', Stand p l e R s m args below meth c T' locs cells slots → T'.heap = h → ∀ r, C r → Go p e below Q (F T' r)) (j : (∀ T', Stand p l e R s m args below meth c T' locs cells slots → T'.heap = h → ∀ r, C r → Go p e below Q (F T' r)) → Go p e below Q S) : Go p e below Q S := j k
theorem Go.loop {α : Type} {Q : Outcome → State → Prop} (I : Nat → α → Prop) (F : α → State) (k0 : Nat) (x0 : α) (h0 : I k0 x0) (step : ∀ k x, I k x → (∀ k' x', k' < k → I k' x' → Go p e below Q (F x')) → Go p e below Q (F x)) : Go p e below Q (F x0) := by
  have H : ∀ k x, I k x → Go p e below Q (F x) := by
    intro k
    induction k using Nat.strongRecOn with
    | _ k ih => intro x hx; exact step k x hx fun k' x' hk hx' => ih k' hk x' hx'
  exact H k0 x0 h0
theorem Go.ret {Qn : Option Value → Heap → List Loc → Prop} {rc rs : Nat} (X : Stand p l e R s m args below meth c T locs cells slots) {v : Option Value} (hv : meth.sig.returnType = none → v = none) (hlk : meth.locks = false) {f : JFrame}
    (st : ∀ fs, (∀ (f : JFrame) (acts : List Action), f.method = m → f.locked = none → f.entered = [] → (doReturn e (T.setTop f) acts v).1 = T.setFrames fs) → Steps p.tables e below (T.setTop f) (T.setFrames fs))
    (hc : cells ≤ rc) (hs : slots ≤ rs) (hQ : Qn v T.heap locs) : Go p e below (fun o U' => ∃ v L, o = .returned v ∧ Qn v U'.heap L ∧ FrameEnd s o U' L rc rs) (T.setTop f) := by
  obtain ⟨fs, hr, hrun, hended, hW, hsame⟩ := X.leave (v := v) hv hlk
  exact ⟨_, _, st fs hr, hrun, hended, v, locs, rfl, hQ, ⟨_, rfl⟩, hW, hsame.mono hc hs⟩
abbrev Con (l : Launch) (Z : State) (y : MethodName) (bytes : ByteArray) (maxL : Nat) (ret : Option FieldType) (ws : List Jvm.Cond) (rm : Room) (as' : Array Value) (h : Heap) (rc rs : Nat) (Q : Option Value → Heap → List Loc → Prop) : Prop :=
  MetFree l y (head1 (Jvm.Cond.code y bytes maxL ret :: ws) rm) (fun a U => a = as' ∧ Z.Warmed39 U.vm ∧ U.heap = h) (fun _ _ _ _ _ => True) (fun _ U o U' => ∃ v L, o = .returned v ∧ Q v U'.heap L ∧ FrameEnd U o U' L rc rs)
theorem own_eh {a : Addr} {cl : Cell} (eT : T.heap = h) (q : h[a]? = some cl) : T.heap[a]? = some cl := by rw [eT]; exact q
theorem own_callS {own : String} {index : Nat} {y : MethodName} {bytes : ByteArray} {maxL : Nat} {ret : Option FieldType} {rm : Room} {as' : Array Value} {Q : Option Value → Heap → List Loc → Prop} {W : Nat} {g : JFrame} {argsL rest : List Value}
    (X : Stand p l e R s m args below meth c T locs cells slots) (hx : p.tables.exec = Jvm.exec) (hZ : Z.Warmed39 s.vm) (eT : T.heap = h) (hown : s.vm.findClass own = some m.cls)
    (w1 : (Jvm.Cond.methodLink own index y).before a0 Z = true) (w2 : (Jvm.Cond.static y).before a0 Z = true) (w3 : (Jvm.Cond.initialized y.cls).before a0 Z = true) (w4 : (Jvm.Cond.code y bytes maxL ret).before a0 Z = true)
    (hy : y.cls ≠ "java/lang/invoke/MethodHandle" ∧ y.cls ≠ "java/lang/invoke/VarHandle")
    (hM : Con l Z y bytes maxL ret [] rm as' h rm.cells rm.slots Q)
    (hf : rm.frames + 1 ≤ R.frames) (hl : W + (maxL + 11) + rm.locals ≤ R.locals) (hc : cells + rm.cells ≤ R.cells) (hs : slots + rm.slots ≤ R.slots)
    (hg : g.method = m) (hsize : g.locals.size = c.maxLocals) (has : argsL.toArray = as') (hlen : ∀ sig, parseMethodDescriptor y.desc = some sig → argsL.length = sig.parameters.length)
    (hstack : g.stack = argsL.reverse ++ rest) (hW : 2 * g.monitorRoom + (rest.map fun v => v.category).sum ≤ W) (hdg : decode c.code g.pc = .ok (.invokestatic index, 3)) :
    ∃ v T' L, Stand p l e R s m args below meth c T' (locs ++ L) (cells + rm.cells) (slots + rm.slots) ∧ Q v T'.heap L ∧ ∀ target, Steps p.tables e below (T'.setTop { g with pc := g.pc + 3, stack := v.toList ++ rest }) target → Steps p.tables e below (T.setTop g) target := by
  obtain ⟨v, _, ⟨T', L', k', n'⟩, -, X', ⟨L, hQ, l', y', z'⟩, st⟩ := Jvm.LawKit.callS X hx (y := y) hown (mvT hZ w1) (mvT hZ w2) (mvT hZ w3) (mvT hZ w4) hy (backOf (W := W) hM hZ w4 w3 hf hl) (g := g) hg hsize (argsL := argsL) (rest := rest) hlen hstack hW hdg (fun _ _ => ⟨has, eT, hc, hs⟩)
  dsimp only [Pt.U, Pt.locs, Pt.cells, Pt.slots] at X' l' y' z' st hQ
  subst l' y' z'
  exact ⟨v, T', L, X', hQ, st⟩
theorem own_callI {own : String} {index : Nat} {y : MethodName} {bytes : ByteArray} {maxL : Nat} {rm : Room} {as' : Array Value} {Q : Option Value → Heap → List Loc → Prop} {W : Nat} {g : JFrame} {a : Addr} {argsL rest : List Value}
    (X : Stand p l e R s m args below meth c T locs cells slots) (hx : p.tables.exec = Jvm.exec) (hZ : Z.Warmed39 s.vm) (eT : T.heap = h) (hown : s.vm.findClass own = some m.cls) (hyn : y.name = "<init>")
    (w1 : (Jvm.Cond.methodLink own index y).before a0 Z = true) (w2 : (Jvm.Cond.instanceMethod y).before a0 Z = true) (w3 : (Jvm.Cond.initialized y.cls).before a0 Z = true) (w4 : (Jvm.Cond.code y bytes maxL none).before a0 Z = true)
    (hy : y.cls ≠ "java/lang/invoke/MethodHandle" ∧ y.cls ≠ "java/lang/invoke/VarHandle")
    (hM : Con l Z y bytes maxL none [] rm as' h rm.cells rm.slots Q)
    (hf : rm.frames + 1 ≤ R.frames) (hl : W + (maxL + 11) + rm.locals ≤ R.locals) (hc : cells + rm.cells ≤ R.cells) (hs : slots + rm.slots ≤ R.slots)
    (hg : g.method = m) (hsize : g.locals.size = c.maxLocals) (has : (Value.ref a :: argsL).toArray = as') (hlen : ∀ sig, parseMethodDescriptor y.desc = some sig → argsL.length = sig.parameters.length)
    (hstack : g.stack = argsL.reverse ++ .ref a :: rest) (hW : 2 * g.monitorRoom + (rest.map fun v => v.category).sum ≤ W) (hdg : decode c.code g.pc = .ok (.invokespecial index, 3)) :
    ∃ v T' L, Stand p l e R s m args below meth c T' (locs ++ L) (cells + rm.cells) (slots + rm.slots) ∧ Q v T'.heap L ∧ ∀ target, Steps p.tables e below (T'.setTop { g with pc := g.pc + 3, stack := v.toList ++ rest }) target → Steps p.tables e below (T.setTop g) target := by
  obtain ⟨v, _, ⟨T', L', k', n'⟩, -, X', ⟨L, hQ, l', y', z'⟩, st⟩ := X.specialBack hx (y := y) hyn hown (mvT hZ w1) (mvT hZ w2) (mvT hZ w4) hy (backOf (W := W) hM hZ w4 w3 hf hl) (g := g) hg hsize (Steps.refl _) (a := a) (argsL := argsL) (rest := rest) hlen hstack hW hdg (fun _ _ => ⟨has, eT, hc, hs⟩)
  dsimp only [Pt.U, Pt.locs, Pt.cells, Pt.slots] at X' l' y' z' st hQ
  subst l' y' z'
  exact ⟨v, T', L, X', hQ, fun _ k => st.trans k⟩
theorem own_mvMN {own host : String} {index : Nat} {y : MethodName} (hZ : Z.Warmed39 s.vm) (w : (Jvm.Cond.methodLinkNest own index y host).before a0 Z = true) : (Jvm.Cond.methodLinkNest own index y host).before args s = true := (Cond.methodLinkNest_wide hZ w :)
theorem own_callN {own host : String} {index : Nat} {y : MethodName} {bytes : ByteArray} {maxL : Nat} {rm : Room} {as' : Array Value} {Q : Option Value → Heap → List Loc → Prop} {W : Nat} {g : JFrame} {a : Addr} {argsL rest : List Value}
    (X : Stand p l e R s m args below meth c T locs cells slots) (hx : p.tables.exec = Jvm.exec) (hZ : Z.Warmed39 s.vm) (eT : T.heap = h) (hown : s.vm.findClass own = some m.cls) (hyn : y.name = "<init>")
    (w1 : (Jvm.Cond.methodLinkNest own index y host).before a0 Z = true) (w2 : (Jvm.Cond.instanceMethod y).before a0 Z = true) (w3 : (Jvm.Cond.initialized y.cls).before a0 Z = true) (w4 : (Jvm.Cond.code y bytes maxL none).before a0 Z = true)
    (hy : y.cls ≠ "java/lang/invoke/MethodHandle" ∧ y.cls ≠ "java/lang/invoke/VarHandle")
    (hM : Con l Z y bytes maxL none [] rm as' h rm.cells rm.slots Q)
    (hf : rm.frames + 1 ≤ R.frames) (hl : W + (maxL + 11) + rm.locals ≤ R.locals) (hc : cells + rm.cells ≤ R.cells) (hs : slots + rm.slots ≤ R.slots)
    (hg : g.method = m) (hsize : g.locals.size = c.maxLocals) (has : (Value.ref a :: argsL).toArray = as') (hlen : ∀ sig, parseMethodDescriptor y.desc = some sig → argsL.length = sig.parameters.length)
    (hstack : g.stack = argsL.reverse ++ .ref a :: rest) (hW : 2 * g.monitorRoom + (rest.map fun v => v.category).sum ≤ W) (hdg : decode c.code g.pc = .ok (.invokespecial index, 3)) :
    ∃ v T' L, Stand p l e R s m args below meth c T' (locs ++ L) (cells + rm.cells) (slots + rm.slots) ∧ Q v T'.heap L ∧ ∀ target, Steps p.tables e below (T'.setTop { g with pc := g.pc + 3, stack := v.toList ++ rest }) target → Steps p.tables e below (T.setTop g) target := by
  obtain ⟨v, _, ⟨T', L', k', n'⟩, -, X', ⟨L, hQ, l', y', z'⟩, st⟩ := X.specialBackNest hx (y := y) hyn hown (own_mvMN hZ w1) (mvT hZ w2) (mvT hZ w4) hy (backOf (W := W) hM hZ w4 w3 hf hl) (g := g) hg hsize (Steps.refl _) (a := a) (argsL := argsL) (rest := rest) hlen hstack hW hdg (fun _ _ => ⟨has, eT, hc, hs⟩)
  dsimp only [Pt.U, Pt.locs, Pt.cells, Pt.slots] at X' l' y' z' st hQ
  subst l' y' z'
  exact ⟨v, T', L, X', hQ, fun _ k => st.trans k⟩
theorem own_callV {own C : String} {index : Nat} {y z : MethodName} {bytes : ByteArray} {maxL : Nat} {ret : Option FieldType} {rm : Room} {as' : Array Value} {Q : Option Value → Heap → List Loc → Prop} {W : Nat} {g : JFrame} {a : Addr} {argsL rest : List Value}
    (X : Stand p l e R s m args below meth c T locs cells slots) (hx : p.tables.exec = Jvm.exec) (hZ : Z.Warmed39 s.vm) (eT : T.heap = h) (hown : s.vm.findClass own = some m.cls)
    (w1 : (Jvm.Cond.methodLink own index y).before a0 Z = true) (w2 : (Jvm.Cond.declares y).before a0 Z = true) (nf : NotFace s y) (w5 : (Jvm.Cond.selects C y z).before a0 Z = true) (w6 : (Jvm.Cond.instanceMethod z).before a0 Z = true) (w3 : (Jvm.Cond.initialized z.cls).before a0 Z = true) (w4 : (Jvm.Cond.code z bytes maxL ret).before a0 Z = true)
    (hy : y.cls ≠ "java/lang/invoke/MethodHandle" ∧ y.cls ≠ "java/lang/invoke/VarHandle") (E : Exa Z h a C)
    (hM : Con l Z z bytes maxL ret [] rm as' h rm.cells rm.slots Q)
    (hf : rm.frames + 1 ≤ R.frames) (hl : W + (maxL + 11) + rm.locals ≤ R.locals) (hc : cells + rm.cells ≤ R.cells) (hs : slots + rm.slots ≤ R.slots)
    (hg : g.method = m) (hsize : g.locals.size = c.maxLocals) (has : (Value.ref a :: argsL).toArray = as') (hlen : ∀ sig, parseMethodDescriptor y.desc = some sig → argsL.length = sig.parameters.length)
    (hstack : g.stack = argsL.reverse ++ .ref a :: rest) (hW : 2 * g.monitorRoom + (rest.map fun v => v.category).sum ≤ W) (hdg : decode c.code g.pc = .ok (.invokevirtual index, 3)) :
    ∃ v T' L, Stand p l e R s m args below meth c T' (locs ++ L) (cells + rm.cells) (slots + rm.slots) ∧ Q v T'.heap L ∧ ∀ target, Steps p.tables e below (T'.setTop { g with pc := g.pc + 3, stack := v.toList ++ rest }) target → Steps p.tables e below (T.setTop g) target := by
  obtain ⟨cq, kq, qa, qb, qc⟩ := isOf hZ eT E
  obtain ⟨v, _, ⟨T', L', k', n'⟩, -, X', ⟨L, hQ, l', y', z'⟩, st⟩ := X.virtualBack hx (y := y) (z := z) hown (mvT hZ w1) (mvT hZ w2) nf (mvT hZ w5) (mvT hZ w6) hy (backOf (W := W) hM hZ w4 w3 hf hl) qa qc (g := g) hg hsize (Steps.refl _) (argsL := argsL) (rest := rest) hlen hstack hW hdg (fun _ _ => ⟨has, eT, hc, hs⟩)
  dsimp only [Pt.U, Pt.locs, Pt.cells, Pt.slots] at X' l' y' z' st hQ
  subst l' y' z'
  exact ⟨v, T', L, X', hQ, fun _ k => st.trans k⟩
theorem own_sta_keep {C n d : String} {w : Value} {h h' : Heap} {ws : List Addr} (F : Sta Z h C n d w) (K : Keep h h' ws) (q : ∀ x ∈ ws, ∃ cl : Cell, h[x]? = some cl ∧ cl.vm.isStatics = false) : Sta Z h' C n d w := by
  obtain ⟨cf, i, k, f, st, cell, h1, h2, h3, h4, h5, h6, h7⟩ := F
  refine ⟨cf, i, k, f, st, cell, h1, h2, h3, h4, K.2.1 st cell h5 fun z => ?_, h6, h7⟩
  obtain ⟨cl, q1, q2⟩ := q st z
  cases h5.symm.trans q1
  rw [h6] at q2; cases q2
theorem own_exa_plain {a : Addr} {C : String} {h : Heap} (F : Exa Z h a C) : ∃ cl : Cell, h[a]? = some cl ∧ cl.vm.isStatics = false := by
  obtain ⟨cell, k, h1, -, -, h4, -⟩ := F; exact ⟨cell, h1, h4⟩
theorem own_arv_plain {a : Addr} {k : ClassId} {ty : FieldType} {z : Int32} {vs : List Value} {dv : Value} {h : Heap} (F : Arv Z h a k ty z vs dv) : ∃ cl : Cell, h[a]? = some cl ∧ cl.vm.isStatics = false := by
  obtain ⟨cell, A, -⟩ := F; exact ⟨cell, A.1, A.plain⟩
theorem own_getR {own O n d : String} {index : Nat} {a : Addr} {v : Value} {g : JFrame} {rest : List Value} (X : Stand p l e R s m args below meth c T locs cells slots) (hx : p.tables.exec = Jvm.exec) (hZ : Z.Warmed39 s.vm) (hown : s.vm.findClass own = some m.cls)
    (w : (Jvm.Cond.fieldRef own index O n d).before a0 Z = true) (eT : T.heap = h) (F : Fld Z h a O n d v) (hg : g.method = m) (hs : g.stack = .ref a :: rest) (hd : decode c.code g.pc = .ok (.getfield index, 3)) :
    ∀ target, Steps p.tables e below (T.setTop { g with pc := g.pc + 3, stack := v :: rest }) target → Steps p.tables e below (T.setTop g) target := by
  have hU : Z.Warmed39 T.vm := wtrans hZ X.warmed
  have w2 := Cond.fieldRef_warmed39 hU w
  have hc : (Z.setVm T.vm).vm.findClass own = some m.cls := by
    show T.vm.findClass own = some m.cls
    rw [X.warmed.alike.findClass]; exact hown
  obtain ⟨c1, k1, i1, f1, hf1, hr⟩ := Cond.fieldRef_spec hc w2
  obtain ⟨cell, cf, k, i, f, h1, h2, h3, h4, -, -, h7⟩ := F
  obtain ⟨k', hi, -⟩ := State.fieldFound?_setVm (s := Z) hU.alike h2
  cases hi.symm.trans hf1
  intro t kk
  exact (X.getfieldR hx hg hr h3 hs (by rw [eT]; exact h1) h4 h7 hd (Steps.refl _)).trans kk
theorem own_callP {own C : String} {index : Nat} {y : MethodName} {bytes : ByteArray} {maxL : Nat} {ret : Option FieldType} {rm : Room} {as' : Array Value} {Q : Option Value → Heap → List Loc → Prop} {W : Nat} {g : JFrame} {a : Addr} {argsL rest : List Value}
    (X : Stand p l e R s m args below meth c T locs cells slots) (hx : p.tables.exec = Jvm.exec) (hZ : Z.Warmed39 s.vm) (eT : T.heap = h) (hown : s.vm.findClass own = some m.cls)
    (w1 : (Jvm.Cond.methodLink own index y).before a0 Z = true) (w2 : (Jvm.Cond.instanceMethod y).before a0 Z = true) (w5 : (Jvm.Cond.selects y.cls y y).before a0 Z = true) (w6 : (Jvm.Cond.privateMethod y).before a0 Z = true) (w3 : (Jvm.Cond.initialized y.cls).before a0 Z = true) (w4 : (Jvm.Cond.code y bytes maxL ret).before a0 Z = true)
    (hy : y.cls ≠ "java/lang/invoke/MethodHandle" ∧ y.cls ≠ "java/lang/invoke/VarHandle") (E : Exa Z h a C)
    (hM : Con l Z y bytes maxL ret [] rm as' h rm.cells rm.slots Q)
    (hf : rm.frames + 1 ≤ R.frames) (hl : W + (maxL + 11) + rm.locals ≤ R.locals) (hc : cells + rm.cells ≤ R.cells) (hs : slots + rm.slots ≤ R.slots)
    (hg : g.method = m) (hsize : g.locals.size = c.maxLocals) (has : (Value.ref a :: argsL).toArray = as') (hlen : ∀ sig, parseMethodDescriptor y.desc = some sig → argsL.length = sig.parameters.length)
    (hstack : g.stack = argsL.reverse ++ .ref a :: rest) (hW : 2 * g.monitorRoom + (rest.map fun v => v.category).sum ≤ W) (hdg : decode c.code g.pc = .ok (.invokevirtual index, 3)) :
    ∃ v T' L, Stand p l e R s m args below meth c T' (locs ++ L) (cells + rm.cells) (slots + rm.slots) ∧ Q v T'.heap L ∧ ∀ target, Steps p.tables e below (T'.setTop { g with pc := g.pc + 3, stack := v.toList ++ rest }) target → Steps p.tables e below (T.setTop g) target := by
  obtain ⟨cq, q1, q2⟩ := E.cell
  obtain ⟨v, _, ⟨T', L', k', n'⟩, -, X', ⟨L, hQ, l', y', z'⟩, st⟩ := X.privateBack hx (y := y) hown (mvT hZ w1) (mvT hZ w2) (mvT hZ w5) (Cond.privateMethod_at (mvP hZ w6 (args := #[]))) (mvT hZ w4) hy (backOf (W := W) hM hZ w4 w3 hf hl) (g := g) hg hsize (Steps.refl _) (a := a) (by rw [eT]; exact q1) q2 (argsL := argsL) (rest := rest) hlen hstack hW hdg (fun _ _ => ⟨has, eT, hc, hs⟩)
  dsimp only [Pt.U, Pt.locs, Pt.cells, Pt.slots] at X' l' y' z' st hQ
  subst l' y' z'
  exact ⟨v, T', L, X', hQ, fun _ k => st.trans k⟩
theorem own_callF {own C : String} {index count : Nat} {xi y : MethodName} {bytes : ByteArray} {maxL : Nat} {ret : Option FieldType} {rm : Room} {as' : Array Value} {Q : Option Value → Heap → List Loc → Prop} {W : Nat} {g : JFrame} {a : Addr} {argsL rest : List Value}
    (X : Stand p l e R s m args below meth c T locs cells slots) (hx : p.tables.exec = Jvm.exec) (hZ : Z.Warmed39 s.vm) (eT : T.heap = h) (hown : s.vm.findClass own = some m.cls)
    (w1 : (Jvm.Cond.methodLink own index xi).before a0 Z = true) (w2 : (Jvm.Cond.declares xi).before a0 Z = true) (w7 : (Jvm.Cond.interfaceMethod xi.cls xi.cls xi.name xi.desc).before args s = true) (w5 : (Jvm.Cond.selects C xi y).before a0 Z = true) (w6 : (Jvm.Cond.instanceMethod y).before a0 Z = true)
    (w8 : (Jvm.Cond.publicMethod y).before a0 Z = true) (w9 : (Jvm.Cond.unhidden C xi.name xi.desc).before a0 Z = true) (w10 : (Jvm.Cond.castable C xi.cls).before a0 Z = true) (w3 : (Jvm.Cond.initialized y.cls).before a0 Z = true) (w4 : (Jvm.Cond.code y bytes maxL ret).before a0 Z = true)
    (hy : xi.cls ≠ "java/lang/invoke/MethodHandle" ∧ xi.cls ≠ "java/lang/invoke/VarHandle") (E : Exa Z h a C)
    (hM : Con l Z y bytes maxL ret [] rm as' h rm.cells rm.slots Q)
    (hf : rm.frames + 1 ≤ R.frames) (hl : W + (maxL + 11) + rm.locals ≤ R.locals) (hc : cells + rm.cells ≤ R.cells) (hs : slots + rm.slots ≤ R.slots)
    (hg : g.method = m) (hsize : g.locals.size = c.maxLocals) (has : (Value.ref a :: argsL).toArray = as') (hlen : ∀ sig, parseMethodDescriptor xi.desc = some sig → argsL.length = sig.parameters.length)
    (hstack : g.stack = argsL.reverse ++ .ref a :: rest) (hW : 2 * g.monitorRoom + (rest.map fun v => v.category).sum ≤ W) (hdg : decode c.code g.pc = .ok (.invokeinterface index count, 5)) :
    ∃ v T' L, Stand p l e R s m args below meth c T' (locs ++ L) (cells + rm.cells) (slots + rm.slots) ∧ Q v T'.heap L ∧ ∀ target, Steps p.tables e below (T'.setTop { g with pc := g.pc + 5, stack := v.toList ++ rest }) target → Steps p.tables e below (T.setTop g) target := by
  obtain ⟨cq, kq, qa, qb, qc⟩ := isOf hZ eT E
  obtain ⟨v, _, ⟨T', L', k', n'⟩, -, X', ⟨L, hQ, l', y', z'⟩, st⟩ := X.interfaceBack hx (xi := xi) (y := y) hown (mvT hZ w1) (mvT hZ w2) w7 (mvT hZ w5) (mvT hZ w6) (mvT hZ w8) (mvT hZ w9) (mvT hZ w10) hy (backOf (W := W) hM hZ w4 w3 hf hl) qa qb qc (g := g) hg hsize (Steps.refl _) (argsL := argsL) (rest := rest) hlen hstack hW hdg (fun _ _ => ⟨has, eT, hc, hs⟩)
  dsimp only [Pt.U, Pt.locs, Pt.cells, Pt.slots] at X' l' y' z' st hQ
  subst l' y' z'
  exact ⟨v, T', L, X', hQ, fun _ k => st.trans k⟩
theorem own_ns_root {O K : String} {n : Nat} (w : (Jvm.Cond.noSuperclass O).before a0 Z = true) (wk : (Jvm.Cond.instantiable K n).before a0 Z = true) (hn : O ≠ K) : NS Z O K := by
  obtain ⟨c, k, h1, h2, h3, -, -⟩ := Cond.noSuperclass_spec w
  obtain ⟨t, kt, g1, -⟩ := Cond.instantiable_spec wk
  have ne := ids_ne h1 g1 hn
  refine ⟨c, t, h1, g1, fun fuel => ?_⟩
  cases fuel with
  | zero => rfl
  | succ f => simp [Vm.isSubclassAux, ne, h2, h3]
theorem own_ns_no {C S K : String} {n : Nat} (w : (Jvm.Cond.superclass C S).before a0 Z = true) (wk : (Jvm.Cond.instantiable K n).before a0 Z = true) (hN : NS Z C K) (hn : C ≠ K) : ∃ c t, Z.vm.findClass C = some c ∧ Z.vm.findClass K = some t ∧ Z.vm.assignable c t = false := by
  obtain ⟨c, t, h0, g0, n3⟩ := hN
  obtain ⟨p, k, kp, h1, h2, h3, h4, h5, -, h7⟩ := Cond.superclass_spec h0 w
  obtain ⟨t', kt, g1, g2, g3, g4, -⟩ := Cond.instantiable_spec wk
  cases g0.symm.trans g1
  have g7 : kt.isInterface = false := by
    cases hq : kt.isInterface
    · rfl
    · simp [hq] at g4
  have ne := ids_ne h0 g0 hn
  refine ⟨c, t, h0, g0, ?_⟩
  show Z.vm.assignableAux (255 + 1) c t = false
  simp [Vm.assignableAux, ne, h2, g2, h5, g3, g7, Vm.isSubclass, n3]
theorem own_ldcM {own C : String} {index : Nat} {mr : Addr} {g : JFrame} (X : Stand p l e R s m args below meth c T locs cells slots) (hx : p.tables.exec = Jvm.exec) (hZ : Z.Warmed39 s.vm) (hown : s.vm.findClass own = some m.cls) (w : (Jvm.Cond.classLink own index C).before a0 Z = true) (eT : T.heap = h) (M : Mir Z C mr)
    (hg : g.method = m) (hd : decode c.code g.pc = .ok (.ldc index, 2)) :
    ∃ T', Stand p l e R s m args below meth c T' locs cells slots ∧ T'.heap = h ∧ ∀ target, Steps p.tables e below (T'.setTop { g with pc := g.pc + 2, stack := .ref mr :: g.stack }) target → Steps p.tables e below (T.setTop g) target := by
  obtain ⟨cc, kc, m1, m2, m3, -⟩ := M
  obtain ⟨k', q, ek⟩ := hZ.alike.2.2 _ _ m2
  have ev : (Term.mirror C).eval args s none [] s = some (.ref mr) := by
    have h1 : s.vm.findClass C = some cc := by rw [hZ.alike.findClass]; exact m1
    have h2 : k'.mirror = some mr := by rw [ek]; exact m3
    simp [Term.eval, h1, q, h2]
  obtain ⟨vm', X', st⟩ := X.ldcMirror hx hown (mv hZ w) ev hg hd
  exact ⟨_, X', eT, st⟩
theorem own_declares {Z : State} {a0 : Array Value} {y : MethodName} {bytes : ByteArray} {maxL : Nat} {ret : Option FieldType} (w6 : (Jvm.Cond.instanceMethod y).before a0 Z = true) (w4 : (Jvm.Cond.code y bytes maxL ret).before a0 Z = true) : (Jvm.Cond.declares y).before a0 Z = true := by
  obtain ⟨mk, methM, hnamed, hmethM, hstM, habM⟩ := Cond.instanceMethod_spec w6
  obtain ⟨methM', cM, hmethM', hcodeM', -, hlocalsM, -, -, -, hsigM⟩ := Cond.code_spec hnamed w4
  cases hmethM.symm.trans hmethM'
  simp [Cond.before, Cond.value, Cond.holds, hnamed, hmethM, hstM, hsigM]
theorem own_sameM {y y' : MethodName} {C' : String} (w3 : (Jvm.Cond.instanceMethod y).before a0 Z = true) (ws : (Jvm.Cond.selects C' y' y').before a0 Z = true) (hcls : y'.cls = y.cls) (hy : y.cls ≠ "java/lang/invoke/MethodHandle" ∧ y.cls ≠ "java/lang/invoke/VarHandle") : (Jvm.Cond.sameMethod y.cls y.cls y.name y.desc).before a0 Z = true := by
  obtain ⟨mk, methM, hnamed, hmethM, hstM, habM⟩ := Cond.instanceMethod_spec w3
  obtain ⟨c2, r2, m2, q1, q2, q3, q4, kP, hkP, hkPi⟩ := Cond.selects_spec ws
  have hc := findClass_of_methodNamed hnamed
  have hc' := findClass_of_methodNamed q3
  rw [hcls] at hc'
  have e : mk.cls = m2.cls := by rw [hc] at hc'; injection hc'
  have hf := State.methodFound?_of_named hnamed hy
  have hkP' : Z.vm.classes[mk.cls]? = some kP := by rw [e]; exact hkP
  have hn' : Z.methodNamed? ⟨y.cls, y.name, y.desc⟩ = some mk := hnamed
  simp only [Cond.before, Cond.holds, Cond.value, hc, hf, hn', hkP']
  simp [hkPi]
theorem own_callU {own C C' : String} {y' : MethodName} {ret : Option FieldType} {index : Nat} {y : MethodName} {bytes : ByteArray} {maxL : Nat} {rm : Room} {as' : Array Value} {Q : Option Value → Heap → List Loc → Prop} {W : Nat} {g : JFrame} {a : Addr} {argsL rest : List Value}
    (X : Stand p l e R s m args below meth c T locs cells slots) (hx : p.tables.exec = Jvm.exec) (hZ : Z.Warmed39 s.vm) (eT : T.heap = h) (hown : s.vm.findClass own = some m.cls) (hyn : y.name ≠ "<init>") (E : Exa Z h a C)
    (w1 : (Jvm.Cond.methodLink own index y).before a0 Z = true) (w2 : (Jvm.Cond.instanceMethod y).before a0 Z = true) (wu : (Jvm.Cond.superclass own y.cls).before a0 Z = true) (ws : (Jvm.Cond.selects C' y' y').before a0 Z = true) (hcls : y'.cls = y.cls) (w3 : (Jvm.Cond.initialized y.cls).before a0 Z = true) (w4 : (Jvm.Cond.code y bytes maxL ret).before a0 Z = true)
    (hy : y.cls ≠ "java/lang/invoke/MethodHandle" ∧ y.cls ≠ "java/lang/invoke/VarHandle")
    (hM : Con l Z y bytes maxL ret [] rm as' h rm.cells rm.slots Q)
    (hf : rm.frames + 1 ≤ R.frames) (hl : W + (maxL + 11) + rm.locals ≤ R.locals) (hc : cells + rm.cells ≤ R.cells) (hs : slots + rm.slots ≤ R.slots)
    (hg : g.method = m) (hsize : g.locals.size = c.maxLocals) (has : (Value.ref a :: argsL).toArray = as') (hlen : ∀ sig, parseMethodDescriptor y.desc = some sig → argsL.length = sig.parameters.length)
    (hstack : g.stack = argsL.reverse ++ .ref a :: rest) (hW : 2 * g.monitorRoom + (rest.map fun v => v.category).sum ≤ W) (hdg : decode c.code g.pc = .ok (.invokespecial index, 3)) :
    ∃ v T' L, Stand p l e R s m args below meth c T' (locs ++ L) (cells + rm.cells) (slots + rm.slots) ∧ Q v T'.heap L ∧ ∀ target, Steps p.tables e below (T'.setTop { g with pc := g.pc + 3, stack := v.toList ++ rest }) target → Steps p.tables e below (T.setTop g) target := by
  obtain ⟨v, _, ⟨T', L', k', n'⟩, -, X', ⟨L, hQ, l', y', z'⟩, st⟩ := superBack X hx hZ (y := y) hown w1 (own_sameM w2 ws hcls hy) w2 wu hyn (backOf (W := W) hM hZ w4 w3 hf hl) eT (a := a) (Ins.self E) (g := g) hg hsize w4 (argsL := argsL) (rest := rest) hlen hstack hW hdg (fun _ _ => ⟨has, eT, hc, hs⟩)
  dsimp only [Pt.U, Pt.locs, Pt.cells, Pt.slots] at X' l' y' z' st hQ
  subst l' y' z'
  exact ⟨v, T', L, X', hQ, fun _ k => st.trans k⟩
theorem own_notface {y y' : MethodName} {C' : String} (hcls : y'.cls = y.cls) (ws : (Jvm.Cond.selects C' y' y').before args s = true) : NotFace s y := fun r0 h0 => by
  obtain ⟨c2, r2, m2, q1, q2, q3, q4, kP, hkP, hkPi⟩ := Cond.selects_spec ws
  have hc := findClass_of_methodNamed h0
  have hc' := findClass_of_methodNamed q3
  rw [hcls] at hc'
  have e : r0.cls = m2.cls := by rw [hc] at hc'; injection hc'
  exact ⟨kP, by rw [e]; exact hkP, hkPi⟩
theorem own_capI {z c : Int32} {n : Nat} (h : ¬ (c < z)) (hc : c.toInt = n) : z.toNatClampNeg ≤ n := by
  rw [Int32.lt_iff_toInt_lt] at h
  show z.toInt.toNat ≤ n
  omega
theorem own_ushr0 (x : Int32) : ((x.toUInt32 >>> ((0 : Int32) &&& 31).toUInt32).toInt32).toInt = x.toInt := by
  have e : ((0 : Int32) &&& 31).toUInt32 = 0 := by decide
  rw [e]; simp
end OwnKit
section OwnVS
def own_get4 (i : Int32) (a b c d : Int64) : Int64 := if i = 0 then a else if i = 1 then b else if i = 2 then c else d
theorem own_i4 {i : Int32} (h0 : ¬ i < 0) (h4 : i < 4) : i = 0 ∨ i = 1 ∨ i = 2 ∨ i = 3 := by
  have e0 : (0 : Int32).toInt = 0 := by decide
  have e1 : (1 : Int32).toInt = 1 := by decide
  have e2 : (2 : Int32).toInt = 2 := by decide
  have e3 : (3 : Int32).toInt = 3 := by decide
  have e4 : (4 : Int32).toInt = 4 := by decide
  simp only [Int32.lt_iff_toInt_lt, ← Int32.toInt_inj] at *
  omega
theorem own_get4_at {i : Int32} {a b c d : Int64} {dv : Value} (h0 : ¬ i < 0) (h4 : i < 4) : [Value.long a, .long b, .long c, .long d].getD i.toNatClampNeg dv = .long (own_get4 i a b c d) := by
  rcases own_i4 h0 h4 with rfl | rfl | rfl | rfl <;> rfl
theorem own_lt4 {i : Int32} (h0 : ¬ i < 0) (h4 : i < 4) : i.toNatClampNeg < 4 := by
  rcases own_i4 h0 h4 with rfl | rfl | rfl | rfl <;> decide
theorem own_set4 {i : Int32} {a b c d v B : Int64} (h0 : ¬ i < 0) (h4 : i < 4) (hv : v = own_get4 i a b c d ||| B) : [Value.long a, .long b, .long c, .long d].set i.toNatClampNeg (.long v) = [.long (a ||| (if i = 0 then B else 0)), .long (b ||| (if i = 1 then B else 0)), .long (c ||| (if i = 2 then B else 0)), .long (d ||| (if i = 3 then B else 0))] := by
  subst hv
  rcases own_i4 h0 h4 with rfl | rfl | rfl | rfl
  · show [Value.long (a ||| B), .long b, .long c, .long d] = _
    simp
  · show [Value.long a, .long (b ||| B), .long c, .long d] = _
    simp
  · show [Value.long a, .long b, .long (c ||| B), .long d] = _
    simp
  · show [Value.long a, .long b, .long c, .long (d ||| B)] = _
    simp
theorem own_inv {i z j : Int32} {w B u : Int64} (hz : i < z) (old : j < z ∨ w = 0) (hu : u = (w ||| (if i = j then B else 0))) : j < z ∨ u = 0 := by
  rcases old with h | h
  · exact Or.inl h
  · by_cases e : i = j
    · exact Or.inl (e ▸ hz)
    · right; rw [hu, h, if_neg e]; decide
theorem own_cp1 (nn : Int32) : (0 : Int32).toNatClampNeg + nn.toNatClampNeg ≤ nn.toNatClampNeg := by
  have : (0 : Int32).toNatClampNeg = 0 := by decide
  omega
theorem own_cp2 {z z' : Int32} (h : z < z') : (0 : Int32).toNatClampNeg + z.toNatClampNeg ≤ z'.toNatClampNeg := by
  have : (0 : Int32).toNatClampNeg = 0 := by decide
  rw [Int32.lt_iff_toInt_lt] at h
  show (0 : Int32).toNatClampNeg + z.toInt.toNat ≤ z'.toInt.toNat
  omega
theorem own_cp3 {nn : Int32} (h : ¬ (4 : Int32) < nn) : (0 : Int32).toNatClampNeg + nn.toNatClampNeg ≤ 4 := by
  have : (0 : Int32).toNatClampNeg = 0 := by decide
  have e : (4 : Int32).toInt = 4 := by decide
  rw [Int32.lt_iff_toInt_lt] at h
  show (0 : Int32).toNatClampNeg + nn.toInt.toNat ≤ 4
  omega
theorem own_i5 {i : Int32} (h0 : ¬ i < 0) (h4 : ¬ (4 : Int32) < i) : i = 0 ∨ i = 1 ∨ i = 2 ∨ i = 3 ∨ i = 4 := by
  have e0 : (0 : Int32).toInt = 0 := by decide
  have e1 : (1 : Int32).toInt = 1 := by decide
  have e2 : (2 : Int32).toInt = 2 := by decide
  have e3 : (3 : Int32).toInt = 3 := by decide
  have e4 : (4 : Int32).toInt = 4 := by decide
  simp only [Int32.lt_iff_toInt_lt, ← Int32.toInt_inj] at *
  omega
theorem own_cp4 {nn : Int32} {a b c d : Int64} (h0 : ¬ nn < 0) (h4 : ¬ (4 : Int32) < nn) (inv : ((0 : Int32) < nn ∨ a = (0 : Int64)) ∧ ((1 : Int32) < nn ∨ b = (0 : Int64)) ∧ ((2 : Int32) < nn ∨ c = (0 : Int64)) ∧ ((3 : Int32) < nn ∨ d = (0 : Int64))) : ∀ i, [Value.long a, .long b, .long c, .long d].getD i (.long 0) = (([Value.long 0, .long 0, .long 0, .long 0]).take (0 : Int32).toNatClampNeg ++ ((List.range nn.toNatClampNeg).map fun i => [Value.long a, .long b, .long c, .long d].getD ((0 : Int32).toNatClampNeg + i) (.long 0)) ++ ([Value.long 0, .long 0, .long 0, .long 0]).drop ((0 : Int32).toNatClampNeg + nn.toNatClampNeg)).getD i (.long 0) := by
  obtain ⟨i0, i1, i2, i3⟩ := inv
  have z0 : ∀ {x y : Int32} {w : Int64}, (x < y ∨ w = 0) → ¬ (x < y) → w = 0 := fun h n => h.resolve_left n
  rcases own_i5 h0 h4 with rfl | rfl | rfl | rfl | rfl
  · rw [z0 i0 (by decide), z0 i1 (by decide), z0 i2 (by decide), z0 i3 (by decide)]; intro i; rfl
  · rw [z0 i1 (by decide), z0 i2 (by decide), z0 i3 (by decide)]; intro i; rfl
  · rw [z0 i2 (by decide), z0 i3 (by decide)]; intro i; rfl
  · rw [z0 i3 (by decide)]; intro i; rfl
  · intro i; rfl
end OwnVS
section OwnVS2
def own_bc (w : Int64) : Int32 := Jvm.Free.JP.Long_bitCount_J.val w
def own_ntz (w : Int64) : Int32 := Jvm.Free.JP.Long_numberOfTrailingZeros_J.val w
def own_nlz (w : Int64) : Int32 := Jvm.Free.JP.Long_numberOfLeadingZeros_J.val w
theorem own_bc0 : own_bc 0 = 0 := by decide +kernel
def own_size (w0 w1 w2 w3 : Int64) : Int32 := (((0 + own_bc w0) + own_bc w1) + own_bc w2) + own_bc w3
def own_first (w0 w1 w2 w3 : Int64) : Int32 := if w0 = 0 then (if w1 = 0 then (if w2 = 0 then (if w3 = 0 then -1 else 192 + own_ntz w3) else 128 + own_ntz w2) else 64 + own_ntz w1) else 0 + own_ntz w0
theorem own_am1 (w : Int64) : w &&& (-1) = w := Int64.and_neg_one
def own_s (e j : Int32) : Int64 := if e >>> (6 &&& 31) = j then (1 : Int64) <<< (e &&& 0x3f).toInt64 else 0
def own_w3 (a b c j : Int32) : Int64 := ((0 ||| own_s a j) ||| own_s b j) ||| own_s c j
theorem own_w2 (a b j : Int32) : (0 ||| own_s a j) ||| own_s b j = own_w3 a b b j := by unfold own_w3; simp only [Int64.or_assoc, Int64.or_self]
theorem own_w1 (a j : Int32) : 0 ||| own_s a j = own_w3 a a a j := by unfold own_w3; simp only [Int64.or_assoc, Int64.or_self]
def own_R (a : Int32) : Prop := 0 ≤ a.toInt ∧ a.toInt ≤ 255
def own_W (a b c : Int32) (w0 w1 w2 w3 : Int64) (z : Int32) : Prop := (own_R a ∧ own_R b ∧ own_R c) ∧ (w0 = own_w3 a b c 0 ∧ w1 = own_w3 a b c 1 ∧ w2 = own_w3 a b c 2 ∧ w3 = own_w3 a b c 3) ∧ (a >>> (6 &&& 31) < z ∧ b >>> (6 &&& 31) < z ∧ c >>> (6 &&& 31) < z) ∧ (z = a >>> (6 &&& 31) + 1 ∨ z = b >>> (6 &&& 31) + 1 ∨ z = c >>> (6 &&& 31) + 1)
end OwnVS2
section OwnVS3
def own_B (t : Nat) : Int64 := Int64.ofNat (2 ^ t)
def own_lo (w : Int64) : Int32 := Int64.toInt32 w
def own_hi (w : Int64) : Int32 := Int64.toInt32 (Jvm.Free.XT.ushrL w 32)
theorem own_us {w : Int64} {c : Int32} {u : UInt64} {n : Nat} (h : (c.toInt64.toUInt64 &&& Int64.toUInt64 63) = u) (hu : (u.toBitVec % 64#64).toNat = n) : (Jvm.Free.XT.ushrL w c).toBitVec.toNat = w.toBitVec.toNat >>> n := by
  have e : Jvm.Free.XT.ushrL w c = (w.toUInt64 >>> (c.toInt64.toUInt64 &&& Int64.toUInt64 63)).toInt64 := rfl
  rw [e, h]
  show ((w.toUInt64 >>> u).toBitVec).toNat = _
  rw [UInt64.toBitVec_shiftRight]
  show (w.toBitVec >>> (u.toBitVec % 64#64)).toNat = _
  rw [BitVec.ushiftRight_eq', BitVec.toNat_ushiftRight, hu]
def own_m1 (a : Nat) : Nat := Nat.mod (Nat.add (Nat.sub 18446744073709551616 (Nat.land (Nat.shiftRight a 1) 6148914691236517205)) a) 18446744073709551616
def own_m2 (a : Nat) : Nat := Nat.mod (Nat.add (Nat.land a 3689348814741910323) (Nat.land (Nat.shiftRight a 2) 3689348814741910323)) 18446744073709551616
def own_m3 (a : Nat) : Nat := Nat.land (Nat.mod (Nat.add a (Nat.shiftRight a 4)) 18446744073709551616) 1085102592571150095
def own_m4 (a : Nat) : Nat := Nat.mod (Nat.add a (Nat.shiftRight a 8)) 18446744073709551616
def own_m5 (a : Nat) : Nat := Nat.mod (Nat.add a (Nat.shiftRight a 16)) 18446744073709551616
def own_m6 (a : Nat) : Nat := Nat.mod (Nat.add a (Nat.shiftRight a 32)) 18446744073709551616
def own_m7 (a : Nat) : Nat := Nat.land (Nat.mod a 4294967296) 127
def own_t1 (a : Int64) : Int64 := a - (Jvm.Free.XT.ushrL a 1 &&& 6148914691236517205)
def own_t2 (a : Int64) : Int64 := (a &&& 3689348814741910323) + (Jvm.Free.XT.ushrL a 2 &&& 3689348814741910323)
def own_t3 (a : Int64) : Int64 := (a + Jvm.Free.XT.ushrL a 4) &&& 1085102592571150095
def own_t4 (a : Int64) : Int64 := a + Jvm.Free.XT.ushrL a 8
def own_t5 (a : Int64) : Int64 := a + Jvm.Free.XT.ushrL a 16
def own_t6 (a : Int64) : Int64 := a + Jvm.Free.XT.ushrL a 32
theorem own_bcS (w : Int64) : own_bc w = Int64.toInt32 (own_t6 (own_t5 (own_t4 (own_t3 (own_t2 (own_t1 w)))))) &&& 127 := rfl
theorem own_e1 (w : Int64) : (own_t1 w).toBitVec.toNat = own_m1 w.toBitVec.toNat := by
  unfold own_t1 own_m1
  rw [Int64.toBitVec_sub, BitVec.toNat_sub, Int64.toBitVec_and, BitVec.toNat_and, own_us (n := 1) (u := 1) (by decide) (by decide)]
  rfl
theorem own_e2 (w : Int64) : (own_t2 w).toBitVec.toNat = own_m2 w.toBitVec.toNat := by
  unfold own_t2 own_m2
  rw [Int64.toBitVec_add, BitVec.toNat_add, Int64.toBitVec_and, BitVec.toNat_and, Int64.toBitVec_and, BitVec.toNat_and, own_us (n := 2) (u := 2) (by decide) (by decide)]
  rfl
theorem own_e3 (w : Int64) : (own_t3 w).toBitVec.toNat = own_m3 w.toBitVec.toNat := by
  unfold own_t3 own_m3
  rw [Int64.toBitVec_and, BitVec.toNat_and, Int64.toBitVec_add, BitVec.toNat_add, own_us (n := 4) (u := 4) (by decide) (by decide)]
  rfl
theorem own_e4 (w : Int64) : (own_t4 w).toBitVec.toNat = own_m4 w.toBitVec.toNat := by
  unfold own_t4 own_m4
  rw [Int64.toBitVec_add, BitVec.toNat_add, own_us (n := 8) (u := 8) (by decide) (by decide)]
  rfl
theorem own_e5 (w : Int64) : (own_t5 w).toBitVec.toNat = own_m5 w.toBitVec.toNat := by
  unfold own_t5 own_m5
  rw [Int64.toBitVec_add, BitVec.toNat_add, own_us (n := 16) (u := 16) (by decide) (by decide)]
  rfl
theorem own_e6 (w : Int64) : (own_t6 w).toBitVec.toNat = own_m6 w.toBitVec.toNat := by
  unfold own_t6 own_m6
  rw [Int64.toBitVec_add, BitVec.toNat_add, own_us (n := 32) (u := 32) (by decide) (by decide)]
  rfl
theorem own_e7 (w : Int64) : (Int64.toInt32 w &&& 127).toBitVec.toNat = own_m7 w.toBitVec.toNat := by
  unfold own_m7
  rw [Int32.toBitVec_and, BitVec.toNat_and, Int64.toBitVec_toInt32, BitVec.signExtend_eq_setWidth_of_le _ (by decide), BitVec.toNat_setWidth]
  rfl
theorem own_bcN (w : Int64) : (own_bc w).toBitVec.toNat = own_m7 (own_m6 (own_m5 (own_m4 (own_m3 (own_m2 (own_m1 w.toBitVec.toNat)))))) := by
  rw [own_bcS, own_e7, own_e6, own_e5, own_e4, own_e3, own_e2, own_e1]
def own_nf (n : Nat) (f : Nat → Bool) : Bool := Nat.casesOn n (f 0) (fun m => f (Nat.succ m))
theorem own_nfP {n : Nat} {f : Nat → Bool} : own_nf n f = f n := by cases n <;> rfl
def own_wN (i j k : Nat) : Nat := Nat.lor (Nat.lor (Nat.pow 2 i) (Nat.pow 2 j)) (Nat.pow 2 k)
def own_cbc (n c : Nat) : Bool := own_nf (own_m1 n) fun a => own_nf (own_m2 a) fun a => own_nf (own_m3 a) fun a => own_nf (own_m4 a) fun a => own_nf (own_m5 a) fun a => own_nf (own_m6 a) fun a => Nat.beq (own_m7 a) c
def own_cb (i j k : Nat) : Bool := own_nf (own_wN i j k) fun n => own_cbc n (1 + (if j = i then 0 else 1) + (if k = j then 0 else 1))
set_option maxHeartbeats 0 in
theorem own_cbs : ∀ k, k < 64 → ∀ j, j < k + 1 → ∀ i, i < j + 1 → own_cb i j k = true := by decide +kernel

theorem own_wNB (i j k : Nat) (hi : i < 64) (hj : j < 64) (hk : k < 64) : ((own_B i ||| own_B j) ||| own_B k).toBitVec.toNat = own_wN i j k := by
  have e : ∀ t, t < 64 → (own_B t).toBitVec.toNat = 2 ^ t := by decide +kernel
  rw [Int64.toBitVec_or, BitVec.toNat_or, Int64.toBitVec_or, BitVec.toNat_or, e i hi, e j hj, e k hk]; rfl
theorem own_cbP {i j k c : Nat} (hk : k < 64) (hj : j ≤ k) (hi : i ≤ j) (hc : c = 1 + (if j = i then 0 else 1) + (if k = j then 0 else 1)) : own_bc ((own_B i ||| own_B j) ||| own_B k) = Int32.ofNat c := by
  have h := own_cbs k hk j (by omega) i (by omega)
  unfold own_cb own_cbc at h
  simp only [own_nfP] at h
  have h2 := Nat.eq_of_beq_eq_true h
  rw [← own_wNB i j k (by omega) (by omega) hk, ← own_bcN, ← hc] at h2
  have c4 : c < 4 := by rw [hc]; split <;> split <;> omega
  apply Int32.toBitVec_inj.mp
  apply BitVec.eq_of_toNat_eq
  rw [h2]
  show c = c % 4294967296
  omega
def own_C (t : Nat) : Int32 := Int32.ofNat (2 ^ t)
def own_nzI (a : Int32) : Int32 := Jvm.Free.JP.Integer_numberOfTrailingZeros_I.val a
def own_nlI (a : Int32) : Int32 := Jvm.Free.JP.Integer_numberOfLeadingZeros_I.val a
def own_Y (x : Int32) : Int32 := (x ^^^ (-1)) &&& (x - 1)
theorem own_yv {x y : Int32} (h : own_Y x = own_Y y) : own_nzI x = own_nzI y := by
  have h' : (x ^^^ (-1)) &&& (x - 1) = (y ^^^ (-1)) &&& (y - 1) := h
  delta own_nzI Jvm.Free.JP.Integer_numberOfTrailingZeros_I.val
  rw [h']
theorem own_nz1 : ∀ i, i < 32 → own_nzI (own_C i) = Int32.ofNat i := by decide +kernel
def own_c32 (i j k : Nat) : Bool := own_Y ((own_C i ||| own_C j) ||| own_C k) == own_Y (own_C i) && own_nlI ((own_C i ||| own_C j) ||| own_C k) == Int32.ofNat (31 - k)
set_option maxHeartbeats 0 in
theorem own_c32s : ∀ k, k < 32 → ∀ j, j < k + 1 → ∀ i, i < j + 1 → own_c32 i j k = true := by decide +kernel
theorem own_c32P {i j k : Nat} (hk : k < 32) (hj : j ≤ k) (hi : i ≤ j) : own_nzI ((own_C i ||| own_C j) ||| own_C k) = Int32.ofNat i ∧ own_nlI ((own_C i ||| own_C j) ||| own_C k) = Int32.ofNat (31 - k) := by
  have h := own_c32s k hk j (by omega) i (by omega)
  unfold own_c32 at h
  rw [Bool.and_eq_true] at h
  exact ⟨(own_yv (eq_of_beq h.1)).trans (own_nz1 i (by omega)), eq_of_beq h.2⟩
theorem own_loB : ∀ t, t < 64 → own_lo (own_B t) = if t < 32 then own_C t else 0 := by decide +kernel
theorem own_hiB : ∀ t, t < 64 → own_hi (own_B t) = if t < 32 then 0 else own_C (t - 32) := by decide +kernel
theorem own_lo_or (a b : Int64) : own_lo (a ||| b) = own_lo a ||| own_lo b := Int64.toInt32_or _ _
theorem own_hi_or (a b : Int64) : own_hi (a ||| b) = own_hi a ||| own_hi b := by
  unfold own_hi
  rw [← Int64.toInt32_or]
  congr 1
  apply Int64.toBitVec_inj.mp
  apply BitVec.eq_of_toNat_eq
  rw [own_us (n := 32) (u := 32) (by decide) (by decide), Int64.toBitVec_or, BitVec.toNat_or, Int64.toBitVec_or, BitVec.toNat_or, own_us (n := 32) (u := 32) (by decide) (by decide), own_us (n := 32) (u := 32) (by decide) (by decide), Nat.shiftRight_or_distrib]
theorem own_C0 : ∀ t, t < 32 → ¬ own_C t = 0 := by decide +kernel
theorem own_orz32 {a b : Int32} : (a ||| b) = 0 → a = 0 ∧ b = 0 := fun h => by
  have e : a.toBitVec ||| b.toBitVec = 0#32 := by rw [← Int32.toBitVec_or, h]; rfl
  have e2 := BitVec.or_eq_zero_iff.mp e
  exact ⟨Int32.toBitVec_inj.mp e2.1, Int32.toBitVec_inj.mp e2.2⟩
theorem own_ntzS (w : Int64) : own_ntz w = if own_lo w = 0 then 32 + own_nzI (own_hi w) else own_nzI (own_lo w) := rfl
theorem own_nlzS (w : Int64) : own_nlz w = if own_hi w = 0 then 32 + own_nlI (own_lo w) else own_nlI (own_hi w) := rfl
theorem own_32 (x : Nat) : (32 : Int32) + Int32.ofNat x = Int32.ofNat (32 + x) := by rw [Int32.ofNat_add]; rfl
theorem own_tri0 {i j k : Nat} (hk : k < 64) (hj : j ≤ k) (hi : i ≤ j) : own_bc ((own_B i ||| own_B j) ||| own_B k) = Int32.ofNat (1 + (if j = i then 0 else 1) + (if k = j then 0 else 1)) ∧ own_ntz ((own_B i ||| own_B j) ||| own_B k) = Int32.ofNat i ∧ own_nlz ((own_B i ||| own_B j) ||| own_B k) = Int32.ofNat (63 - k) ∧ ¬ ((own_B i ||| own_B j) ||| own_B k) = 0 := by
  have hb := own_cbP hk hj hi rfl
  have lo : own_lo ((own_B i ||| own_B j) ||| own_B k) = ((if i < 32 then own_C i else 0) ||| (if j < 32 then own_C j else 0)) ||| (if k < 32 then own_C k else 0) := by
    rw [own_lo_or, own_lo_or, own_loB i (by omega), own_loB j (by omega), own_loB k hk]
  have hh : own_hi ((own_B i ||| own_B j) ||| own_B k) = ((if i < 32 then 0 else own_C (i - 32)) ||| (if j < 32 then 0 else own_C (j - 32))) ||| (if k < 32 then 0 else own_C (k - 32)) := by
    rw [own_hi_or, own_hi_or, own_hiB i (by omega), own_hiB j (by omega), own_hiB k hk]
  have dup1 : ∀ a : Int32, a = (a ||| a) ||| a := fun a => by rw [Int32.or_self, Int32.or_self]
  have dup2 : ∀ a b : Int32, a ||| b = (a ||| b) ||| b := fun a b => by rw [Int32.or_assoc, Int32.or_self]
  refine ⟨hb, ?_, ?_, ?_⟩
  · rw [own_ntzS]
    by_cases pi : i < 32
    · have n0 : ¬ own_lo ((own_B i ||| own_B j) ||| own_B k) = 0 := fun e => by
        rw [lo, if_pos pi] at e
        exact own_C0 i pi (own_orz32 (own_orz32 e).1).1
      rw [if_neg n0, lo, if_pos pi]
      by_cases pj : j < 32
      · by_cases pk : k < 32
        · rw [if_pos pj, if_pos pk]; exact (own_c32P pk hj hi).1
        · rw [if_pos pj, if_neg pk, Int32.or_zero, dup2]; exact (own_c32P pj (Nat.le_refl _) hi).1
      · rw [if_neg pj, if_neg (by omega : ¬ k < 32), Int32.or_zero, Int32.or_zero, dup1 (own_C i)]; exact (own_c32P pi (Nat.le_refl _) (Nat.le_refl _)).1
    · rw [if_neg pi, if_neg (by omega : ¬ j < 32), if_neg (by omega : ¬ k < 32), Int32.or_self, Int32.or_self] at lo
      rw [if_pos lo, hh, if_neg pi, if_neg (by omega : ¬ j < 32), if_neg (by omega : ¬ k < 32), (own_c32P (i := i - 32) (j := j - 32) (k := k - 32) (by omega) (by omega) (by omega)).1, own_32]
      congr 1; omega
  · rw [own_nlzS]
    by_cases pk : k < 32
    · rw [if_pos (by omega : i < 32), if_pos (by omega : j < 32), if_pos pk, Int32.or_self, Int32.or_self] at hh
      rw [if_pos hh, lo, if_pos (by omega : i < 32), if_pos (by omega : j < 32), if_pos pk, (own_c32P pk hj hi).2, own_32]
      congr 1; omega
    · have n0 : ¬ own_hi ((own_B i ||| own_B j) ||| own_B k) = 0 := fun e => by
        rw [hh, if_neg pk] at e
        exact own_C0 (k - 32) (by omega) (own_orz32 e).2
      rw [if_neg n0, hh, if_neg pk]
      have fin : Int32.ofNat (31 - (k - 32)) = Int32.ofNat (63 - k) := by congr 1; omega
      by_cases pj : j < 32
      · rw [if_pos (by omega : i < 32), if_pos pj, Int32.or_self, Int32.zero_or, dup1 (own_C (k - 32)), (own_c32P (i := k - 32) (j := k - 32) (k := k - 32) (by omega) (Nat.le_refl _) (Nat.le_refl _)).2, fin]
      · by_cases pi : i < 32
        · rw [if_pos pi, if_neg pj, Int32.zero_or]
          have e : own_C (j - 32) ||| own_C (k - 32) = (own_C (j - 32) ||| own_C (j - 32)) ||| own_C (k - 32) := by rw [Int32.or_self]
          rw [e, (own_c32P (i := j - 32) (j := j - 32) (k := k - 32) (by omega) (by omega) (Nat.le_refl _)).2, fin]
        · rw [if_neg pi, if_neg pj, (own_c32P (i := i - 32) (j := j - 32) (k := k - 32) (by omega) (by omega) (by omega)).2, fin]
  · intro e
    rw [e] at hb
    have z : own_bc 0 = 0 := by decide +kernel
    rw [z] at hb
    have q := congrArg Int32.toInt hb
    rw [Int32.toInt_ofNat_of_lt (by split <;> split <;> omega)] at q
    have e0 : (0 : Int32).toInt = 0 := by decide
    omega
theorem own_tri {x y t : Nat} (hx : x < 64) (hy : y < 64) (ht : t < 64) : own_bc ((own_B x ||| own_B y) ||| own_B t) = Int32.ofNat (1 + (if y = x then 0 else 1) + (if t = x ∨ t = y then 0 else 1)) ∧ own_ntz ((own_B x ||| own_B y) ||| own_B t) = Int32.ofNat (min x (min y t)) ∧ own_nlz ((own_B x ||| own_B y) ||| own_B t) = Int32.ofNat (63 - max x (max y t)) ∧ ¬ ((own_B x ||| own_B y) ||| own_B t) = 0 := by
  have key : ∀ i j k : Nat, i ≤ j → j ≤ k → k < 64 → (own_B x ||| own_B y) ||| own_B t = (own_B i ||| own_B j) ||| own_B k → (1 + (if y = x then 0 else 1) + (if t = x ∨ t = y then 0 else 1)) = (1 + (if j = i then 0 else 1) + (if k = j then 0 else 1)) → min x (min y t) = i → max x (max y t) = k → own_bc ((own_B x ||| own_B y) ||| own_B t) = Int32.ofNat (1 + (if y = x then 0 else 1) + (if t = x ∨ t = y then 0 else 1)) ∧ own_ntz ((own_B x ||| own_B y) ||| own_B t) = Int32.ofNat (min x (min y t)) ∧ own_nlz ((own_B x ||| own_B y) ||| own_B t) = Int32.ofNat (63 - max x (max y t)) ∧ ¬ ((own_B x ||| own_B y) ||| own_B t) = 0 := by
    intro i j k h1 h2 h3 e c m M
    rw [e, c, m, M]
    exact own_tri0 h3 h2 h1
  have sw : ∀ a b c : Int64, (a ||| b) ||| c = (a ||| c) ||| b := fun a b c => by rw [Int64.or_assoc, Int64.or_comm b c, ← Int64.or_assoc]
  by_cases a : x ≤ y
  · by_cases b : y ≤ t
    · exact key x y t a b ht rfl (by (repeat' split) <;> omega) (by omega) (by omega)
    · by_cases c : x ≤ t
      · exact key x t y c (by omega) hy (sw _ _ _) (by (repeat' split) <;> omega) (by omega) (by omega)
      · exact key t x y (by omega) a hy ((sw _ _ _).trans (by rw [Int64.or_comm (own_B x) (own_B t)])) (by (repeat' split) <;> omega) (by omega) (by omega)
  · by_cases b : x ≤ t
    · exact key y x t (by omega) b ht (by rw [Int64.or_comm (own_B x) (own_B y)]) (by (repeat' split) <;> omega) (by omega) (by omega)
    · by_cases c : y ≤ t
      · exact key y t x c (by omega) hx (by rw [Int64.or_comm (own_B x) (own_B y), sw]) (by (repeat' split) <;> omega) (by omega) (by omega)
      · exact key t y x (by omega) (by omega) hx (by rw [Int64.or_assoc, Int64.or_comm (own_B x), Int64.or_comm (own_B y)]) (by (repeat' split) <;> omega) (by omega) (by omega)
theorem own_tri2 {x y : Nat} (hx : x < 64) (hy : y < 64) : own_bc (own_B x ||| own_B y) = Int32.ofNat (1 + (if y = x then 0 else 1)) ∧ own_ntz (own_B x ||| own_B y) = Int32.ofNat (min x y) ∧ own_nlz (own_B x ||| own_B y) = Int32.ofNat (63 - max x y) ∧ ¬ (own_B x ||| own_B y) = 0 := by
  have h := own_tri hx hy hy
  rw [Int64.or_assoc, Int64.or_self, if_pos (Or.inr rfl : y = x ∨ y = y), Nat.min_self, Nat.max_self] at h
  exact h
theorem own_tri1 {x : Nat} (hx : x < 64) : own_bc (own_B x) = Int32.ofNat 1 ∧ own_ntz (own_B x) = Int32.ofNat x ∧ own_nlz (own_B x) = Int32.ofNat (63 - x) ∧ ¬ (own_B x) = 0 := by
  have h := own_tri2 hx hx
  rw [Int64.or_self, if_pos rfl, Nat.min_self, Nat.max_self] at h
  exact h
theorem own_bit : ∀ t, t < 512 → (Int32.ofNat t) >>> ((6 : Int32) &&& 31) = Int32.ofNat (t / 64) ∧ (1 : Int64) <<< ((Int32.ofNat t) &&& 0x3f).toInt64 = own_B (t % 64) := by decide +kernel
theorem own_toI {x : Nat} (hx : x < 512) : (Int32.ofNat x).toInt = (x : Int) := Int32.toInt_ofNat_of_lt (by omega)
theorem own_eqN {x y : Nat} (hx : x < 512) (hy : y < 512) : (Int32.ofNat x = Int32.ofNat y) ↔ x = y := by
  rw [← Int32.toInt_inj, own_toI hx, own_toI hy]; omega
theorem own_ltN {x y : Nat} (hx : x < 512) (hy : y < 512) : (Int32.ofNat x < Int32.ofNat y) ↔ x < y := by
  rw [Int32.lt_iff_toInt_lt, own_toI hx, own_toI hy]; omega
theorem own_nat {a : Int32} {m : Nat} (h0 : 0 ≤ a.toInt) (h1 : a.toInt ≤ m) (hm : m < 512) : ∃ A, A ≤ m ∧ a = Int32.ofNat A :=
  ⟨a.toInt.toNat, by omega, Int32.toInt_inj.mp (by rw [own_toI (by omega)]; omega)⟩
def own_v (A B C j : Nat) : Int64 := ((if A / 64 = j then own_B (A % 64) else 0) ||| (if B / 64 = j then own_B (B % 64) else 0)) ||| (if C / 64 = j then own_B (C % 64) else 0)
theorem own_sN {A j : Nat} (hA : A ≤ 255) (hj : j < 4) : own_s (Int32.ofNat A) (Int32.ofNat j) = if A / 64 = j then own_B (A % 64) else 0 := by
  obtain ⟨h1, h2⟩ := own_bit A (by omega)
  unfold own_s
  rw [h1, h2]
  by_cases e : A / 64 = j
  · rw [if_pos e, if_pos (by rw [e])]
  · rw [if_neg e, if_neg (fun q => e ((own_eqN (by omega) (by omega)).mp q))]
theorem own_w3N {A B C j : Nat} (hA : A ≤ 255) (hB : B ≤ 255) (hC : C ≤ 255) (hj : j < 4) : own_w3 (Int32.ofNat A) (Int32.ofNat B) (Int32.ofNat C) (Int32.ofNat j) = own_v A B C j := by
  unfold own_w3 own_v
  rw [own_sN hA hj, own_sN hB hj, own_sN hC hj, Int64.zero_or]
theorem own_vzero {A B C j : Nat} (p : ¬ A / 64 = j) (q : ¬ B / 64 = j) (r : ¬ C / 64 = j) : own_v A B C j = 0 := by
  unfold own_v; rw [if_neg p, if_neg q, if_neg r]; decide
theorem own_vP {A B C : Nat} (j : Nat) : own_bc (own_v A B C j) = Int32.ofNat ((if A / 64 = j then 1 else 0) + (if B / 64 = j ∧ ¬ B = A then 1 else 0) + (if C / 64 = j ∧ ¬ C = A ∧ ¬ C = B then 1 else 0)) := by
  have x := Nat.mod_lt A (show 64 > 0 by decide)
  have y := Nat.mod_lt B (show 64 > 0 by decide)
  have t := Nat.mod_lt C (show 64 > 0 by decide)
  by_cases p : A / 64 = j <;> by_cases q : B / 64 = j <;> by_cases r : C / 64 = j <;> unfold own_v
  · rw [if_pos p, if_pos q, if_pos r, (own_tri x y t).1]; congr 1; (repeat' split) <;> omega
  · rw [if_pos p, if_pos q, if_neg r, Int64.or_zero, (own_tri2 x y).1]; congr 1; (repeat' split) <;> omega
  · rw [if_pos p, if_neg q, if_pos r, Int64.or_zero, (own_tri2 x t).1]; congr 1; (repeat' split) <;> omega
  · rw [if_pos p, if_neg q, if_neg r, Int64.or_zero, Int64.or_zero, (own_tri1 x).1]; congr 1; (repeat' split) <;> omega
  · rw [if_neg p, if_pos q, if_pos r, Int64.zero_or, (own_tri2 y t).1]; congr 1; (repeat' split) <;> omega
  · rw [if_neg p, if_pos q, if_neg r, Int64.zero_or, Int64.or_zero, (own_tri1 y).1]; congr 1; (repeat' split) <;> omega
  · rw [if_neg p, if_neg q, if_pos r, Int64.zero_or, Int64.zero_or, (own_tri1 t).1]; congr 1; (repeat' split) <;> omega
  · rw [if_neg p, if_neg q, if_neg r, Int64.zero_or, Int64.zero_or, own_bc0, show (0 : Int32) = Int32.ofNat 0 from rfl]; congr 1; (repeat' split) <;> omega
theorem own_vmin {A B C M j : Nat} (hM : M = A ∨ M = B ∨ M = C) (hj : M / 64 = j) (m1 : A / 64 = j → M ≤ A) (m2 : B / 64 = j → M ≤ B) (m3 : C / 64 = j → M ≤ C) : ¬ own_v A B C j = 0 ∧ own_ntz (own_v A B C j) = Int32.ofNat (M % 64) := by
  have x := Nat.mod_lt A (show 64 > 0 by decide)
  have y := Nat.mod_lt B (show 64 > 0 by decide)
  have t := Nat.mod_lt C (show 64 > 0 by decide)
  by_cases p : A / 64 = j <;> by_cases q : B / 64 = j <;> by_cases r : C / 64 = j <;> unfold own_v
  · have g1 := m1 p; have g2 := m2 q; have g3 := m3 r
    obtain ⟨-, h2, -, h4⟩ := own_tri x y t
    rw [if_pos p, if_pos q, if_pos r]; exact ⟨h4, h2.trans (congrArg Int32.ofNat (by omega))⟩
  · have g1 := m1 p; have g2 := m2 q
    obtain ⟨-, h2, -, h4⟩ := own_tri2 x y
    rw [if_pos p, if_pos q, if_neg r, Int64.or_zero]; exact ⟨h4, h2.trans (congrArg Int32.ofNat (by omega))⟩
  · have g1 := m1 p; have g3 := m3 r
    obtain ⟨-, h2, -, h4⟩ := own_tri2 x t
    rw [if_pos p, if_neg q, if_pos r, Int64.or_zero]; exact ⟨h4, h2.trans (congrArg Int32.ofNat (by omega))⟩
  · have g1 := m1 p
    obtain ⟨-, h2, -, h4⟩ := own_tri1 x
    rw [if_pos p, if_neg q, if_neg r, Int64.or_zero, Int64.or_zero]; exact ⟨h4, h2.trans (congrArg Int32.ofNat (by omega))⟩
  · have g2 := m2 q; have g3 := m3 r
    obtain ⟨-, h2, -, h4⟩ := own_tri2 y t
    rw [if_neg p, if_pos q, if_pos r, Int64.zero_or]; exact ⟨h4, h2.trans (congrArg Int32.ofNat (by omega))⟩
  · have g2 := m2 q
    obtain ⟨-, h2, -, h4⟩ := own_tri1 y
    rw [if_neg p, if_pos q, if_neg r, Int64.zero_or, Int64.or_zero]; exact ⟨h4, h2.trans (congrArg Int32.ofNat (by omega))⟩
  · have g3 := m3 r
    obtain ⟨-, h2, -, h4⟩ := own_tri1 t
    rw [if_neg p, if_neg q, if_pos r, Int64.zero_or, Int64.zero_or]; exact ⟨h4, h2.trans (congrArg Int32.ofNat (by omega))⟩
  · exfalso; omega
theorem own_vmax {A B C M j : Nat} (hM : M = A ∨ M = B ∨ M = C) (hj : M / 64 = j) (m1 : A / 64 = j → A ≤ M) (m2 : B / 64 = j → B ≤ M) (m3 : C / 64 = j → C ≤ M) : own_nlz (own_v A B C j) = Int32.ofNat (63 - M % 64) := by
  have x := Nat.mod_lt A (show 64 > 0 by decide)
  have y := Nat.mod_lt B (show 64 > 0 by decide)
  have t := Nat.mod_lt C (show 64 > 0 by decide)
  by_cases p : A / 64 = j <;> by_cases q : B / 64 = j <;> by_cases r : C / 64 = j <;> unfold own_v
  · have g1 := m1 p; have g2 := m2 q; have g3 := m3 r
    obtain ⟨-, -, h2, -⟩ := own_tri x y t
    rw [if_pos p, if_pos q, if_pos r]; exact h2.trans (congrArg Int32.ofNat (by omega))
  · have g1 := m1 p; have g2 := m2 q
    obtain ⟨-, -, h2, -⟩ := own_tri2 x y
    rw [if_pos p, if_pos q, if_neg r, Int64.or_zero]; exact h2.trans (congrArg Int32.ofNat (by omega))
  · have g1 := m1 p; have g3 := m3 r
    obtain ⟨-, -, h2, -⟩ := own_tri2 x t
    rw [if_pos p, if_neg q, if_pos r, Int64.or_zero]; exact h2.trans (congrArg Int32.ofNat (by omega))
  · have g1 := m1 p
    obtain ⟨-, -, h2, -⟩ := own_tri1 x
    rw [if_pos p, if_neg q, if_neg r, Int64.or_zero, Int64.or_zero]; exact h2.trans (congrArg Int32.ofNat (by omega))
  · have g2 := m2 q; have g3 := m3 r
    obtain ⟨-, -, h2, -⟩ := own_tri2 y t
    rw [if_neg p, if_pos q, if_pos r, Int64.zero_or]; exact h2.trans (congrArg Int32.ofNat (by omega))
  · have g2 := m2 q
    obtain ⟨-, -, h2, -⟩ := own_tri1 y
    rw [if_neg p, if_pos q, if_neg r, Int64.zero_or, Int64.or_zero]; exact h2.trans (congrArg Int32.ofNat (by omega))
  · have g3 := m3 r
    obtain ⟨-, -, h2, -⟩ := own_tri1 t
    rw [if_neg p, if_neg q, if_pos r, Int64.zero_or, Int64.zero_or]; exact h2.trans (congrArg Int32.ofNat (by omega))
  · exfalso; omega
theorem own_addN (x y z : Nat) (h : x + y = z) : Int32.ofNat x + Int32.ofNat y = Int32.ofNat z := by rw [← h, Int32.ofNat_add]
theorem own_fiN {A B C : Nat} (hA : A ≤ 255) (hB : B ≤ 255) (hC : C ≤ 255) : own_first (own_v A B C 0) (own_v A B C 1) (own_v A B C 2) (own_v A B C 3) = Int32.ofNat (min A (min B C)) := by
  obtain ⟨M, hM⟩ : ∃ M, M = min A (min B C) := ⟨_, rfl⟩
  rw [← hM]
  have d : M = A ∨ M = B ∨ M = C := by omega
  have l1 : M ≤ A := by omega
  have l2 : M ≤ B := by omega
  have l3 : M ≤ C := by omega
  unfold own_first
  have j4 : M / 64 = 0 ∨ M / 64 = 1 ∨ M / 64 = 2 ∨ M / 64 = 3 := by omega
  rcases j4 with j | j | j | j
  · obtain ⟨n, e⟩ := own_vmin d j (fun _ => l1) (fun _ => l2) (fun _ => l3)
    rw [if_neg n, e]; exact own_addN 0 _ _ (by omega)
  · obtain ⟨n, e⟩ := own_vmin d j (fun _ => l1) (fun _ => l2) (fun _ => l3)
    rw [if_pos (own_vzero (by omega) (by omega) (by omega)), if_neg n, e]; exact own_addN 64 _ _ (by omega)
  · obtain ⟨n, e⟩ := own_vmin d j (fun _ => l1) (fun _ => l2) (fun _ => l3)
    rw [if_pos (own_vzero (by omega) (by omega) (by omega)), if_pos (own_vzero (by omega) (by omega) (by omega)), if_neg n, e]; exact own_addN 128 _ _ (by omega)
  · obtain ⟨n, e⟩ := own_vmin d j (fun _ => l1) (fun _ => l2) (fun _ => l3)
    rw [if_pos (own_vzero (by omega) (by omega) (by omega)), if_pos (own_vzero (by omega) (by omega) (by omega)), if_pos (own_vzero (by omega) (by omega) (by omega)), if_neg n, e]; exact own_addN 192 _ _ (by omega)
theorem own_lastT : ∀ j, j < 4 → ∀ r, r < 64 → ((Int32.ofNat (j + 1)) <<< ((6 : Int32) &&& 31) - 1) - Int32.ofNat (63 - r) = Int32.ofNat (64 * j + r) := by decide +kernel
theorem own_sum12 (a0 a1 a2 a3 b0 b1 b2 b3 c0 c1 c2 c3 x y : Nat) (ha : a0 + a1 + a2 + a3 = 1) (hb : b0 + b1 + b2 + b3 = x) (hc : c0 + c1 + c2 + c3 = y) : (((0 + Int32.ofNat (a0 + b0 + c0)) + Int32.ofNat (a1 + b1 + c1)) + Int32.ofNat (a2 + b2 + c2)) + Int32.ofNat (a3 + b3 + c3) = Int32.ofNat (1 + x + y) := by
  rw [show (0 : Int32) = Int32.ofNat 0 from rfl, own_addN 0 _ (a0 + b0 + c0) (by omega), own_addN _ _ _ rfl, own_addN _ _ _ rfl, own_addN _ _ _ rfl]
  congr 1; omega
theorem own_szN {A B C : Nat} (hA : A ≤ 255) (hB : B ≤ 255) (hC : C ≤ 255) : own_size (own_v A B C 0) (own_v A B C 1) (own_v A B C 2) (own_v A B C 3) = Int32.ofNat (1 + (if B = A then 0 else 1) + (if C = A ∨ C = B then 0 else 1)) := by
  unfold own_size
  rw [own_vP 0, own_vP 1, own_vP 2, own_vP 3]
  have a4 : A / 64 = 0 ∨ A / 64 = 1 ∨ A / 64 = 2 ∨ A / 64 = 3 := by omega
  have b4 : B / 64 = 0 ∨ B / 64 = 1 ∨ B / 64 = 2 ∨ B / 64 = 3 := by omega
  have c4 : C / 64 = 0 ∨ C / 64 = 1 ∨ C / 64 = 2 ∨ C / 64 = 3 := by omega
  refine own_sum12 _ _ _ _ _ _ _ _ _ _ _ _ _ _ ?_ ?_ ?_
  · rcases a4 with h | h | h | h <;> rw [h] <;> rfl
  · rcases b4 with h | h | h | h <;> rw [h] <;> by_cases q : B = A <;> simp [q]
  · rcases c4 with h | h | h | h <;> rw [h] <;> by_cases q : C = A <;> by_cases r : C = B <;> simp [q, r]
theorem own_andT : ∀ x, x < 64 → ∀ s, s < 64 → ((own_B x &&& own_B s) = 0 ↔ ¬ x = s) := by decide +kernel
theorem own_orz {a b : Int64} : (a ||| b) = 0 ↔ a = 0 ∧ b = 0 := by
  constructor
  · intro h
    have e : a.toBitVec ||| b.toBitVec = 0#64 := by rw [← Int64.toBitVec_or, h]; rfl
    have e2 := BitVec.or_eq_zero_iff.mp e
    exact ⟨Int64.toBitVec_inj.mp e2.1, Int64.toBitVec_inj.mp e2.2⟩
  · rintro ⟨rfl, rfl⟩; decide
theorem own_oa (a b c : Int64) : (a ||| b) &&& c = (a &&& c) ||| (b &&& c) := Int64.toBitVec_inj.mp (by
  rw [Int64.toBitVec_and, Int64.toBitVec_or, Int64.toBitVec_or, Int64.toBitVec_and, Int64.toBitVec_and]
  exact BitVec.and_or_distrib_right)
theorem own_tand {A P : Nat} {j : Nat} (hj : P / 64 = j) : ((if A / 64 = j then own_B (A % 64) else 0) &&& own_B (P % 64)) = 0 ↔ ¬ A = P := by
  by_cases p : A / 64 = j
  · rw [if_pos p, own_andT _ (Nat.mod_lt _ (by decide)) _ (Nat.mod_lt _ (by decide))]; omega
  · rw [if_neg p]
    constructor
    · intro _ e; omega
    · intro _; simp
theorem own_vand {A B C P : Nat} : (own_v A B C (P / 64) &&& own_B (P % 64)) = 0 ↔ ¬ A = P ∧ ¬ B = P ∧ ¬ C = P := by
  unfold own_v
  rw [own_oa, own_oa, own_orz, own_orz, own_tand rfl, own_tand rfl, own_tand rfl, and_assoc]
def own_min (x y : Int32) : Int32 := if y < x then y else x
def own_max (x y : Int32) : Int32 := if x < y then y else x
theorem own_min_of {p q r : Int32} (h : (q < p ∧ r = q) ∨ (¬ (q < p) ∧ r = p)) : r = own_min p q := by
  unfold own_min; rcases h with ⟨h, e⟩ | ⟨h, e⟩
  · rw [if_pos h, e]
  · rw [if_neg h, e]
theorem own_max_of {p q r : Int32} (h : (p < q ∧ r = q) ∨ (¬ (p < q) ∧ r = p)) : r = own_max p q := by
  unfold own_max; rcases h with ⟨h, e⟩ | ⟨h, e⟩
  · rw [if_pos h, e]
  · rw [if_neg h, e]
theorem own_min_self (x : Int32) : own_min x x = x := by unfold own_min; split <;> rfl
theorem own_max_self (x : Int32) : own_max x x = x := by unfold own_max; split <;> rfl
theorem own_minN {x y : Nat} (hx : x < 512) (hy : y < 512) : own_min (Int32.ofNat x) (Int32.ofNat y) = Int32.ofNat (min x y) := by
  unfold own_min
  by_cases h : y < x
  · rw [if_pos ((own_ltN hy hx).mpr h)]; congr 1; omega
  · rw [if_neg (fun q => h ((own_ltN hy hx).mp q))]; congr 1; omega
theorem own_maxN {x y : Nat} (hx : x < 512) (hy : y < 512) : own_max (Int32.ofNat x) (Int32.ofNat y) = Int32.ofNat (max x y) := by
  unfold own_max
  by_cases h : x < y
  · rw [if_pos ((own_ltN hx hy).mpr h)]; congr 1; omega
  · rw [if_neg (fun q => h ((own_ltN hx hy).mp q))]; congr 1; omega
theorem own_WN {a b c z : Int32} {w0 w1 w2 w3 : Int64} (h : own_W a b c w0 w1 w2 w3 z) : ∃ A B C : Nat, A ≤ 255 ∧ B ≤ 255 ∧ C ≤ 255 ∧ a = Int32.ofNat A ∧ b = Int32.ofNat B ∧ c = Int32.ofNat C ∧ w0 = own_v A B C 0 ∧ w1 = own_v A B C 1 ∧ w2 = own_v A B C 2 ∧ w3 = own_v A B C 3 ∧ z = Int32.ofNat (max A (max B C) / 64 + 1) := by
  obtain ⟨⟨ra, rb, rc⟩, ⟨e0, e1, e2, e3⟩, ⟨l1, l2, l3⟩, hz⟩ := h
  obtain ⟨A, hA, rfl⟩ := own_nat (m := 255) ra.1 ra.2 (by decide)
  obtain ⟨B, hB, rfl⟩ := own_nat (m := 255) rb.1 rb.2 (by decide)
  obtain ⟨C, hC, rfl⟩ := own_nat (m := 255) rc.1 rc.2 (by decide)
  refine ⟨A, B, C, hA, hB, hC, rfl, rfl, rfl, e0.trans (own_w3N (j := 0) hA hB hC (by decide)), e1.trans (own_w3N (j := 1) hA hB hC (by decide)), e2.trans (own_w3N (j := 2) hA hB hC (by decide)), e3.trans (own_w3N (j := 3) hA hB hC (by decide)), ?_⟩
  have bA := (own_bit A (by omega)).1
  have bB := (own_bit B (by omega)).1
  have bC := (own_bit C (by omega)).1
  rw [bA] at l1 hz
  rw [bB] at l2 hz
  rw [bC] at l3 hz
  have ad : ∀ x : Nat, Int32.ofNat x + 1 = Int32.ofNat (x + 1) := fun x => own_addN x 1 _ rfl
  rw [ad, ad, ad] at hz
  rcases hz with rfl | rfl | rfl
  · rw [own_ltN (by omega) (by omega)] at l1 l2 l3; congr 1; omega
  · rw [own_ltN (by omega) (by omega)] at l1 l2 l3; congr 1; omega
  · rw [own_ltN (by omega) (by omega)] at l1 l2 l3; congr 1; omega
theorem own_zne {a b c z : Int32} {w0 w1 w2 w3 : Int64} (h : own_W a b c w0 w1 w2 w3 z) : ¬ z = 0 := by
  obtain ⟨A, B, C, hA, hB, hC, -, -, -, -, -, -, -, rfl⟩ := own_WN h
  intro e
  exact absurd ((own_eqN (x := max A (max B C) / 64 + 1) (y := 0) (by omega) (by decide)).mp e) (by omega)
theorem own_szL {a b c z : Int32} {w0 w1 w2 w3 : Int64} (h : own_W a b c w0 w1 w2 w3 z) : own_size w0 w1 w2 w3 = (1 + (if b = a then 0 else 1)) + (if c = a ∨ c = b then 0 else 1) := by
  obtain ⟨A, B, C, hA, hB, hC, rfl, rfl, rfl, rfl, rfl, rfl, rfl, -⟩ := own_WN h
  have e1 : (Int32.ofNat B = Int32.ofNat A) ↔ B = A := own_eqN (by omega) (by omega)
  have e2 : (Int32.ofNat C = Int32.ofNat A ∨ Int32.ofNat C = Int32.ofNat B) ↔ (C = A ∨ C = B) := or_congr (own_eqN (by omega) (by omega)) (own_eqN (by omega) (by omega))
  rw [own_szN hA hB hC]
  by_cases q : B = A <;> by_cases r : C = A ∨ C = B
  · rw [if_pos q, if_pos r, if_pos (e1.mpr q), if_pos (e2.mpr r)]; rfl
  · rw [if_pos q, if_neg r, if_pos (e1.mpr q), if_neg (fun z => r (e2.mp z))]; rfl
  · rw [if_neg q, if_pos r, if_neg (fun z => q (e1.mp z)), if_pos (e2.mpr r)]; rfl
  · rw [if_neg q, if_neg r, if_neg (fun z => q (e1.mp z)), if_neg (fun z => r (e2.mp z))]; rfl
theorem own_fiL {a b c z : Int32} {w0 w1 w2 w3 : Int64} (h : own_W a b c w0 w1 w2 w3 z) : own_first w0 w1 w2 w3 = own_min a (own_min b c) := by
  obtain ⟨A, B, C, hA, hB, hC, rfl, rfl, rfl, rfl, rfl, rfl, rfl, -⟩ := own_WN h
  rw [own_fiN hA hB hC, own_minN (by omega) (by omega), own_minN (by omega) (by omega)]
theorem own_laL {a b c z i s1 s2 nl v r : Int32} {w0 w1 w2 w3 g : Int64} (h : own_W a b c w0 w1 w2 w3 z) (h1 : i = z - 1) (h2 : s1 = z <<< ((6 : Int32) &&& 31)) (h3 : s2 = s1 - 1) (h4 : g = own_get4 i w0 w1 w2 w3) (h5 : nl = own_nlz g) (h6 : v = s2 - nl) (hc : (z = 0 ∧ r = -1) ∨ (¬ z = 0 ∧ ¬ (i < 0) ∧ i < 4 ∧ i < z ∧ r = v)) : r = own_max a (own_max b c) := by
  obtain ⟨A, B, C, hA, hB, hC, rfl, rfl, rfl, rfl, rfl, rfl, rfl, hz⟩ := own_WN h
  rw [own_maxN (by omega) (by omega), own_maxN (by omega) (by omega)]
  obtain ⟨M, hM⟩ : ∃ M, M = max A (max B C) := ⟨_, rfl⟩
  rw [← hM] at hz ⊢
  have d : M = A ∨ M = B ∨ M = C := by omega
  rcases hc with ⟨e, -⟩ | ⟨-, -, -, -, e⟩
  · exfalso
    rw [hz] at e
    exact absurd ((own_eqN (x := M / 64 + 1) (y := 0) (by omega) (by decide)).mp e) (by omega)
  · have j4 : M / 64 = 0 ∨ M / 64 = 1 ∨ M / 64 = 2 ∨ M / 64 = 3 := by omega
    have fin : ∀ j, j < 4 → M / 64 = j → g = own_v A B C j → r = Int32.ofNat M := by
      intro j hj e1 e2
      have n := own_vmax d e1 (fun _ => by omega) (fun _ => by omega) (fun _ => by omega)
      rw [e, h6, h3, h2, h5, e2, n, hz, e1, own_lastT j hj _ (Nat.mod_lt _ (by decide))]
      congr 1; omega
    rcases j4 with j | j | j | j <;> rw [hz, j] at h1
    · exact fin 0 (by decide) j (by rw [h4, h1]; rfl)
    · exact fin 1 (by decide) j (by rw [h4, h1]; rfl)
    · exact fin 2 (by decide) j (by rw [h4, h1]; rfl)
    · exact fin 3 (by decide) j (by rw [h4, h1]; rfl)
theorem own_ct {a b c z p i r : Int32} {w0 w1 w2 w3 g s n : Int64} (h : own_W a b c w0 w1 w2 w3 z) (p0 : 0 ≤ p.toInt) (p1 : p.toInt ≤ 511) (h1 : i = p >>> ((6 : Int32) &&& 31)) (h2 : g = own_get4 i w0 w1 w2 w3) (h3 : s = (1 : Int64) <<< (p &&& 0x3f).toInt64) (h4 : n = (g &&& s))
    (hc : ((i < z) ∧ (¬ (i < 0)) ∧ (i < 4) ∧ (n = 0) ∧ (r = 0)) ∨ ((i < z) ∧ (¬ (i < 0)) ∧ (i < 4) ∧ (¬ (n = 0)) ∧ (r = 1)) ∨ ((¬ (i < z)) ∧ (r = 0))) : r = if p = a ∨ p = b ∨ p = c then 1 else 0 := by
  obtain ⟨A, B, C, hA, hB, hC, rfl, rfl, rfl, rfl, rfl, rfl, rfl, hz⟩ := own_WN h
  obtain ⟨P, hP, rfl⟩ := own_nat p0 (m := 511) p1 (by decide)
  rw [(own_bit P (by omega)).1] at h1
  rw [(own_bit P (by omega)).2] at h3
  have ce : (Int32.ofNat P = Int32.ofNat A ∨ Int32.ofNat P = Int32.ofNat B ∨ Int32.ofNat P = Int32.ofNat C) ↔ (P = A ∨ P = B ∨ P = C) := or_congr (own_eqN (by omega) (by omega)) (or_congr (own_eqN (by omega) (by omega)) (own_eqN (by omega) (by omega)))
  have hz' : (i < z) ↔ P / 64 < max A (max B C) / 64 + 1 := by rw [h1, hz, own_ltN (by omega) (by omega)]
  have gv : i < 4 → g = own_v A B C (P / 64) := by
    intro i4
    have l4 : P / 64 < 4 := by rw [h1] at i4; exact (own_ltN (x := P / 64) (y := 4) (by omega) (by decide)).mp i4
    have j4 : P / 64 = 0 ∨ P / 64 = 1 ∨ P / 64 = 2 ∨ P / 64 = 3 := by omega
    rcases j4 with j | j | j | j <;> rw [h2, h1, j] <;> rfl
  rcases hc with ⟨q1, -, q3, q4, q5⟩ | ⟨q1, -, q3, q4, q5⟩ | ⟨q1, q5⟩
  · rw [h4, gv q3, h3, own_vand] at q4
    rw [q5, if_neg (fun z => by have := ce.mp z; omega)]
  · rw [h4, gv q3, h3, own_vand] at q4
    rw [q5, if_pos (ce.mpr (by omega))]
  · rw [hz'] at q1
    rw [q5, if_neg (fun z => by have := ce.mp z; omega)]
theorem own_R255 (x : Int32) : own_R (x &&& (255 : Int32)) := by
  have r := rng32 x
  have w := c_mask x (255 : Int32) 8 (by decide) (by decide)
  exact ⟨by omega, by omega⟩
theorem own_P511 (x : Int32) : 0 ≤ (x &&& (511 : Int32)).toInt ∧ (x &&& (511 : Int32)).toInt ≤ 511 := by
  have r := rng32 x
  have w := c_mask x (511 : Int32) 9 (by decide) (by decide)
  exact ⟨by omega, by omega⟩
end OwnVS3
theorem own_tab_it {Z s : State} {a0 args : Array Value} (hw : ∀ d ∈ tables_1, d.before a0 Z = true) (hZ : Z.Warmed39 s.vm) : Jvm.Free.JP.Integer_numberOfTrailingZeros_I.tab.before args s = true := Jvm.Free.XT.unparts (mvT hZ (hw _ (List.mem_of_getElem? (i := 76) rfl))) (fun w h => by
  simp only [Jvm.Free.JP.Integer_numberOfTrailingZeros_I.site, Jvm.Free.XT.staticW, List.mem_cons, List.cons_append, List.nil_append, List.not_mem_nil, or_false] at h
  rcases h with rfl | rfl
  · exact mvT hZ (hw _ (List.mem_of_getElem? (i := 75) rfl))
  · exact mvT hZ (hw _ (List.mem_of_getElem? (i := 77) rfl)))
theorem own_tab_il {Z s : State} {a0 args : Array Value} (hw : ∀ d ∈ tables_1, d.before a0 Z = true) (hZ : Z.Warmed39 s.vm) : Jvm.Free.JP.Integer_numberOfLeadingZeros_I.tab.before args s = true := Jvm.Free.XT.unparts (mvT hZ (hw _ (List.mem_of_getElem? (i := 83) rfl))) (fun w h => by
  simp only [Jvm.Free.JP.Integer_numberOfLeadingZeros_I.site, Jvm.Free.XT.staticW, List.mem_cons, List.cons_append, List.nil_append, List.not_mem_nil, or_false] at h
  rcases h with rfl | rfl
  · exact mvT hZ (hw _ (List.mem_of_getElem? (i := 75) rfl))
  · exact mvT hZ (hw _ (List.mem_of_getElem? (i := 77) rfl)))
theorem own_tab_bc {Z s : State} {a0 args : Array Value} (hw : ∀ d ∈ tables_1, d.before a0 Z = true) (hZ : Z.Warmed39 s.vm) : Jvm.Free.JP.Long_bitCount_J.tab.before args s = true := Jvm.Free.XT.unparts (mvT hZ (hw _ (List.mem_of_getElem? (i := 65) rfl))) (fun w h => by
  simp only [Jvm.Free.JP.Long_bitCount_J.site, Jvm.Free.XT.staticW, List.mem_cons, List.cons_append, List.nil_append, List.not_mem_nil, or_false] at h
  rcases h with rfl | rfl | rfl | rfl
  · exact mvT hZ (hw _ (List.mem_of_getElem? (i := 64) rfl))
  · exact mvT hZ (hw _ (List.mem_of_getElem? (i := 66) rfl))
  · exact mvT hZ (hw _ (List.mem_of_getElem? (i := 67) rfl))
  · exact mvT hZ (hw _ (List.mem_of_getElem? (i := 68) rfl)))
theorem own_tab_ntz {Z s : State} {a0 args : Array Value} (hw : ∀ d ∈ tables_1, d.before a0 Z = true) (hZ : Z.Warmed39 s.vm) : Jvm.Free.JP.Long_numberOfTrailingZeros_J.tab.before args s = true := Jvm.Free.XT.unparts (mvT hZ (hw _ (List.mem_of_getElem? (i := 72) rfl))) (fun w h => by
  simp only [Jvm.Free.JP.Long_numberOfTrailingZeros_J.site, Jvm.Free.XT.staticW, List.mem_cons, List.cons_append, List.nil_append, List.not_mem_nil, or_false] at h
  rcases h with rfl | rfl | rfl | rfl
  · exact mvT hZ (hw _ (List.mem_of_getElem? (i := 64) rfl))
  · exact own_tab_it hw hZ
  · exact mvT hZ (hw _ (List.mem_of_getElem? (i := 73) rfl))
  · exact mvT hZ (hw _ (List.mem_of_getElem? (i := 74) rfl)))
theorem own_tab_nlz {Z s : State} {a0 args : Array Value} (hw : ∀ d ∈ tables_1, d.before a0 Z = true) (hZ : Z.Warmed39 s.vm) : Jvm.Free.JP.Long_numberOfLeadingZeros_J.tab.before args s = true := Jvm.Free.XT.unparts (mvT hZ (hw _ (List.mem_of_getElem? (i := 80) rfl))) (fun w h => by
  simp only [Jvm.Free.JP.Long_numberOfLeadingZeros_J.site, Jvm.Free.XT.staticW, List.mem_cons, List.cons_append, List.nil_append, List.not_mem_nil, or_false] at h
  rcases h with rfl | rfl | rfl | rfl
  · exact mvT hZ (hw _ (List.mem_of_getElem? (i := 64) rfl))
  · exact own_tab_il hw hZ
  · exact mvT hZ (hw _ (List.mem_of_getElem? (i := 81) rfl))
  · exact mvT hZ (hw _ (List.mem_of_getElem? (i := 82) rfl)))
theorem djdk_29_method_65_code_0 : decode jdk_29_method_65_code 0 = .ok (.iload_n 0, 1) := by decide +kernel
theorem djdk_29_method_65_code_1 : decode jdk_29_method_65_code 1 = .ok (.iload_n 1, 1) := by decide +kernel
theorem djdk_29_method_65_code_2 : decode jdk_29_method_65_code 2 = .ok (.if_icmp .lt 7, 3) := by decide +kernel
theorem djdk_29_method_65_code_5 : decode jdk_29_method_65_code 5 = .ok (.iload_n 0, 1) := by decide +kernel
theorem djdk_29_method_65_code_6 : decode jdk_29_method_65_code 6 = .ok (.goto 4, 3) := by decide +kernel
theorem djdk_29_method_65_code_9 : decode jdk_29_method_65_code 9 = .ok (.iload_n 1, 1) := by decide +kernel
theorem djdk_29_method_65_code_10 : decode jdk_29_method_65_code 10 = .ok (.ireturn, 1) := by decide +kernel
theorem djdk_29_method_69_code_0 : decode jdk_29_method_69_code 0 = .ok (.iload_n 0, 1) := by decide +kernel
theorem djdk_29_method_69_code_1 : decode jdk_29_method_69_code 1 = .ok (.iload_n 1, 1) := by decide +kernel
theorem djdk_29_method_69_code_2 : decode jdk_29_method_69_code 2 = .ok (.if_icmp .gt 7, 3) := by decide +kernel
theorem djdk_29_method_69_code_5 : decode jdk_29_method_69_code 5 = .ok (.iload_n 0, 1) := by decide +kernel
theorem djdk_29_method_69_code_6 : decode jdk_29_method_69_code 6 = .ok (.goto 4, 3) := by decide +kernel
theorem djdk_29_method_69_code_9 : decode jdk_29_method_69_code 9 = .ok (.iload_n 1, 1) := by decide +kernel
theorem djdk_29_method_69_code_10 : decode jdk_29_method_69_code 10 = .ok (.ireturn, 1) := by decide +kernel
theorem djdk_65_method_124_code_0 : decode jdk_65_method_124_code 0 = .ok (.iload_n 1, 1) := by decide +kernel
theorem djdk_65_method_124_code_1 : decode jdk_65_method_124_code 1 = .ok (.aload_n 0, 1) := by decide +kernel
theorem djdk_65_method_124_code_2 : decode jdk_65_method_124_code 2 = .ok (.arraylength, 1) := by decide +kernel
theorem djdk_65_method_124_code_3 : decode jdk_65_method_124_code 3 = .ok (.if_icmp .ne 11, 3) := by decide +kernel
theorem djdk_65_method_124_code_14 : decode jdk_65_method_124_code 14 = .ok (.iload_n 1, 1) := by decide +kernel
theorem djdk_65_method_124_code_15 : decode jdk_65_method_124_code 15 = .ok (.newarray .long, 2) := by decide +kernel
theorem djdk_65_method_124_code_17 : decode jdk_65_method_124_code 17 = .ok (.astore_n 2, 1) := by decide +kernel
theorem djdk_65_method_124_code_18 : decode jdk_65_method_124_code 18 = .ok (.aload_n 0, 1) := by decide +kernel
theorem djdk_65_method_124_code_19 : decode jdk_65_method_124_code 19 = .ok (.iconst 0, 1) := by decide +kernel
theorem djdk_65_method_124_code_20 : decode jdk_65_method_124_code 20 = .ok (.aload_n 2, 1) := by decide +kernel
theorem djdk_65_method_124_code_21 : decode jdk_65_method_124_code 21 = .ok (.iconst 0, 1) := by decide +kernel
theorem djdk_65_method_124_code_22 : decode jdk_65_method_124_code 22 = .ok (.aload_n 0, 1) := by decide +kernel
theorem djdk_65_method_124_code_23 : decode jdk_65_method_124_code 23 = .ok (.arraylength, 1) := by decide +kernel
theorem djdk_65_method_124_code_24 : decode jdk_65_method_124_code 24 = .ok (.iload_n 1, 1) := by decide +kernel
theorem djdk_65_method_124_code_25 : decode jdk_65_method_124_code 25 = .ok (.invokestatic 304, 3) := by decide +kernel
theorem djdk_65_method_124_code_28 : decode jdk_65_method_124_code 28 = .ok (.invokestatic 150, 3) := by decide +kernel
theorem djdk_65_method_124_code_31 : decode jdk_65_method_124_code 31 = .ok (.aload_n 2, 1) := by decide +kernel
theorem djdk_65_method_124_code_32 : decode jdk_65_method_124_code 32 = .ok (.areturn, 1) := by decide +kernel
theorem dprog_13_method_10_code_0 : decode prog_13_method_10_code 0 = .ok (.iload_n 1, 1) := by decide +kernel
theorem dprog_13_method_10_code_1 : decode prog_13_method_10_code 1 = .ok (.bipush 6, 2) := by decide +kernel
theorem dprog_13_method_10_code_3 : decode prog_13_method_10_code 3 = .ok (.ishr, 1) := by decide +kernel
theorem dprog_13_method_10_code_4 : decode prog_13_method_10_code 4 = .ok (.istore_n 2, 1) := by decide +kernel
theorem dprog_13_method_10_code_5 : decode prog_13_method_10_code 5 = .ok (.iload_n 2, 1) := by decide +kernel
theorem dprog_13_method_10_code_6 : decode prog_13_method_10_code 6 = .ok (.aload_n 0, 1) := by decide +kernel
theorem dprog_13_method_10_code_7 : decode prog_13_method_10_code 7 = .ok (.getfield 7, 3) := by decide +kernel
theorem dprog_13_method_10_code_10 : decode prog_13_method_10_code 10 = .ok (.arraylength, 1) := by decide +kernel
theorem dprog_13_method_10_code_11 : decode prog_13_method_10_code 11 = .ok (.if_icmp .lt 5, 3) := by decide +kernel
theorem dprog_13_method_10_code_14 : decode prog_13_method_10_code 14 = .ok (.iconst (-1), 1) := by decide +kernel
theorem dprog_13_method_10_code_15 : decode prog_13_method_10_code 15 = .ok (.ireturn, 1) := by decide +kernel
theorem dprog_13_method_10_code_16 : decode prog_13_method_10_code 16 = .ok (.aload_n 0, 1) := by decide +kernel
theorem dprog_13_method_10_code_17 : decode prog_13_method_10_code 17 = .ok (.getfield 7, 3) := by decide +kernel
theorem dprog_13_method_10_code_20 : decode prog_13_method_10_code 20 = .ok (.iload_n 2, 1) := by decide +kernel
theorem dprog_13_method_10_code_21 : decode prog_13_method_10_code 21 = .ok (.laload, 1) := by decide +kernel
theorem dprog_13_method_10_code_22 : decode prog_13_method_10_code 22 = .ok (.ldc2_w 43, 3) := by decide +kernel
theorem dprog_13_method_10_code_25 : decode prog_13_method_10_code 25 = .ok (.iload_n 1, 1) := by decide +kernel
theorem dprog_13_method_10_code_26 : decode prog_13_method_10_code 26 = .ok (.lshl, 1) := by decide +kernel
theorem dprog_13_method_10_code_27 : decode prog_13_method_10_code 27 = .ok (.land, 1) := by decide +kernel
theorem dprog_13_method_10_code_28 : decode prog_13_method_10_code 28 = .ok (.lstore_n 3, 1) := by decide +kernel
theorem dprog_13_method_10_code_29 : decode prog_13_method_10_code 29 = .ok (.lload_n 3, 1) := by decide +kernel
theorem dprog_13_method_10_code_30 : decode prog_13_method_10_code 30 = .ok (.lconst 0, 1) := by decide +kernel
theorem dprog_13_method_10_code_31 : decode prog_13_method_10_code 31 = .ok (.lcmp, 1) := by decide +kernel
theorem dprog_13_method_10_code_32 : decode prog_13_method_10_code 32 = .ok (.ifCond .eq 13, 3) := by decide +kernel
theorem dprog_13_method_10_code_35 : decode prog_13_method_10_code 35 = .ok (.iload_n 2, 1) := by decide +kernel
theorem dprog_13_method_10_code_36 : decode prog_13_method_10_code 36 = .ok (.bipush 6, 2) := by decide +kernel
theorem dprog_13_method_10_code_38 : decode prog_13_method_10_code 38 = .ok (.ishl, 1) := by decide +kernel
theorem dprog_13_method_10_code_39 : decode prog_13_method_10_code 39 = .ok (.lload_n 3, 1) := by decide +kernel
theorem dprog_13_method_10_code_40 : decode prog_13_method_10_code 40 = .ok (.invokestatic 45, 3) := by decide +kernel
theorem dprog_13_method_10_code_43 : decode prog_13_method_10_code 43 = .ok (.iadd, 1) := by decide +kernel
theorem dprog_13_method_10_code_44 : decode prog_13_method_10_code 44 = .ok (.ireturn, 1) := by decide +kernel
theorem dprog_13_method_10_code_45 : decode prog_13_method_10_code 45 = .ok (.iinc 2 1, 3) := by decide +kernel
theorem dprog_13_method_10_code_48 : decode prog_13_method_10_code 48 = .ok (.iload_n 2, 1) := by decide +kernel
theorem dprog_13_method_10_code_49 : decode prog_13_method_10_code 49 = .ok (.aload_n 0, 1) := by decide +kernel
theorem dprog_13_method_10_code_50 : decode prog_13_method_10_code 50 = .ok (.getfield 7, 3) := by decide +kernel
theorem dprog_13_method_10_code_53 : decode prog_13_method_10_code 53 = .ok (.arraylength, 1) := by decide +kernel
theorem dprog_13_method_10_code_54 : decode prog_13_method_10_code 54 = .ok (.if_icmp .ne 5, 3) := by decide +kernel
theorem dprog_13_method_10_code_57 : decode prog_13_method_10_code 57 = .ok (.iconst (-1), 1) := by decide +kernel
theorem dprog_13_method_10_code_58 : decode prog_13_method_10_code 58 = .ok (.ireturn, 1) := by decide +kernel
theorem dprog_13_method_10_code_59 : decode prog_13_method_10_code 59 = .ok (.aload_n 0, 1) := by decide +kernel
theorem dprog_13_method_10_code_60 : decode prog_13_method_10_code 60 = .ok (.getfield 7, 3) := by decide +kernel
theorem dprog_13_method_10_code_63 : decode prog_13_method_10_code 63 = .ok (.iload_n 2, 1) := by decide +kernel
theorem dprog_13_method_10_code_64 : decode prog_13_method_10_code 64 = .ok (.laload, 1) := by decide +kernel
theorem dprog_13_method_10_code_65 : decode prog_13_method_10_code 65 = .ok (.lstore_n 3, 1) := by decide +kernel
theorem dprog_13_method_10_code_66 : decode prog_13_method_10_code 66 = .ok (.goto (-37), 3) := by decide +kernel
theorem dprog_13_method_1_code_0 : decode prog_13_method_1_code 0 = .ok (.aload_n 0, 1) := by decide +kernel
theorem dprog_13_method_1_code_1 : decode prog_13_method_1_code 1 = .ok (.invokespecial 1, 3) := by decide +kernel
theorem dprog_13_method_1_code_4 : decode prog_13_method_1_code 4 = .ok (.aload_n 0, 1) := by decide +kernel
theorem dprog_13_method_1_code_5 : decode prog_13_method_1_code 5 = .ok (.aload_n 1, 1) := by decide +kernel
theorem dprog_13_method_1_code_6 : decode prog_13_method_1_code 6 = .ok (.putfield 7, 3) := by decide +kernel
theorem dprog_13_method_1_code_9 : decode prog_13_method_1_code 9 = .ok (.return_, 1) := by decide +kernel
theorem dprog_13_method_2_code_0 : decode prog_13_method_2_code 0 = .ok (.iconst 0, 1) := by decide +kernel
theorem dprog_13_method_2_code_1 : decode prog_13_method_2_code 1 = .ok (.newarray .long, 2) := by decide +kernel
theorem dprog_13_method_2_code_3 : decode prog_13_method_2_code 3 = .ok (.astore_n 1, 1) := by decide +kernel
theorem dprog_13_method_2_code_4 : decode prog_13_method_2_code 4 = .ok (.aload_n 0, 1) := by decide +kernel
theorem dprog_13_method_2_code_5 : decode prog_13_method_2_code 5 = .ok (.astore_n 2, 1) := by decide +kernel
theorem dprog_13_method_2_code_6 : decode prog_13_method_2_code 6 = .ok (.aload_n 2, 1) := by decide +kernel
theorem dprog_13_method_2_code_7 : decode prog_13_method_2_code 7 = .ok (.arraylength, 1) := by decide +kernel
theorem dprog_13_method_2_code_8 : decode prog_13_method_2_code 8 = .ok (.istore_n 3, 1) := by decide +kernel
theorem dprog_13_method_2_code_9 : decode prog_13_method_2_code 9 = .ok (.iconst 0, 1) := by decide +kernel
theorem dprog_13_method_2_code_10 : decode prog_13_method_2_code 10 = .ok (.istore 4, 2) := by decide +kernel
theorem dprog_13_method_2_code_12 : decode prog_13_method_2_code 12 = .ok (.iload 4, 2) := by decide +kernel
theorem dprog_13_method_2_code_14 : decode prog_13_method_2_code 14 = .ok (.iload_n 3, 1) := by decide +kernel
theorem dprog_13_method_2_code_15 : decode prog_13_method_2_code 15 = .ok (.if_icmp .ge 51, 3) := by decide +kernel
theorem dprog_13_method_2_code_18 : decode prog_13_method_2_code 18 = .ok (.aload_n 2, 1) := by decide +kernel
theorem dprog_13_method_2_code_19 : decode prog_13_method_2_code 19 = .ok (.iload 4, 2) := by decide +kernel
theorem dprog_13_method_2_code_21 : decode prog_13_method_2_code 21 = .ok (.iaload, 1) := by decide +kernel
theorem dprog_13_method_2_code_22 : decode prog_13_method_2_code 22 = .ok (.istore 5, 2) := by decide +kernel
theorem dprog_13_method_2_code_24 : decode prog_13_method_2_code 24 = .ok (.iload 5, 2) := by decide +kernel
theorem dprog_13_method_2_code_26 : decode prog_13_method_2_code 26 = .ok (.bipush 6, 2) := by decide +kernel
theorem dprog_13_method_2_code_28 : decode prog_13_method_2_code 28 = .ok (.ishr, 1) := by decide +kernel
theorem dprog_13_method_2_code_29 : decode prog_13_method_2_code 29 = .ok (.aload_n 1, 1) := by decide +kernel
theorem dprog_13_method_2_code_30 : decode prog_13_method_2_code 30 = .ok (.arraylength, 1) := by decide +kernel
theorem dprog_13_method_2_code_31 : decode prog_13_method_2_code 31 = .ok (.if_icmp .lt 15, 3) := by decide +kernel
theorem dprog_13_method_2_code_34 : decode prog_13_method_2_code 34 = .ok (.aload_n 1, 1) := by decide +kernel
theorem dprog_13_method_2_code_35 : decode prog_13_method_2_code 35 = .ok (.iload 5, 2) := by decide +kernel
theorem dprog_13_method_2_code_37 : decode prog_13_method_2_code 37 = .ok (.bipush 6, 2) := by decide +kernel
theorem dprog_13_method_2_code_39 : decode prog_13_method_2_code 39 = .ok (.ishr, 1) := by decide +kernel
theorem dprog_13_method_2_code_40 : decode prog_13_method_2_code 40 = .ok (.iconst 1, 1) := by decide +kernel
theorem dprog_13_method_2_code_41 : decode prog_13_method_2_code 41 = .ok (.iadd, 1) := by decide +kernel
theorem dprog_13_method_2_code_42 : decode prog_13_method_2_code 42 = .ok (.invokestatic 13, 3) := by decide +kernel
theorem dprog_13_method_2_code_45 : decode prog_13_method_2_code 45 = .ok (.astore_n 1, 1) := by decide +kernel
theorem dprog_13_method_2_code_46 : decode prog_13_method_2_code 46 = .ok (.aload_n 1, 1) := by decide +kernel
theorem dprog_13_method_2_code_47 : decode prog_13_method_2_code 47 = .ok (.iload 5, 2) := by decide +kernel
theorem dprog_13_method_2_code_49 : decode prog_13_method_2_code 49 = .ok (.bipush 6, 2) := by decide +kernel
theorem dprog_13_method_2_code_51 : decode prog_13_method_2_code 51 = .ok (.ishr, 1) := by decide +kernel
theorem dprog_13_method_2_code_52 : decode prog_13_method_2_code 52 = .ok (.dup2, 1) := by decide +kernel
theorem dprog_13_method_2_code_53 : decode prog_13_method_2_code 53 = .ok (.laload, 1) := by decide +kernel
theorem dprog_13_method_2_code_54 : decode prog_13_method_2_code 54 = .ok (.lconst 1, 1) := by decide +kernel
theorem dprog_13_method_2_code_55 : decode prog_13_method_2_code 55 = .ok (.iload 5, 2) := by decide +kernel
theorem dprog_13_method_2_code_57 : decode prog_13_method_2_code 57 = .ok (.lshl, 1) := by decide +kernel
theorem dprog_13_method_2_code_58 : decode prog_13_method_2_code 58 = .ok (.lor, 1) := by decide +kernel
theorem dprog_13_method_2_code_59 : decode prog_13_method_2_code 59 = .ok (.lastore, 1) := by decide +kernel
theorem dprog_13_method_2_code_60 : decode prog_13_method_2_code 60 = .ok (.iinc 4 1, 3) := by decide +kernel
theorem dprog_13_method_2_code_63 : decode prog_13_method_2_code 63 = .ok (.goto (-51), 3) := by decide +kernel
theorem dprog_13_method_2_code_66 : decode prog_13_method_2_code 66 = .ok (.new 8, 3) := by decide +kernel
theorem dprog_13_method_2_code_69 : decode prog_13_method_2_code 69 = .ok (.dup, 1) := by decide +kernel
theorem dprog_13_method_2_code_70 : decode prog_13_method_2_code 70 = .ok (.aload_n 1, 1) := by decide +kernel
theorem dprog_13_method_2_code_71 : decode prog_13_method_2_code 71 = .ok (.invokespecial 19, 3) := by decide +kernel
theorem dprog_13_method_2_code_74 : decode prog_13_method_2_code 74 = .ok (.areturn, 1) := by decide +kernel
theorem dprog_13_method_5_code_0 : decode prog_13_method_5_code 0 = .ok (.aload_n 0, 1) := by decide +kernel
theorem dprog_13_method_5_code_1 : decode prog_13_method_5_code 1 = .ok (.getfield 7, 3) := by decide +kernel
theorem dprog_13_method_5_code_4 : decode prog_13_method_5_code 4 = .ok (.arraylength, 1) := by decide +kernel
theorem dprog_13_method_5_code_5 : decode prog_13_method_5_code 5 = .ok (.ifCond .ne 7, 3) := by decide +kernel
theorem dprog_13_method_5_code_8 : decode prog_13_method_5_code 8 = .ok (.iconst 1, 1) := by decide +kernel
theorem dprog_13_method_5_code_9 : decode prog_13_method_5_code 9 = .ok (.goto 4, 3) := by decide +kernel
theorem dprog_13_method_5_code_12 : decode prog_13_method_5_code 12 = .ok (.iconst 0, 1) := by decide +kernel
theorem dprog_13_method_5_code_13 : decode prog_13_method_5_code 13 = .ok (.ireturn, 1) := by decide +kernel
theorem dprog_13_method_6_code_0 : decode prog_13_method_6_code 0 = .ok (.iload_n 1, 1) := by decide +kernel
theorem dprog_13_method_6_code_1 : decode prog_13_method_6_code 1 = .ok (.bipush 6, 2) := by decide +kernel
theorem dprog_13_method_6_code_3 : decode prog_13_method_6_code 3 = .ok (.ishr, 1) := by decide +kernel
theorem dprog_13_method_6_code_4 : decode prog_13_method_6_code 4 = .ok (.aload_n 0, 1) := by decide +kernel
theorem dprog_13_method_6_code_5 : decode prog_13_method_6_code 5 = .ok (.getfield 7, 3) := by decide +kernel
theorem dprog_13_method_6_code_8 : decode prog_13_method_6_code 8 = .ok (.arraylength, 1) := by decide +kernel
theorem dprog_13_method_6_code_9 : decode prog_13_method_6_code 9 = .ok (.if_icmp .ge 25, 3) := by decide +kernel
theorem dprog_13_method_6_code_12 : decode prog_13_method_6_code 12 = .ok (.aload_n 0, 1) := by decide +kernel
theorem dprog_13_method_6_code_13 : decode prog_13_method_6_code 13 = .ok (.getfield 7, 3) := by decide +kernel
theorem dprog_13_method_6_code_16 : decode prog_13_method_6_code 16 = .ok (.iload_n 1, 1) := by decide +kernel
theorem dprog_13_method_6_code_17 : decode prog_13_method_6_code 17 = .ok (.bipush 6, 2) := by decide +kernel
theorem dprog_13_method_6_code_19 : decode prog_13_method_6_code 19 = .ok (.ishr, 1) := by decide +kernel
theorem dprog_13_method_6_code_20 : decode prog_13_method_6_code 20 = .ok (.laload, 1) := by decide +kernel
theorem dprog_13_method_6_code_21 : decode prog_13_method_6_code 21 = .ok (.lconst 1, 1) := by decide +kernel
theorem dprog_13_method_6_code_22 : decode prog_13_method_6_code 22 = .ok (.iload_n 1, 1) := by decide +kernel
theorem dprog_13_method_6_code_23 : decode prog_13_method_6_code 23 = .ok (.lshl, 1) := by decide +kernel
theorem dprog_13_method_6_code_24 : decode prog_13_method_6_code 24 = .ok (.land, 1) := by decide +kernel
theorem dprog_13_method_6_code_25 : decode prog_13_method_6_code 25 = .ok (.lconst 0, 1) := by decide +kernel
theorem dprog_13_method_6_code_26 : decode prog_13_method_6_code 26 = .ok (.lcmp, 1) := by decide +kernel
theorem dprog_13_method_6_code_27 : decode prog_13_method_6_code 27 = .ok (.ifCond .eq 7, 3) := by decide +kernel
theorem dprog_13_method_6_code_30 : decode prog_13_method_6_code 30 = .ok (.iconst 1, 1) := by decide +kernel
theorem dprog_13_method_6_code_31 : decode prog_13_method_6_code 31 = .ok (.goto 4, 3) := by decide +kernel
theorem dprog_13_method_6_code_34 : decode prog_13_method_6_code 34 = .ok (.iconst 0, 1) := by decide +kernel
theorem dprog_13_method_6_code_35 : decode prog_13_method_6_code 35 = .ok (.ireturn, 1) := by decide +kernel
theorem dprog_13_method_7_code_0 : decode prog_13_method_7_code 0 = .ok (.iconst 0, 1) := by decide +kernel
theorem dprog_13_method_7_code_1 : decode prog_13_method_7_code 1 = .ok (.istore_n 1, 1) := by decide +kernel
theorem dprog_13_method_7_code_2 : decode prog_13_method_7_code 2 = .ok (.aload_n 0, 1) := by decide +kernel
theorem dprog_13_method_7_code_3 : decode prog_13_method_7_code 3 = .ok (.getfield 7, 3) := by decide +kernel
theorem dprog_13_method_7_code_6 : decode prog_13_method_7_code 6 = .ok (.astore_n 2, 1) := by decide +kernel
theorem dprog_13_method_7_code_7 : decode prog_13_method_7_code 7 = .ok (.aload_n 2, 1) := by decide +kernel
theorem dprog_13_method_7_code_8 : decode prog_13_method_7_code 8 = .ok (.arraylength, 1) := by decide +kernel
theorem dprog_13_method_7_code_9 : decode prog_13_method_7_code 9 = .ok (.istore_n 3, 1) := by decide +kernel
theorem dprog_13_method_7_code_10 : decode prog_13_method_7_code 10 = .ok (.iconst 0, 1) := by decide +kernel
theorem dprog_13_method_7_code_11 : decode prog_13_method_7_code 11 = .ok (.istore 4, 2) := by decide +kernel
theorem dprog_13_method_7_code_13 : decode prog_13_method_7_code 13 = .ok (.iload 4, 2) := by decide +kernel
theorem dprog_13_method_7_code_15 : decode prog_13_method_7_code 15 = .ok (.iload_n 3, 1) := by decide +kernel
theorem dprog_13_method_7_code_16 : decode prog_13_method_7_code 16 = .ok (.if_icmp .ge 23, 3) := by decide +kernel
theorem dprog_13_method_7_code_19 : decode prog_13_method_7_code 19 = .ok (.aload_n 2, 1) := by decide +kernel
theorem dprog_13_method_7_code_20 : decode prog_13_method_7_code 20 = .ok (.iload 4, 2) := by decide +kernel
theorem dprog_13_method_7_code_22 : decode prog_13_method_7_code 22 = .ok (.laload, 1) := by decide +kernel
theorem dprog_13_method_7_code_23 : decode prog_13_method_7_code 23 = .ok (.lstore 5, 2) := by decide +kernel
theorem dprog_13_method_7_code_25 : decode prog_13_method_7_code 25 = .ok (.iload_n 1, 1) := by decide +kernel
theorem dprog_13_method_7_code_26 : decode prog_13_method_7_code 26 = .ok (.lload 5, 2) := by decide +kernel
theorem dprog_13_method_7_code_28 : decode prog_13_method_7_code 28 = .ok (.invokestatic 30, 3) := by decide +kernel
theorem dprog_13_method_7_code_31 : decode prog_13_method_7_code 31 = .ok (.iadd, 1) := by decide +kernel
theorem dprog_13_method_7_code_32 : decode prog_13_method_7_code 32 = .ok (.istore_n 1, 1) := by decide +kernel
theorem dprog_13_method_7_code_33 : decode prog_13_method_7_code 33 = .ok (.iinc 4 1, 3) := by decide +kernel
theorem dprog_13_method_7_code_36 : decode prog_13_method_7_code 36 = .ok (.goto (-23), 3) := by decide +kernel
theorem dprog_13_method_7_code_39 : decode prog_13_method_7_code 39 = .ok (.iload_n 1, 1) := by decide +kernel
theorem dprog_13_method_7_code_40 : decode prog_13_method_7_code 40 = .ok (.ireturn, 1) := by decide +kernel
theorem dprog_13_method_8_code_0 : decode prog_13_method_8_code 0 = .ok (.aload_n 0, 1) := by decide +kernel
theorem dprog_13_method_8_code_1 : decode prog_13_method_8_code 1 = .ok (.iconst 0, 1) := by decide +kernel
theorem dprog_13_method_8_code_2 : decode prog_13_method_8_code 2 = .ok (.invokevirtual 36, 3) := by decide +kernel
theorem dprog_13_method_8_code_5 : decode prog_13_method_8_code 5 = .ok (.ireturn, 1) := by decide +kernel
theorem dprog_13_method_9_code_0 : decode prog_13_method_9_code 0 = .ok (.aload_n 0, 1) := by decide +kernel
theorem dprog_13_method_9_code_1 : decode prog_13_method_9_code 1 = .ok (.getfield 7, 3) := by decide +kernel
theorem dprog_13_method_9_code_4 : decode prog_13_method_9_code 4 = .ok (.arraylength, 1) := by decide +kernel
theorem dprog_13_method_9_code_5 : decode prog_13_method_9_code 5 = .ok (.ifCond .ne 7, 3) := by decide +kernel
theorem dprog_13_method_9_code_8 : decode prog_13_method_9_code 8 = .ok (.iconst (-1), 1) := by decide +kernel
theorem dprog_13_method_9_code_9 : decode prog_13_method_9_code 9 = .ok (.goto 29, 3) := by decide +kernel
theorem dprog_13_method_9_code_12 : decode prog_13_method_9_code 12 = .ok (.aload_n 0, 1) := by decide +kernel
theorem dprog_13_method_9_code_13 : decode prog_13_method_9_code 13 = .ok (.getfield 7, 3) := by decide +kernel
theorem dprog_13_method_9_code_16 : decode prog_13_method_9_code 16 = .ok (.arraylength, 1) := by decide +kernel
theorem dprog_13_method_9_code_17 : decode prog_13_method_9_code 17 = .ok (.bipush 6, 2) := by decide +kernel
theorem dprog_13_method_9_code_19 : decode prog_13_method_9_code 19 = .ok (.ishl, 1) := by decide +kernel
theorem dprog_13_method_9_code_20 : decode prog_13_method_9_code 20 = .ok (.iconst 1, 1) := by decide +kernel
theorem dprog_13_method_9_code_21 : decode prog_13_method_9_code 21 = .ok (.isub, 1) := by decide +kernel
theorem dprog_13_method_9_code_22 : decode prog_13_method_9_code 22 = .ok (.aload_n 0, 1) := by decide +kernel
theorem dprog_13_method_9_code_23 : decode prog_13_method_9_code 23 = .ok (.getfield 7, 3) := by decide +kernel
theorem dprog_13_method_9_code_26 : decode prog_13_method_9_code 26 = .ok (.aload_n 0, 1) := by decide +kernel
theorem dprog_13_method_9_code_27 : decode prog_13_method_9_code 27 = .ok (.getfield 7, 3) := by decide +kernel
theorem dprog_13_method_9_code_30 : decode prog_13_method_9_code 30 = .ok (.arraylength, 1) := by decide +kernel
theorem dprog_13_method_9_code_31 : decode prog_13_method_9_code 31 = .ok (.iconst 1, 1) := by decide +kernel
theorem dprog_13_method_9_code_32 : decode prog_13_method_9_code 32 = .ok (.isub, 1) := by decide +kernel
theorem dprog_13_method_9_code_33 : decode prog_13_method_9_code 33 = .ok (.laload, 1) := by decide +kernel
theorem dprog_13_method_9_code_34 : decode prog_13_method_9_code 34 = .ok (.invokestatic 40, 3) := by decide +kernel
theorem dprog_13_method_9_code_37 : decode prog_13_method_9_code 37 = .ok (.isub, 1) := by decide +kernel
theorem dprog_13_method_9_code_38 : decode prog_13_method_9_code 38 = .ok (.ireturn, 1) := by decide +kernel
theorem pn_0 : plainName "com/example/heaplens/heaplens/sharing/VarSet" = true := by first | (simp [plainName, overriddenIn]; done) | decide +kernel
theorem pn_1 : plainName "java/util/Arrays" = true := by first | (simp [plainName, overriddenIn]; done) | decide +kernel
theorem pn_2 : plainName "com/example/heaplens/heaplens/sharing/VarSetOfPinLaw" = true := by first | (simp [plainName, overriddenIn]; done) | decide +kernel
theorem pd_0 : parseMethodDescriptor "([J)V" = some ⟨[(.array .long)], none⟩ := by decide +kernel
theorem pd_1 : parseMethodDescriptor "([I)Lcom/example/heaplens/heaplens/sharing/VarSet;" = some ⟨[(.array .int)], some (.object "com/example/heaplens/heaplens/sharing/VarSet")⟩ := by decide +kernel
theorem pd_2 : parseMethodDescriptor "(I)Z" = some ⟨[.int], some .boolean⟩ := by decide +kernel
theorem pd_3 : parseMethodDescriptor "()I" = some ⟨[], some .int⟩ := by decide +kernel
theorem pd_4 : parseMethodDescriptor "(I)I" = some ⟨[.int], some .int⟩ := by decide +kernel
theorem pd_5 : parseMethodDescriptor "()Z" = some ⟨[], some .boolean⟩ := by decide +kernel
theorem pd_6 : parseMethodDescriptor "(II)I" = some ⟨[.int, .int], some .int⟩ := by decide +kernel
theorem pd_7 : parseMethodDescriptor "([JI)[J" = some ⟨[(.array .long), .int], some (.array .long)⟩ := by decide +kernel
theorem ar_0 (x0 : Int32) (x1 : Int32) (hx1 : x1 = (x0 &&& (3 : Int32))) (c0 : (x1 = (0 : Int32))) (c1 : (¬ (x1 = (0 : Int32)))) : False := by
  have rx1 := rng32 x1
  have wx1 := c_mask x0 (3 : Int32) 2 (by decide) (by decide)
  rw [← hx1] at wx1
  have rx0 := rng32 x0
  have lI0 : (0 : Int32).toInt = 0 := by decide
  have lI3 : (3 : Int32).toInt = 3 := by decide
  simp only [Int32.lt_iff_toInt_lt, Int64.lt_iff_toInt_lt, ← Int32.toInt_inj, ← Int64.toInt_inj] at c0 c1
  omega
theorem ar_1 (x0 : Int32) (x1 : Int32) (x2 : Int32) (hx1 : x1 = (x0 >>> ((6 : Int32) &&& 31))) (c0 : (¬ (x0 < (0 : Int32)))) (c1 : (¬ ((511 : Int32) < x0))) (c2 : (¬ (x2 < (0 : Int32)))) (c3 : (¬ ((4 : Int32) < x2))) (c4 : (x1 < x2)) (c5 : (x1 < (0 : Int32))) : False := by
  have rx1 := rng32 x1
  have wx1 := c_ishr x0 (6 : Int32) 6 (by decide)
  rw [← hx1] at wx1
  have rx0 := rng32 x0
  have rx2 := rng32 x2
  have lI0 : (0 : Int32).toInt = 0 := by decide
  have lI4 : (4 : Int32).toInt = 4 := by decide
  have lI6 : (6 : Int32).toInt = 6 := by decide
  have lI511 : (511 : Int32).toInt = 511 := by decide
  simp only [Int32.lt_iff_toInt_lt, Int64.lt_iff_toInt_lt, ← Int32.toInt_inj, ← Int64.toInt_inj] at c0 c1 c2 c3 c4 c5
  omega
theorem ar_2 (x0 : Int32) (x1 : Int32) (x2 : Int32) (hx1 : x1 = (x0 >>> ((6 : Int32) &&& 31))) (c0 : (¬ (x0 < (0 : Int32)))) (c1 : (¬ ((511 : Int32) < x0))) (c2 : (¬ (x2 < (0 : Int32)))) (c3 : (¬ ((4 : Int32) < x2))) (c4 : (x1 < x2)) (c5 : (¬ (x1 < (0 : Int32)))) (c6 : (¬ (x1 < (4 : Int32)))) : False := by
  have rx1 := rng32 x1
  have wx1 := c_ishr x0 (6 : Int32) 6 (by decide)
  rw [← hx1] at wx1
  have rx0 := rng32 x0
  have rx2 := rng32 x2
  have lI0 : (0 : Int32).toInt = 0 := by decide
  have lI4 : (4 : Int32).toInt = 4 := by decide
  have lI6 : (6 : Int32).toInt = 6 := by decide
  have lI511 : (511 : Int32).toInt = 511 := by decide
  simp only [Int32.lt_iff_toInt_lt, Int64.lt_iff_toInt_lt, ← Int32.toInt_inj, ← Int64.toInt_inj] at c0 c1 c2 c3 c4 c5 c6
  omega
theorem ar_3 (x0 : Int32) (x1 : Int32) (hx1 : x1 = (x0 &&& (511 : Int32))) (c0 : (x1 < (0 : Int32))) : False := by
  have rx1 := rng32 x1
  have wx1 := c_mask x0 (511 : Int32) 9 (by decide) (by decide)
  rw [← hx1] at wx1
  have rx0 := rng32 x0
  have lI0 : (0 : Int32).toInt = 0 := by decide
  have lI511 : (511 : Int32).toInt = 511 := by decide
  simp only [Int32.lt_iff_toInt_lt, Int64.lt_iff_toInt_lt, ← Int32.toInt_inj, ← Int64.toInt_inj] at c0
  omega
theorem ar_4 (x0 : Int32) (x1 : Int32) (hx1 : x1 = (x0 &&& (511 : Int32))) (c0 : (¬ (x1 < (0 : Int32)))) (c1 : ((511 : Int32) < x1)) : False := by
  have rx1 := rng32 x1
  have wx1 := c_mask x0 (511 : Int32) 9 (by decide) (by decide)
  rw [← hx1] at wx1
  have rx0 := rng32 x0
  have lI0 : (0 : Int32).toInt = 0 := by decide
  have lI511 : (511 : Int32).toInt = 511 := by decide
  simp only [Int32.lt_iff_toInt_lt, Int64.lt_iff_toInt_lt, ← Int32.toInt_inj, ← Int64.toInt_inj] at c0 c1
  omega
theorem ar_5 (x0 : Int32) (c0 : (¬ (x0 < (0 : Int32)))) (c1 : (¬ ((4 : Int32) < x0))) (c2 : ((0 : Int32) < x0)) (c3 : ((1 : Int32) < x0)) (c4 : (¬ ((2 : Int32) < x0))) (c5 : ((3 : Int32) < x0)) : False := by
  have rx0 := rng32 x0
  have lI0 : (0 : Int32).toInt = 0 := by decide
  have lI1 : (1 : Int32).toInt = 1 := by decide
  have lI2 : (2 : Int32).toInt = 2 := by decide
  have lI3 : (3 : Int32).toInt = 3 := by decide
  have lI4 : (4 : Int32).toInt = 4 := by decide
  simp only [Int32.lt_iff_toInt_lt, Int64.lt_iff_toInt_lt, ← Int32.toInt_inj, ← Int64.toInt_inj] at c0 c1 c2 c3 c4 c5
  omega
theorem ar_6 (x0 : Int32) (c0 : (¬ (x0 < (0 : Int32)))) (c1 : (¬ ((4 : Int32) < x0))) (c2 : ((0 : Int32) < x0)) (c3 : (¬ ((1 : Int32) < x0))) (c4 : ((2 : Int32) < x0)) : False := by
  have rx0 := rng32 x0
  have lI0 : (0 : Int32).toInt = 0 := by decide
  have lI1 : (1 : Int32).toInt = 1 := by decide
  have lI2 : (2 : Int32).toInt = 2 := by decide
  have lI4 : (4 : Int32).toInt = 4 := by decide
  simp only [Int32.lt_iff_toInt_lt, Int64.lt_iff_toInt_lt, ← Int32.toInt_inj, ← Int64.toInt_inj] at c0 c1 c2 c3 c4
  omega
theorem ar_7 (x0 : Int32) (c0 : (¬ (x0 < (0 : Int32)))) (c1 : (¬ ((4 : Int32) < x0))) (c2 : ((0 : Int32) < x0)) (c3 : (¬ ((1 : Int32) < x0))) (c4 : (¬ ((2 : Int32) < x0))) (c5 : ((3 : Int32) < x0)) : False := by
  have rx0 := rng32 x0
  have lI0 : (0 : Int32).toInt = 0 := by decide
  have lI1 : (1 : Int32).toInt = 1 := by decide
  have lI2 : (2 : Int32).toInt = 2 := by decide
  have lI3 : (3 : Int32).toInt = 3 := by decide
  have lI4 : (4 : Int32).toInt = 4 := by decide
  simp only [Int32.lt_iff_toInt_lt, Int64.lt_iff_toInt_lt, ← Int32.toInt_inj, ← Int64.toInt_inj] at c0 c1 c2 c3 c4 c5
  omega
theorem ar_8 (x0 : Int32) (c0 : (¬ (x0 < (0 : Int32)))) (c1 : (¬ ((4 : Int32) < x0))) (c2 : (¬ ((0 : Int32) < x0))) (c3 : ((1 : Int32) < x0)) : False := by
  have rx0 := rng32 x0
  have lI0 : (0 : Int32).toInt = 0 := by decide
  have lI1 : (1 : Int32).toInt = 1 := by decide
  have lI4 : (4 : Int32).toInt = 4 := by decide
  simp only [Int32.lt_iff_toInt_lt, Int64.lt_iff_toInt_lt, ← Int32.toInt_inj, ← Int64.toInt_inj] at c0 c1 c2 c3
  omega
theorem ar_9 (x0 : Int32) (c0 : (¬ (x0 < (0 : Int32)))) (c1 : (¬ ((4 : Int32) < x0))) (c2 : (¬ ((0 : Int32) < x0))) (c3 : (¬ ((1 : Int32) < x0))) (c4 : ((2 : Int32) < x0)) : False := by
  have rx0 := rng32 x0
  have lI0 : (0 : Int32).toInt = 0 := by decide
  have lI1 : (1 : Int32).toInt = 1 := by decide
  have lI2 : (2 : Int32).toInt = 2 := by decide
  have lI4 : (4 : Int32).toInt = 4 := by decide
  simp only [Int32.lt_iff_toInt_lt, Int64.lt_iff_toInt_lt, ← Int32.toInt_inj, ← Int64.toInt_inj] at c0 c1 c2 c3 c4
  omega
theorem ar_10 (x0 : Int32) (c0 : (¬ (x0 < (0 : Int32)))) (c1 : (¬ ((4 : Int32) < x0))) (c2 : (¬ ((0 : Int32) < x0))) (c3 : (¬ ((1 : Int32) < x0))) (c4 : (¬ ((2 : Int32) < x0))) (c5 : ((3 : Int32) < x0)) : False := by
  have rx0 := rng32 x0
  have lI0 : (0 : Int32).toInt = 0 := by decide
  have lI1 : (1 : Int32).toInt = 1 := by decide
  have lI2 : (2 : Int32).toInt = 2 := by decide
  have lI3 : (3 : Int32).toInt = 3 := by decide
  have lI4 : (4 : Int32).toInt = 4 := by decide
  simp only [Int32.lt_iff_toInt_lt, Int64.lt_iff_toInt_lt, ← Int32.toInt_inj, ← Int64.toInt_inj] at c0 c1 c2 c3 c4 c5
  omega
theorem ar_11 (x0 : Int32) (c0 : (¬ (x0 < (0 : Int32)))) (c1 : (¬ ((4 : Int32) < x0))) (c2 : ((0 : Int32) < x0)) (c3 : ((1 : Int32) = x0)) (c4 : ((1 : Int32) < x0)) : False := by
  have rx0 := rng32 x0
  have lI0 : (0 : Int32).toInt = 0 := by decide
  have lI1 : (1 : Int32).toInt = 1 := by decide
  have lI4 : (4 : Int32).toInt = 4 := by decide
  simp only [Int32.lt_iff_toInt_lt, Int64.lt_iff_toInt_lt, ← Int32.toInt_inj, ← Int64.toInt_inj] at c0 c1 c2 c3 c4
  omega
theorem ar_12 (x0 : Int32) (c0 : (¬ (x0 < (0 : Int32)))) (c1 : (¬ ((4 : Int32) < x0))) (c2 : ((0 : Int32) < x0)) (c3 : ((1 : Int32) = x0)) (c4 : (¬ ((1 : Int32) < x0))) (c5 : ((2 : Int32) < x0)) : False := by
  have rx0 := rng32 x0
  have lI0 : (0 : Int32).toInt = 0 := by decide
  have lI1 : (1 : Int32).toInt = 1 := by decide
  have lI2 : (2 : Int32).toInt = 2 := by decide
  have lI4 : (4 : Int32).toInt = 4 := by decide
  simp only [Int32.lt_iff_toInt_lt, Int64.lt_iff_toInt_lt, ← Int32.toInt_inj, ← Int64.toInt_inj] at c0 c1 c2 c3 c4 c5
  omega
theorem ar_13 (x0 : Int32) (c0 : (¬ (x0 < (0 : Int32)))) (c1 : (¬ ((4 : Int32) < x0))) (c2 : ((0 : Int32) < x0)) (c3 : ((1 : Int32) = x0)) (c4 : (¬ ((1 : Int32) < x0))) (c5 : (¬ ((2 : Int32) < x0))) (c6 : ((3 : Int32) < x0)) : False := by
  have rx0 := rng32 x0
  have lI0 : (0 : Int32).toInt = 0 := by decide
  have lI1 : (1 : Int32).toInt = 1 := by decide
  have lI2 : (2 : Int32).toInt = 2 := by decide
  have lI3 : (3 : Int32).toInt = 3 := by decide
  have lI4 : (4 : Int32).toInt = 4 := by decide
  simp only [Int32.lt_iff_toInt_lt, Int64.lt_iff_toInt_lt, ← Int32.toInt_inj, ← Int64.toInt_inj] at c0 c1 c2 c3 c4 c5 c6
  omega
theorem ar_14 (x0 : Int32) (c0 : (¬ (x0 < (0 : Int32)))) (c1 : (¬ ((4 : Int32) < x0))) (c2 : ((0 : Int32) < x0)) (c3 : (¬ ((1 : Int32) = x0))) (c4 : (¬ ((1 : Int32) < x0))) : False := by
  have rx0 := rng32 x0
  have lI0 : (0 : Int32).toInt = 0 := by decide
  have lI1 : (1 : Int32).toInt = 1 := by decide
  have lI4 : (4 : Int32).toInt = 4 := by decide
  simp only [Int32.lt_iff_toInt_lt, Int64.lt_iff_toInt_lt, ← Int32.toInt_inj, ← Int64.toInt_inj] at c0 c1 c2 c3 c4
  omega
theorem ar_15 (x0 : Int32) (c0 : (¬ (x0 < (0 : Int32)))) (c1 : (¬ ((4 : Int32) < x0))) (c2 : ((0 : Int32) < x0)) (c3 : (¬ ((1 : Int32) = x0))) (c4 : ((2 : Int32) = x0)) (c5 : ((2 : Int32) < x0)) : False := by
  have rx0 := rng32 x0
  have lI0 : (0 : Int32).toInt = 0 := by decide
  have lI1 : (1 : Int32).toInt = 1 := by decide
  have lI2 : (2 : Int32).toInt = 2 := by decide
  have lI4 : (4 : Int32).toInt = 4 := by decide
  simp only [Int32.lt_iff_toInt_lt, Int64.lt_iff_toInt_lt, ← Int32.toInt_inj, ← Int64.toInt_inj] at c0 c1 c2 c3 c4 c5
  omega
theorem ar_16 (x0 : Int32) (c0 : (¬ (x0 < (0 : Int32)))) (c1 : (¬ ((4 : Int32) < x0))) (c2 : ((0 : Int32) < x0)) (c3 : (¬ ((1 : Int32) = x0))) (c4 : ((2 : Int32) = x0)) (c5 : (¬ ((2 : Int32) < x0))) (c6 : ((3 : Int32) < x0)) : False := by
  have rx0 := rng32 x0
  have lI0 : (0 : Int32).toInt = 0 := by decide
  have lI1 : (1 : Int32).toInt = 1 := by decide
  have lI2 : (2 : Int32).toInt = 2 := by decide
  have lI3 : (3 : Int32).toInt = 3 := by decide
  have lI4 : (4 : Int32).toInt = 4 := by decide
  simp only [Int32.lt_iff_toInt_lt, Int64.lt_iff_toInt_lt, ← Int32.toInt_inj, ← Int64.toInt_inj] at c0 c1 c2 c3 c4 c5 c6
  omega
theorem ar_17 (x0 : Int32) (c0 : (¬ (x0 < (0 : Int32)))) (c1 : (¬ ((4 : Int32) < x0))) (c2 : ((0 : Int32) < x0)) (c3 : (¬ ((1 : Int32) = x0))) (c4 : (¬ ((2 : Int32) = x0))) (c5 : (¬ ((2 : Int32) < x0))) : False := by
  have rx0 := rng32 x0
  have lI0 : (0 : Int32).toInt = 0 := by decide
  have lI1 : (1 : Int32).toInt = 1 := by decide
  have lI2 : (2 : Int32).toInt = 2 := by decide
  have lI4 : (4 : Int32).toInt = 4 := by decide
  simp only [Int32.lt_iff_toInt_lt, Int64.lt_iff_toInt_lt, ← Int32.toInt_inj, ← Int64.toInt_inj] at c0 c1 c2 c3 c4 c5
  omega
theorem ar_18 (x0 : Int32) (c0 : (¬ (x0 < (0 : Int32)))) (c1 : (¬ ((4 : Int32) < x0))) (c2 : ((0 : Int32) < x0)) (c3 : (¬ ((1 : Int32) = x0))) (c4 : (¬ ((2 : Int32) = x0))) (c5 : ((3 : Int32) = x0)) (c6 : ((3 : Int32) < x0)) : False := by
  have rx0 := rng32 x0
  have lI0 : (0 : Int32).toInt = 0 := by decide
  have lI1 : (1 : Int32).toInt = 1 := by decide
  have lI2 : (2 : Int32).toInt = 2 := by decide
  have lI3 : (3 : Int32).toInt = 3 := by decide
  have lI4 : (4 : Int32).toInt = 4 := by decide
  simp only [Int32.lt_iff_toInt_lt, Int64.lt_iff_toInt_lt, ← Int32.toInt_inj, ← Int64.toInt_inj] at c0 c1 c2 c3 c4 c5 c6
  omega
theorem ar_19 (x0 : Int32) (c0 : (¬ (x0 < (0 : Int32)))) (c1 : (¬ ((4 : Int32) < x0))) (c2 : ((0 : Int32) < x0)) (c3 : (¬ ((1 : Int32) = x0))) (c4 : (¬ ((2 : Int32) = x0))) (c5 : (¬ ((3 : Int32) = x0))) (c6 : (¬ ((3 : Int32) < x0))) : False := by
  have rx0 := rng32 x0
  have lI0 : (0 : Int32).toInt = 0 := by decide
  have lI1 : (1 : Int32).toInt = 1 := by decide
  have lI2 : (2 : Int32).toInt = 2 := by decide
  have lI3 : (3 : Int32).toInt = 3 := by decide
  have lI4 : (4 : Int32).toInt = 4 := by decide
  simp only [Int32.lt_iff_toInt_lt, Int64.lt_iff_toInt_lt, ← Int32.toInt_inj, ← Int64.toInt_inj] at c0 c1 c2 c3 c4 c5 c6
  omega
theorem ar_20 (x0 : Int32) (c0 : (¬ (x0 < (0 : Int32)))) (c1 : (¬ ((4 : Int32) < x0))) (c2 : ((0 : Int32) < x0)) (c3 : (¬ ((1 : Int32) = x0))) (c4 : (¬ ((2 : Int32) = x0))) (c5 : (¬ ((3 : Int32) = x0))) (c6 : (¬ ((4 : Int32) = x0))) : False := by
  have rx0 := rng32 x0
  have lI0 : (0 : Int32).toInt = 0 := by decide
  have lI1 : (1 : Int32).toInt = 1 := by decide
  have lI2 : (2 : Int32).toInt = 2 := by decide
  have lI3 : (3 : Int32).toInt = 3 := by decide
  have lI4 : (4 : Int32).toInt = 4 := by decide
  simp only [Int32.lt_iff_toInt_lt, Int64.lt_iff_toInt_lt, ← Int32.toInt_inj, ← Int64.toInt_inj] at c0 c1 c2 c3 c4 c5 c6
  omega
theorem ar_21 (x0 : Int32) (x1 : Int32) (hx1 : x1 = (x0 - (1 : Int32))) (c0 : (¬ (x0 < (0 : Int32)))) (c1 : (¬ ((4 : Int32) < x0))) (c2 : (¬ (x0 = (0 : Int32)))) (c3 : (x1 < (0 : Int32))) : False := by
  have rx1 := rng32 x1
  have wx1 := c_isub x0 (1 : Int32)
  rw [← hx1] at wx1
  have rx0 := rng32 x0
  have lI0 : (0 : Int32).toInt = 0 := by decide
  have lI1 : (1 : Int32).toInt = 1 := by decide
  have lI4 : (4 : Int32).toInt = 4 := by decide
  simp only [Int32.lt_iff_toInt_lt, Int64.lt_iff_toInt_lt, ← Int32.toInt_inj, ← Int64.toInt_inj] at c0 c1 c2 c3
  omega
theorem ar_22 (x0 : Int32) (x1 : Int32) (hx1 : x1 = (x0 - (1 : Int32))) (c0 : (¬ (x0 < (0 : Int32)))) (c1 : (¬ ((4 : Int32) < x0))) (c2 : (¬ (x0 = (0 : Int32)))) (c3 : (¬ (x1 < (0 : Int32)))) (c4 : (¬ (x1 < (4 : Int32)))) : False := by
  have rx1 := rng32 x1
  have wx1 := c_isub x0 (1 : Int32)
  rw [← hx1] at wx1
  have rx0 := rng32 x0
  have lI0 : (0 : Int32).toInt = 0 := by decide
  have lI1 : (1 : Int32).toInt = 1 := by decide
  have lI4 : (4 : Int32).toInt = 4 := by decide
  simp only [Int32.lt_iff_toInt_lt, Int64.lt_iff_toInt_lt, ← Int32.toInt_inj, ← Int64.toInt_inj] at c0 c1 c2 c3 c4
  omega
theorem ar_23 (x0 : Int32) (x1 : Int32) (hx1 : x1 = (x0 - (1 : Int32))) (c0 : (¬ (x0 < (0 : Int32)))) (c1 : (¬ ((4 : Int32) < x0))) (c2 : (¬ (x0 = (0 : Int32)))) (c3 : (¬ (x1 < (0 : Int32)))) (c4 : (x1 < (4 : Int32))) (c5 : (¬ (x1 < x0))) : False := by
  have rx1 := rng32 x1
  have wx1 := c_isub x0 (1 : Int32)
  rw [← hx1] at wx1
  have rx0 := rng32 x0
  have lI0 : (0 : Int32).toInt = 0 := by decide
  have lI1 : (1 : Int32).toInt = 1 := by decide
  have lI4 : (4 : Int32).toInt = 4 := by decide
  simp only [Int32.lt_iff_toInt_lt, Int64.lt_iff_toInt_lt, ← Int32.toInt_inj, ← Int64.toInt_inj] at c0 c1 c2 c3 c4 c5
  omega
theorem ar_24 (x0 : Int32) (x1 : Int32) (hx1 : x1 = (x0 &&& (3 : Int32))) (c0 : (¬ (x1 = (0 : Int32)))) (c1 : (x1 = (1 : Int32))) (c2 : (¬ (x1 = (1 : Int32)))) : False := by
  have rx1 := rng32 x1
  have wx1 := c_mask x0 (3 : Int32) 2 (by decide) (by decide)
  rw [← hx1] at wx1
  have rx0 := rng32 x0
  have lI0 : (0 : Int32).toInt = 0 := by decide
  have lI1 : (1 : Int32).toInt = 1 := by decide
  have lI3 : (3 : Int32).toInt = 3 := by decide
  simp only [Int32.lt_iff_toInt_lt, Int64.lt_iff_toInt_lt, ← Int32.toInt_inj, ← Int64.toInt_inj] at c0 c1 c2
  omega
theorem ar_25 (x0 : Int32) (x1 : Int32) (hx1 : x1 = (x0 >>> ((6 : Int32) &&& 31))) (c0 : (¬ (x0 < (0 : Int32)))) (c1 : (¬ ((255 : Int32) < x0))) (c2 : (x1 < (0 : Int32))) : False := by
  have rx1 := rng32 x1
  have wx1 := c_ishr x0 (6 : Int32) 6 (by decide)
  rw [← hx1] at wx1
  have rx0 := rng32 x0
  have lI0 : (0 : Int32).toInt = 0 := by decide
  have lI6 : (6 : Int32).toInt = 6 := by decide
  have lI255 : (255 : Int32).toInt = 255 := by decide
  simp only [Int32.lt_iff_toInt_lt, Int64.lt_iff_toInt_lt, ← Int32.toInt_inj, ← Int64.toInt_inj] at c0 c1 c2
  omega
theorem ar_26 (x0 : Int32) (x1 : Int32) (c0 : (¬ (x0 < (1 : Int32)))) (c1 : (¬ ((4 : Int32) < x0))) (c2 : (¬ (x1 < (0 : Int32)))) (c3 : (¬ ((4 : Int32) < x1))) (c4 : (x1 < x0)) (c5 : (x0 = x1)) : False := by
  have rx0 := rng32 x0
  have rx1 := rng32 x1
  have lI0 : (0 : Int32).toInt = 0 := by decide
  have lI1 : (1 : Int32).toInt = 1 := by decide
  have lI4 : (4 : Int32).toInt = 4 := by decide
  simp only [Int32.lt_iff_toInt_lt, Int64.lt_iff_toInt_lt, ← Int32.toInt_inj, ← Int64.toInt_inj] at c0 c1 c2 c3 c4 c5
  omega
theorem ar_27 (x0 : Int32) (x1 : Int32) (c0 : (¬ (x0 < (1 : Int32)))) (c1 : (¬ ((4 : Int32) < x0))) (c2 : (¬ (x1 < (0 : Int32)))) (c3 : (¬ ((4 : Int32) < x1))) (c4 : (x1 < x0)) (c5 : (¬ (x0 = x1))) (c6 : (x0 < (0 : Int32))) : False := by
  have rx0 := rng32 x0
  have rx1 := rng32 x1
  have lI0 : (0 : Int32).toInt = 0 := by decide
  have lI1 : (1 : Int32).toInt = 1 := by decide
  have lI4 : (4 : Int32).toInt = 4 := by decide
  simp only [Int32.lt_iff_toInt_lt, Int64.lt_iff_toInt_lt, ← Int32.toInt_inj, ← Int64.toInt_inj] at c0 c1 c2 c3 c4 c5 c6
  omega
theorem ar_28 (x0 : Int32) (x1 : Int32) (c0 : (¬ (x0 < (1 : Int32)))) (c1 : (¬ ((4 : Int32) < x0))) (c2 : (¬ (x1 < (0 : Int32)))) (c3 : (¬ ((4 : Int32) < x1))) (c4 : (x1 < x0)) (c5 : (¬ (x0 = x1))) (c6 : ((4 : Int32) < x0)) : False := by
  have rx0 := rng32 x0
  have rx1 := rng32 x1
  have lI0 : (0 : Int32).toInt = 0 := by decide
  have lI1 : (1 : Int32).toInt = 1 := by decide
  have lI4 : (4 : Int32).toInt = 4 := by decide
  simp only [Int32.lt_iff_toInt_lt, Int64.lt_iff_toInt_lt, ← Int32.toInt_inj, ← Int64.toInt_inj] at c0 c1 c2 c3 c4 c5 c6
  omega
theorem ar_29 (x0 : Int32) (x1 : Int32) (x2 : Int32) (c0 : (¬ (x0 < (1 : Int32)))) (c1 : (¬ ((4 : Int32) < x0))) (c2 : (¬ (x1 < (0 : Int32)))) (c3 : (¬ ((4 : Int32) < x1))) (c4 : (x1 < x0)) (c5 : (¬ (x0 = x1))) (c6 : (¬ ((4 : Int32) < x0))) (c7 : (((x0 < x1) ∧ (x2 = x0)) ∨ ((¬ (x0 < x1)) ∧ (x2 = x1)))) (c8 : (¬ (x1 = x2))) : False := by
  have rx0 := rng32 x0
  have rx1 := rng32 x1
  have rx2 := rng32 x2
  have lI0 : (0 : Int32).toInt = 0 := by decide
  have lI1 : (1 : Int32).toInt = 1 := by decide
  have lI4 : (4 : Int32).toInt = 4 := by decide
  simp only [Int32.lt_iff_toInt_lt, Int64.lt_iff_toInt_lt, ← Int32.toInt_inj, ← Int64.toInt_inj] at c0 c1 c2 c3 c4 c5 c6 c7 c8
  omega
theorem ar_30 (x0 : Int32) (x1 : Int32) (x2 : Int32) (hx1 : x1 = (x0 >>> ((6 : Int32) &&& 31))) (hx2 : x2 = (x1 + (1 : Int32))) (c0 : (¬ (x0 < (0 : Int32)))) (c1 : (¬ ((255 : Int32) < x0))) (c2 : (¬ (x1 < (0 : Int32)))) (c3 : (x2 < (1 : Int32))) : False := by
  have rx1 := rng32 x1
  have wx1 := c_ishr x0 (6 : Int32) 6 (by decide)
  rw [← hx1] at wx1
  have rx2 := rng32 x2
  have wx2 := c_iadd x1 (1 : Int32)
  rw [← hx2] at wx2
  have rx0 := rng32 x0
  have lI0 : (0 : Int32).toInt = 0 := by decide
  have lI1 : (1 : Int32).toInt = 1 := by decide
  have lI6 : (6 : Int32).toInt = 6 := by decide
  have lI255 : (255 : Int32).toInt = 255 := by decide
  simp only [Int32.lt_iff_toInt_lt, Int64.lt_iff_toInt_lt, ← Int32.toInt_inj, ← Int64.toInt_inj] at c0 c1 c2 c3
  omega
theorem ar_31 (x0 : Int32) (x1 : Int32) (x2 : Int32) (hx1 : x1 = (x0 >>> ((6 : Int32) &&& 31))) (hx2 : x2 = (x1 + (1 : Int32))) (c0 : (¬ (x0 < (0 : Int32)))) (c1 : (¬ ((255 : Int32) < x0))) (c2 : (¬ (x1 < (0 : Int32)))) (c3 : (¬ (x2 < (1 : Int32)))) (c4 : ((4 : Int32) < x2)) : False := by
  have rx1 := rng32 x1
  have wx1 := c_ishr x0 (6 : Int32) 6 (by decide)
  rw [← hx1] at wx1
  have rx2 := rng32 x2
  have wx2 := c_iadd x1 (1 : Int32)
  rw [← hx2] at wx2
  have rx0 := rng32 x0
  have lI0 : (0 : Int32).toInt = 0 := by decide
  have lI1 : (1 : Int32).toInt = 1 := by decide
  have lI4 : (4 : Int32).toInt = 4 := by decide
  have lI6 : (6 : Int32).toInt = 6 := by decide
  have lI255 : (255 : Int32).toInt = 255 := by decide
  simp only [Int32.lt_iff_toInt_lt, Int64.lt_iff_toInt_lt, ← Int32.toInt_inj, ← Int64.toInt_inj] at c0 c1 c2 c3 c4
  omega
theorem ar_32 (x0 : Int32) (x1 : Int32) (x2 : Int32) (hx1 : x1 = (x0 >>> ((6 : Int32) &&& 31))) (hx2 : x2 = (x1 + (1 : Int32))) (c0 : (¬ (x0 < (0 : Int32)))) (c1 : (¬ ((255 : Int32) < x0))) (c2 : (¬ (x1 < (0 : Int32)))) (c3 : (¬ (x2 < (1 : Int32)))) (c4 : (¬ ((4 : Int32) < x2))) (c5 : (¬ ((0 : Int32) < x2))) : False := by
  have rx1 := rng32 x1
  have wx1 := c_ishr x0 (6 : Int32) 6 (by decide)
  rw [← hx1] at wx1
  have rx2 := rng32 x2
  have wx2 := c_iadd x1 (1 : Int32)
  rw [← hx2] at wx2
  have rx0 := rng32 x0
  have lI0 : (0 : Int32).toInt = 0 := by decide
  have lI1 : (1 : Int32).toInt = 1 := by decide
  have lI4 : (4 : Int32).toInt = 4 := by decide
  have lI6 : (6 : Int32).toInt = 6 := by decide
  have lI255 : (255 : Int32).toInt = 255 := by decide
  simp only [Int32.lt_iff_toInt_lt, Int64.lt_iff_toInt_lt, ← Int32.toInt_inj, ← Int64.toInt_inj] at c0 c1 c2 c3 c4 c5
  omega
theorem ar_33 (x0 : Int32) (x1 : Int32) (hx1 : x1 = (x0 >>> ((6 : Int32) &&& 31))) (c0 : (¬ (x0 < (0 : Int32)))) (c1 : (¬ ((255 : Int32) < x0))) (c2 : (¬ (x1 < (0 : Int32)))) (c3 : (¬ (x1 < (4 : Int32)))) : False := by
  have rx1 := rng32 x1
  have wx1 := c_ishr x0 (6 : Int32) 6 (by decide)
  rw [← hx1] at wx1
  have rx0 := rng32 x0
  have lI0 : (0 : Int32).toInt = 0 := by decide
  have lI4 : (4 : Int32).toInt = 4 := by decide
  have lI6 : (6 : Int32).toInt = 6 := by decide
  have lI255 : (255 : Int32).toInt = 255 := by decide
  simp only [Int32.lt_iff_toInt_lt, Int64.lt_iff_toInt_lt, ← Int32.toInt_inj, ← Int64.toInt_inj] at c0 c1 c2 c3
  omega
theorem ar_34 (x0 : Int32) (x1 : Int32) (x2 : Int32) (hx1 : x1 = (x0 >>> ((6 : Int32) &&& 31))) (hx2 : x2 = (x1 + (1 : Int32))) (c0 : (¬ (x0 < (0 : Int32)))) (c1 : (¬ ((255 : Int32) < x0))) (c2 : (¬ (x1 < (0 : Int32)))) (c3 : (¬ (x2 < (1 : Int32)))) (c4 : (¬ ((4 : Int32) < x2))) (c5 : ((0 : Int32) < x2)) (c6 : (¬ (x2 = (0 : Int32)))) (c7 : (¬ ((4 : Int32) < x2))) (c8 : (((x2 < (0 : Int32)) ∧ ((0 : Int32) = x2)) ∨ ((¬ (x2 < (0 : Int32))) ∧ ((0 : Int32) = (0 : Int32))))) (c9 : (x1 < (4 : Int32))) (c10 : (¬ (x1 < x2))) : False := by
  have rx1 := rng32 x1
  have wx1 := c_ishr x0 (6 : Int32) 6 (by decide)
  rw [← hx1] at wx1
  have rx2 := rng32 x2
  have wx2 := c_iadd x1 (1 : Int32)
  rw [← hx2] at wx2
  have rx0 := rng32 x0
  have lI0 : (0 : Int32).toInt = 0 := by decide
  have lI1 : (1 : Int32).toInt = 1 := by decide
  have lI4 : (4 : Int32).toInt = 4 := by decide
  have lI6 : (6 : Int32).toInt = 6 := by decide
  have lI255 : (255 : Int32).toInt = 255 := by decide
  simp only [Int32.lt_iff_toInt_lt, Int64.lt_iff_toInt_lt, ← Int32.toInt_inj, ← Int64.toInt_inj] at c0 c1 c2 c3 c4 c5 c6 c7 c8 c9 c10
  omega
theorem ar_35 (x0 : Int32) (x1 : Int32) (hx1 : x1 = (x0 &&& (255 : Int32))) (c0 : (x1 < (0 : Int32))) : False := by
  have rx1 := rng32 x1
  have wx1 := c_mask x0 (255 : Int32) 8 (by decide) (by decide)
  rw [← hx1] at wx1
  have rx0 := rng32 x0
  have lI0 : (0 : Int32).toInt = 0 := by decide
  have lI255 : (255 : Int32).toInt = 255 := by decide
  simp only [Int32.lt_iff_toInt_lt, Int64.lt_iff_toInt_lt, ← Int32.toInt_inj, ← Int64.toInt_inj] at c0
  omega
theorem ar_36 (x0 : Int32) (x1 : Int32) (hx1 : x1 = (x0 &&& (255 : Int32))) (c0 : (¬ (x1 < (0 : Int32)))) (c1 : ((255 : Int32) < x1)) : False := by
  have rx1 := rng32 x1
  have wx1 := c_mask x0 (255 : Int32) 8 (by decide) (by decide)
  rw [← hx1] at wx1
  have rx0 := rng32 x0
  have lI0 : (0 : Int32).toInt = 0 := by decide
  have lI255 : (255 : Int32).toInt = 255 := by decide
  simp only [Int32.lt_iff_toInt_lt, Int64.lt_iff_toInt_lt, ← Int32.toInt_inj, ← Int64.toInt_inj] at c0 c1
  omega
theorem ar_37 (x0 : Int32) (x1 : Int32) (x2 : Int32) (x3 : Int32) (x4 : Int32) (hx1 : x1 = (x0 &&& (511 : Int32))) (hx3 : x3 = (x2 &&& (255 : Int32))) (c0 : (((x1 = x3) ∧ (x4 = (1 : Int32))) ∨ ((¬ (x1 = x3)) ∧ (x4 = (0 : Int32))))) (c1 : (x1 < (0 : Int32))) : False := by
  have rx1 := rng32 x1
  have wx1 := c_mask x0 (511 : Int32) 9 (by decide) (by decide)
  rw [← hx1] at wx1
  have rx3 := rng32 x3
  have wx3 := c_mask x2 (255 : Int32) 8 (by decide) (by decide)
  rw [← hx3] at wx3
  have rx0 := rng32 x0
  have rx2 := rng32 x2
  have rx4 := rng32 x4
  have lI0 : (0 : Int32).toInt = 0 := by decide
  have lI1 : (1 : Int32).toInt = 1 := by decide
  have lI255 : (255 : Int32).toInt = 255 := by decide
  have lI511 : (511 : Int32).toInt = 511 := by decide
  simp only [Int32.lt_iff_toInt_lt, Int64.lt_iff_toInt_lt, ← Int32.toInt_inj, ← Int64.toInt_inj] at c0 c1
  omega
theorem ar_38 (x0 : Int32) (x1 : Int32) (x2 : Int32) (x3 : Int32) (x4 : Int32) (hx1 : x1 = (x0 &&& (511 : Int32))) (hx3 : x3 = (x2 &&& (255 : Int32))) (c0 : (((x1 = x3) ∧ (x4 = (1 : Int32))) ∨ ((¬ (x1 = x3)) ∧ (x4 = (0 : Int32))))) (c1 : (¬ (x1 < (0 : Int32)))) (c2 : ((511 : Int32) < x1)) : False := by
  have rx1 := rng32 x1
  have wx1 := c_mask x0 (511 : Int32) 9 (by decide) (by decide)
  rw [← hx1] at wx1
  have rx3 := rng32 x3
  have wx3 := c_mask x2 (255 : Int32) 8 (by decide) (by decide)
  rw [← hx3] at wx3
  have rx0 := rng32 x0
  have rx2 := rng32 x2
  have rx4 := rng32 x4
  have lI0 : (0 : Int32).toInt = 0 := by decide
  have lI1 : (1 : Int32).toInt = 1 := by decide
  have lI255 : (255 : Int32).toInt = 255 := by decide
  have lI511 : (511 : Int32).toInt = 511 := by decide
  simp only [Int32.lt_iff_toInt_lt, Int64.lt_iff_toInt_lt, ← Int32.toInt_inj, ← Int64.toInt_inj] at c0 c1 c2
  omega
theorem ar_39 (x0 : Int32) (x1 : Int32) (x2 : Int32) (x3 : Int32) (hx1 : x1 = (x0 &&& (255 : Int32))) (hx2 : x2 = (x1 >>> ((6 : Int32) &&& 31))) (hx3 : x3 = (x2 + (1 : Int32))) (c0 : (¬ (x1 < (0 : Int32)))) (c1 : (¬ ((255 : Int32) < x1))) (c2 : (¬ (x2 < (0 : Int32)))) (c3 : (¬ (x3 < (1 : Int32)))) (c4 : (¬ ((4 : Int32) < x3))) (c5 : ((0 : Int32) < x3)) (c6 : (¬ ((4 : Int32) < x3))) (c7 : (((x3 < (0 : Int32)) ∧ ((0 : Int32) = x3)) ∨ ((¬ (x3 < (0 : Int32))) ∧ ((0 : Int32) = (0 : Int32))))) (c8 : (x2 < (4 : Int32))) (c9 : (x2 < x3)) (c10 : (x3 < (0 : Int32))) : False := by
  have rx1 := rng32 x1
  have wx1 := c_mask x0 (255 : Int32) 8 (by decide) (by decide)
  rw [← hx1] at wx1
  have rx2 := rng32 x2
  have wx2 := c_ishr x1 (6 : Int32) 6 (by decide)
  rw [← hx2] at wx2
  have rx3 := rng32 x3
  have wx3 := c_iadd x2 (1 : Int32)
  rw [← hx3] at wx3
  have rx0 := rng32 x0
  have lI0 : (0 : Int32).toInt = 0 := by decide
  have lI1 : (1 : Int32).toInt = 1 := by decide
  have lI4 : (4 : Int32).toInt = 4 := by decide
  have lI6 : (6 : Int32).toInt = 6 := by decide
  have lI255 : (255 : Int32).toInt = 255 := by decide
  simp only [Int32.lt_iff_toInt_lt, Int64.lt_iff_toInt_lt, ← Int32.toInt_inj, ← Int64.toInt_inj] at c0 c1 c2 c3 c4 c5 c6 c7 c8 c9 c10
  omega
theorem ar_40 (x0 : Int32) (x1 : Int32) (hx1 : x1 = (x0 &&& (3 : Int32))) (c0 : (¬ (x1 = (0 : Int32)))) (c1 : (¬ (x1 = (1 : Int32)))) (c2 : (x1 = (2 : Int32))) (c3 : (¬ (x1 = (2 : Int32)))) : False := by
  have rx1 := rng32 x1
  have wx1 := c_mask x0 (3 : Int32) 2 (by decide) (by decide)
  rw [← hx1] at wx1
  have rx0 := rng32 x0
  have lI0 : (0 : Int32).toInt = 0 := by decide
  have lI1 : (1 : Int32).toInt = 1 := by decide
  have lI2 : (2 : Int32).toInt = 2 := by decide
  have lI3 : (3 : Int32).toInt = 3 := by decide
  simp only [Int32.lt_iff_toInt_lt, Int64.lt_iff_toInt_lt, ← Int32.toInt_inj, ← Int64.toInt_inj] at c0 c1 c2 c3
  omega
theorem ar_41 (x0 : Int32) (x1 : Int32) (x2 : Int32) (x3 : Int32) (x4 : Int32) (hx1 : x1 = (x0 >>> ((6 : Int32) &&& 31))) (hx2 : x2 = (x1 + (1 : Int32))) (hx4 : x4 = (x3 >>> ((6 : Int32) &&& 31))) (c0 : (¬ (x0 < (0 : Int32)))) (c1 : (¬ ((255 : Int32) < x0))) (c2 : (¬ (x3 < (0 : Int32)))) (c3 : (¬ ((255 : Int32) < x3))) (c4 : (¬ (x1 < (0 : Int32)))) (c5 : (¬ (x2 < (1 : Int32)))) (c6 : (¬ ((4 : Int32) < x2))) (c7 : ((0 : Int32) < x2)) (c8 : (¬ (x2 = (0 : Int32)))) (c9 : (¬ ((4 : Int32) < x2))) (c10 : (x1 < (4 : Int32))) (c11 : (x1 < x2)) (c12 : (x4 < x2)) (c13 : (x4 < (0 : Int32))) : False := by
  have rx1 := rng32 x1
  have wx1 := c_ishr x0 (6 : Int32) 6 (by decide)
  rw [← hx1] at wx1
  have rx2 := rng32 x2
  have wx2 := c_iadd x1 (1 : Int32)
  rw [← hx2] at wx2
  have rx4 := rng32 x4
  have wx4 := c_ishr x3 (6 : Int32) 6 (by decide)
  rw [← hx4] at wx4
  have rx0 := rng32 x0
  have rx3 := rng32 x3
  have lI0 : (0 : Int32).toInt = 0 := by decide
  have lI1 : (1 : Int32).toInt = 1 := by decide
  have lI4 : (4 : Int32).toInt = 4 := by decide
  have lI6 : (6 : Int32).toInt = 6 := by decide
  have lI255 : (255 : Int32).toInt = 255 := by decide
  simp only [Int32.lt_iff_toInt_lt, Int64.lt_iff_toInt_lt, ← Int32.toInt_inj, ← Int64.toInt_inj] at c0 c1 c2 c3 c4 c5 c6 c7 c8 c9 c10 c11 c12 c13
  omega
theorem ar_42 (x0 : Int32) (x1 : Int32) (x2 : Int32) (x3 : Int32) (x4 : Int32) (hx1 : x1 = (x0 >>> ((6 : Int32) &&& 31))) (hx2 : x2 = (x1 + (1 : Int32))) (hx4 : x4 = (x3 >>> ((6 : Int32) &&& 31))) (c0 : (¬ (x0 < (0 : Int32)))) (c1 : (¬ ((255 : Int32) < x0))) (c2 : (¬ (x3 < (0 : Int32)))) (c3 : (¬ ((255 : Int32) < x3))) (c4 : (¬ (x1 < (0 : Int32)))) (c5 : (¬ (x2 < (1 : Int32)))) (c6 : (¬ ((4 : Int32) < x2))) (c7 : ((0 : Int32) < x2)) (c8 : (¬ (x2 = (0 : Int32)))) (c9 : (¬ ((4 : Int32) < x2))) (c10 : (x1 < (4 : Int32))) (c11 : (x1 < x2)) (c12 : (x4 < x2)) (c13 : (¬ (x4 < (0 : Int32)))) (c14 : (¬ (x4 < (4 : Int32)))) : False := by
  have rx1 := rng32 x1
  have wx1 := c_ishr x0 (6 : Int32) 6 (by decide)
  rw [← hx1] at wx1
  have rx2 := rng32 x2
  have wx2 := c_iadd x1 (1 : Int32)
  rw [← hx2] at wx2
  have rx4 := rng32 x4
  have wx4 := c_ishr x3 (6 : Int32) 6 (by decide)
  rw [← hx4] at wx4
  have rx0 := rng32 x0
  have rx3 := rng32 x3
  have lI0 : (0 : Int32).toInt = 0 := by decide
  have lI1 : (1 : Int32).toInt = 1 := by decide
  have lI4 : (4 : Int32).toInt = 4 := by decide
  have lI6 : (6 : Int32).toInt = 6 := by decide
  have lI255 : (255 : Int32).toInt = 255 := by decide
  simp only [Int32.lt_iff_toInt_lt, Int64.lt_iff_toInt_lt, ← Int32.toInt_inj, ← Int64.toInt_inj] at c0 c1 c2 c3 c4 c5 c6 c7 c8 c9 c10 c11 c12 c13 c14
  omega
theorem ar_43 (x0 : Int32) (x1 : Int32) (x2 : Int32) (x3 : Int32) (x4 : Int32) (x5 : Int32) (hx1 : x1 = (x0 >>> ((6 : Int32) &&& 31))) (hx2 : x2 = (x1 + (1 : Int32))) (hx4 : x4 = (x3 >>> ((6 : Int32) &&& 31))) (hx5 : x5 = (x4 + (1 : Int32))) (c0 : (¬ (x0 < (0 : Int32)))) (c1 : (¬ ((255 : Int32) < x0))) (c2 : (¬ (x3 < (0 : Int32)))) (c3 : (¬ ((255 : Int32) < x3))) (c4 : (¬ (x1 < (0 : Int32)))) (c5 : (¬ (x2 < (1 : Int32)))) (c6 : (¬ ((4 : Int32) < x2))) (c7 : ((0 : Int32) < x2)) (c8 : (¬ (x2 = (0 : Int32)))) (c9 : (¬ ((4 : Int32) < x2))) (c10 : (x1 < (4 : Int32))) (c11 : (x1 < x2)) (c12 : (¬ (x4 < x2))) (c13 : (x5 < (1 : Int32))) : False := by
  have rx1 := rng32 x1
  have wx1 := c_ishr x0 (6 : Int32) 6 (by decide)
  rw [← hx1] at wx1
  have rx2 := rng32 x2
  have wx2 := c_iadd x1 (1 : Int32)
  rw [← hx2] at wx2
  have rx4 := rng32 x4
  have wx4 := c_ishr x3 (6 : Int32) 6 (by decide)
  rw [← hx4] at wx4
  have rx5 := rng32 x5
  have wx5 := c_iadd x4 (1 : Int32)
  rw [← hx5] at wx5
  have rx0 := rng32 x0
  have rx3 := rng32 x3
  have lI0 : (0 : Int32).toInt = 0 := by decide
  have lI1 : (1 : Int32).toInt = 1 := by decide
  have lI4 : (4 : Int32).toInt = 4 := by decide
  have lI6 : (6 : Int32).toInt = 6 := by decide
  have lI255 : (255 : Int32).toInt = 255 := by decide
  simp only [Int32.lt_iff_toInt_lt, Int64.lt_iff_toInt_lt, ← Int32.toInt_inj, ← Int64.toInt_inj] at c0 c1 c2 c3 c4 c5 c6 c7 c8 c9 c10 c11 c12 c13
  omega
theorem ar_44 (x0 : Int32) (x1 : Int32) (x2 : Int32) (x3 : Int32) (x4 : Int32) (x5 : Int32) (hx1 : x1 = (x0 >>> ((6 : Int32) &&& 31))) (hx2 : x2 = (x1 + (1 : Int32))) (hx4 : x4 = (x3 >>> ((6 : Int32) &&& 31))) (hx5 : x5 = (x4 + (1 : Int32))) (c0 : (¬ (x0 < (0 : Int32)))) (c1 : (¬ ((255 : Int32) < x0))) (c2 : (¬ (x3 < (0 : Int32)))) (c3 : (¬ ((255 : Int32) < x3))) (c4 : (¬ (x1 < (0 : Int32)))) (c5 : (¬ (x2 < (1 : Int32)))) (c6 : (¬ ((4 : Int32) < x2))) (c7 : ((0 : Int32) < x2)) (c8 : (¬ (x2 = (0 : Int32)))) (c9 : (¬ ((4 : Int32) < x2))) (c10 : (x1 < (4 : Int32))) (c11 : (x1 < x2)) (c12 : (¬ (x4 < x2))) (c13 : (¬ (x5 < (1 : Int32)))) (c14 : ((4 : Int32) < x5)) : False := by
  have rx1 := rng32 x1
  have wx1 := c_ishr x0 (6 : Int32) 6 (by decide)
  rw [← hx1] at wx1
  have rx2 := rng32 x2
  have wx2 := c_iadd x1 (1 : Int32)
  rw [← hx2] at wx2
  have rx4 := rng32 x4
  have wx4 := c_ishr x3 (6 : Int32) 6 (by decide)
  rw [← hx4] at wx4
  have rx5 := rng32 x5
  have wx5 := c_iadd x4 (1 : Int32)
  rw [← hx5] at wx5
  have rx0 := rng32 x0
  have rx3 := rng32 x3
  have lI0 : (0 : Int32).toInt = 0 := by decide
  have lI1 : (1 : Int32).toInt = 1 := by decide
  have lI4 : (4 : Int32).toInt = 4 := by decide
  have lI6 : (6 : Int32).toInt = 6 := by decide
  have lI255 : (255 : Int32).toInt = 255 := by decide
  simp only [Int32.lt_iff_toInt_lt, Int64.lt_iff_toInt_lt, ← Int32.toInt_inj, ← Int64.toInt_inj] at c0 c1 c2 c3 c4 c5 c6 c7 c8 c9 c10 c11 c12 c13 c14
  omega
theorem ar_45 (x0 : Int32) (x1 : Int32) (x2 : Int32) (x3 : Int32) (x4 : Int32) (x5 : Int32) (hx1 : x1 = (x0 >>> ((6 : Int32) &&& 31))) (hx2 : x2 = (x1 + (1 : Int32))) (hx4 : x4 = (x3 >>> ((6 : Int32) &&& 31))) (hx5 : x5 = (x4 + (1 : Int32))) (c0 : (¬ (x0 < (0 : Int32)))) (c1 : (¬ ((255 : Int32) < x0))) (c2 : (¬ (x3 < (0 : Int32)))) (c3 : (¬ ((255 : Int32) < x3))) (c4 : (¬ (x1 < (0 : Int32)))) (c5 : (¬ (x2 < (1 : Int32)))) (c6 : (¬ ((4 : Int32) < x2))) (c7 : ((0 : Int32) < x2)) (c8 : (¬ (x2 = (0 : Int32)))) (c9 : (¬ ((4 : Int32) < x2))) (c10 : (((x2 < (0 : Int32)) ∧ ((0 : Int32) = x2)) ∨ ((¬ (x2 < (0 : Int32))) ∧ ((0 : Int32) = (0 : Int32))))) (c11 : (x1 < (4 : Int32))) (c12 : (x1 < x2)) (c13 : (¬ (x4 < x2))) (c14 : (¬ (x5 < (1 : Int32)))) (c15 : (¬ ((4 : Int32) < x5))) (c16 : (¬ (x2 < x5))) : False := by
  have rx1 := rng32 x1
  have wx1 := c_ishr x0 (6 : Int32) 6 (by decide)
  rw [← hx1] at wx1
  have rx2 := rng32 x2
  have wx2 := c_iadd x1 (1 : Int32)
  rw [← hx2] at wx2
  have rx4 := rng32 x4
  have wx4 := c_ishr x3 (6 : Int32) 6 (by decide)
  rw [← hx4] at wx4
  have rx5 := rng32 x5
  have wx5 := c_iadd x4 (1 : Int32)
  rw [← hx5] at wx5
  have rx0 := rng32 x0
  have rx3 := rng32 x3
  have lI0 : (0 : Int32).toInt = 0 := by decide
  have lI1 : (1 : Int32).toInt = 1 := by decide
  have lI4 : (4 : Int32).toInt = 4 := by decide
  have lI6 : (6 : Int32).toInt = 6 := by decide
  have lI255 : (255 : Int32).toInt = 255 := by decide
  simp only [Int32.lt_iff_toInt_lt, Int64.lt_iff_toInt_lt, ← Int32.toInt_inj, ← Int64.toInt_inj] at c0 c1 c2 c3 c4 c5 c6 c7 c8 c9 c10 c11 c12 c13 c14 c15 c16
  omega
theorem ar_46 (x0 : Int32) (x1 : Int32) (x2 : Int32) (x3 : Int32) (x4 : Int32) (x5 : Int32) (hx1 : x1 = (x0 >>> ((6 : Int32) &&& 31))) (hx2 : x2 = (x1 + (1 : Int32))) (hx4 : x4 = (x3 >>> ((6 : Int32) &&& 31))) (hx5 : x5 = (x4 + (1 : Int32))) (c0 : (¬ (x0 < (0 : Int32)))) (c1 : (¬ ((255 : Int32) < x0))) (c2 : (¬ (x3 < (0 : Int32)))) (c3 : (¬ ((255 : Int32) < x3))) (c4 : (¬ (x1 < (0 : Int32)))) (c5 : (¬ (x2 < (1 : Int32)))) (c6 : (¬ ((4 : Int32) < x2))) (c7 : ((0 : Int32) < x2)) (c8 : (¬ (x2 = (0 : Int32)))) (c9 : (¬ ((4 : Int32) < x2))) (c10 : (((x2 < (0 : Int32)) ∧ ((0 : Int32) = x2)) ∨ ((¬ (x2 < (0 : Int32))) ∧ ((0 : Int32) = (0 : Int32))))) (c11 : (x1 < (4 : Int32))) (c12 : (x1 < x2)) (c13 : (¬ (x4 < x2))) (c14 : (¬ (x5 < (1 : Int32)))) (c15 : (¬ ((4 : Int32) < x5))) (c16 : (x2 < x5)) (c17 : (x2 < (0 : Int32))) : False := by
  have rx1 := rng32 x1
  have wx1 := c_ishr x0 (6 : Int32) 6 (by decide)
  rw [← hx1] at wx1
  have rx2 := rng32 x2
  have wx2 := c_iadd x1 (1 : Int32)
  rw [← hx2] at wx2
  have rx4 := rng32 x4
  have wx4 := c_ishr x3 (6 : Int32) 6 (by decide)
  rw [← hx4] at wx4
  have rx5 := rng32 x5
  have wx5 := c_iadd x4 (1 : Int32)
  rw [← hx5] at wx5
  have rx0 := rng32 x0
  have rx3 := rng32 x3
  have lI0 : (0 : Int32).toInt = 0 := by decide
  have lI1 : (1 : Int32).toInt = 1 := by decide
  have lI4 : (4 : Int32).toInt = 4 := by decide
  have lI6 : (6 : Int32).toInt = 6 := by decide
  have lI255 : (255 : Int32).toInt = 255 := by decide
  simp only [Int32.lt_iff_toInt_lt, Int64.lt_iff_toInt_lt, ← Int32.toInt_inj, ← Int64.toInt_inj] at c0 c1 c2 c3 c4 c5 c6 c7 c8 c9 c10 c11 c12 c13 c14 c15 c16 c17
  omega
theorem ar_47 (x0 : Int32) (x1 : Int32) (x2 : Int32) (x3 : Int32) (x4 : Int32) (x5 : Int32) (hx1 : x1 = (x0 >>> ((6 : Int32) &&& 31))) (hx2 : x2 = (x1 + (1 : Int32))) (hx4 : x4 = (x3 >>> ((6 : Int32) &&& 31))) (hx5 : x5 = (x4 + (1 : Int32))) (c0 : (¬ (x0 < (0 : Int32)))) (c1 : (¬ ((255 : Int32) < x0))) (c2 : (¬ (x3 < (0 : Int32)))) (c3 : (¬ ((255 : Int32) < x3))) (c4 : (¬ (x1 < (0 : Int32)))) (c5 : (¬ (x2 < (1 : Int32)))) (c6 : (¬ ((4 : Int32) < x2))) (c7 : ((0 : Int32) < x2)) (c8 : (¬ (x2 = (0 : Int32)))) (c9 : (¬ ((4 : Int32) < x2))) (c10 : (x1 < (4 : Int32))) (c11 : (x1 < x2)) (c12 : (¬ (x4 < x2))) (c13 : (¬ (x5 < (1 : Int32)))) (c14 : (¬ ((4 : Int32) < x5))) (c15 : (x2 < x5)) (c16 : (¬ (x2 < (0 : Int32)))) (c17 : (¬ (x5 = x2))) (c18 : (¬ ((4 : Int32) < x5))) (c19 : (x4 < (0 : Int32))) : False := by
  have rx1 := rng32 x1
  have wx1 := c_ishr x0 (6 : Int32) 6 (by decide)
  rw [← hx1] at wx1
  have rx2 := rng32 x2
  have wx2 := c_iadd x1 (1 : Int32)
  rw [← hx2] at wx2
  have rx4 := rng32 x4
  have wx4 := c_ishr x3 (6 : Int32) 6 (by decide)
  rw [← hx4] at wx4
  have rx5 := rng32 x5
  have wx5 := c_iadd x4 (1 : Int32)
  rw [← hx5] at wx5
  have rx0 := rng32 x0
  have rx3 := rng32 x3
  have lI0 : (0 : Int32).toInt = 0 := by decide
  have lI1 : (1 : Int32).toInt = 1 := by decide
  have lI4 : (4 : Int32).toInt = 4 := by decide
  have lI6 : (6 : Int32).toInt = 6 := by decide
  have lI255 : (255 : Int32).toInt = 255 := by decide
  simp only [Int32.lt_iff_toInt_lt, Int64.lt_iff_toInt_lt, ← Int32.toInt_inj, ← Int64.toInt_inj] at c0 c1 c2 c3 c4 c5 c6 c7 c8 c9 c10 c11 c12 c13 c14 c15 c16 c17 c18 c19
  omega
theorem ar_48 (x0 : Int32) (x1 : Int32) (x2 : Int32) (x3 : Int32) (x4 : Int32) (x5 : Int32) (hx1 : x1 = (x0 >>> ((6 : Int32) &&& 31))) (hx2 : x2 = (x1 + (1 : Int32))) (hx4 : x4 = (x3 >>> ((6 : Int32) &&& 31))) (hx5 : x5 = (x4 + (1 : Int32))) (c0 : (¬ (x0 < (0 : Int32)))) (c1 : (¬ ((255 : Int32) < x0))) (c2 : (¬ (x3 < (0 : Int32)))) (c3 : (¬ ((255 : Int32) < x3))) (c4 : (¬ (x1 < (0 : Int32)))) (c5 : (¬ (x2 < (1 : Int32)))) (c6 : (¬ ((4 : Int32) < x2))) (c7 : ((0 : Int32) < x2)) (c8 : (¬ (x2 = (0 : Int32)))) (c9 : (¬ ((4 : Int32) < x2))) (c10 : (x1 < (4 : Int32))) (c11 : (x1 < x2)) (c12 : (¬ (x4 < x2))) (c13 : (¬ (x5 < (1 : Int32)))) (c14 : (¬ ((4 : Int32) < x5))) (c15 : (x2 < x5)) (c16 : (¬ (x2 < (0 : Int32)))) (c17 : (¬ (x5 = x2))) (c18 : (¬ ((4 : Int32) < x5))) (c19 : (¬ (x4 < (0 : Int32)))) (c20 : (¬ (x4 < (4 : Int32)))) : False := by
  have rx1 := rng32 x1
  have wx1 := c_ishr x0 (6 : Int32) 6 (by decide)
  rw [← hx1] at wx1
  have rx2 := rng32 x2
  have wx2 := c_iadd x1 (1 : Int32)
  rw [← hx2] at wx2
  have rx4 := rng32 x4
  have wx4 := c_ishr x3 (6 : Int32) 6 (by decide)
  rw [← hx4] at wx4
  have rx5 := rng32 x5
  have wx5 := c_iadd x4 (1 : Int32)
  rw [← hx5] at wx5
  have rx0 := rng32 x0
  have rx3 := rng32 x3
  have lI0 : (0 : Int32).toInt = 0 := by decide
  have lI1 : (1 : Int32).toInt = 1 := by decide
  have lI4 : (4 : Int32).toInt = 4 := by decide
  have lI6 : (6 : Int32).toInt = 6 := by decide
  have lI255 : (255 : Int32).toInt = 255 := by decide
  simp only [Int32.lt_iff_toInt_lt, Int64.lt_iff_toInt_lt, ← Int32.toInt_inj, ← Int64.toInt_inj] at c0 c1 c2 c3 c4 c5 c6 c7 c8 c9 c10 c11 c12 c13 c14 c15 c16 c17 c18 c19 c20
  omega
theorem ar_49 (x0 : Int32) (x1 : Int32) (x2 : Int32) (x3 : Int32) (x4 : Int32) (x5 : Int32) (hx1 : x1 = (x0 >>> ((6 : Int32) &&& 31))) (hx2 : x2 = (x1 + (1 : Int32))) (hx4 : x4 = (x3 >>> ((6 : Int32) &&& 31))) (hx5 : x5 = (x4 + (1 : Int32))) (c0 : (¬ (x0 < (0 : Int32)))) (c1 : (¬ ((255 : Int32) < x0))) (c2 : (¬ (x3 < (0 : Int32)))) (c3 : (¬ ((255 : Int32) < x3))) (c4 : (¬ (x1 < (0 : Int32)))) (c5 : (¬ (x2 < (1 : Int32)))) (c6 : (¬ ((4 : Int32) < x2))) (c7 : ((0 : Int32) < x2)) (c8 : (¬ (x2 = (0 : Int32)))) (c9 : (¬ ((4 : Int32) < x2))) (c10 : (x1 < (4 : Int32))) (c11 : (x1 < x2)) (c12 : (¬ (x4 < x2))) (c13 : (¬ (x5 < (1 : Int32)))) (c14 : (¬ ((4 : Int32) < x5))) (c15 : (x2 < x5)) (c16 : (¬ (x2 < (0 : Int32)))) (c17 : (¬ (x5 = x2))) (c18 : (¬ ((4 : Int32) < x5))) (c19 : (((x5 < x2) ∧ (x2 = x5)) ∨ ((¬ (x5 < x2)) ∧ (x2 = x2)))) (c20 : (¬ (x4 < (0 : Int32)))) (c21 : (x4 < (4 : Int32))) (c22 : (¬ (x4 < x5))) : False := by
  have rx1 := rng32 x1
  have wx1 := c_ishr x0 (6 : Int32) 6 (by decide)
  rw [← hx1] at wx1
  have rx2 := rng32 x2
  have wx2 := c_iadd x1 (1 : Int32)
  rw [← hx2] at wx2
  have rx4 := rng32 x4
  have wx4 := c_ishr x3 (6 : Int32) 6 (by decide)
  rw [← hx4] at wx4
  have rx5 := rng32 x5
  have wx5 := c_iadd x4 (1 : Int32)
  rw [← hx5] at wx5
  have rx0 := rng32 x0
  have rx3 := rng32 x3
  have lI0 : (0 : Int32).toInt = 0 := by decide
  have lI1 : (1 : Int32).toInt = 1 := by decide
  have lI4 : (4 : Int32).toInt = 4 := by decide
  have lI6 : (6 : Int32).toInt = 6 := by decide
  have lI255 : (255 : Int32).toInt = 255 := by decide
  simp only [Int32.lt_iff_toInt_lt, Int64.lt_iff_toInt_lt, ← Int32.toInt_inj, ← Int64.toInt_inj] at c0 c1 c2 c3 c4 c5 c6 c7 c8 c9 c10 c11 c12 c13 c14 c15 c16 c17 c18 c19 c20 c21 c22
  omega
theorem ar_50 (x0 : Int32) (x1 : Int32) (x2 : Int32) (x3 : Int32) (x4 : Int32) (x5 : Int32) (x6 : Int32) (hx1 : x1 = (x0 &&& (511 : Int32))) (hx3 : x3 = (x2 &&& (255 : Int32))) (hx5 : x5 = (x4 &&& (255 : Int32))) (c0 : (((x1 = x3) ∧ (x6 = (1 : Int32))) ∨ ((¬ (x1 = x3)) ∧ (x1 = x5) ∧ (x6 = (1 : Int32))) ∨ ((¬ (x1 = x3)) ∧ (¬ (x1 = x5)) ∧ (x6 = (0 : Int32))))) (c1 : (x1 < (0 : Int32))) : False := by
  have rx1 := rng32 x1
  have wx1 := c_mask x0 (511 : Int32) 9 (by decide) (by decide)
  rw [← hx1] at wx1
  have rx3 := rng32 x3
  have wx3 := c_mask x2 (255 : Int32) 8 (by decide) (by decide)
  rw [← hx3] at wx3
  have rx5 := rng32 x5
  have wx5 := c_mask x4 (255 : Int32) 8 (by decide) (by decide)
  rw [← hx5] at wx5
  have rx0 := rng32 x0
  have rx2 := rng32 x2
  have rx4 := rng32 x4
  have rx6 := rng32 x6
  have lI0 : (0 : Int32).toInt = 0 := by decide
  have lI1 : (1 : Int32).toInt = 1 := by decide
  have lI255 : (255 : Int32).toInt = 255 := by decide
  have lI511 : (511 : Int32).toInt = 511 := by decide
  simp only [Int32.lt_iff_toInt_lt, Int64.lt_iff_toInt_lt, ← Int32.toInt_inj, ← Int64.toInt_inj] at c0 c1
  omega
theorem ar_51 (x0 : Int32) (x1 : Int32) (x2 : Int32) (x3 : Int32) (x4 : Int32) (x5 : Int32) (x6 : Int32) (hx1 : x1 = (x0 &&& (511 : Int32))) (hx3 : x3 = (x2 &&& (255 : Int32))) (hx5 : x5 = (x4 &&& (255 : Int32))) (c0 : (((x1 = x3) ∧ (x6 = (1 : Int32))) ∨ ((¬ (x1 = x3)) ∧ (x1 = x5) ∧ (x6 = (1 : Int32))) ∨ ((¬ (x1 = x3)) ∧ (¬ (x1 = x5)) ∧ (x6 = (0 : Int32))))) (c1 : (¬ (x1 < (0 : Int32)))) (c2 : ((511 : Int32) < x1)) : False := by
  have rx1 := rng32 x1
  have wx1 := c_mask x0 (511 : Int32) 9 (by decide) (by decide)
  rw [← hx1] at wx1
  have rx3 := rng32 x3
  have wx3 := c_mask x2 (255 : Int32) 8 (by decide) (by decide)
  rw [← hx3] at wx3
  have rx5 := rng32 x5
  have wx5 := c_mask x4 (255 : Int32) 8 (by decide) (by decide)
  rw [← hx5] at wx5
  have rx0 := rng32 x0
  have rx2 := rng32 x2
  have rx4 := rng32 x4
  have rx6 := rng32 x6
  have lI0 : (0 : Int32).toInt = 0 := by decide
  have lI1 : (1 : Int32).toInt = 1 := by decide
  have lI255 : (255 : Int32).toInt = 255 := by decide
  have lI511 : (511 : Int32).toInt = 511 := by decide
  simp only [Int32.lt_iff_toInt_lt, Int64.lt_iff_toInt_lt, ← Int32.toInt_inj, ← Int64.toInt_inj] at c0 c1 c2
  omega
theorem ar_52 (x0 : Int32) (x1 : Int32) (x2 : Int32) (x3 : Int32) (x4 : Int32) (x5 : Int32) (x6 : Int32) (hx1 : x1 = (x0 &&& (255 : Int32))) (hx3 : x3 = (x2 &&& (255 : Int32))) (hx4 : x4 = (x1 >>> ((6 : Int32) &&& 31))) (hx5 : x5 = (x4 + (1 : Int32))) (hx6 : x6 = (x3 >>> ((6 : Int32) &&& 31))) (c0 : (¬ (x1 < (0 : Int32)))) (c1 : (¬ ((255 : Int32) < x1))) (c2 : (¬ (x3 < (0 : Int32)))) (c3 : (¬ ((255 : Int32) < x3))) (c4 : (¬ (x4 < (0 : Int32)))) (c5 : (¬ (x5 < (1 : Int32)))) (c6 : (¬ ((4 : Int32) < x5))) (c7 : ((0 : Int32) < x5)) (c8 : (¬ ((4 : Int32) < x5))) (c9 : (((x5 < (0 : Int32)) ∧ ((0 : Int32) = x5)) ∨ ((¬ (x5 < (0 : Int32))) ∧ ((0 : Int32) = (0 : Int32))))) (c10 : (x4 < (4 : Int32))) (c11 : (x4 < x5)) (c12 : (x6 < x5)) (c13 : (¬ (x6 < (0 : Int32)))) (c14 : (x6 < (4 : Int32))) (c15 : (x5 < (0 : Int32))) : False := by
  have rx1 := rng32 x1
  have wx1 := c_mask x0 (255 : Int32) 8 (by decide) (by decide)
  rw [← hx1] at wx1
  have rx3 := rng32 x3
  have wx3 := c_mask x2 (255 : Int32) 8 (by decide) (by decide)
  rw [← hx3] at wx3
  have rx4 := rng32 x4
  have wx4 := c_ishr x1 (6 : Int32) 6 (by decide)
  rw [← hx4] at wx4
  have rx5 := rng32 x5
  have wx5 := c_iadd x4 (1 : Int32)
  rw [← hx5] at wx5
  have rx6 := rng32 x6
  have wx6 := c_ishr x3 (6 : Int32) 6 (by decide)
  rw [← hx6] at wx6
  have rx0 := rng32 x0
  have rx2 := rng32 x2
  have lI0 : (0 : Int32).toInt = 0 := by decide
  have lI1 : (1 : Int32).toInt = 1 := by decide
  have lI4 : (4 : Int32).toInt = 4 := by decide
  have lI6 : (6 : Int32).toInt = 6 := by decide
  have lI255 : (255 : Int32).toInt = 255 := by decide
  simp only [Int32.lt_iff_toInt_lt, Int64.lt_iff_toInt_lt, ← Int32.toInt_inj, ← Int64.toInt_inj] at c0 c1 c2 c3 c4 c5 c6 c7 c8 c9 c10 c11 c12 c13 c14 c15
  omega
theorem ar_53 (x0 : Int32) (x1 : Int32) (x2 : Int32) (x3 : Int32) (x4 : Int32) (x5 : Int32) (x6 : Int32) (x7 : Int32) (hx1 : x1 = (x0 &&& (255 : Int32))) (hx3 : x3 = (x2 &&& (255 : Int32))) (hx4 : x4 = (x1 >>> ((6 : Int32) &&& 31))) (hx5 : x5 = (x4 + (1 : Int32))) (hx6 : x6 = (x3 >>> ((6 : Int32) &&& 31))) (hx7 : x7 = (x6 + (1 : Int32))) (c0 : (¬ (x1 < (0 : Int32)))) (c1 : (¬ ((255 : Int32) < x1))) (c2 : (¬ (x3 < (0 : Int32)))) (c3 : (¬ ((255 : Int32) < x3))) (c4 : (¬ (x4 < (0 : Int32)))) (c5 : (¬ (x5 < (1 : Int32)))) (c6 : (¬ ((4 : Int32) < x5))) (c7 : ((0 : Int32) < x5)) (c8 : (¬ ((4 : Int32) < x5))) (c9 : (x4 < (4 : Int32))) (c10 : (x4 < x5)) (c11 : (¬ (x6 < x5))) (c12 : (¬ (x7 < (1 : Int32)))) (c13 : (¬ ((4 : Int32) < x7))) (c14 : (x5 < x7)) (c15 : (¬ (x5 < (0 : Int32)))) (c16 : (¬ ((4 : Int32) < x7))) (c17 : (((x7 < x5) ∧ (x5 = x7)) ∨ ((¬ (x7 < x5)) ∧ (x5 = x5)))) (c18 : (¬ (x6 < (0 : Int32)))) (c19 : (x6 < (4 : Int32))) (c20 : (x6 < x7)) (c21 : (¬ (x4 < x7))) : False := by
  have rx1 := rng32 x1
  have wx1 := c_mask x0 (255 : Int32) 8 (by decide) (by decide)
  rw [← hx1] at wx1
  have rx3 := rng32 x3
  have wx3 := c_mask x2 (255 : Int32) 8 (by decide) (by decide)
  rw [← hx3] at wx3
  have rx4 := rng32 x4
  have wx4 := c_ishr x1 (6 : Int32) 6 (by decide)
  rw [← hx4] at wx4
  have rx5 := rng32 x5
  have wx5 := c_iadd x4 (1 : Int32)
  rw [← hx5] at wx5
  have rx6 := rng32 x6
  have wx6 := c_ishr x3 (6 : Int32) 6 (by decide)
  rw [← hx6] at wx6
  have rx7 := rng32 x7
  have wx7 := c_iadd x6 (1 : Int32)
  rw [← hx7] at wx7
  have rx0 := rng32 x0
  have rx2 := rng32 x2
  have lI0 : (0 : Int32).toInt = 0 := by decide
  have lI1 : (1 : Int32).toInt = 1 := by decide
  have lI4 : (4 : Int32).toInt = 4 := by decide
  have lI6 : (6 : Int32).toInt = 6 := by decide
  have lI255 : (255 : Int32).toInt = 255 := by decide
  simp only [Int32.lt_iff_toInt_lt, Int64.lt_iff_toInt_lt, ← Int32.toInt_inj, ← Int64.toInt_inj] at c0 c1 c2 c3 c4 c5 c6 c7 c8 c9 c10 c11 c12 c13 c14 c15 c16 c17 c18 c19 c20 c21
  omega
theorem ar_54 (x0 : Int32) (x1 : Int32) (x2 : Int32) (x3 : Int32) (x4 : Int32) (x5 : Int32) (x6 : Int32) (x7 : Int32) (hx1 : x1 = (x0 &&& (255 : Int32))) (hx3 : x3 = (x2 &&& (255 : Int32))) (hx4 : x4 = (x1 >>> ((6 : Int32) &&& 31))) (hx5 : x5 = (x4 + (1 : Int32))) (hx6 : x6 = (x3 >>> ((6 : Int32) &&& 31))) (hx7 : x7 = (x6 + (1 : Int32))) (c0 : (¬ (x1 < (0 : Int32)))) (c1 : (¬ ((255 : Int32) < x1))) (c2 : (¬ (x3 < (0 : Int32)))) (c3 : (¬ ((255 : Int32) < x3))) (c4 : (¬ (x4 < (0 : Int32)))) (c5 : (¬ (x5 < (1 : Int32)))) (c6 : (¬ ((4 : Int32) < x5))) (c7 : ((0 : Int32) < x5)) (c8 : (¬ ((4 : Int32) < x5))) (c9 : (x4 < (4 : Int32))) (c10 : (x4 < x5)) (c11 : (¬ (x6 < x5))) (c12 : (¬ (x7 < (1 : Int32)))) (c13 : (¬ ((4 : Int32) < x7))) (c14 : (x5 < x7)) (c15 : (¬ (x5 < (0 : Int32)))) (c16 : (¬ ((4 : Int32) < x7))) (c17 : (((x7 < x5) ∧ (x5 = x7)) ∨ ((¬ (x7 < x5)) ∧ (x5 = x5)))) (c18 : (¬ (x6 < (0 : Int32)))) (c19 : (x6 < (4 : Int32))) (c20 : (x6 < x7)) (c21 : (x4 < x7)) (c22 : (x7 < (0 : Int32))) : False := by
  have rx1 := rng32 x1
  have wx1 := c_mask x0 (255 : Int32) 8 (by decide) (by decide)
  rw [← hx1] at wx1
  have rx3 := rng32 x3
  have wx3 := c_mask x2 (255 : Int32) 8 (by decide) (by decide)
  rw [← hx3] at wx3
  have rx4 := rng32 x4
  have wx4 := c_ishr x1 (6 : Int32) 6 (by decide)
  rw [← hx4] at wx4
  have rx5 := rng32 x5
  have wx5 := c_iadd x4 (1 : Int32)
  rw [← hx5] at wx5
  have rx6 := rng32 x6
  have wx6 := c_ishr x3 (6 : Int32) 6 (by decide)
  rw [← hx6] at wx6
  have rx7 := rng32 x7
  have wx7 := c_iadd x6 (1 : Int32)
  rw [← hx7] at wx7
  have rx0 := rng32 x0
  have rx2 := rng32 x2
  have lI0 : (0 : Int32).toInt = 0 := by decide
  have lI1 : (1 : Int32).toInt = 1 := by decide
  have lI4 : (4 : Int32).toInt = 4 := by decide
  have lI6 : (6 : Int32).toInt = 6 := by decide
  have lI255 : (255 : Int32).toInt = 255 := by decide
  simp only [Int32.lt_iff_toInt_lt, Int64.lt_iff_toInt_lt, ← Int32.toInt_inj, ← Int64.toInt_inj] at c0 c1 c2 c3 c4 c5 c6 c7 c8 c9 c10 c11 c12 c13 c14 c15 c16 c17 c18 c19 c20 c21 c22
  omega
theorem ar_55 (x0 : Int32) (x1 : Int32) (hx1 : x1 = (x0 &&& (3 : Int32))) (c0 : (¬ (x1 = (0 : Int32)))) (c1 : (¬ (x1 = (1 : Int32)))) (c2 : (¬ (x1 = (2 : Int32)))) (c3 : (¬ (x1 = (3 : Int32)))) : False := by
  have rx1 := rng32 x1
  have wx1 := c_mask x0 (3 : Int32) 2 (by decide) (by decide)
  rw [← hx1] at wx1
  have rx0 := rng32 x0
  have lI0 : (0 : Int32).toInt = 0 := by decide
  have lI1 : (1 : Int32).toInt = 1 := by decide
  have lI2 : (2 : Int32).toInt = 2 := by decide
  have lI3 : (3 : Int32).toInt = 3 := by decide
  simp only [Int32.lt_iff_toInt_lt, Int64.lt_iff_toInt_lt, ← Int32.toInt_inj, ← Int64.toInt_inj] at c0 c1 c2 c3
  omega
theorem ar_56 (x0 : Int32) (x1 : Int32) (x2 : Int32) (x3 : Int32) (x4 : Int32) (x5 : Int32) (x6 : Int32) (hx1 : x1 = (x0 >>> ((6 : Int32) &&& 31))) (hx2 : x2 = (x1 + (1 : Int32))) (hx4 : x4 = (x3 >>> ((6 : Int32) &&& 31))) (hx6 : x6 = (x5 >>> ((6 : Int32) &&& 31))) (c0 : (¬ (x0 < (0 : Int32)))) (c1 : (¬ ((255 : Int32) < x0))) (c2 : (¬ (x3 < (0 : Int32)))) (c3 : (¬ ((255 : Int32) < x3))) (c4 : (¬ (x5 < (0 : Int32)))) (c5 : (¬ ((255 : Int32) < x5))) (c6 : (¬ (x1 < (0 : Int32)))) (c7 : (¬ (x2 < (1 : Int32)))) (c8 : (¬ ((4 : Int32) < x2))) (c9 : ((0 : Int32) < x2)) (c10 : (¬ (x2 = (0 : Int32)))) (c11 : (¬ ((4 : Int32) < x2))) (c12 : (x1 < (4 : Int32))) (c13 : (x1 < x2)) (c14 : (x4 < x2)) (c15 : (¬ (x4 < (0 : Int32)))) (c16 : (x4 < (4 : Int32))) (c17 : (x6 < x2)) (c18 : (x6 < (0 : Int32))) : False := by
  have rx1 := rng32 x1
  have wx1 := c_ishr x0 (6 : Int32) 6 (by decide)
  rw [← hx1] at wx1
  have rx2 := rng32 x2
  have wx2 := c_iadd x1 (1 : Int32)
  rw [← hx2] at wx2
  have rx4 := rng32 x4
  have wx4 := c_ishr x3 (6 : Int32) 6 (by decide)
  rw [← hx4] at wx4
  have rx6 := rng32 x6
  have wx6 := c_ishr x5 (6 : Int32) 6 (by decide)
  rw [← hx6] at wx6
  have rx0 := rng32 x0
  have rx3 := rng32 x3
  have rx5 := rng32 x5
  have lI0 : (0 : Int32).toInt = 0 := by decide
  have lI1 : (1 : Int32).toInt = 1 := by decide
  have lI4 : (4 : Int32).toInt = 4 := by decide
  have lI6 : (6 : Int32).toInt = 6 := by decide
  have lI255 : (255 : Int32).toInt = 255 := by decide
  simp only [Int32.lt_iff_toInt_lt, Int64.lt_iff_toInt_lt, ← Int32.toInt_inj, ← Int64.toInt_inj] at c0 c1 c2 c3 c4 c5 c6 c7 c8 c9 c10 c11 c12 c13 c14 c15 c16 c17 c18
  omega
theorem ar_57 (x0 : Int32) (x1 : Int32) (x2 : Int32) (x3 : Int32) (x4 : Int32) (x5 : Int32) (x6 : Int32) (hx1 : x1 = (x0 >>> ((6 : Int32) &&& 31))) (hx2 : x2 = (x1 + (1 : Int32))) (hx4 : x4 = (x3 >>> ((6 : Int32) &&& 31))) (hx6 : x6 = (x5 >>> ((6 : Int32) &&& 31))) (c0 : (¬ (x0 < (0 : Int32)))) (c1 : (¬ ((255 : Int32) < x0))) (c2 : (¬ (x3 < (0 : Int32)))) (c3 : (¬ ((255 : Int32) < x3))) (c4 : (¬ (x5 < (0 : Int32)))) (c5 : (¬ ((255 : Int32) < x5))) (c6 : (¬ (x1 < (0 : Int32)))) (c7 : (¬ (x2 < (1 : Int32)))) (c8 : (¬ ((4 : Int32) < x2))) (c9 : ((0 : Int32) < x2)) (c10 : (¬ (x2 = (0 : Int32)))) (c11 : (¬ ((4 : Int32) < x2))) (c12 : (x1 < (4 : Int32))) (c13 : (x1 < x2)) (c14 : (x4 < x2)) (c15 : (¬ (x4 < (0 : Int32)))) (c16 : (x4 < (4 : Int32))) (c17 : (x6 < x2)) (c18 : (¬ (x6 < (0 : Int32)))) (c19 : (¬ (x6 < (4 : Int32)))) : False := by
  have rx1 := rng32 x1
  have wx1 := c_ishr x0 (6 : Int32) 6 (by decide)
  rw [← hx1] at wx1
  have rx2 := rng32 x2
  have wx2 := c_iadd x1 (1 : Int32)
  rw [← hx2] at wx2
  have rx4 := rng32 x4
  have wx4 := c_ishr x3 (6 : Int32) 6 (by decide)
  rw [← hx4] at wx4
  have rx6 := rng32 x6
  have wx6 := c_ishr x5 (6 : Int32) 6 (by decide)
  rw [← hx6] at wx6
  have rx0 := rng32 x0
  have rx3 := rng32 x3
  have rx5 := rng32 x5
  have lI0 : (0 : Int32).toInt = 0 := by decide
  have lI1 : (1 : Int32).toInt = 1 := by decide
  have lI4 : (4 : Int32).toInt = 4 := by decide
  have lI6 : (6 : Int32).toInt = 6 := by decide
  have lI255 : (255 : Int32).toInt = 255 := by decide
  simp only [Int32.lt_iff_toInt_lt, Int64.lt_iff_toInt_lt, ← Int32.toInt_inj, ← Int64.toInt_inj] at c0 c1 c2 c3 c4 c5 c6 c7 c8 c9 c10 c11 c12 c13 c14 c15 c16 c17 c18 c19
  omega
theorem ar_58 (x0 : Int32) (x1 : Int32) (x2 : Int32) (x3 : Int32) (x4 : Int32) (x5 : Int32) (x6 : Int32) (x7 : Int32) (hx1 : x1 = (x0 >>> ((6 : Int32) &&& 31))) (hx2 : x2 = (x1 + (1 : Int32))) (hx4 : x4 = (x3 >>> ((6 : Int32) &&& 31))) (hx6 : x6 = (x5 >>> ((6 : Int32) &&& 31))) (hx7 : x7 = (x6 + (1 : Int32))) (c0 : (¬ (x0 < (0 : Int32)))) (c1 : (¬ ((255 : Int32) < x0))) (c2 : (¬ (x3 < (0 : Int32)))) (c3 : (¬ ((255 : Int32) < x3))) (c4 : (¬ (x5 < (0 : Int32)))) (c5 : (¬ ((255 : Int32) < x5))) (c6 : (¬ (x1 < (0 : Int32)))) (c7 : (¬ (x2 < (1 : Int32)))) (c8 : (¬ ((4 : Int32) < x2))) (c9 : ((0 : Int32) < x2)) (c10 : (¬ (x2 = (0 : Int32)))) (c11 : (¬ ((4 : Int32) < x2))) (c12 : (x1 < (4 : Int32))) (c13 : (x1 < x2)) (c14 : (x4 < x2)) (c15 : (¬ (x4 < (0 : Int32)))) (c16 : (x4 < (4 : Int32))) (c17 : (¬ (x6 < x2))) (c18 : (x7 < (1 : Int32))) : False := by
  have rx1 := rng32 x1
  have wx1 := c_ishr x0 (6 : Int32) 6 (by decide)
  rw [← hx1] at wx1
  have rx2 := rng32 x2
  have wx2 := c_iadd x1 (1 : Int32)
  rw [← hx2] at wx2
  have rx4 := rng32 x4
  have wx4 := c_ishr x3 (6 : Int32) 6 (by decide)
  rw [← hx4] at wx4
  have rx6 := rng32 x6
  have wx6 := c_ishr x5 (6 : Int32) 6 (by decide)
  rw [← hx6] at wx6
  have rx7 := rng32 x7
  have wx7 := c_iadd x6 (1 : Int32)
  rw [← hx7] at wx7
  have rx0 := rng32 x0
  have rx3 := rng32 x3
  have rx5 := rng32 x5
  have lI0 : (0 : Int32).toInt = 0 := by decide
  have lI1 : (1 : Int32).toInt = 1 := by decide
  have lI4 : (4 : Int32).toInt = 4 := by decide
  have lI6 : (6 : Int32).toInt = 6 := by decide
  have lI255 : (255 : Int32).toInt = 255 := by decide
  simp only [Int32.lt_iff_toInt_lt, Int64.lt_iff_toInt_lt, ← Int32.toInt_inj, ← Int64.toInt_inj] at c0 c1 c2 c3 c4 c5 c6 c7 c8 c9 c10 c11 c12 c13 c14 c15 c16 c17 c18
  omega
theorem ar_59 (x0 : Int32) (x1 : Int32) (x2 : Int32) (x3 : Int32) (x4 : Int32) (x5 : Int32) (x6 : Int32) (x7 : Int32) (hx1 : x1 = (x0 >>> ((6 : Int32) &&& 31))) (hx2 : x2 = (x1 + (1 : Int32))) (hx4 : x4 = (x3 >>> ((6 : Int32) &&& 31))) (hx6 : x6 = (x5 >>> ((6 : Int32) &&& 31))) (hx7 : x7 = (x6 + (1 : Int32))) (c0 : (¬ (x0 < (0 : Int32)))) (c1 : (¬ ((255 : Int32) < x0))) (c2 : (¬ (x3 < (0 : Int32)))) (c3 : (¬ ((255 : Int32) < x3))) (c4 : (¬ (x5 < (0 : Int32)))) (c5 : (¬ ((255 : Int32) < x5))) (c6 : (¬ (x1 < (0 : Int32)))) (c7 : (¬ (x2 < (1 : Int32)))) (c8 : (¬ ((4 : Int32) < x2))) (c9 : ((0 : Int32) < x2)) (c10 : (¬ (x2 = (0 : Int32)))) (c11 : (¬ ((4 : Int32) < x2))) (c12 : (x1 < (4 : Int32))) (c13 : (x1 < x2)) (c14 : (x4 < x2)) (c15 : (¬ (x4 < (0 : Int32)))) (c16 : (x4 < (4 : Int32))) (c17 : (¬ (x6 < x2))) (c18 : (¬ (x7 < (1 : Int32)))) (c19 : ((4 : Int32) < x7)) : False := by
  have rx1 := rng32 x1
  have wx1 := c_ishr x0 (6 : Int32) 6 (by decide)
  rw [← hx1] at wx1
  have rx2 := rng32 x2
  have wx2 := c_iadd x1 (1 : Int32)
  rw [← hx2] at wx2
  have rx4 := rng32 x4
  have wx4 := c_ishr x3 (6 : Int32) 6 (by decide)
  rw [← hx4] at wx4
  have rx6 := rng32 x6
  have wx6 := c_ishr x5 (6 : Int32) 6 (by decide)
  rw [← hx6] at wx6
  have rx7 := rng32 x7
  have wx7 := c_iadd x6 (1 : Int32)
  rw [← hx7] at wx7
  have rx0 := rng32 x0
  have rx3 := rng32 x3
  have rx5 := rng32 x5
  have lI0 : (0 : Int32).toInt = 0 := by decide
  have lI1 : (1 : Int32).toInt = 1 := by decide
  have lI4 : (4 : Int32).toInt = 4 := by decide
  have lI6 : (6 : Int32).toInt = 6 := by decide
  have lI255 : (255 : Int32).toInt = 255 := by decide
  simp only [Int32.lt_iff_toInt_lt, Int64.lt_iff_toInt_lt, ← Int32.toInt_inj, ← Int64.toInt_inj] at c0 c1 c2 c3 c4 c5 c6 c7 c8 c9 c10 c11 c12 c13 c14 c15 c16 c17 c18 c19
  omega
theorem ar_60 (x0 : Int32) (x1 : Int32) (x2 : Int32) (x3 : Int32) (x4 : Int32) (x5 : Int32) (x6 : Int32) (x7 : Int32) (hx1 : x1 = (x0 >>> ((6 : Int32) &&& 31))) (hx2 : x2 = (x1 + (1 : Int32))) (hx4 : x4 = (x3 >>> ((6 : Int32) &&& 31))) (hx6 : x6 = (x5 >>> ((6 : Int32) &&& 31))) (hx7 : x7 = (x6 + (1 : Int32))) (c0 : (¬ (x0 < (0 : Int32)))) (c1 : (¬ ((255 : Int32) < x0))) (c2 : (¬ (x3 < (0 : Int32)))) (c3 : (¬ ((255 : Int32) < x3))) (c4 : (¬ (x5 < (0 : Int32)))) (c5 : (¬ ((255 : Int32) < x5))) (c6 : (¬ (x1 < (0 : Int32)))) (c7 : (¬ (x2 < (1 : Int32)))) (c8 : (¬ ((4 : Int32) < x2))) (c9 : ((0 : Int32) < x2)) (c10 : (¬ (x2 = (0 : Int32)))) (c11 : (¬ ((4 : Int32) < x2))) (c12 : (((x2 < (0 : Int32)) ∧ ((0 : Int32) = x2)) ∨ ((¬ (x2 < (0 : Int32))) ∧ ((0 : Int32) = (0 : Int32))))) (c13 : (x1 < (4 : Int32))) (c14 : (x1 < x2)) (c15 : (x4 < x2)) (c16 : (¬ (x4 < (0 : Int32)))) (c17 : (x4 < (4 : Int32))) (c18 : (¬ (x6 < x2))) (c19 : (¬ (x7 < (1 : Int32)))) (c20 : (¬ ((4 : Int32) < x7))) (c21 : (¬ (x2 < x7))) : False := by
  have rx1 := rng32 x1
  have wx1 := c_ishr x0 (6 : Int32) 6 (by decide)
  rw [← hx1] at wx1
  have rx2 := rng32 x2
  have wx2 := c_iadd x1 (1 : Int32)
  rw [← hx2] at wx2
  have rx4 := rng32 x4
  have wx4 := c_ishr x3 (6 : Int32) 6 (by decide)
  rw [← hx4] at wx4
  have rx6 := rng32 x6
  have wx6 := c_ishr x5 (6 : Int32) 6 (by decide)
  rw [← hx6] at wx6
  have rx7 := rng32 x7
  have wx7 := c_iadd x6 (1 : Int32)
  rw [← hx7] at wx7
  have rx0 := rng32 x0
  have rx3 := rng32 x3
  have rx5 := rng32 x5
  have lI0 : (0 : Int32).toInt = 0 := by decide
  have lI1 : (1 : Int32).toInt = 1 := by decide
  have lI4 : (4 : Int32).toInt = 4 := by decide
  have lI6 : (6 : Int32).toInt = 6 := by decide
  have lI255 : (255 : Int32).toInt = 255 := by decide
  simp only [Int32.lt_iff_toInt_lt, Int64.lt_iff_toInt_lt, ← Int32.toInt_inj, ← Int64.toInt_inj] at c0 c1 c2 c3 c4 c5 c6 c7 c8 c9 c10 c11 c12 c13 c14 c15 c16 c17 c18 c19 c20 c21
  omega
theorem ar_61 (x0 : Int32) (x1 : Int32) (x2 : Int32) (x3 : Int32) (x4 : Int32) (x5 : Int32) (x6 : Int32) (x7 : Int32) (hx1 : x1 = (x0 >>> ((6 : Int32) &&& 31))) (hx2 : x2 = (x1 + (1 : Int32))) (hx4 : x4 = (x3 >>> ((6 : Int32) &&& 31))) (hx6 : x6 = (x5 >>> ((6 : Int32) &&& 31))) (hx7 : x7 = (x6 + (1 : Int32))) (c0 : (¬ (x0 < (0 : Int32)))) (c1 : (¬ ((255 : Int32) < x0))) (c2 : (¬ (x3 < (0 : Int32)))) (c3 : (¬ ((255 : Int32) < x3))) (c4 : (¬ (x5 < (0 : Int32)))) (c5 : (¬ ((255 : Int32) < x5))) (c6 : (¬ (x1 < (0 : Int32)))) (c7 : (¬ (x2 < (1 : Int32)))) (c8 : (¬ ((4 : Int32) < x2))) (c9 : ((0 : Int32) < x2)) (c10 : (¬ (x2 = (0 : Int32)))) (c11 : (¬ ((4 : Int32) < x2))) (c12 : (((x2 < (0 : Int32)) ∧ ((0 : Int32) = x2)) ∨ ((¬ (x2 < (0 : Int32))) ∧ ((0 : Int32) = (0 : Int32))))) (c13 : (x1 < (4 : Int32))) (c14 : (x1 < x2)) (c15 : (x4 < x2)) (c16 : (¬ (x4 < (0 : Int32)))) (c17 : (x4 < (4 : Int32))) (c18 : (¬ (x6 < x2))) (c19 : (¬ (x7 < (1 : Int32)))) (c20 : (¬ ((4 : Int32) < x7))) (c21 : (x2 < x7)) (c22 : (x2 < (0 : Int32))) : False := by
  have rx1 := rng32 x1
  have wx1 := c_ishr x0 (6 : Int32) 6 (by decide)
  rw [← hx1] at wx1
  have rx2 := rng32 x2
  have wx2 := c_iadd x1 (1 : Int32)
  rw [← hx2] at wx2
  have rx4 := rng32 x4
  have wx4 := c_ishr x3 (6 : Int32) 6 (by decide)
  rw [← hx4] at wx4
  have rx6 := rng32 x6
  have wx6 := c_ishr x5 (6 : Int32) 6 (by decide)
  rw [← hx6] at wx6
  have rx7 := rng32 x7
  have wx7 := c_iadd x6 (1 : Int32)
  rw [← hx7] at wx7
  have rx0 := rng32 x0
  have rx3 := rng32 x3
  have rx5 := rng32 x5
  have lI0 : (0 : Int32).toInt = 0 := by decide
  have lI1 : (1 : Int32).toInt = 1 := by decide
  have lI4 : (4 : Int32).toInt = 4 := by decide
  have lI6 : (6 : Int32).toInt = 6 := by decide
  have lI255 : (255 : Int32).toInt = 255 := by decide
  simp only [Int32.lt_iff_toInt_lt, Int64.lt_iff_toInt_lt, ← Int32.toInt_inj, ← Int64.toInt_inj] at c0 c1 c2 c3 c4 c5 c6 c7 c8 c9 c10 c11 c12 c13 c14 c15 c16 c17 c18 c19 c20 c21 c22
  omega
theorem ar_62 (x0 : Int32) (x1 : Int32) (x2 : Int32) (x3 : Int32) (x4 : Int32) (x5 : Int32) (x6 : Int32) (x7 : Int32) (hx1 : x1 = (x0 >>> ((6 : Int32) &&& 31))) (hx2 : x2 = (x1 + (1 : Int32))) (hx4 : x4 = (x3 >>> ((6 : Int32) &&& 31))) (hx6 : x6 = (x5 >>> ((6 : Int32) &&& 31))) (hx7 : x7 = (x6 + (1 : Int32))) (c0 : (¬ (x0 < (0 : Int32)))) (c1 : (¬ ((255 : Int32) < x0))) (c2 : (¬ (x3 < (0 : Int32)))) (c3 : (¬ ((255 : Int32) < x3))) (c4 : (¬ (x5 < (0 : Int32)))) (c5 : (¬ ((255 : Int32) < x5))) (c6 : (¬ (x1 < (0 : Int32)))) (c7 : (¬ (x2 < (1 : Int32)))) (c8 : (¬ ((4 : Int32) < x2))) (c9 : ((0 : Int32) < x2)) (c10 : (¬ (x2 = (0 : Int32)))) (c11 : (¬ ((4 : Int32) < x2))) (c12 : (x1 < (4 : Int32))) (c13 : (x1 < x2)) (c14 : (x4 < x2)) (c15 : (¬ (x4 < (0 : Int32)))) (c16 : (x4 < (4 : Int32))) (c17 : (¬ (x6 < x2))) (c18 : (¬ (x7 < (1 : Int32)))) (c19 : (¬ ((4 : Int32) < x7))) (c20 : (x2 < x7)) (c21 : (¬ (x2 < (0 : Int32)))) (c22 : (¬ (x7 = x2))) (c23 : (¬ ((4 : Int32) < x7))) (c24 : (x6 < (0 : Int32))) : False := by
  have rx1 := rng32 x1
  have wx1 := c_ishr x0 (6 : Int32) 6 (by decide)
  rw [← hx1] at wx1
  have rx2 := rng32 x2
  have wx2 := c_iadd x1 (1 : Int32)
  rw [← hx2] at wx2
  have rx4 := rng32 x4
  have wx4 := c_ishr x3 (6 : Int32) 6 (by decide)
  rw [← hx4] at wx4
  have rx6 := rng32 x6
  have wx6 := c_ishr x5 (6 : Int32) 6 (by decide)
  rw [← hx6] at wx6
  have rx7 := rng32 x7
  have wx7 := c_iadd x6 (1 : Int32)
  rw [← hx7] at wx7
  have rx0 := rng32 x0
  have rx3 := rng32 x3
  have rx5 := rng32 x5
  have lI0 : (0 : Int32).toInt = 0 := by decide
  have lI1 : (1 : Int32).toInt = 1 := by decide
  have lI4 : (4 : Int32).toInt = 4 := by decide
  have lI6 : (6 : Int32).toInt = 6 := by decide
  have lI255 : (255 : Int32).toInt = 255 := by decide
  simp only [Int32.lt_iff_toInt_lt, Int64.lt_iff_toInt_lt, ← Int32.toInt_inj, ← Int64.toInt_inj] at c0 c1 c2 c3 c4 c5 c6 c7 c8 c9 c10 c11 c12 c13 c14 c15 c16 c17 c18 c19 c20 c21 c22 c23 c24
  omega
theorem ar_63 (x0 : Int32) (x1 : Int32) (x2 : Int32) (x3 : Int32) (x4 : Int32) (x5 : Int32) (x6 : Int32) (x7 : Int32) (hx1 : x1 = (x0 >>> ((6 : Int32) &&& 31))) (hx2 : x2 = (x1 + (1 : Int32))) (hx4 : x4 = (x3 >>> ((6 : Int32) &&& 31))) (hx6 : x6 = (x5 >>> ((6 : Int32) &&& 31))) (hx7 : x7 = (x6 + (1 : Int32))) (c0 : (¬ (x0 < (0 : Int32)))) (c1 : (¬ ((255 : Int32) < x0))) (c2 : (¬ (x3 < (0 : Int32)))) (c3 : (¬ ((255 : Int32) < x3))) (c4 : (¬ (x5 < (0 : Int32)))) (c5 : (¬ ((255 : Int32) < x5))) (c6 : (¬ (x1 < (0 : Int32)))) (c7 : (¬ (x2 < (1 : Int32)))) (c8 : (¬ ((4 : Int32) < x2))) (c9 : ((0 : Int32) < x2)) (c10 : (¬ (x2 = (0 : Int32)))) (c11 : (¬ ((4 : Int32) < x2))) (c12 : (x1 < (4 : Int32))) (c13 : (x1 < x2)) (c14 : (x4 < x2)) (c15 : (¬ (x4 < (0 : Int32)))) (c16 : (x4 < (4 : Int32))) (c17 : (¬ (x6 < x2))) (c18 : (¬ (x7 < (1 : Int32)))) (c19 : (¬ ((4 : Int32) < x7))) (c20 : (x2 < x7)) (c21 : (¬ (x2 < (0 : Int32)))) (c22 : (¬ (x7 = x2))) (c23 : (¬ ((4 : Int32) < x7))) (c24 : (¬ (x6 < (0 : Int32)))) (c25 : (¬ (x6 < (4 : Int32)))) : False := by
  have rx1 := rng32 x1
  have wx1 := c_ishr x0 (6 : Int32) 6 (by decide)
  rw [← hx1] at wx1
  have rx2 := rng32 x2
  have wx2 := c_iadd x1 (1 : Int32)
  rw [← hx2] at wx2
  have rx4 := rng32 x4
  have wx4 := c_ishr x3 (6 : Int32) 6 (by decide)
  rw [← hx4] at wx4
  have rx6 := rng32 x6
  have wx6 := c_ishr x5 (6 : Int32) 6 (by decide)
  rw [← hx6] at wx6
  have rx7 := rng32 x7
  have wx7 := c_iadd x6 (1 : Int32)
  rw [← hx7] at wx7
  have rx0 := rng32 x0
  have rx3 := rng32 x3
  have rx5 := rng32 x5
  have lI0 : (0 : Int32).toInt = 0 := by decide
  have lI1 : (1 : Int32).toInt = 1 := by decide
  have lI4 : (4 : Int32).toInt = 4 := by decide
  have lI6 : (6 : Int32).toInt = 6 := by decide
  have lI255 : (255 : Int32).toInt = 255 := by decide
  simp only [Int32.lt_iff_toInt_lt, Int64.lt_iff_toInt_lt, ← Int32.toInt_inj, ← Int64.toInt_inj] at c0 c1 c2 c3 c4 c5 c6 c7 c8 c9 c10 c11 c12 c13 c14 c15 c16 c17 c18 c19 c20 c21 c22 c23 c24 c25
  omega
theorem ar_64 (x0 : Int32) (x1 : Int32) (x2 : Int32) (x3 : Int32) (x4 : Int32) (x5 : Int32) (x6 : Int32) (x7 : Int32) (hx1 : x1 = (x0 >>> ((6 : Int32) &&& 31))) (hx2 : x2 = (x1 + (1 : Int32))) (hx4 : x4 = (x3 >>> ((6 : Int32) &&& 31))) (hx6 : x6 = (x5 >>> ((6 : Int32) &&& 31))) (hx7 : x7 = (x6 + (1 : Int32))) (c0 : (¬ (x0 < (0 : Int32)))) (c1 : (¬ ((255 : Int32) < x0))) (c2 : (¬ (x3 < (0 : Int32)))) (c3 : (¬ ((255 : Int32) < x3))) (c4 : (¬ (x5 < (0 : Int32)))) (c5 : (¬ ((255 : Int32) < x5))) (c6 : (¬ (x1 < (0 : Int32)))) (c7 : (¬ (x2 < (1 : Int32)))) (c8 : (¬ ((4 : Int32) < x2))) (c9 : ((0 : Int32) < x2)) (c10 : (¬ (x2 = (0 : Int32)))) (c11 : (¬ ((4 : Int32) < x2))) (c12 : (x1 < (4 : Int32))) (c13 : (x1 < x2)) (c14 : (x4 < x2)) (c15 : (¬ (x4 < (0 : Int32)))) (c16 : (x4 < (4 : Int32))) (c17 : (¬ (x6 < x2))) (c18 : (¬ (x7 < (1 : Int32)))) (c19 : (¬ ((4 : Int32) < x7))) (c20 : (x2 < x7)) (c21 : (¬ (x2 < (0 : Int32)))) (c22 : (¬ (x7 = x2))) (c23 : (¬ ((4 : Int32) < x7))) (c24 : (((x7 < x2) ∧ (x2 = x7)) ∨ ((¬ (x7 < x2)) ∧ (x2 = x2)))) (c25 : (¬ (x6 < (0 : Int32)))) (c26 : (x6 < (4 : Int32))) (c27 : (¬ (x6 < x7))) : False := by
  have rx1 := rng32 x1
  have wx1 := c_ishr x0 (6 : Int32) 6 (by decide)
  rw [← hx1] at wx1
  have rx2 := rng32 x2
  have wx2 := c_iadd x1 (1 : Int32)
  rw [← hx2] at wx2
  have rx4 := rng32 x4
  have wx4 := c_ishr x3 (6 : Int32) 6 (by decide)
  rw [← hx4] at wx4
  have rx6 := rng32 x6
  have wx6 := c_ishr x5 (6 : Int32) 6 (by decide)
  rw [← hx6] at wx6
  have rx7 := rng32 x7
  have wx7 := c_iadd x6 (1 : Int32)
  rw [← hx7] at wx7
  have rx0 := rng32 x0
  have rx3 := rng32 x3
  have rx5 := rng32 x5
  have lI0 : (0 : Int32).toInt = 0 := by decide
  have lI1 : (1 : Int32).toInt = 1 := by decide
  have lI4 : (4 : Int32).toInt = 4 := by decide
  have lI6 : (6 : Int32).toInt = 6 := by decide
  have lI255 : (255 : Int32).toInt = 255 := by decide
  simp only [Int32.lt_iff_toInt_lt, Int64.lt_iff_toInt_lt, ← Int32.toInt_inj, ← Int64.toInt_inj] at c0 c1 c2 c3 c4 c5 c6 c7 c8 c9 c10 c11 c12 c13 c14 c15 c16 c17 c18 c19 c20 c21 c22 c23 c24 c25 c26 c27
  omega
theorem ar_65 (x0 : Int32) (x1 : Int32) (x2 : Int32) (x3 : Int32) (x4 : Int32) (x5 : Int32) (x6 : Int32) (x7 : Int32) (hx1 : x1 = (x0 >>> ((6 : Int32) &&& 31))) (hx2 : x2 = (x1 + (1 : Int32))) (hx4 : x4 = (x3 >>> ((6 : Int32) &&& 31))) (hx5 : x5 = (x4 + (1 : Int32))) (hx7 : x7 = (x6 >>> ((6 : Int32) &&& 31))) (c0 : (¬ (x0 < (0 : Int32)))) (c1 : (¬ ((255 : Int32) < x0))) (c2 : (¬ (x3 < (0 : Int32)))) (c3 : (¬ ((255 : Int32) < x3))) (c4 : (¬ (x6 < (0 : Int32)))) (c5 : (¬ ((255 : Int32) < x6))) (c6 : (¬ (x1 < (0 : Int32)))) (c7 : (¬ (x2 < (1 : Int32)))) (c8 : (¬ ((4 : Int32) < x2))) (c9 : ((0 : Int32) < x2)) (c10 : (¬ (x2 = (0 : Int32)))) (c11 : (¬ ((4 : Int32) < x2))) (c12 : (x1 < (4 : Int32))) (c13 : (x1 < x2)) (c14 : (¬ (x4 < x2))) (c15 : (¬ (x5 < (1 : Int32)))) (c16 : (¬ ((4 : Int32) < x5))) (c17 : (x2 < x5)) (c18 : (¬ (x2 < (0 : Int32)))) (c19 : (¬ (x5 = x2))) (c20 : (¬ ((4 : Int32) < x5))) (c21 : (¬ (x4 < (0 : Int32)))) (c22 : (x4 < (4 : Int32))) (c23 : (x4 < x5)) (c24 : (x7 < x5)) (c25 : (x7 < (0 : Int32))) : False := by
  have rx1 := rng32 x1
  have wx1 := c_ishr x0 (6 : Int32) 6 (by decide)
  rw [← hx1] at wx1
  have rx2 := rng32 x2
  have wx2 := c_iadd x1 (1 : Int32)
  rw [← hx2] at wx2
  have rx4 := rng32 x4
  have wx4 := c_ishr x3 (6 : Int32) 6 (by decide)
  rw [← hx4] at wx4
  have rx5 := rng32 x5
  have wx5 := c_iadd x4 (1 : Int32)
  rw [← hx5] at wx5
  have rx7 := rng32 x7
  have wx7 := c_ishr x6 (6 : Int32) 6 (by decide)
  rw [← hx7] at wx7
  have rx0 := rng32 x0
  have rx3 := rng32 x3
  have rx6 := rng32 x6
  have lI0 : (0 : Int32).toInt = 0 := by decide
  have lI1 : (1 : Int32).toInt = 1 := by decide
  have lI4 : (4 : Int32).toInt = 4 := by decide
  have lI6 : (6 : Int32).toInt = 6 := by decide
  have lI255 : (255 : Int32).toInt = 255 := by decide
  simp only [Int32.lt_iff_toInt_lt, Int64.lt_iff_toInt_lt, ← Int32.toInt_inj, ← Int64.toInt_inj] at c0 c1 c2 c3 c4 c5 c6 c7 c8 c9 c10 c11 c12 c13 c14 c15 c16 c17 c18 c19 c20 c21 c22 c23 c24 c25
  omega
theorem ar_66 (x0 : Int32) (x1 : Int32) (x2 : Int32) (x3 : Int32) (x4 : Int32) (x5 : Int32) (x6 : Int32) (x7 : Int32) (hx1 : x1 = (x0 >>> ((6 : Int32) &&& 31))) (hx2 : x2 = (x1 + (1 : Int32))) (hx4 : x4 = (x3 >>> ((6 : Int32) &&& 31))) (hx5 : x5 = (x4 + (1 : Int32))) (hx7 : x7 = (x6 >>> ((6 : Int32) &&& 31))) (c0 : (¬ (x0 < (0 : Int32)))) (c1 : (¬ ((255 : Int32) < x0))) (c2 : (¬ (x3 < (0 : Int32)))) (c3 : (¬ ((255 : Int32) < x3))) (c4 : (¬ (x6 < (0 : Int32)))) (c5 : (¬ ((255 : Int32) < x6))) (c6 : (¬ (x1 < (0 : Int32)))) (c7 : (¬ (x2 < (1 : Int32)))) (c8 : (¬ ((4 : Int32) < x2))) (c9 : ((0 : Int32) < x2)) (c10 : (¬ (x2 = (0 : Int32)))) (c11 : (¬ ((4 : Int32) < x2))) (c12 : (x1 < (4 : Int32))) (c13 : (x1 < x2)) (c14 : (¬ (x4 < x2))) (c15 : (¬ (x5 < (1 : Int32)))) (c16 : (¬ ((4 : Int32) < x5))) (c17 : (x2 < x5)) (c18 : (¬ (x2 < (0 : Int32)))) (c19 : (¬ (x5 = x2))) (c20 : (¬ ((4 : Int32) < x5))) (c21 : (¬ (x4 < (0 : Int32)))) (c22 : (x4 < (4 : Int32))) (c23 : (x4 < x5)) (c24 : (x7 < x5)) (c25 : (¬ (x7 < (0 : Int32)))) (c26 : (¬ (x7 < (4 : Int32)))) : False := by
  have rx1 := rng32 x1
  have wx1 := c_ishr x0 (6 : Int32) 6 (by decide)
  rw [← hx1] at wx1
  have rx2 := rng32 x2
  have wx2 := c_iadd x1 (1 : Int32)
  rw [← hx2] at wx2
  have rx4 := rng32 x4
  have wx4 := c_ishr x3 (6 : Int32) 6 (by decide)
  rw [← hx4] at wx4
  have rx5 := rng32 x5
  have wx5 := c_iadd x4 (1 : Int32)
  rw [← hx5] at wx5
  have rx7 := rng32 x7
  have wx7 := c_ishr x6 (6 : Int32) 6 (by decide)
  rw [← hx7] at wx7
  have rx0 := rng32 x0
  have rx3 := rng32 x3
  have rx6 := rng32 x6
  have lI0 : (0 : Int32).toInt = 0 := by decide
  have lI1 : (1 : Int32).toInt = 1 := by decide
  have lI4 : (4 : Int32).toInt = 4 := by decide
  have lI6 : (6 : Int32).toInt = 6 := by decide
  have lI255 : (255 : Int32).toInt = 255 := by decide
  simp only [Int32.lt_iff_toInt_lt, Int64.lt_iff_toInt_lt, ← Int32.toInt_inj, ← Int64.toInt_inj] at c0 c1 c2 c3 c4 c5 c6 c7 c8 c9 c10 c11 c12 c13 c14 c15 c16 c17 c18 c19 c20 c21 c22 c23 c24 c25 c26
  omega
theorem ar_67 (x0 : Int32) (x1 : Int32) (x2 : Int32) (x3 : Int32) (x4 : Int32) (x5 : Int32) (x6 : Int32) (x7 : Int32) (x8 : Int32) (hx1 : x1 = (x0 >>> ((6 : Int32) &&& 31))) (hx2 : x2 = (x1 + (1 : Int32))) (hx4 : x4 = (x3 >>> ((6 : Int32) &&& 31))) (hx5 : x5 = (x4 + (1 : Int32))) (hx7 : x7 = (x6 >>> ((6 : Int32) &&& 31))) (hx8 : x8 = (x7 + (1 : Int32))) (c0 : (¬ (x0 < (0 : Int32)))) (c1 : (¬ ((255 : Int32) < x0))) (c2 : (¬ (x3 < (0 : Int32)))) (c3 : (¬ ((255 : Int32) < x3))) (c4 : (¬ (x6 < (0 : Int32)))) (c5 : (¬ ((255 : Int32) < x6))) (c6 : (¬ (x1 < (0 : Int32)))) (c7 : (¬ (x2 < (1 : Int32)))) (c8 : (¬ ((4 : Int32) < x2))) (c9 : ((0 : Int32) < x2)) (c10 : (¬ (x2 = (0 : Int32)))) (c11 : (¬ ((4 : Int32) < x2))) (c12 : (x1 < (4 : Int32))) (c13 : (x1 < x2)) (c14 : (¬ (x4 < x2))) (c15 : (¬ (x5 < (1 : Int32)))) (c16 : (¬ ((4 : Int32) < x5))) (c17 : (x2 < x5)) (c18 : (¬ (x2 < (0 : Int32)))) (c19 : (¬ (x5 = x2))) (c20 : (¬ ((4 : Int32) < x5))) (c21 : (¬ (x4 < (0 : Int32)))) (c22 : (x4 < (4 : Int32))) (c23 : (x4 < x5)) (c24 : (¬ (x7 < x5))) (c25 : (x8 < (1 : Int32))) : False := by
  have rx1 := rng32 x1
  have wx1 := c_ishr x0 (6 : Int32) 6 (by decide)
  rw [← hx1] at wx1
  have rx2 := rng32 x2
  have wx2 := c_iadd x1 (1 : Int32)
  rw [← hx2] at wx2
  have rx4 := rng32 x4
  have wx4 := c_ishr x3 (6 : Int32) 6 (by decide)
  rw [← hx4] at wx4
  have rx5 := rng32 x5
  have wx5 := c_iadd x4 (1 : Int32)
  rw [← hx5] at wx5
  have rx7 := rng32 x7
  have wx7 := c_ishr x6 (6 : Int32) 6 (by decide)
  rw [← hx7] at wx7
  have rx8 := rng32 x8
  have wx8 := c_iadd x7 (1 : Int32)
  rw [← hx8] at wx8
  have rx0 := rng32 x0
  have rx3 := rng32 x3
  have rx6 := rng32 x6
  have lI0 : (0 : Int32).toInt = 0 := by decide
  have lI1 : (1 : Int32).toInt = 1 := by decide
  have lI4 : (4 : Int32).toInt = 4 := by decide
  have lI6 : (6 : Int32).toInt = 6 := by decide
  have lI255 : (255 : Int32).toInt = 255 := by decide
  simp only [Int32.lt_iff_toInt_lt, Int64.lt_iff_toInt_lt, ← Int32.toInt_inj, ← Int64.toInt_inj] at c0 c1 c2 c3 c4 c5 c6 c7 c8 c9 c10 c11 c12 c13 c14 c15 c16 c17 c18 c19 c20 c21 c22 c23 c24 c25
  omega
theorem ar_68 (x0 : Int32) (x1 : Int32) (x2 : Int32) (x3 : Int32) (x4 : Int32) (x5 : Int32) (x6 : Int32) (x7 : Int32) (x8 : Int32) (hx1 : x1 = (x0 >>> ((6 : Int32) &&& 31))) (hx2 : x2 = (x1 + (1 : Int32))) (hx4 : x4 = (x3 >>> ((6 : Int32) &&& 31))) (hx5 : x5 = (x4 + (1 : Int32))) (hx7 : x7 = (x6 >>> ((6 : Int32) &&& 31))) (hx8 : x8 = (x7 + (1 : Int32))) (c0 : (¬ (x0 < (0 : Int32)))) (c1 : (¬ ((255 : Int32) < x0))) (c2 : (¬ (x3 < (0 : Int32)))) (c3 : (¬ ((255 : Int32) < x3))) (c4 : (¬ (x6 < (0 : Int32)))) (c5 : (¬ ((255 : Int32) < x6))) (c6 : (¬ (x1 < (0 : Int32)))) (c7 : (¬ (x2 < (1 : Int32)))) (c8 : (¬ ((4 : Int32) < x2))) (c9 : ((0 : Int32) < x2)) (c10 : (¬ (x2 = (0 : Int32)))) (c11 : (¬ ((4 : Int32) < x2))) (c12 : (x1 < (4 : Int32))) (c13 : (x1 < x2)) (c14 : (¬ (x4 < x2))) (c15 : (¬ (x5 < (1 : Int32)))) (c16 : (¬ ((4 : Int32) < x5))) (c17 : (x2 < x5)) (c18 : (¬ (x2 < (0 : Int32)))) (c19 : (¬ (x5 = x2))) (c20 : (¬ ((4 : Int32) < x5))) (c21 : (¬ (x4 < (0 : Int32)))) (c22 : (x4 < (4 : Int32))) (c23 : (x4 < x5)) (c24 : (¬ (x7 < x5))) (c25 : (¬ (x8 < (1 : Int32)))) (c26 : ((4 : Int32) < x8)) : False := by
  have rx1 := rng32 x1
  have wx1 := c_ishr x0 (6 : Int32) 6 (by decide)
  rw [← hx1] at wx1
  have rx2 := rng32 x2
  have wx2 := c_iadd x1 (1 : Int32)
  rw [← hx2] at wx2
  have rx4 := rng32 x4
  have wx4 := c_ishr x3 (6 : Int32) 6 (by decide)
  rw [← hx4] at wx4
  have rx5 := rng32 x5
  have wx5 := c_iadd x4 (1 : Int32)
  rw [← hx5] at wx5
  have rx7 := rng32 x7
  have wx7 := c_ishr x6 (6 : Int32) 6 (by decide)
  rw [← hx7] at wx7
  have rx8 := rng32 x8
  have wx8 := c_iadd x7 (1 : Int32)
  rw [← hx8] at wx8
  have rx0 := rng32 x0
  have rx3 := rng32 x3
  have rx6 := rng32 x6
  have lI0 : (0 : Int32).toInt = 0 := by decide
  have lI1 : (1 : Int32).toInt = 1 := by decide
  have lI4 : (4 : Int32).toInt = 4 := by decide
  have lI6 : (6 : Int32).toInt = 6 := by decide
  have lI255 : (255 : Int32).toInt = 255 := by decide
  simp only [Int32.lt_iff_toInt_lt, Int64.lt_iff_toInt_lt, ← Int32.toInt_inj, ← Int64.toInt_inj] at c0 c1 c2 c3 c4 c5 c6 c7 c8 c9 c10 c11 c12 c13 c14 c15 c16 c17 c18 c19 c20 c21 c22 c23 c24 c25 c26
  omega
theorem ar_69 (x0 : Int32) (x1 : Int32) (x2 : Int32) (x3 : Int32) (x4 : Int32) (x5 : Int32) (x6 : Int32) (x7 : Int32) (x8 : Int32) (hx1 : x1 = (x0 >>> ((6 : Int32) &&& 31))) (hx2 : x2 = (x1 + (1 : Int32))) (hx4 : x4 = (x3 >>> ((6 : Int32) &&& 31))) (hx5 : x5 = (x4 + (1 : Int32))) (hx7 : x7 = (x6 >>> ((6 : Int32) &&& 31))) (hx8 : x8 = (x7 + (1 : Int32))) (c0 : (¬ (x0 < (0 : Int32)))) (c1 : (¬ ((255 : Int32) < x0))) (c2 : (¬ (x3 < (0 : Int32)))) (c3 : (¬ ((255 : Int32) < x3))) (c4 : (¬ (x6 < (0 : Int32)))) (c5 : (¬ ((255 : Int32) < x6))) (c6 : (¬ (x1 < (0 : Int32)))) (c7 : (¬ (x2 < (1 : Int32)))) (c8 : (¬ ((4 : Int32) < x2))) (c9 : ((0 : Int32) < x2)) (c10 : (¬ (x2 = (0 : Int32)))) (c11 : (¬ ((4 : Int32) < x2))) (c12 : (x1 < (4 : Int32))) (c13 : (x1 < x2)) (c14 : (¬ (x4 < x2))) (c15 : (¬ (x5 < (1 : Int32)))) (c16 : (¬ ((4 : Int32) < x5))) (c17 : (x2 < x5)) (c18 : (¬ (x2 < (0 : Int32)))) (c19 : (¬ (x5 = x2))) (c20 : (¬ ((4 : Int32) < x5))) (c21 : (((x5 < x2) ∧ (x2 = x5)) ∨ ((¬ (x5 < x2)) ∧ (x2 = x2)))) (c22 : (¬ (x4 < (0 : Int32)))) (c23 : (x4 < (4 : Int32))) (c24 : (x4 < x5)) (c25 : (¬ (x7 < x5))) (c26 : (¬ (x8 < (1 : Int32)))) (c27 : (¬ ((4 : Int32) < x8))) (c28 : (¬ (x5 < x8))) : False := by
  have rx1 := rng32 x1
  have wx1 := c_ishr x0 (6 : Int32) 6 (by decide)
  rw [← hx1] at wx1
  have rx2 := rng32 x2
  have wx2 := c_iadd x1 (1 : Int32)
  rw [← hx2] at wx2
  have rx4 := rng32 x4
  have wx4 := c_ishr x3 (6 : Int32) 6 (by decide)
  rw [← hx4] at wx4
  have rx5 := rng32 x5
  have wx5 := c_iadd x4 (1 : Int32)
  rw [← hx5] at wx5
  have rx7 := rng32 x7
  have wx7 := c_ishr x6 (6 : Int32) 6 (by decide)
  rw [← hx7] at wx7
  have rx8 := rng32 x8
  have wx8 := c_iadd x7 (1 : Int32)
  rw [← hx8] at wx8
  have rx0 := rng32 x0
  have rx3 := rng32 x3
  have rx6 := rng32 x6
  have lI0 : (0 : Int32).toInt = 0 := by decide
  have lI1 : (1 : Int32).toInt = 1 := by decide
  have lI4 : (4 : Int32).toInt = 4 := by decide
  have lI6 : (6 : Int32).toInt = 6 := by decide
  have lI255 : (255 : Int32).toInt = 255 := by decide
  simp only [Int32.lt_iff_toInt_lt, Int64.lt_iff_toInt_lt, ← Int32.toInt_inj, ← Int64.toInt_inj] at c0 c1 c2 c3 c4 c5 c6 c7 c8 c9 c10 c11 c12 c13 c14 c15 c16 c17 c18 c19 c20 c21 c22 c23 c24 c25 c26 c27 c28
  omega
theorem ar_70 (x0 : Int32) (x1 : Int32) (x2 : Int32) (x3 : Int32) (x4 : Int32) (x5 : Int32) (x6 : Int32) (x7 : Int32) (x8 : Int32) (hx1 : x1 = (x0 >>> ((6 : Int32) &&& 31))) (hx2 : x2 = (x1 + (1 : Int32))) (hx4 : x4 = (x3 >>> ((6 : Int32) &&& 31))) (hx5 : x5 = (x4 + (1 : Int32))) (hx7 : x7 = (x6 >>> ((6 : Int32) &&& 31))) (hx8 : x8 = (x7 + (1 : Int32))) (c0 : (¬ (x0 < (0 : Int32)))) (c1 : (¬ ((255 : Int32) < x0))) (c2 : (¬ (x3 < (0 : Int32)))) (c3 : (¬ ((255 : Int32) < x3))) (c4 : (¬ (x6 < (0 : Int32)))) (c5 : (¬ ((255 : Int32) < x6))) (c6 : (¬ (x1 < (0 : Int32)))) (c7 : (¬ (x2 < (1 : Int32)))) (c8 : (¬ ((4 : Int32) < x2))) (c9 : ((0 : Int32) < x2)) (c10 : (¬ (x2 = (0 : Int32)))) (c11 : (¬ ((4 : Int32) < x2))) (c12 : (x1 < (4 : Int32))) (c13 : (x1 < x2)) (c14 : (¬ (x4 < x2))) (c15 : (¬ (x5 < (1 : Int32)))) (c16 : (¬ ((4 : Int32) < x5))) (c17 : (x2 < x5)) (c18 : (¬ (x2 < (0 : Int32)))) (c19 : (¬ (x5 = x2))) (c20 : (¬ ((4 : Int32) < x5))) (c21 : (((x5 < x2) ∧ (x2 = x5)) ∨ ((¬ (x5 < x2)) ∧ (x2 = x2)))) (c22 : (¬ (x4 < (0 : Int32)))) (c23 : (x4 < (4 : Int32))) (c24 : (x4 < x5)) (c25 : (¬ (x7 < x5))) (c26 : (¬ (x8 < (1 : Int32)))) (c27 : (¬ ((4 : Int32) < x8))) (c28 : (x5 < x8)) (c29 : (¬ (x1 < x5))) : False := by
  have rx1 := rng32 x1
  have wx1 := c_ishr x0 (6 : Int32) 6 (by decide)
  rw [← hx1] at wx1
  have rx2 := rng32 x2
  have wx2 := c_iadd x1 (1 : Int32)
  rw [← hx2] at wx2
  have rx4 := rng32 x4
  have wx4 := c_ishr x3 (6 : Int32) 6 (by decide)
  rw [← hx4] at wx4
  have rx5 := rng32 x5
  have wx5 := c_iadd x4 (1 : Int32)
  rw [← hx5] at wx5
  have rx7 := rng32 x7
  have wx7 := c_ishr x6 (6 : Int32) 6 (by decide)
  rw [← hx7] at wx7
  have rx8 := rng32 x8
  have wx8 := c_iadd x7 (1 : Int32)
  rw [← hx8] at wx8
  have rx0 := rng32 x0
  have rx3 := rng32 x3
  have rx6 := rng32 x6
  have lI0 : (0 : Int32).toInt = 0 := by decide
  have lI1 : (1 : Int32).toInt = 1 := by decide
  have lI4 : (4 : Int32).toInt = 4 := by decide
  have lI6 : (6 : Int32).toInt = 6 := by decide
  have lI255 : (255 : Int32).toInt = 255 := by decide
  simp only [Int32.lt_iff_toInt_lt, Int64.lt_iff_toInt_lt, ← Int32.toInt_inj, ← Int64.toInt_inj] at c0 c1 c2 c3 c4 c5 c6 c7 c8 c9 c10 c11 c12 c13 c14 c15 c16 c17 c18 c19 c20 c21 c22 c23 c24 c25 c26 c27 c28 c29
  omega
theorem ar_71 (x0 : Int32) (x1 : Int32) (x2 : Int32) (x3 : Int32) (x4 : Int32) (x5 : Int32) (x6 : Int32) (x7 : Int32) (x8 : Int32) (hx1 : x1 = (x0 >>> ((6 : Int32) &&& 31))) (hx2 : x2 = (x1 + (1 : Int32))) (hx4 : x4 = (x3 >>> ((6 : Int32) &&& 31))) (hx5 : x5 = (x4 + (1 : Int32))) (hx7 : x7 = (x6 >>> ((6 : Int32) &&& 31))) (hx8 : x8 = (x7 + (1 : Int32))) (c0 : (¬ (x0 < (0 : Int32)))) (c1 : (¬ ((255 : Int32) < x0))) (c2 : (¬ (x3 < (0 : Int32)))) (c3 : (¬ ((255 : Int32) < x3))) (c4 : (¬ (x6 < (0 : Int32)))) (c5 : (¬ ((255 : Int32) < x6))) (c6 : (¬ (x1 < (0 : Int32)))) (c7 : (¬ (x2 < (1 : Int32)))) (c8 : (¬ ((4 : Int32) < x2))) (c9 : ((0 : Int32) < x2)) (c10 : (¬ (x2 = (0 : Int32)))) (c11 : (¬ ((4 : Int32) < x2))) (c12 : (x1 < (4 : Int32))) (c13 : (x1 < x2)) (c14 : (¬ (x4 < x2))) (c15 : (¬ (x5 < (1 : Int32)))) (c16 : (¬ ((4 : Int32) < x5))) (c17 : (x2 < x5)) (c18 : (¬ (x2 < (0 : Int32)))) (c19 : (¬ (x5 = x2))) (c20 : (¬ ((4 : Int32) < x5))) (c21 : (((x5 < x2) ∧ (x2 = x5)) ∨ ((¬ (x5 < x2)) ∧ (x2 = x2)))) (c22 : (¬ (x4 < (0 : Int32)))) (c23 : (x4 < (4 : Int32))) (c24 : (x4 < x5)) (c25 : (¬ (x7 < x5))) (c26 : (¬ (x8 < (1 : Int32)))) (c27 : (¬ ((4 : Int32) < x8))) (c28 : (x5 < x8)) (c29 : (x1 < x5)) (c30 : (x5 < (0 : Int32))) : False := by
  have rx1 := rng32 x1
  have wx1 := c_ishr x0 (6 : Int32) 6 (by decide)
  rw [← hx1] at wx1
  have rx2 := rng32 x2
  have wx2 := c_iadd x1 (1 : Int32)
  rw [← hx2] at wx2
  have rx4 := rng32 x4
  have wx4 := c_ishr x3 (6 : Int32) 6 (by decide)
  rw [← hx4] at wx4
  have rx5 := rng32 x5
  have wx5 := c_iadd x4 (1 : Int32)
  rw [← hx5] at wx5
  have rx7 := rng32 x7
  have wx7 := c_ishr x6 (6 : Int32) 6 (by decide)
  rw [← hx7] at wx7
  have rx8 := rng32 x8
  have wx8 := c_iadd x7 (1 : Int32)
  rw [← hx8] at wx8
  have rx0 := rng32 x0
  have rx3 := rng32 x3
  have rx6 := rng32 x6
  have lI0 : (0 : Int32).toInt = 0 := by decide
  have lI1 : (1 : Int32).toInt = 1 := by decide
  have lI4 : (4 : Int32).toInt = 4 := by decide
  have lI6 : (6 : Int32).toInt = 6 := by decide
  have lI255 : (255 : Int32).toInt = 255 := by decide
  simp only [Int32.lt_iff_toInt_lt, Int64.lt_iff_toInt_lt, ← Int32.toInt_inj, ← Int64.toInt_inj] at c0 c1 c2 c3 c4 c5 c6 c7 c8 c9 c10 c11 c12 c13 c14 c15 c16 c17 c18 c19 c20 c21 c22 c23 c24 c25 c26 c27 c28 c29 c30
  omega
theorem ar_72 (x0 : Int32) (x1 : Int32) (x2 : Int32) (x3 : Int32) (x4 : Int32) (x5 : Int32) (x6 : Int32) (x7 : Int32) (x8 : Int32) (hx1 : x1 = (x0 >>> ((6 : Int32) &&& 31))) (hx2 : x2 = (x1 + (1 : Int32))) (hx4 : x4 = (x3 >>> ((6 : Int32) &&& 31))) (hx5 : x5 = (x4 + (1 : Int32))) (hx7 : x7 = (x6 >>> ((6 : Int32) &&& 31))) (hx8 : x8 = (x7 + (1 : Int32))) (c0 : (¬ (x0 < (0 : Int32)))) (c1 : (¬ ((255 : Int32) < x0))) (c2 : (¬ (x3 < (0 : Int32)))) (c3 : (¬ ((255 : Int32) < x3))) (c4 : (¬ (x6 < (0 : Int32)))) (c5 : (¬ ((255 : Int32) < x6))) (c6 : (¬ (x1 < (0 : Int32)))) (c7 : (¬ (x2 < (1 : Int32)))) (c8 : (¬ ((4 : Int32) < x2))) (c9 : ((0 : Int32) < x2)) (c10 : (¬ (x2 = (0 : Int32)))) (c11 : (¬ ((4 : Int32) < x2))) (c12 : (x1 < (4 : Int32))) (c13 : (x1 < x2)) (c14 : (¬ (x4 < x2))) (c15 : (¬ (x5 < (1 : Int32)))) (c16 : (¬ ((4 : Int32) < x5))) (c17 : (x2 < x5)) (c18 : (¬ (x2 < (0 : Int32)))) (c19 : (¬ (x5 = x2))) (c20 : (¬ ((4 : Int32) < x5))) (c21 : (¬ (x4 < (0 : Int32)))) (c22 : (x4 < (4 : Int32))) (c23 : (x4 < x5)) (c24 : (¬ (x7 < x5))) (c25 : (¬ (x8 < (1 : Int32)))) (c26 : (¬ ((4 : Int32) < x8))) (c27 : (x5 < x8)) (c28 : (x1 < x5)) (c29 : (¬ (x5 < (0 : Int32)))) (c30 : (¬ (x8 = x5))) (c31 : (¬ ((4 : Int32) < x8))) (c32 : (x7 < (0 : Int32))) : False := by
  have rx1 := rng32 x1
  have wx1 := c_ishr x0 (6 : Int32) 6 (by decide)
  rw [← hx1] at wx1
  have rx2 := rng32 x2
  have wx2 := c_iadd x1 (1 : Int32)
  rw [← hx2] at wx2
  have rx4 := rng32 x4
  have wx4 := c_ishr x3 (6 : Int32) 6 (by decide)
  rw [← hx4] at wx4
  have rx5 := rng32 x5
  have wx5 := c_iadd x4 (1 : Int32)
  rw [← hx5] at wx5
  have rx7 := rng32 x7
  have wx7 := c_ishr x6 (6 : Int32) 6 (by decide)
  rw [← hx7] at wx7
  have rx8 := rng32 x8
  have wx8 := c_iadd x7 (1 : Int32)
  rw [← hx8] at wx8
  have rx0 := rng32 x0
  have rx3 := rng32 x3
  have rx6 := rng32 x6
  have lI0 : (0 : Int32).toInt = 0 := by decide
  have lI1 : (1 : Int32).toInt = 1 := by decide
  have lI4 : (4 : Int32).toInt = 4 := by decide
  have lI6 : (6 : Int32).toInt = 6 := by decide
  have lI255 : (255 : Int32).toInt = 255 := by decide
  simp only [Int32.lt_iff_toInt_lt, Int64.lt_iff_toInt_lt, ← Int32.toInt_inj, ← Int64.toInt_inj] at c0 c1 c2 c3 c4 c5 c6 c7 c8 c9 c10 c11 c12 c13 c14 c15 c16 c17 c18 c19 c20 c21 c22 c23 c24 c25 c26 c27 c28 c29 c30 c31 c32
  omega
theorem ar_73 (x0 : Int32) (x1 : Int32) (x2 : Int32) (x3 : Int32) (x4 : Int32) (x5 : Int32) (x6 : Int32) (x7 : Int32) (x8 : Int32) (hx1 : x1 = (x0 >>> ((6 : Int32) &&& 31))) (hx2 : x2 = (x1 + (1 : Int32))) (hx4 : x4 = (x3 >>> ((6 : Int32) &&& 31))) (hx5 : x5 = (x4 + (1 : Int32))) (hx7 : x7 = (x6 >>> ((6 : Int32) &&& 31))) (hx8 : x8 = (x7 + (1 : Int32))) (c0 : (¬ (x0 < (0 : Int32)))) (c1 : (¬ ((255 : Int32) < x0))) (c2 : (¬ (x3 < (0 : Int32)))) (c3 : (¬ ((255 : Int32) < x3))) (c4 : (¬ (x6 < (0 : Int32)))) (c5 : (¬ ((255 : Int32) < x6))) (c6 : (¬ (x1 < (0 : Int32)))) (c7 : (¬ (x2 < (1 : Int32)))) (c8 : (¬ ((4 : Int32) < x2))) (c9 : ((0 : Int32) < x2)) (c10 : (¬ (x2 = (0 : Int32)))) (c11 : (¬ ((4 : Int32) < x2))) (c12 : (x1 < (4 : Int32))) (c13 : (x1 < x2)) (c14 : (¬ (x4 < x2))) (c15 : (¬ (x5 < (1 : Int32)))) (c16 : (¬ ((4 : Int32) < x5))) (c17 : (x2 < x5)) (c18 : (¬ (x2 < (0 : Int32)))) (c19 : (¬ (x5 = x2))) (c20 : (¬ ((4 : Int32) < x5))) (c21 : (¬ (x4 < (0 : Int32)))) (c22 : (x4 < (4 : Int32))) (c23 : (x4 < x5)) (c24 : (¬ (x7 < x5))) (c25 : (¬ (x8 < (1 : Int32)))) (c26 : (¬ ((4 : Int32) < x8))) (c27 : (x5 < x8)) (c28 : (x1 < x5)) (c29 : (¬ (x5 < (0 : Int32)))) (c30 : (¬ (x8 = x5))) (c31 : (¬ ((4 : Int32) < x8))) (c32 : (¬ (x7 < (0 : Int32)))) (c33 : (¬ (x7 < (4 : Int32)))) : False := by
  have rx1 := rng32 x1
  have wx1 := c_ishr x0 (6 : Int32) 6 (by decide)
  rw [← hx1] at wx1
  have rx2 := rng32 x2
  have wx2 := c_iadd x1 (1 : Int32)
  rw [← hx2] at wx2
  have rx4 := rng32 x4
  have wx4 := c_ishr x3 (6 : Int32) 6 (by decide)
  rw [← hx4] at wx4
  have rx5 := rng32 x5
  have wx5 := c_iadd x4 (1 : Int32)
  rw [← hx5] at wx5
  have rx7 := rng32 x7
  have wx7 := c_ishr x6 (6 : Int32) 6 (by decide)
  rw [← hx7] at wx7
  have rx8 := rng32 x8
  have wx8 := c_iadd x7 (1 : Int32)
  rw [← hx8] at wx8
  have rx0 := rng32 x0
  have rx3 := rng32 x3
  have rx6 := rng32 x6
  have lI0 : (0 : Int32).toInt = 0 := by decide
  have lI1 : (1 : Int32).toInt = 1 := by decide
  have lI4 : (4 : Int32).toInt = 4 := by decide
  have lI6 : (6 : Int32).toInt = 6 := by decide
  have lI255 : (255 : Int32).toInt = 255 := by decide
  simp only [Int32.lt_iff_toInt_lt, Int64.lt_iff_toInt_lt, ← Int32.toInt_inj, ← Int64.toInt_inj] at c0 c1 c2 c3 c4 c5 c6 c7 c8 c9 c10 c11 c12 c13 c14 c15 c16 c17 c18 c19 c20 c21 c22 c23 c24 c25 c26 c27 c28 c29 c30 c31 c32 c33
  omega
theorem ar_74 (x0 : Int32) (x1 : Int32) (x2 : Int32) (x3 : Int32) (x4 : Int32) (x5 : Int32) (x6 : Int32) (x7 : Int32) (x8 : Int32) (hx1 : x1 = (x0 >>> ((6 : Int32) &&& 31))) (hx2 : x2 = (x1 + (1 : Int32))) (hx4 : x4 = (x3 >>> ((6 : Int32) &&& 31))) (hx5 : x5 = (x4 + (1 : Int32))) (hx7 : x7 = (x6 >>> ((6 : Int32) &&& 31))) (hx8 : x8 = (x7 + (1 : Int32))) (c0 : (¬ (x0 < (0 : Int32)))) (c1 : (¬ ((255 : Int32) < x0))) (c2 : (¬ (x3 < (0 : Int32)))) (c3 : (¬ ((255 : Int32) < x3))) (c4 : (¬ (x6 < (0 : Int32)))) (c5 : (¬ ((255 : Int32) < x6))) (c6 : (¬ (x1 < (0 : Int32)))) (c7 : (¬ (x2 < (1 : Int32)))) (c8 : (¬ ((4 : Int32) < x2))) (c9 : ((0 : Int32) < x2)) (c10 : (¬ (x2 = (0 : Int32)))) (c11 : (¬ ((4 : Int32) < x2))) (c12 : (x1 < (4 : Int32))) (c13 : (x1 < x2)) (c14 : (¬ (x4 < x2))) (c15 : (¬ (x5 < (1 : Int32)))) (c16 : (¬ ((4 : Int32) < x5))) (c17 : (x2 < x5)) (c18 : (¬ (x2 < (0 : Int32)))) (c19 : (¬ (x5 = x2))) (c20 : (¬ ((4 : Int32) < x5))) (c21 : (¬ (x4 < (0 : Int32)))) (c22 : (x4 < (4 : Int32))) (c23 : (x4 < x5)) (c24 : (¬ (x7 < x5))) (c25 : (¬ (x8 < (1 : Int32)))) (c26 : (¬ ((4 : Int32) < x8))) (c27 : (x5 < x8)) (c28 : (x1 < x5)) (c29 : (¬ (x5 < (0 : Int32)))) (c30 : (¬ (x8 = x5))) (c31 : (¬ ((4 : Int32) < x8))) (c32 : (((x8 < x5) ∧ (x5 = x8)) ∨ ((¬ (x8 < x5)) ∧ (x5 = x5)))) (c33 : (¬ (x7 < (0 : Int32)))) (c34 : (x7 < (4 : Int32))) (c35 : (¬ (x7 < x8))) : False := by
  have rx1 := rng32 x1
  have wx1 := c_ishr x0 (6 : Int32) 6 (by decide)
  rw [← hx1] at wx1
  have rx2 := rng32 x2
  have wx2 := c_iadd x1 (1 : Int32)
  rw [← hx2] at wx2
  have rx4 := rng32 x4
  have wx4 := c_ishr x3 (6 : Int32) 6 (by decide)
  rw [← hx4] at wx4
  have rx5 := rng32 x5
  have wx5 := c_iadd x4 (1 : Int32)
  rw [← hx5] at wx5
  have rx7 := rng32 x7
  have wx7 := c_ishr x6 (6 : Int32) 6 (by decide)
  rw [← hx7] at wx7
  have rx8 := rng32 x8
  have wx8 := c_iadd x7 (1 : Int32)
  rw [← hx8] at wx8
  have rx0 := rng32 x0
  have rx3 := rng32 x3
  have rx6 := rng32 x6
  have lI0 : (0 : Int32).toInt = 0 := by decide
  have lI1 : (1 : Int32).toInt = 1 := by decide
  have lI4 : (4 : Int32).toInt = 4 := by decide
  have lI6 : (6 : Int32).toInt = 6 := by decide
  have lI255 : (255 : Int32).toInt = 255 := by decide
  simp only [Int32.lt_iff_toInt_lt, Int64.lt_iff_toInt_lt, ← Int32.toInt_inj, ← Int64.toInt_inj] at c0 c1 c2 c3 c4 c5 c6 c7 c8 c9 c10 c11 c12 c13 c14 c15 c16 c17 c18 c19 c20 c21 c22 c23 c24 c25 c26 c27 c28 c29 c30 c31 c32 c33 c34 c35
  omega
theorem ar_75 (x0 : Int32) (x1 : Int32) (x2 : Int32) (x3 : Int32) (x4 : Int32) (x5 : Int32) (x6 : Int32) (x7 : Int32) (x8 : Int32) (hx1 : x1 = (x0 &&& (511 : Int32))) (hx3 : x3 = (x2 &&& (255 : Int32))) (hx5 : x5 = (x4 &&& (255 : Int32))) (hx7 : x7 = (x6 &&& (255 : Int32))) (c0 : (((x1 = x3) ∧ (x8 = (1 : Int32))) ∨ ((¬ (x1 = x3)) ∧ (x1 = x5) ∧ (x8 = (1 : Int32))) ∨ ((¬ (x1 = x3)) ∧ (¬ (x1 = x5)) ∧ (x1 = x7) ∧ (x8 = (1 : Int32))) ∨ ((¬ (x1 = x3)) ∧ (¬ (x1 = x5)) ∧ (¬ (x1 = x7)) ∧ (x8 = (0 : Int32))))) (c1 : (x1 < (0 : Int32))) : False := by
  have rx1 := rng32 x1
  have wx1 := c_mask x0 (511 : Int32) 9 (by decide) (by decide)
  rw [← hx1] at wx1
  have rx3 := rng32 x3
  have wx3 := c_mask x2 (255 : Int32) 8 (by decide) (by decide)
  rw [← hx3] at wx3
  have rx5 := rng32 x5
  have wx5 := c_mask x4 (255 : Int32) 8 (by decide) (by decide)
  rw [← hx5] at wx5
  have rx7 := rng32 x7
  have wx7 := c_mask x6 (255 : Int32) 8 (by decide) (by decide)
  rw [← hx7] at wx7
  have rx0 := rng32 x0
  have rx2 := rng32 x2
  have rx4 := rng32 x4
  have rx6 := rng32 x6
  have rx8 := rng32 x8
  have lI0 : (0 : Int32).toInt = 0 := by decide
  have lI1 : (1 : Int32).toInt = 1 := by decide
  have lI255 : (255 : Int32).toInt = 255 := by decide
  have lI511 : (511 : Int32).toInt = 511 := by decide
  simp only [Int32.lt_iff_toInt_lt, Int64.lt_iff_toInt_lt, ← Int32.toInt_inj, ← Int64.toInt_inj] at c0 c1
  omega
theorem ar_76 (x0 : Int32) (x1 : Int32) (x2 : Int32) (x3 : Int32) (x4 : Int32) (x5 : Int32) (x6 : Int32) (x7 : Int32) (x8 : Int32) (hx1 : x1 = (x0 &&& (511 : Int32))) (hx3 : x3 = (x2 &&& (255 : Int32))) (hx5 : x5 = (x4 &&& (255 : Int32))) (hx7 : x7 = (x6 &&& (255 : Int32))) (c0 : (((x1 = x3) ∧ (x8 = (1 : Int32))) ∨ ((¬ (x1 = x3)) ∧ (x1 = x5) ∧ (x8 = (1 : Int32))) ∨ ((¬ (x1 = x3)) ∧ (¬ (x1 = x5)) ∧ (x1 = x7) ∧ (x8 = (1 : Int32))) ∨ ((¬ (x1 = x3)) ∧ (¬ (x1 = x5)) ∧ (¬ (x1 = x7)) ∧ (x8 = (0 : Int32))))) (c1 : (¬ (x1 < (0 : Int32)))) (c2 : ((511 : Int32) < x1)) : False := by
  have rx1 := rng32 x1
  have wx1 := c_mask x0 (511 : Int32) 9 (by decide) (by decide)
  rw [← hx1] at wx1
  have rx3 := rng32 x3
  have wx3 := c_mask x2 (255 : Int32) 8 (by decide) (by decide)
  rw [← hx3] at wx3
  have rx5 := rng32 x5
  have wx5 := c_mask x4 (255 : Int32) 8 (by decide) (by decide)
  rw [← hx5] at wx5
  have rx7 := rng32 x7
  have wx7 := c_mask x6 (255 : Int32) 8 (by decide) (by decide)
  rw [← hx7] at wx7
  have rx0 := rng32 x0
  have rx2 := rng32 x2
  have rx4 := rng32 x4
  have rx6 := rng32 x6
  have rx8 := rng32 x8
  have lI0 : (0 : Int32).toInt = 0 := by decide
  have lI1 : (1 : Int32).toInt = 1 := by decide
  have lI255 : (255 : Int32).toInt = 255 := by decide
  have lI511 : (511 : Int32).toInt = 511 := by decide
  simp only [Int32.lt_iff_toInt_lt, Int64.lt_iff_toInt_lt, ← Int32.toInt_inj, ← Int64.toInt_inj] at c0 c1 c2
  omega
theorem ar_77 (x0 : Int32) (x1 : Int32) (x2 : Int32) (x3 : Int32) (x4 : Int32) (x5 : Int32) (x6 : Int32) (x7 : Int32) (x8 : Int32) (x9 : Int32) (hx1 : x1 = (x0 &&& (255 : Int32))) (hx3 : x3 = (x2 &&& (255 : Int32))) (hx5 : x5 = (x4 &&& (255 : Int32))) (hx6 : x6 = (x1 >>> ((6 : Int32) &&& 31))) (hx7 : x7 = (x6 + (1 : Int32))) (hx8 : x8 = (x3 >>> ((6 : Int32) &&& 31))) (hx9 : x9 = (x5 >>> ((6 : Int32) &&& 31))) (c0 : (¬ (x1 < (0 : Int32)))) (c1 : (¬ ((255 : Int32) < x1))) (c2 : (¬ (x3 < (0 : Int32)))) (c3 : (¬ ((255 : Int32) < x3))) (c4 : (¬ (x5 < (0 : Int32)))) (c5 : (¬ ((255 : Int32) < x5))) (c6 : (¬ (x6 < (0 : Int32)))) (c7 : (¬ (x7 < (1 : Int32)))) (c8 : (¬ ((4 : Int32) < x7))) (c9 : ((0 : Int32) < x7)) (c10 : (¬ ((4 : Int32) < x7))) (c11 : (((x7 < (0 : Int32)) ∧ ((0 : Int32) = x7)) ∨ ((¬ (x7 < (0 : Int32))) ∧ ((0 : Int32) = (0 : Int32))))) (c12 : (x6 < (4 : Int32))) (c13 : (x6 < x7)) (c14 : (x8 < x7)) (c15 : (¬ (x8 < (0 : Int32)))) (c16 : (x8 < (4 : Int32))) (c17 : (x9 < x7)) (c18 : (¬ (x9 < (0 : Int32)))) (c19 : (x9 < (4 : Int32))) (c20 : (x7 < (0 : Int32))) : False := by
  have rx1 := rng32 x1
  have wx1 := c_mask x0 (255 : Int32) 8 (by decide) (by decide)
  rw [← hx1] at wx1
  have rx3 := rng32 x3
  have wx3 := c_mask x2 (255 : Int32) 8 (by decide) (by decide)
  rw [← hx3] at wx3
  have rx5 := rng32 x5
  have wx5 := c_mask x4 (255 : Int32) 8 (by decide) (by decide)
  rw [← hx5] at wx5
  have rx6 := rng32 x6
  have wx6 := c_ishr x1 (6 : Int32) 6 (by decide)
  rw [← hx6] at wx6
  have rx7 := rng32 x7
  have wx7 := c_iadd x6 (1 : Int32)
  rw [← hx7] at wx7
  have rx8 := rng32 x8
  have wx8 := c_ishr x3 (6 : Int32) 6 (by decide)
  rw [← hx8] at wx8
  have rx9 := rng32 x9
  have wx9 := c_ishr x5 (6 : Int32) 6 (by decide)
  rw [← hx9] at wx9
  have rx0 := rng32 x0
  have rx2 := rng32 x2
  have rx4 := rng32 x4
  have lI0 : (0 : Int32).toInt = 0 := by decide
  have lI1 : (1 : Int32).toInt = 1 := by decide
  have lI4 : (4 : Int32).toInt = 4 := by decide
  have lI6 : (6 : Int32).toInt = 6 := by decide
  have lI255 : (255 : Int32).toInt = 255 := by decide
  simp only [Int32.lt_iff_toInt_lt, Int64.lt_iff_toInt_lt, ← Int32.toInt_inj, ← Int64.toInt_inj] at c0 c1 c2 c3 c4 c5 c6 c7 c8 c9 c10 c11 c12 c13 c14 c15 c16 c17 c18 c19 c20
  omega
theorem ar_78 (x0 : Int32) (x1 : Int32) (x2 : Int32) (x3 : Int32) (x4 : Int32) (x5 : Int32) (x6 : Int32) (x7 : Int32) (x8 : Int32) (x9 : Int32) (x10 : Int32) (hx1 : x1 = (x0 &&& (255 : Int32))) (hx3 : x3 = (x2 &&& (255 : Int32))) (hx5 : x5 = (x4 &&& (255 : Int32))) (hx6 : x6 = (x1 >>> ((6 : Int32) &&& 31))) (hx7 : x7 = (x6 + (1 : Int32))) (hx8 : x8 = (x3 >>> ((6 : Int32) &&& 31))) (hx9 : x9 = (x5 >>> ((6 : Int32) &&& 31))) (hx10 : x10 = (x9 + (1 : Int32))) (c0 : (¬ (x1 < (0 : Int32)))) (c1 : (¬ ((255 : Int32) < x1))) (c2 : (¬ (x3 < (0 : Int32)))) (c3 : (¬ ((255 : Int32) < x3))) (c4 : (¬ (x5 < (0 : Int32)))) (c5 : (¬ ((255 : Int32) < x5))) (c6 : (¬ (x6 < (0 : Int32)))) (c7 : (¬ (x7 < (1 : Int32)))) (c8 : (¬ ((4 : Int32) < x7))) (c9 : ((0 : Int32) < x7)) (c10 : (¬ ((4 : Int32) < x7))) (c11 : (x6 < (4 : Int32))) (c12 : (x6 < x7)) (c13 : (x8 < x7)) (c14 : (¬ (x8 < (0 : Int32)))) (c15 : (x8 < (4 : Int32))) (c16 : (¬ (x9 < x7))) (c17 : (¬ (x10 < (1 : Int32)))) (c18 : (¬ ((4 : Int32) < x10))) (c19 : (x7 < x10)) (c20 : (¬ (x7 < (0 : Int32)))) (c21 : (¬ ((4 : Int32) < x10))) (c22 : (((x10 < x7) ∧ (x7 = x10)) ∨ ((¬ (x10 < x7)) ∧ (x7 = x7)))) (c23 : (¬ (x9 < (0 : Int32)))) (c24 : (x9 < (4 : Int32))) (c25 : (x9 < x10)) (c26 : (¬ (x6 < x10))) : False := by
  have rx1 := rng32 x1
  have wx1 := c_mask x0 (255 : Int32) 8 (by decide) (by decide)
  rw [← hx1] at wx1
  have rx3 := rng32 x3
  have wx3 := c_mask x2 (255 : Int32) 8 (by decide) (by decide)
  rw [← hx3] at wx3
  have rx5 := rng32 x5
  have wx5 := c_mask x4 (255 : Int32) 8 (by decide) (by decide)
  rw [← hx5] at wx5
  have rx6 := rng32 x6
  have wx6 := c_ishr x1 (6 : Int32) 6 (by decide)
  rw [← hx6] at wx6
  have rx7 := rng32 x7
  have wx7 := c_iadd x6 (1 : Int32)
  rw [← hx7] at wx7
  have rx8 := rng32 x8
  have wx8 := c_ishr x3 (6 : Int32) 6 (by decide)
  rw [← hx8] at wx8
  have rx9 := rng32 x9
  have wx9 := c_ishr x5 (6 : Int32) 6 (by decide)
  rw [← hx9] at wx9
  have rx10 := rng32 x10
  have wx10 := c_iadd x9 (1 : Int32)
  rw [← hx10] at wx10
  have rx0 := rng32 x0
  have rx2 := rng32 x2
  have rx4 := rng32 x4
  have lI0 : (0 : Int32).toInt = 0 := by decide
  have lI1 : (1 : Int32).toInt = 1 := by decide
  have lI4 : (4 : Int32).toInt = 4 := by decide
  have lI6 : (6 : Int32).toInt = 6 := by decide
  have lI255 : (255 : Int32).toInt = 255 := by decide
  simp only [Int32.lt_iff_toInt_lt, Int64.lt_iff_toInt_lt, ← Int32.toInt_inj, ← Int64.toInt_inj] at c0 c1 c2 c3 c4 c5 c6 c7 c8 c9 c10 c11 c12 c13 c14 c15 c16 c17 c18 c19 c20 c21 c22 c23 c24 c25 c26
  omega
theorem ar_79 (x0 : Int32) (x1 : Int32) (x2 : Int32) (x3 : Int32) (x4 : Int32) (x5 : Int32) (x6 : Int32) (x7 : Int32) (x8 : Int32) (x9 : Int32) (x10 : Int32) (hx1 : x1 = (x0 &&& (255 : Int32))) (hx3 : x3 = (x2 &&& (255 : Int32))) (hx5 : x5 = (x4 &&& (255 : Int32))) (hx6 : x6 = (x1 >>> ((6 : Int32) &&& 31))) (hx7 : x7 = (x6 + (1 : Int32))) (hx8 : x8 = (x3 >>> ((6 : Int32) &&& 31))) (hx9 : x9 = (x5 >>> ((6 : Int32) &&& 31))) (hx10 : x10 = (x9 + (1 : Int32))) (c0 : (¬ (x1 < (0 : Int32)))) (c1 : (¬ ((255 : Int32) < x1))) (c2 : (¬ (x3 < (0 : Int32)))) (c3 : (¬ ((255 : Int32) < x3))) (c4 : (¬ (x5 < (0 : Int32)))) (c5 : (¬ ((255 : Int32) < x5))) (c6 : (¬ (x6 < (0 : Int32)))) (c7 : (¬ (x7 < (1 : Int32)))) (c8 : (¬ ((4 : Int32) < x7))) (c9 : ((0 : Int32) < x7)) (c10 : (¬ ((4 : Int32) < x7))) (c11 : (x6 < (4 : Int32))) (c12 : (x6 < x7)) (c13 : (x8 < x7)) (c14 : (¬ (x8 < (0 : Int32)))) (c15 : (x8 < (4 : Int32))) (c16 : (¬ (x9 < x7))) (c17 : (¬ (x10 < (1 : Int32)))) (c18 : (¬ ((4 : Int32) < x10))) (c19 : (x7 < x10)) (c20 : (¬ (x7 < (0 : Int32)))) (c21 : (¬ ((4 : Int32) < x10))) (c22 : (((x10 < x7) ∧ (x7 = x10)) ∨ ((¬ (x10 < x7)) ∧ (x7 = x7)))) (c23 : (¬ (x9 < (0 : Int32)))) (c24 : (x9 < (4 : Int32))) (c25 : (x9 < x10)) (c26 : (x6 < x10)) (c27 : (¬ (x8 < x10))) : False := by
  have rx1 := rng32 x1
  have wx1 := c_mask x0 (255 : Int32) 8 (by decide) (by decide)
  rw [← hx1] at wx1
  have rx3 := rng32 x3
  have wx3 := c_mask x2 (255 : Int32) 8 (by decide) (by decide)
  rw [← hx3] at wx3
  have rx5 := rng32 x5
  have wx5 := c_mask x4 (255 : Int32) 8 (by decide) (by decide)
  rw [← hx5] at wx5
  have rx6 := rng32 x6
  have wx6 := c_ishr x1 (6 : Int32) 6 (by decide)
  rw [← hx6] at wx6
  have rx7 := rng32 x7
  have wx7 := c_iadd x6 (1 : Int32)
  rw [← hx7] at wx7
  have rx8 := rng32 x8
  have wx8 := c_ishr x3 (6 : Int32) 6 (by decide)
  rw [← hx8] at wx8
  have rx9 := rng32 x9
  have wx9 := c_ishr x5 (6 : Int32) 6 (by decide)
  rw [← hx9] at wx9
  have rx10 := rng32 x10
  have wx10 := c_iadd x9 (1 : Int32)
  rw [← hx10] at wx10
  have rx0 := rng32 x0
  have rx2 := rng32 x2
  have rx4 := rng32 x4
  have lI0 : (0 : Int32).toInt = 0 := by decide
  have lI1 : (1 : Int32).toInt = 1 := by decide
  have lI4 : (4 : Int32).toInt = 4 := by decide
  have lI6 : (6 : Int32).toInt = 6 := by decide
  have lI255 : (255 : Int32).toInt = 255 := by decide
  simp only [Int32.lt_iff_toInt_lt, Int64.lt_iff_toInt_lt, ← Int32.toInt_inj, ← Int64.toInt_inj] at c0 c1 c2 c3 c4 c5 c6 c7 c8 c9 c10 c11 c12 c13 c14 c15 c16 c17 c18 c19 c20 c21 c22 c23 c24 c25 c26 c27
  omega
theorem ar_80 (x0 : Int32) (x1 : Int32) (x2 : Int32) (x3 : Int32) (x4 : Int32) (x5 : Int32) (x6 : Int32) (x7 : Int32) (x8 : Int32) (x9 : Int32) (x10 : Int32) (hx1 : x1 = (x0 &&& (255 : Int32))) (hx3 : x3 = (x2 &&& (255 : Int32))) (hx5 : x5 = (x4 &&& (255 : Int32))) (hx6 : x6 = (x1 >>> ((6 : Int32) &&& 31))) (hx7 : x7 = (x6 + (1 : Int32))) (hx8 : x8 = (x3 >>> ((6 : Int32) &&& 31))) (hx9 : x9 = (x5 >>> ((6 : Int32) &&& 31))) (hx10 : x10 = (x9 + (1 : Int32))) (c0 : (¬ (x1 < (0 : Int32)))) (c1 : (¬ ((255 : Int32) < x1))) (c2 : (¬ (x3 < (0 : Int32)))) (c3 : (¬ ((255 : Int32) < x3))) (c4 : (¬ (x5 < (0 : Int32)))) (c5 : (¬ ((255 : Int32) < x5))) (c6 : (¬ (x6 < (0 : Int32)))) (c7 : (¬ (x7 < (1 : Int32)))) (c8 : (¬ ((4 : Int32) < x7))) (c9 : ((0 : Int32) < x7)) (c10 : (¬ ((4 : Int32) < x7))) (c11 : (x6 < (4 : Int32))) (c12 : (x6 < x7)) (c13 : (x8 < x7)) (c14 : (¬ (x8 < (0 : Int32)))) (c15 : (x8 < (4 : Int32))) (c16 : (¬ (x9 < x7))) (c17 : (¬ (x10 < (1 : Int32)))) (c18 : (¬ ((4 : Int32) < x10))) (c19 : (x7 < x10)) (c20 : (¬ (x7 < (0 : Int32)))) (c21 : (¬ ((4 : Int32) < x10))) (c22 : (((x10 < x7) ∧ (x7 = x10)) ∨ ((¬ (x10 < x7)) ∧ (x7 = x7)))) (c23 : (¬ (x9 < (0 : Int32)))) (c24 : (x9 < (4 : Int32))) (c25 : (x9 < x10)) (c26 : (x6 < x10)) (c27 : (x8 < x10)) (c28 : (x10 < (0 : Int32))) : False := by
  have rx1 := rng32 x1
  have wx1 := c_mask x0 (255 : Int32) 8 (by decide) (by decide)
  rw [← hx1] at wx1
  have rx3 := rng32 x3
  have wx3 := c_mask x2 (255 : Int32) 8 (by decide) (by decide)
  rw [← hx3] at wx3
  have rx5 := rng32 x5
  have wx5 := c_mask x4 (255 : Int32) 8 (by decide) (by decide)
  rw [← hx5] at wx5
  have rx6 := rng32 x6
  have wx6 := c_ishr x1 (6 : Int32) 6 (by decide)
  rw [← hx6] at wx6
  have rx7 := rng32 x7
  have wx7 := c_iadd x6 (1 : Int32)
  rw [← hx7] at wx7
  have rx8 := rng32 x8
  have wx8 := c_ishr x3 (6 : Int32) 6 (by decide)
  rw [← hx8] at wx8
  have rx9 := rng32 x9
  have wx9 := c_ishr x5 (6 : Int32) 6 (by decide)
  rw [← hx9] at wx9
  have rx10 := rng32 x10
  have wx10 := c_iadd x9 (1 : Int32)
  rw [← hx10] at wx10
  have rx0 := rng32 x0
  have rx2 := rng32 x2
  have rx4 := rng32 x4
  have lI0 : (0 : Int32).toInt = 0 := by decide
  have lI1 : (1 : Int32).toInt = 1 := by decide
  have lI4 : (4 : Int32).toInt = 4 := by decide
  have lI6 : (6 : Int32).toInt = 6 := by decide
  have lI255 : (255 : Int32).toInt = 255 := by decide
  simp only [Int32.lt_iff_toInt_lt, Int64.lt_iff_toInt_lt, ← Int32.toInt_inj, ← Int64.toInt_inj] at c0 c1 c2 c3 c4 c5 c6 c7 c8 c9 c10 c11 c12 c13 c14 c15 c16 c17 c18 c19 c20 c21 c22 c23 c24 c25 c26 c27 c28
  omega
theorem ar_81 (x0 : Int32) (x1 : Int32) (x2 : Int32) (x3 : Int32) (x4 : Int32) (x5 : Int32) (x6 : Int32) (x7 : Int32) (x8 : Int32) (x9 : Int32) (x10 : Int32) (hx1 : x1 = (x0 &&& (255 : Int32))) (hx3 : x3 = (x2 &&& (255 : Int32))) (hx5 : x5 = (x4 &&& (255 : Int32))) (hx6 : x6 = (x1 >>> ((6 : Int32) &&& 31))) (hx7 : x7 = (x6 + (1 : Int32))) (hx8 : x8 = (x3 >>> ((6 : Int32) &&& 31))) (hx9 : x9 = (x8 + (1 : Int32))) (hx10 : x10 = (x5 >>> ((6 : Int32) &&& 31))) (c0 : (¬ (x1 < (0 : Int32)))) (c1 : (¬ ((255 : Int32) < x1))) (c2 : (¬ (x3 < (0 : Int32)))) (c3 : (¬ ((255 : Int32) < x3))) (c4 : (¬ (x5 < (0 : Int32)))) (c5 : (¬ ((255 : Int32) < x5))) (c6 : (¬ (x6 < (0 : Int32)))) (c7 : (¬ (x7 < (1 : Int32)))) (c8 : (¬ ((4 : Int32) < x7))) (c9 : ((0 : Int32) < x7)) (c10 : (¬ ((4 : Int32) < x7))) (c11 : (x6 < (4 : Int32))) (c12 : (x6 < x7)) (c13 : (¬ (x8 < x7))) (c14 : (¬ (x9 < (1 : Int32)))) (c15 : (¬ ((4 : Int32) < x9))) (c16 : (x7 < x9)) (c17 : (¬ (x7 < (0 : Int32)))) (c18 : (¬ ((4 : Int32) < x9))) (c19 : (((x9 < x7) ∧ (x7 = x9)) ∨ ((¬ (x9 < x7)) ∧ (x7 = x7)))) (c20 : (¬ (x8 < (0 : Int32)))) (c21 : (x8 < (4 : Int32))) (c22 : (x8 < x9)) (c23 : (x10 < x9)) (c24 : (¬ (x10 < (0 : Int32)))) (c25 : (x10 < (4 : Int32))) (c26 : (¬ (x6 < x9))) : False := by
  have rx1 := rng32 x1
  have wx1 := c_mask x0 (255 : Int32) 8 (by decide) (by decide)
  rw [← hx1] at wx1
  have rx3 := rng32 x3
  have wx3 := c_mask x2 (255 : Int32) 8 (by decide) (by decide)
  rw [← hx3] at wx3
  have rx5 := rng32 x5
  have wx5 := c_mask x4 (255 : Int32) 8 (by decide) (by decide)
  rw [← hx5] at wx5
  have rx6 := rng32 x6
  have wx6 := c_ishr x1 (6 : Int32) 6 (by decide)
  rw [← hx6] at wx6
  have rx7 := rng32 x7
  have wx7 := c_iadd x6 (1 : Int32)
  rw [← hx7] at wx7
  have rx8 := rng32 x8
  have wx8 := c_ishr x3 (6 : Int32) 6 (by decide)
  rw [← hx8] at wx8
  have rx9 := rng32 x9
  have wx9 := c_iadd x8 (1 : Int32)
  rw [← hx9] at wx9
  have rx10 := rng32 x10
  have wx10 := c_ishr x5 (6 : Int32) 6 (by decide)
  rw [← hx10] at wx10
  have rx0 := rng32 x0
  have rx2 := rng32 x2
  have rx4 := rng32 x4
  have lI0 : (0 : Int32).toInt = 0 := by decide
  have lI1 : (1 : Int32).toInt = 1 := by decide
  have lI4 : (4 : Int32).toInt = 4 := by decide
  have lI6 : (6 : Int32).toInt = 6 := by decide
  have lI255 : (255 : Int32).toInt = 255 := by decide
  simp only [Int32.lt_iff_toInt_lt, Int64.lt_iff_toInt_lt, ← Int32.toInt_inj, ← Int64.toInt_inj] at c0 c1 c2 c3 c4 c5 c6 c7 c8 c9 c10 c11 c12 c13 c14 c15 c16 c17 c18 c19 c20 c21 c22 c23 c24 c25 c26
  omega
theorem ar_82 (x0 : Int32) (x1 : Int32) (x2 : Int32) (x3 : Int32) (x4 : Int32) (x5 : Int32) (x6 : Int32) (x7 : Int32) (x8 : Int32) (x9 : Int32) (x10 : Int32) (hx1 : x1 = (x0 &&& (255 : Int32))) (hx3 : x3 = (x2 &&& (255 : Int32))) (hx5 : x5 = (x4 &&& (255 : Int32))) (hx6 : x6 = (x1 >>> ((6 : Int32) &&& 31))) (hx7 : x7 = (x6 + (1 : Int32))) (hx8 : x8 = (x3 >>> ((6 : Int32) &&& 31))) (hx9 : x9 = (x8 + (1 : Int32))) (hx10 : x10 = (x5 >>> ((6 : Int32) &&& 31))) (c0 : (¬ (x1 < (0 : Int32)))) (c1 : (¬ ((255 : Int32) < x1))) (c2 : (¬ (x3 < (0 : Int32)))) (c3 : (¬ ((255 : Int32) < x3))) (c4 : (¬ (x5 < (0 : Int32)))) (c5 : (¬ ((255 : Int32) < x5))) (c6 : (¬ (x6 < (0 : Int32)))) (c7 : (¬ (x7 < (1 : Int32)))) (c8 : (¬ ((4 : Int32) < x7))) (c9 : ((0 : Int32) < x7)) (c10 : (¬ ((4 : Int32) < x7))) (c11 : (x6 < (4 : Int32))) (c12 : (x6 < x7)) (c13 : (¬ (x8 < x7))) (c14 : (¬ (x9 < (1 : Int32)))) (c15 : (¬ ((4 : Int32) < x9))) (c16 : (x7 < x9)) (c17 : (¬ (x7 < (0 : Int32)))) (c18 : (¬ ((4 : Int32) < x9))) (c19 : (((x9 < x7) ∧ (x7 = x9)) ∨ ((¬ (x9 < x7)) ∧ (x7 = x7)))) (c20 : (¬ (x8 < (0 : Int32)))) (c21 : (x8 < (4 : Int32))) (c22 : (x8 < x9)) (c23 : (x10 < x9)) (c24 : (¬ (x10 < (0 : Int32)))) (c25 : (x10 < (4 : Int32))) (c26 : (x6 < x9)) (c27 : (x9 < (0 : Int32))) : False := by
  have rx1 := rng32 x1
  have wx1 := c_mask x0 (255 : Int32) 8 (by decide) (by decide)
  rw [← hx1] at wx1
  have rx3 := rng32 x3
  have wx3 := c_mask x2 (255 : Int32) 8 (by decide) (by decide)
  rw [← hx3] at wx3
  have rx5 := rng32 x5
  have wx5 := c_mask x4 (255 : Int32) 8 (by decide) (by decide)
  rw [← hx5] at wx5
  have rx6 := rng32 x6
  have wx6 := c_ishr x1 (6 : Int32) 6 (by decide)
  rw [← hx6] at wx6
  have rx7 := rng32 x7
  have wx7 := c_iadd x6 (1 : Int32)
  rw [← hx7] at wx7
  have rx8 := rng32 x8
  have wx8 := c_ishr x3 (6 : Int32) 6 (by decide)
  rw [← hx8] at wx8
  have rx9 := rng32 x9
  have wx9 := c_iadd x8 (1 : Int32)
  rw [← hx9] at wx9
  have rx10 := rng32 x10
  have wx10 := c_ishr x5 (6 : Int32) 6 (by decide)
  rw [← hx10] at wx10
  have rx0 := rng32 x0
  have rx2 := rng32 x2
  have rx4 := rng32 x4
  have lI0 : (0 : Int32).toInt = 0 := by decide
  have lI1 : (1 : Int32).toInt = 1 := by decide
  have lI4 : (4 : Int32).toInt = 4 := by decide
  have lI6 : (6 : Int32).toInt = 6 := by decide
  have lI255 : (255 : Int32).toInt = 255 := by decide
  simp only [Int32.lt_iff_toInt_lt, Int64.lt_iff_toInt_lt, ← Int32.toInt_inj, ← Int64.toInt_inj] at c0 c1 c2 c3 c4 c5 c6 c7 c8 c9 c10 c11 c12 c13 c14 c15 c16 c17 c18 c19 c20 c21 c22 c23 c24 c25 c26 c27
  omega
theorem ar_83 (x0 : Int32) (x1 : Int32) (x2 : Int32) (x3 : Int32) (x4 : Int32) (x5 : Int32) (x6 : Int32) (x7 : Int32) (x8 : Int32) (x9 : Int32) (x10 : Int32) (x11 : Int32) (hx1 : x1 = (x0 &&& (255 : Int32))) (hx3 : x3 = (x2 &&& (255 : Int32))) (hx5 : x5 = (x4 &&& (255 : Int32))) (hx6 : x6 = (x1 >>> ((6 : Int32) &&& 31))) (hx7 : x7 = (x6 + (1 : Int32))) (hx8 : x8 = (x3 >>> ((6 : Int32) &&& 31))) (hx9 : x9 = (x8 + (1 : Int32))) (hx10 : x10 = (x5 >>> ((6 : Int32) &&& 31))) (hx11 : x11 = (x10 + (1 : Int32))) (c0 : (¬ (x1 < (0 : Int32)))) (c1 : (¬ ((255 : Int32) < x1))) (c2 : (¬ (x3 < (0 : Int32)))) (c3 : (¬ ((255 : Int32) < x3))) (c4 : (¬ (x5 < (0 : Int32)))) (c5 : (¬ ((255 : Int32) < x5))) (c6 : (¬ (x6 < (0 : Int32)))) (c7 : (¬ (x7 < (1 : Int32)))) (c8 : (¬ ((4 : Int32) < x7))) (c9 : ((0 : Int32) < x7)) (c10 : (¬ ((4 : Int32) < x7))) (c11 : (x6 < (4 : Int32))) (c12 : (x6 < x7)) (c13 : (¬ (x8 < x7))) (c14 : (¬ (x9 < (1 : Int32)))) (c15 : (¬ ((4 : Int32) < x9))) (c16 : (x7 < x9)) (c17 : (¬ (x7 < (0 : Int32)))) (c18 : (¬ ((4 : Int32) < x9))) (c19 : (¬ (x8 < (0 : Int32)))) (c20 : (x8 < (4 : Int32))) (c21 : (x8 < x9)) (c22 : (¬ (x10 < x9))) (c23 : (¬ (x11 < (1 : Int32)))) (c24 : (¬ ((4 : Int32) < x11))) (c25 : (x9 < x11)) (c26 : (x6 < x9)) (c27 : (¬ (x9 < (0 : Int32)))) (c28 : (¬ ((4 : Int32) < x11))) (c29 : (((x11 < x9) ∧ (x9 = x11)) ∨ ((¬ (x11 < x9)) ∧ (x9 = x9)))) (c30 : (¬ (x10 < (0 : Int32)))) (c31 : (x10 < (4 : Int32))) (c32 : (x10 < x11)) (c33 : (¬ (x6 < x11))) : False := by
  have rx1 := rng32 x1
  have wx1 := c_mask x0 (255 : Int32) 8 (by decide) (by decide)
  rw [← hx1] at wx1
  have rx3 := rng32 x3
  have wx3 := c_mask x2 (255 : Int32) 8 (by decide) (by decide)
  rw [← hx3] at wx3
  have rx5 := rng32 x5
  have wx5 := c_mask x4 (255 : Int32) 8 (by decide) (by decide)
  rw [← hx5] at wx5
  have rx6 := rng32 x6
  have wx6 := c_ishr x1 (6 : Int32) 6 (by decide)
  rw [← hx6] at wx6
  have rx7 := rng32 x7
  have wx7 := c_iadd x6 (1 : Int32)
  rw [← hx7] at wx7
  have rx8 := rng32 x8
  have wx8 := c_ishr x3 (6 : Int32) 6 (by decide)
  rw [← hx8] at wx8
  have rx9 := rng32 x9
  have wx9 := c_iadd x8 (1 : Int32)
  rw [← hx9] at wx9
  have rx10 := rng32 x10
  have wx10 := c_ishr x5 (6 : Int32) 6 (by decide)
  rw [← hx10] at wx10
  have rx11 := rng32 x11
  have wx11 := c_iadd x10 (1 : Int32)
  rw [← hx11] at wx11
  have rx0 := rng32 x0
  have rx2 := rng32 x2
  have rx4 := rng32 x4
  have lI0 : (0 : Int32).toInt = 0 := by decide
  have lI1 : (1 : Int32).toInt = 1 := by decide
  have lI4 : (4 : Int32).toInt = 4 := by decide
  have lI6 : (6 : Int32).toInt = 6 := by decide
  have lI255 : (255 : Int32).toInt = 255 := by decide
  simp only [Int32.lt_iff_toInt_lt, Int64.lt_iff_toInt_lt, ← Int32.toInt_inj, ← Int64.toInt_inj] at c0 c1 c2 c3 c4 c5 c6 c7 c8 c9 c10 c11 c12 c13 c14 c15 c16 c17 c18 c19 c20 c21 c22 c23 c24 c25 c26 c27 c28 c29 c30 c31 c32 c33
  omega
theorem ar_84 (x0 : Int32) (x1 : Int32) (x2 : Int32) (x3 : Int32) (x4 : Int32) (x5 : Int32) (x6 : Int32) (x7 : Int32) (x8 : Int32) (x9 : Int32) (x10 : Int32) (x11 : Int32) (hx1 : x1 = (x0 &&& (255 : Int32))) (hx3 : x3 = (x2 &&& (255 : Int32))) (hx5 : x5 = (x4 &&& (255 : Int32))) (hx6 : x6 = (x1 >>> ((6 : Int32) &&& 31))) (hx7 : x7 = (x6 + (1 : Int32))) (hx8 : x8 = (x3 >>> ((6 : Int32) &&& 31))) (hx9 : x9 = (x8 + (1 : Int32))) (hx10 : x10 = (x5 >>> ((6 : Int32) &&& 31))) (hx11 : x11 = (x10 + (1 : Int32))) (c0 : (¬ (x1 < (0 : Int32)))) (c1 : (¬ ((255 : Int32) < x1))) (c2 : (¬ (x3 < (0 : Int32)))) (c3 : (¬ ((255 : Int32) < x3))) (c4 : (¬ (x5 < (0 : Int32)))) (c5 : (¬ ((255 : Int32) < x5))) (c6 : (¬ (x6 < (0 : Int32)))) (c7 : (¬ (x7 < (1 : Int32)))) (c8 : (¬ ((4 : Int32) < x7))) (c9 : ((0 : Int32) < x7)) (c10 : (¬ ((4 : Int32) < x7))) (c11 : (x6 < (4 : Int32))) (c12 : (x6 < x7)) (c13 : (¬ (x8 < x7))) (c14 : (¬ (x9 < (1 : Int32)))) (c15 : (¬ ((4 : Int32) < x9))) (c16 : (x7 < x9)) (c17 : (¬ (x7 < (0 : Int32)))) (c18 : (¬ ((4 : Int32) < x9))) (c19 : (¬ (x8 < (0 : Int32)))) (c20 : (x8 < (4 : Int32))) (c21 : (x8 < x9)) (c22 : (¬ (x10 < x9))) (c23 : (¬ (x11 < (1 : Int32)))) (c24 : (¬ ((4 : Int32) < x11))) (c25 : (x9 < x11)) (c26 : (x6 < x9)) (c27 : (¬ (x9 < (0 : Int32)))) (c28 : (¬ ((4 : Int32) < x11))) (c29 : (((x11 < x9) ∧ (x9 = x11)) ∨ ((¬ (x11 < x9)) ∧ (x9 = x9)))) (c30 : (¬ (x10 < (0 : Int32)))) (c31 : (x10 < (4 : Int32))) (c32 : (x10 < x11)) (c33 : (x6 < x11)) (c34 : (¬ (x8 < x11))) : False := by
  have rx1 := rng32 x1
  have wx1 := c_mask x0 (255 : Int32) 8 (by decide) (by decide)
  rw [← hx1] at wx1
  have rx3 := rng32 x3
  have wx3 := c_mask x2 (255 : Int32) 8 (by decide) (by decide)
  rw [← hx3] at wx3
  have rx5 := rng32 x5
  have wx5 := c_mask x4 (255 : Int32) 8 (by decide) (by decide)
  rw [← hx5] at wx5
  have rx6 := rng32 x6
  have wx6 := c_ishr x1 (6 : Int32) 6 (by decide)
  rw [← hx6] at wx6
  have rx7 := rng32 x7
  have wx7 := c_iadd x6 (1 : Int32)
  rw [← hx7] at wx7
  have rx8 := rng32 x8
  have wx8 := c_ishr x3 (6 : Int32) 6 (by decide)
  rw [← hx8] at wx8
  have rx9 := rng32 x9
  have wx9 := c_iadd x8 (1 : Int32)
  rw [← hx9] at wx9
  have rx10 := rng32 x10
  have wx10 := c_ishr x5 (6 : Int32) 6 (by decide)
  rw [← hx10] at wx10
  have rx11 := rng32 x11
  have wx11 := c_iadd x10 (1 : Int32)
  rw [← hx11] at wx11
  have rx0 := rng32 x0
  have rx2 := rng32 x2
  have rx4 := rng32 x4
  have lI0 : (0 : Int32).toInt = 0 := by decide
  have lI1 : (1 : Int32).toInt = 1 := by decide
  have lI4 : (4 : Int32).toInt = 4 := by decide
  have lI6 : (6 : Int32).toInt = 6 := by decide
  have lI255 : (255 : Int32).toInt = 255 := by decide
  simp only [Int32.lt_iff_toInt_lt, Int64.lt_iff_toInt_lt, ← Int32.toInt_inj, ← Int64.toInt_inj] at c0 c1 c2 c3 c4 c5 c6 c7 c8 c9 c10 c11 c12 c13 c14 c15 c16 c17 c18 c19 c20 c21 c22 c23 c24 c25 c26 c27 c28 c29 c30 c31 c32 c33 c34
  omega
theorem ar_85 (x0 : Int32) (x1 : Int32) (x2 : Int32) (x3 : Int32) (x4 : Int32) (x5 : Int32) (x6 : Int32) (x7 : Int32) (x8 : Int32) (x9 : Int32) (x10 : Int32) (x11 : Int32) (hx1 : x1 = (x0 &&& (255 : Int32))) (hx3 : x3 = (x2 &&& (255 : Int32))) (hx5 : x5 = (x4 &&& (255 : Int32))) (hx6 : x6 = (x1 >>> ((6 : Int32) &&& 31))) (hx7 : x7 = (x6 + (1 : Int32))) (hx8 : x8 = (x3 >>> ((6 : Int32) &&& 31))) (hx9 : x9 = (x8 + (1 : Int32))) (hx10 : x10 = (x5 >>> ((6 : Int32) &&& 31))) (hx11 : x11 = (x10 + (1 : Int32))) (c0 : (¬ (x1 < (0 : Int32)))) (c1 : (¬ ((255 : Int32) < x1))) (c2 : (¬ (x3 < (0 : Int32)))) (c3 : (¬ ((255 : Int32) < x3))) (c4 : (¬ (x5 < (0 : Int32)))) (c5 : (¬ ((255 : Int32) < x5))) (c6 : (¬ (x6 < (0 : Int32)))) (c7 : (¬ (x7 < (1 : Int32)))) (c8 : (¬ ((4 : Int32) < x7))) (c9 : ((0 : Int32) < x7)) (c10 : (¬ ((4 : Int32) < x7))) (c11 : (x6 < (4 : Int32))) (c12 : (x6 < x7)) (c13 : (¬ (x8 < x7))) (c14 : (¬ (x9 < (1 : Int32)))) (c15 : (¬ ((4 : Int32) < x9))) (c16 : (x7 < x9)) (c17 : (¬ (x7 < (0 : Int32)))) (c18 : (¬ ((4 : Int32) < x9))) (c19 : (¬ (x8 < (0 : Int32)))) (c20 : (x8 < (4 : Int32))) (c21 : (x8 < x9)) (c22 : (¬ (x10 < x9))) (c23 : (¬ (x11 < (1 : Int32)))) (c24 : (¬ ((4 : Int32) < x11))) (c25 : (x9 < x11)) (c26 : (x6 < x9)) (c27 : (¬ (x9 < (0 : Int32)))) (c28 : (¬ ((4 : Int32) < x11))) (c29 : (((x11 < x9) ∧ (x9 = x11)) ∨ ((¬ (x11 < x9)) ∧ (x9 = x9)))) (c30 : (¬ (x10 < (0 : Int32)))) (c31 : (x10 < (4 : Int32))) (c32 : (x10 < x11)) (c33 : (x6 < x11)) (c34 : (x8 < x11)) (c35 : (x11 < (0 : Int32))) : False := by
  have rx1 := rng32 x1
  have wx1 := c_mask x0 (255 : Int32) 8 (by decide) (by decide)
  rw [← hx1] at wx1
  have rx3 := rng32 x3
  have wx3 := c_mask x2 (255 : Int32) 8 (by decide) (by decide)
  rw [← hx3] at wx3
  have rx5 := rng32 x5
  have wx5 := c_mask x4 (255 : Int32) 8 (by decide) (by decide)
  rw [← hx5] at wx5
  have rx6 := rng32 x6
  have wx6 := c_ishr x1 (6 : Int32) 6 (by decide)
  rw [← hx6] at wx6
  have rx7 := rng32 x7
  have wx7 := c_iadd x6 (1 : Int32)
  rw [← hx7] at wx7
  have rx8 := rng32 x8
  have wx8 := c_ishr x3 (6 : Int32) 6 (by decide)
  rw [← hx8] at wx8
  have rx9 := rng32 x9
  have wx9 := c_iadd x8 (1 : Int32)
  rw [← hx9] at wx9
  have rx10 := rng32 x10
  have wx10 := c_ishr x5 (6 : Int32) 6 (by decide)
  rw [← hx10] at wx10
  have rx11 := rng32 x11
  have wx11 := c_iadd x10 (1 : Int32)
  rw [← hx11] at wx11
  have rx0 := rng32 x0
  have rx2 := rng32 x2
  have rx4 := rng32 x4
  have lI0 : (0 : Int32).toInt = 0 := by decide
  have lI1 : (1 : Int32).toInt = 1 := by decide
  have lI4 : (4 : Int32).toInt = 4 := by decide
  have lI6 : (6 : Int32).toInt = 6 := by decide
  have lI255 : (255 : Int32).toInt = 255 := by decide
  simp only [Int32.lt_iff_toInt_lt, Int64.lt_iff_toInt_lt, ← Int32.toInt_inj, ← Int64.toInt_inj] at c0 c1 c2 c3 c4 c5 c6 c7 c8 c9 c10 c11 c12 c13 c14 c15 c16 c17 c18 c19 c20 c21 c22 c23 c24 c25 c26 c27 c28 c29 c30 c31 c32 c33 c34 c35
  omega
theorem ef_1 (m : MethodId) (o0 : Addr) (o1 : Addr) : entryFrame m #[(.ref o0), (.ref o1)] 2 = mkF m 0 #[.val (.ref o0), .val (.ref o1)] [] := by first | (simp [entryFrame, mkF, argsToLocals, Value.category, maxLocals]; done) | rfl
def Q1 (Z : State) (o0 : Addr) (o1 : Addr) (u_o0_words : Value) (h0 : Heap) (n0 : Nat) (v : Option Value) (h : Heap) (L : List Loc) : Prop := (v = none ∧ Fr n0 L ∧ Keep h0 h [o0] ∧ Exa Z h o0 "com/example/heaplens/heaplens/sharing/VarSet" ∧ Fld Z h o0 "com/example/heaplens/heaplens/sharing/VarSet" "words" "[J" (.ref o1))
set_option maxRecDepth 65536 in
set_option maxHeartbeats 40000000 in
theorem rm1 (l : Launch) (Z : State) (a0 : Array Value) (hw : ∀ d ∈ tables_1, d.before a0 Z = true) (ws : List Jvm.Cond) (o0 : Addr) (o1 : Addr) (u_o0_words : Value) (h0 : Heap) (n0 : Nat) (Z0 : n0 ≤ h0.size) (E_o0 : Exa Z h0 o0 "com/example/heaplens/heaplens/sharing/VarSet") (F_o0_words : Fld Z h0 o0 "com/example/heaplens/heaplens/sharing/VarSet" "words" "[J" u_o0_words) (g_o0 : n0 ≤ o0) :
    Con l Z (⟨"com/example/heaplens/heaplens/sharing/VarSet", "<init>", "([J)V"⟩ : MethodName) prog_13_method_1_code 2 none ws ({ frames := 1, cells := 0, slots := 0, locals := 12 } : Room) #[(.ref o0), (.ref o1)] h0 0 0 (Q1 Z o0 o1 u_o0_words h0 n0) := by
  refine MetFree.of_bodySF (plainFor_of_name pn_0) hisR ?_
  intro p e s m args below meth c s₁ Bd hml0 hP hK
  obtain ⟨rfl, hZ, hh⟩ := hP
  have hx := Bd.exec
  have hby := Bd.bytes
  have hml : c.maxLocals = 2 := hml0
  have hown : s.vm.findClass "com/example/heaplens/heaplens/sharing/VarSet" = some m.cls := findClass_of_methodNamed Bd.named
  have hnm := (name_of_methodNamed Bd.named Bd.method).1
  have X0 : Stand p l e ({ frames := 1, cells := 0, slots := 0, locals := 12 } : Room) s m #[(.ref o0), (.ref o1)] below meth c s₁ [] 0 0 := Stand.of_body Bd
  have e0 : s₁.heap = h0 := by rw [← hh, Bd.state]; rfl
  have N0 := Fr.nil n0
  refine Go.of ?_
  refine Go.st (S' := s₁.setTop (mkF m 0 #[.val (.ref o0), .val (.ref o1)] [])) (fun t k => castTop (ef_1 m o0 o1) k) ?_
  refine Go.st (S' := s₁.setTop (mkF m 1 #[.val (.ref o0), .val (.ref o1)] [(.ref o0)])) (fun t k => XS.aloadN X0.here hx rfl (hb hby dprog_13_method_1_code_0) rfl rfl k) ?_
  obtain ⟨T59, X59, e59, st59⟩ := initO X0 hx hZ hown (hw _ (List.mem_of_getElem? (i := 11) rfl)) (hw _ (List.mem_of_getElem? (i := 12) rfl)) (hw _ (List.mem_of_getElem? (i := 13) rfl)) e0 (g := (mkF m 1 #[.val (.ref o0), .val (.ref o1)] [(.ref o0)])) rfl (by rw [hml]; rfl) rfl (hb hby dprog_13_method_1_code_1) (by decide) (W := 0) (by show 2 * 0 + _ ≤ _; exact Nat.le_of_eq rfl) (by decide)
  refine Go.st (S' := T59.setTop (mkF m 4 #[.val (.ref o0), .val (.ref o1)] [])) st59 ?_
  refine Go.st (S' := T59.setTop (mkF m 5 #[.val (.ref o0), .val (.ref o1)] [(.ref o0)])) (fun t k => XS.aloadN X59.here hx rfl (hb hby dprog_13_method_1_code_4) rfl rfl k) ?_
  refine Go.st (S' := T59.setTop (mkF m 6 #[.val (.ref o0), .val (.ref o1)] [(.ref o1), (.ref o0)])) (fun t k => XS.aloadN X59.here hx rfl (hb hby dprog_13_method_1_code_5) rfl rfl k) ?_
  obtain ⟨T60, h60, X60, e60, W60, st60⟩ := putF X59 hx hZ hown (host := "") (Or.inl (hw _ (List.mem_of_getElem? (i := 14) rfl))) Via.refl e59 F_o0_words E_o0 (Or.inr ⟨(hw _ (List.mem_of_getElem? (i := 15) rfl)), rfl, hnm⟩) (hw _ (List.mem_of_getElem? (i := 7) rfl)) (ty := (.array .long)) (by decide) rfl rfl (g := (mkF m 6 #[.val (.ref o0), .val (.ref o1)] [(.ref o1), (.ref o0)])) rfl rfl (hb hby dprog_13_method_1_code_6)
  have Fw60 := (F_o0_words).same W60
  have N60 := Fr.snoc X60 N0 g_o0
  have Z61 : n0 ≤ h60.size := Nat.le_trans Z0 (Keep.of_wr W60).1
  have K61 : Keep h0 h60 [o0] := (Keep.refl h0 [o0]).wr W60 (Or.inl (by simp))
  refine Go.st (S' := T60.setTop (mkF m 9 #[.val (.ref o0), .val (.ref o1)] [])) st60 ?_
  have f62 := ((E_o0).wr W60)
  exact Go.ret X60 (v := none) (fun _ => rfl) Bd.notSynchronized (fun fs hr => X60.returnOut hx Bd.returns (hb hby dprog_13_method_1_code_9) hr) (by decide) (by decide) (by rw [e60]; exact ⟨rfl, N60, K61, f62, Fw60⟩)
theorem ef_2 (m : MethodId) (o0 : Addr) : entryFrame m #[(.ref o0)] 6 = mkF m 0 #[.val (.ref o0), .unset, .unset, .unset, .unset, .unset] [] := by first | (simp [entryFrame, mkF, argsToLocals, Value.category, maxLocals]; done) | rfl
def Q2 (Z : State) (o0 : Addr) (k_o0 : ClassId) (h0 : Heap) (n0 : Nat) (v : Option Value) (h : Heap) (L : List Loc) : Prop := (∃ (b48 : Addr) (b57 : Addr) (k48 : ClassId), v = some (.ref b57) ∧ Fr n0 L ∧ Keep h0 h [] ∧ h0.size ≤ b48 ∧ h0.size ≤ b57 ∧ Arv Z h b48 k48 .long (0 : Int32) [(.long (0 : Int64)), (.long (0 : Int64)), (.long (0 : Int64)), (.long (0 : Int64))] (.long (0 : Int64)) ∧ Exa Z h b48 "[J" ∧ Exa Z h b57 "com/example/heaplens/heaplens/sharing/VarSet" ∧ Fld Z h b57 "com/example/heaplens/heaplens/sharing/VarSet" "words" "[J" (.ref b48) ∧ b48 < b57)
set_option maxRecDepth 65536 in
set_option maxHeartbeats 40000000 in
theorem rm2 (l : Launch) (Z : State) (a0 : Array Value) (hw : ∀ d ∈ tables_1, d.before a0 Z = true) (ws : List Jvm.Cond) (o0 : Addr) (k_o0 : ClassId) (h0 : Heap) (n0 : Nat) (Z0 : n0 ≤ h0.size) (V_o0 : Arv Z h0 o0 k_o0 .int (0 : Int32) [] (.int (0 : Int32))) :
    Con l Z (⟨"com/example/heaplens/heaplens/sharing/VarSet", "of", "([I)Lcom/example/heaplens/heaplens/sharing/VarSet;"⟩ : MethodName) prog_13_method_2_code 6 (some (.object "com/example/heaplens/heaplens/sharing/VarSet")) ws ({ frames := 2, cells := 2, slots := 2, locals := 26 } : Room) #[(.ref o0)] h0 2 2 (Q2 Z o0 k_o0 h0 n0) := by
  refine MetFree.of_bodySF (plainFor_of_name pn_0) hisR ?_
  intro p e s m args below meth c s₁ Bd hml0 hP hK
  obtain ⟨rfl, hZ, hh⟩ := hP
  have hx := Bd.exec
  have hby := Bd.bytes
  have hml : c.maxLocals = 6 := hml0
  have hown : s.vm.findClass "com/example/heaplens/heaplens/sharing/VarSet" = some m.cls := findClass_of_methodNamed Bd.named
  have hnm := (name_of_methodNamed Bd.named Bd.method).1
  have X0 : Stand p l e ({ frames := 2, cells := 2, slots := 2, locals := 26 } : Room) s m #[(.ref o0)] below meth c s₁ [] 0 0 := Stand.of_body Bd
  have e0 : s₁.heap = h0 := by rw [← hh, Bd.state]; rfl
  have N0 := Fr.nil n0
  refine Go.of ?_
  refine Go.st (S' := s₁.setTop (mkF m 0 #[.val (.ref o0), .unset, .unset, .unset, .unset, .unset] [])) (fun t k => castTop (ef_2 m o0) k) ?_
  refine Go.st (S' := s₁.setTop (mkF m 1 #[.val (.ref o0), .unset, .unset, .unset, .unset, .unset] [(.int (0 : Int32))])) (fun t k => XS.iconst X0.here hx rfl (hb hby dprog_13_method_2_code_0) k) ?_
  obtain ⟨T48, h48, k48, X48, e48, E48, A48, B48, st48⟩ := newPE X0 hx hZ (hw _ (List.mem_of_getElem? (i := 5) rfl)) e0 (g := (mkF m 1 #[.val (.ref o0), .unset, .unset, .unset, .unset, .unset] [(.int (0 : Int32))])) rfl (hb hby dprog_13_method_2_code_1) rfl (by decide) (cap := 0) (by decide) (by decide) (by decide) (by decide) (ad := "[J") (by decide)
  obtain ⟨b48, gg48⟩ : ∃ z, z = h0.size := ⟨_, rfl⟩
  rw [← gg48] at A48 B48 st48
  have g_b48 : n0 ≤ b48 := Nat.le_trans Z0 (Nat.le_of_eq gg48.symm)
  have sz_b48 : h0.size ≤ b48 := Nat.le_trans (Keep.refl h0 []).1 (Nat.le_of_eq gg48.symm)
  have Z49 : n0 ≤ h48.size := Nat.le_trans Z0 E48.1
  have K49 : Keep h0 h48 [] := (Keep.refl h0 []).ext E48
  have V48 : Arv Z h48 b48 k48 .long (0 : Int32) [(.long (0 : Int64)), (.long (0 : Int64)), (.long (0 : Int64)), (.long (0 : Int64))] (.long (0 : Int64)) := (Arv.new A48 (by decide)).pad (pad_rep [] (.long (0 : Int64)) 4)
  refine Go.st (S' := T48.setTop (mkF m 3 #[.val (.ref o0), .unset, .unset, .unset, .unset, .unset] [(.ref b48)])) st48 ?_
  let A50 : Array Slot := #[.val (.ref o0), .val (.ref b48), .unset, .unset, .unset, .unset]
  refine Go.st (S' := T48.setTop (mkF m 4 A50 [])) (fun t k => XS.astoreN X48.here hx rfl (hb hby dprog_13_method_2_code_3) rfl rfl (l' := A50) rfl k) ?_
  refine Go.st (S' := T48.setTop (mkF m 5 A50 [(.ref o0)])) (fun t k => XS.aloadN X48.here hx rfl (hb hby dprog_13_method_2_code_4) rfl rfl k) ?_
  let A51 : Array Slot := #[.val (.ref o0), .val (.ref b48), .val (.ref o0), .unset, .unset, .unset]
  refine Go.st (S' := T48.setTop (mkF m 6 A51 [])) (fun t k => XS.astoreN X48.here hx rfl (hb hby dprog_13_method_2_code_5) rfl rfl (l' := A51) rfl k) ?_
  refine Go.st (S' := T48.setTop (mkF m 7 A51 [(.ref o0)])) (fun t k => XS.aloadN X48.here hx rfl (hb hby dprog_13_method_2_code_6) rfl rfl k) ?_
  have f52 := ((V_o0).ext E48)
  obtain ⟨cl53, Ar53, -, S53, N53_, -, -⟩ := id f52
  refine Go.op (F := fun z => T48.setTop (mkF m 8 A51 [(.int z)])) (x := cl53.slots.size.toInt32) (fun t k => X48.arraylength hx (own_eh e48 Ar53.1) (State.isArrayOf_alike hZ.alike Ar53.2.1) (g := (mkF m 7 A51 [(.ref o0)])) rfl rfl (hb hby dprog_13_method_2_code_7) t k) ?_
  intro v54 hv54
  obtain rfl : (0 : Int32) = v54 := (hv54.trans (len_of S53 N53_)).symm
  let A55 : Array Slot := #[.val (.ref o0), .val (.ref b48), .val (.ref o0), .val (.int (0 : Int32)), .unset, .unset]
  refine Go.st (S' := T48.setTop (mkF m 9 A55 [])) (fun t k => XS.istoreN X48.here hx rfl (hb hby dprog_13_method_2_code_8) rfl (l' := A55) rfl k) ?_
  refine Go.st (S' := T48.setTop (mkF m 10 A55 [(.int (0 : Int32))])) (fun t k => XS.iconst X48.here hx rfl (hb hby dprog_13_method_2_code_9) k) ?_
  let A56 : Array Slot := #[.val (.ref o0), .val (.ref b48), .val (.ref o0), .val (.int (0 : Int32)), .val (.int (0 : Int32)), .unset]
  refine Go.st (S' := T48.setTop (mkF m 12 A56 [])) (fun t k => XS.istore X48.here hx rfl (hb hby dprog_13_method_2_code_10) rfl (l' := A56) rfl k) ?_
  refine Go.st (S' := T48.setTop (mkF m 14 A56 [(.int (0 : Int32))])) (fun t k => XS.iload X48.here hx rfl (hb hby dprog_13_method_2_code_12) rfl k) ?_
  refine Go.st (S' := T48.setTop (mkF m 15 A56 [(.int (0 : Int32)), (.int (0 : Int32))])) (fun t k => XS.iloadN X48.here hx rfl (hb hby dprog_13_method_2_code_14) rfl k) ?_
  refine Go.st (S' := T48.setTop (mkF m 66 A56 [])) (fun t k => XS.icmpYes X48.here hx rfl (pc0 := 15) (pc' := 66) rfl (hb hby dprog_13_method_2_code_15) rfl (flt (by decide : (¬ ((0 : Int32) < (0 : Int32))))).2.1 (by decide) (by decide) k) ?_
  obtain ⟨T57, h57, X57, e57, E57, A57, D57, -, st57⟩ := newO X48 hx hZ hown (hw _ (List.mem_of_getElem? (i := 6) rfl)) (hw _ (List.mem_of_getElem? (i := 7) rfl)) (hw _ (List.mem_of_getElem? (i := 3) rfl)) e48 (g := (mkF m 66 A56 [])) rfl (hb hby dprog_13_method_2_code_66) (by decide) (by decide)
  obtain ⟨b57, gg57⟩ : ∃ z, z = h48.size := ⟨_, rfl⟩
  rw [← gg57] at A57 D57 st57
  have g_b57 : n0 ≤ b57 := Nat.le_trans Z49 (Nat.le_of_eq gg57.symm)
  have sz_b57 : h0.size ≤ b57 := Nat.le_trans K49.1 (Nat.le_of_eq gg57.symm)
  have lt_b48_b57 : b48 < b57 := Nat.lt_of_lt_of_le (B48).lt (Nat.le_of_eq gg57.symm)
  have Z58 : n0 ≤ h57.size := Nat.le_trans Z49 E57.1
  have K58 : Keep h0 h57 [] := K49.ext E57
  have Fb57_words : Fld Z h57 b57 "com/example/heaplens/heaplens/sharing/VarSet" "words" "[J" .null := D57 (Or.inr (hw _ (List.mem_of_getElem? (i := 15) rfl))) (ty := (.array .long)) (by decide)
  refine Go.st (S' := T57.setTop (mkF m 69 A56 [(.ref b57)])) st57 ?_
  refine Go.st (S' := T57.setTop (mkF m 70 A56 [(.ref b57), (.ref b57)])) (fun t k => XS.dup X57.here hx rfl (hb hby dprog_13_method_2_code_69) rfl rfl k) ?_
  refine Go.st (S' := T57.setTop (mkF m 71 A56 [(.ref b48), (.ref b57), (.ref b57)])) (fun t k => XS.aloadN X57.here hx rfl (hb hby dprog_13_method_2_code_70) rfl rfl k) ?_
  obtain ⟨r63, T63, L63, X63, hQ63, st63⟩ := own_callI (W := 1) (a := b57) X57 hx hZ e57 hown (y := (⟨"com/example/heaplens/heaplens/sharing/VarSet", "<init>", "([J)V"⟩ : MethodName)) rfl (hw _ (List.mem_of_getElem? (i := 8) rfl)) (hw _ (List.mem_of_getElem? (i := 9) rfl)) (hw _ (List.mem_of_getElem? (i := 3) rfl)) (hw _ (List.mem_of_getElem? (i := 10) rfl)) (by decide) (rm1 l Z a0 hw [] b57 b48 (.null) h57 n0 Z58 (A57) (Fb57_words) (g_b57)) (by decide) (by decide) (by decide) (by decide) (g := (mkF m 71 A56 [(.ref b48), (.ref b57), (.ref b57)])) rfl (by rw [hml]; rfl) (argsL := [(.ref b48)]) (rest := [(.ref b57)]) rfl (lenOf pd_0 rfl) rfl (by show 2 * 0 + _ ≤ _; exact Nat.le_of_eq rfl) (hb hby dprog_13_method_2_code_71)
  obtain ⟨rfl, N63, K63_, f64, f65⟩ := hQ63
  have N63_ := Fr.app N0 N63
  have Z66 : n0 ≤ T63.heap.size := Nat.le_trans Z58 K63_.1
  have K66 : Keep h0 T63.heap [] := K58.trans K63_ (allS (Or.inr sz_b57) all0)
  refine Go.st (S' := T63.setTop (mkF m 74 A56 [(.ref b57)])) st63 ?_
  have f67 := ((((V48).ext E57)).keep K63_ (ninS (Nat.ne_of_lt lt_b48_b57) nin0))
  have f68 := ((((B48).ext E57)).keep K63_)
  exact Go.ret X63 (v := some (.ref b57)) (fun h => by rw [Bd.returns] at h; cases h) Bd.notSynchronized (fun fs hr => retOut X63 hx Bd.returns rfl (Or.inr (Or.inr (Or.inr (Or.inr ⟨rfl, rfl, rfl⟩)))) (hb hby dprog_13_method_2_code_74) hr) (by decide) (by decide) (⟨b48, b57, k48, rfl, N63_, K66, sz_b48, sz_b57, f67, f68, f64, f65, lt_b48_b57⟩)
theorem ef_3 (m : MethodId) (o0 : Addr) (p1 : Int32) : entryFrame m #[(.ref o0), (.int p1)] 2 = mkF m 0 #[.val (.ref o0), .val (.int p1)] [] := by first | (simp [entryFrame, mkF, argsToLocals, Value.category, maxLocals]; done) | rfl
def Q3 (Z : State) (o0 : Addr) (p1 : Int32) (o_1 : Addr) (k_o_1 : ClassId) (z_o_1 : Int32) (e0_o_1 : Int64) (e1_o_1 : Int64) (e2_o_1 : Int64) (e3_o_1 : Int64) (h0 : Heap) (n0 : Nat) (v : Option Value) (h : Heap) (L : List Loc) : Prop := (∃ (rv3 : Int32) (v84 : Int32) (v96 : Int64) (v97 : Int64) (v98 : Int64), v84 = (p1 >>> ((6 : Int32) &&& 31)) ∧ v96 = (own_get4 v84 e0_o_1 e1_o_1 e2_o_1 e3_o_1) ∧ v97 = ((1 : Int64) <<< (p1 &&& 0x3f).toInt64) ∧ v98 = (v96 &&& v97) ∧ (((v84 < z_o_1) ∧ (¬ (v84 < (0 : Int32))) ∧ (v84 < (4 : Int32)) ∧ (v98 = (0 : Int64)) ∧ (rv3 = (0 : Int32))) ∨ ((v84 < z_o_1) ∧ (¬ (v84 < (0 : Int32))) ∧ (v84 < (4 : Int32)) ∧ (¬ (v98 = (0 : Int64))) ∧ (rv3 = (1 : Int32))) ∨ ((¬ (v84 < z_o_1)) ∧ (rv3 = (0 : Int32)))) ∧ v = some (.int rv3) ∧ Fr n0 L ∧ h = h0)
set_option maxRecDepth 65536 in
set_option maxHeartbeats 40000000 in
theorem rm3 (l : Launch) (Z : State) (a0 : Array Value) (hw : ∀ d ∈ tables_1, d.before a0 Z = true) (ws : List Jvm.Cond) (o0 : Addr) (p1 : Int32) (o_1 : Addr) (k_o_1 : ClassId) (z_o_1 : Int32) (e0_o_1 : Int64) (e1_o_1 : Int64) (e2_o_1 : Int64) (e3_o_1 : Int64) (h0 : Heap) (n0 : Nat) (Z0 : n0 ≤ h0.size) (hra_p1 : (¬ (p1 < (0 : Int32)))) (hrb_p1 : (¬ ((511 : Int32) < p1))) (F_o0_words : Fld Z h0 o0 "com/example/heaplens/heaplens/sharing/VarSet" "words" "[J" (.ref o_1)) (hra_z_o_1 : (¬ (z_o_1 < (0 : Int32)))) (hrb_z_o_1 : (¬ ((4 : Int32) < z_o_1))) (V_o_1 : Arv Z h0 o_1 k_o_1 .long z_o_1 [(.long e0_o_1), (.long e1_o_1), (.long e2_o_1), (.long e3_o_1)] (.long (0 : Int64))) :
    Con l Z (⟨"com/example/heaplens/heaplens/sharing/VarSet", "contains", "(I)Z"⟩ : MethodName) prog_13_method_6_code 2 (some .boolean) ws ({ frames := 0, cells := 0, slots := 0, locals := 0 } : Room) #[(.ref o0), (.int p1)] h0 0 0 (Q3 Z o0 p1 o_1 k_o_1 z_o_1 e0_o_1 e1_o_1 e2_o_1 e3_o_1 h0 n0) := by
  refine MetFree.of_bodySF (plainFor_of_name pn_0) hisR ?_
  intro p e s m args below meth c s₁ Bd hml0 hP hK
  obtain ⟨rfl, hZ, hh⟩ := hP
  have hx := Bd.exec
  have hby := Bd.bytes
  have hml : c.maxLocals = 2 := hml0
  have hown : s.vm.findClass "com/example/heaplens/heaplens/sharing/VarSet" = some m.cls := findClass_of_methodNamed Bd.named
  have hnm := (name_of_methodNamed Bd.named Bd.method).1
  have X0 : Stand p l e ({ frames := 0, cells := 0, slots := 0, locals := 0 } : Room) s m #[(.ref o0), (.int p1)] below meth c s₁ [] 0 0 := Stand.of_body Bd
  have e0 : s₁.heap = h0 := by rw [← hh, Bd.state]; rfl
  have N0 := Fr.nil n0
  refine Go.of ?_
  refine Go.st (S' := s₁.setTop (mkF m 0 #[.val (.ref o0), .val (.int p1)] [])) (fun t k => castTop (ef_3 m o0 p1) k) ?_
  refine Go.st (S' := s₁.setTop (mkF m 1 #[.val (.ref o0), .val (.int p1)] [(.int p1)])) (fun t k => XS.iloadN X0.here hx rfl (hb hby dprog_13_method_6_code_0) rfl k) ?_
  refine Go.st (S' := s₁.setTop (mkF m 3 #[.val (.ref o0), .val (.int p1)] [(.int (6 : Int32)), (.int p1)])) (fun t k => XS.bipush X0.here hx rfl (hb hby dprog_13_method_6_code_1) k) ?_
  refine Go.op (F := fun z => s₁.setTop (mkF m 4 #[.val (.ref o0), .val (.int p1)] [(.int z)])) (x := (p1 >>> ((6 : Int32) &&& 31))) (fun t k => XS.ishr X0.here hx rfl (hb hby dprog_13_method_6_code_3) rfl k) ?_
  intro v84 hv84
  refine Go.st (S' := s₁.setTop (mkF m 5 #[.val (.ref o0), .val (.int p1)] [(.ref o0), (.int v84)])) (fun t k => XS.aloadN X0.here hx rfl (hb hby dprog_13_method_6_code_4) rfl rfl k) ?_
  obtain ⟨T85, X85, e85, st85⟩ := getF X0 hx hZ hown (host := "") (Or.inl (hw _ (List.mem_of_getElem? (i := 14) rfl))) Via.refl e0 F_o0_words (g := (mkF m 5 #[.val (.ref o0), .val (.int p1)] [(.ref o0), (.int v84)])) rfl rfl (hb hby dprog_13_method_6_code_5)
  refine Go.st (S' := T85.setTop (mkF m 8 #[.val (.ref o0), .val (.int p1)] [(.ref o_1), (.int v84)])) st85 ?_
  obtain ⟨cl86, Ar86, -, S86, N86_, -, -⟩ := id V_o_1
  refine Go.op (F := fun z => T85.setTop (mkF m 9 #[.val (.ref o0), .val (.int p1)] [(.int z), (.int v84)])) (x := cl86.slots.size.toInt32) (fun t k => X85.arraylength hx (own_eh e85 Ar86.1) (State.isArrayOf_alike hZ.alike Ar86.2.1) (g := (mkF m 8 #[.val (.ref o0), .val (.int p1)] [(.ref o_1), (.int v84)])) rfl rfl (hb hby dprog_13_method_6_code_8) t k) ?_
  intro v87 hv87
  obtain rfl : z_o_1 = v87 := (hv87.trans (len_of S86 N86_)).symm
  by_cases hc88 : (v84 < z_o_1)
  · refine Go.st (S' := T85.setTop (mkF m 12 #[.val (.ref o0), .val (.int p1)] [])) (fun t k => XS.icmpNo X85.here hx rfl (hb hby dprog_13_method_6_code_9) rfl (tlt hc88).2.1 k) ?_
    refine Go.st (S' := T85.setTop (mkF m 13 #[.val (.ref o0), .val (.int p1)] [(.ref o0)])) (fun t k => XS.aloadN X85.here hx rfl (hb hby dprog_13_method_6_code_12) rfl rfl k) ?_
    obtain ⟨T89, X89, e89, st89⟩ := getF X85 hx hZ hown (host := "") (Or.inl (hw _ (List.mem_of_getElem? (i := 14) rfl))) Via.refl e85 F_o0_words (g := (mkF m 13 #[.val (.ref o0), .val (.int p1)] [(.ref o0)])) rfl rfl (hb hby dprog_13_method_6_code_13)
    refine Go.st (S' := T89.setTop (mkF m 16 #[.val (.ref o0), .val (.int p1)] [(.ref o_1)])) st89 ?_
    refine Go.st (S' := T89.setTop (mkF m 17 #[.val (.ref o0), .val (.int p1)] [(.int p1), (.ref o_1)])) (fun t k => XS.iloadN X89.here hx rfl (hb hby dprog_13_method_6_code_16) rfl k) ?_
    refine Go.st (S' := T89.setTop (mkF m 19 #[.val (.ref o0), .val (.int p1)] [(.int (6 : Int32)), (.int p1), (.ref o_1)])) (fun t k => XS.bipush X89.here hx rfl (hb hby dprog_13_method_6_code_17) k) ?_
    refine Go.op (F := fun z => T89.setTop (mkF m 20 #[.val (.ref o0), .val (.int p1)] [(.int z), (.ref o_1)])) (x := (p1 >>> ((6 : Int32) &&& 31))) (fun t k => XS.ishr X89.here hx rfl (hb hby dprog_13_method_6_code_19) rfl k) ?_
    intro v90 hv90
    obtain rfl : v84 = v90 := hv84.trans hv90.symm
    have hi92 : (¬ (v84 < (0 : Int32))) := by
      intro hc93
      exact ar_1 p1 v84 z_o_1 hv84 hra_p1 hrb_p1 hra_z_o_1 hrb_z_o_1 hc88 hc93
    have hi94 : (v84 < (4 : Int32)) := by
      refine Decidable.byContradiction fun hc95 => ?_
      exact ar_2 p1 v84 z_o_1 hv84 hra_p1 hrb_p1 hra_z_o_1 hrb_z_o_1 hc88 hi92 hc95
    obtain ⟨v96, hv96⟩ : ∃ z, z = (own_get4 v84 e0_o_1 e1_o_1 e2_o_1 e3_o_1) := ⟨_, rfl⟩
    obtain ⟨cl91, Ar91, -, S91, N91_, H91, -⟩ := id V_o_1
    have hin91 : ¬ (v84 < 0 ∨ cl91.slots.size ≤ (v84).toNatClampNeg) := inb_of S91 ⟨hi92, hc88⟩
    have hat91 : cl91.slots[(v84).toNatClampNeg]? = some (.long v96) := Has.at H91 hin91 (by rw [hv96]; exact own_get4_at hi92 hi94)
    refine Go.st (S' := T89.setTop (mkF m 21 #[.val (.ref o0), .val (.int p1)] [(.long v96)])) (fun t k => X89.laload hx (j := v84) (v := (.long v96)) (own_eh e89 Ar91.1) (State.isArrayOf_alike hZ.alike Ar91.2.1) Ar91.2.2 hin91 hat91 (g := (mkF m 20 #[.val (.ref o0), .val (.int p1)] [(.int v84), (.ref o_1)])) rfl rfl (hb hby dprog_13_method_6_code_20) t k) ?_
    refine Go.st (S' := T89.setTop (mkF m 22 #[.val (.ref o0), .val (.int p1)] [(.long (1 : Int64)), (.long v96)])) (fun t k => XS.lconst X89.here hx rfl (hb hby dprog_13_method_6_code_21) k) ?_
    refine Go.st (S' := T89.setTop (mkF m 23 #[.val (.ref o0), .val (.int p1)] [(.int p1), (.long (1 : Int64)), (.long v96)])) (fun t k => XS.iloadN X89.here hx rfl (hb hby dprog_13_method_6_code_22) rfl k) ?_
    refine Go.op (F := fun z => T89.setTop (mkF m 24 #[.val (.ref o0), .val (.int p1)] [(.long z), (.long v96)])) (x := ((1 : Int64) <<< (p1 &&& 0x3f).toInt64)) (fun t k => XS.lshl X89.here hx rfl (hb hby dprog_13_method_6_code_23) rfl k) ?_
    intro v97 hv97
    refine Go.op (F := fun z => T89.setTop (mkF m 25 #[.val (.ref o0), .val (.int p1)] [(.long z)])) (x := (v96 &&& v97)) (fun t k => XS.land X89.here hx rfl (hb hby dprog_13_method_6_code_24) rfl k) ?_
    intro v98 hv98
    refine Go.st (S' := T89.setTop (mkF m 26 #[.val (.ref o0), .val (.int p1)] [(.long (0 : Int64)), (.long v98)])) (fun t k => XS.lconst X89.here hx rfl (hb hby dprog_13_method_6_code_25) k) ?_
    refine Go.op (F := fun z => T89.setTop (mkF m 27 #[.val (.ref o0), .val (.int p1)] [(.int z)])) (x := (lcmpW v98 (0 : Int64))) (fun t k => XS.lcmp X89.here hx rfl (hb hby dprog_13_method_6_code_26) rfl k) ?_
    intro v99 hv99
    by_cases hc100 : (v98 = (0 : Int64))
    · refine Go.st (S' := T89.setTop (mkF m 34 #[.val (.ref o0), .val (.int p1)] [])) (fun t k => XS.ifYes X89.here hx rfl (pc0 := 27) (pc' := 34) rfl (hb hby dprog_13_method_6_code_27) rfl ((if0 _ _).trans (teq (by rw [hv99]; exact (lw_eq _ _).2 hc100)).1) (by decide) (by decide) k) ?_
      refine Go.st (S' := T89.setTop (mkF m 35 #[.val (.ref o0), .val (.int p1)] [(.int (0 : Int32))])) (fun t k => XS.iconst X89.here hx rfl (hb hby dprog_13_method_6_code_34) k) ?_
      exact Go.ret X89 (v := some (.int (0 : Int32))) (fun h => by rw [Bd.returns] at h; cases h) Bd.notSynchronized (fun fs hr => retN X89 hx (t := .boolean) Bd.returns (by simp) (hb hby dprog_13_method_6_code_35) hr) (by decide) (by decide) (⟨(0 : Int32), v84, v96, v97, v98, hv84, hv96, hv97, hv98, (Or.inl ⟨hc88, hi92, hi94, hc100, rfl⟩), rfl, N0, (e89)⟩)
    · refine Go.st (S' := T89.setTop (mkF m 30 #[.val (.ref o0), .val (.int p1)] [])) (fun t k => XS.ifNo X89.here hx rfl (hb hby dprog_13_method_6_code_27) rfl ((if0 _ _).trans (feq (by rw [hv99]; exact fun z => hc100 ((lw_eq _ _).1 z))).1) k) ?_
      refine Go.st (S' := T89.setTop (mkF m 31 #[.val (.ref o0), .val (.int p1)] [(.int (1 : Int32))])) (fun t k => XS.iconst X89.here hx rfl (hb hby dprog_13_method_6_code_30) k) ?_
      refine Go.st (S' := T89.setTop (mkF m 35 #[.val (.ref o0), .val (.int p1)] [(.int (1 : Int32))])) (fun t k => XS.goto X89.here hx rfl (pc0 := 31) (pc' := 35) rfl (hb hby dprog_13_method_6_code_31) (by decide) (by decide) k) ?_
      exact Go.ret X89 (v := some (.int (1 : Int32))) (fun h => by rw [Bd.returns] at h; cases h) Bd.notSynchronized (fun fs hr => retN X89 hx (t := .boolean) Bd.returns (by simp) (hb hby dprog_13_method_6_code_35) hr) (by decide) (by decide) (⟨(1 : Int32), v84, v96, v97, v98, hv84, hv96, hv97, hv98, (Or.inr (Or.inl ⟨hc88, hi92, hi94, hc100, rfl⟩)), rfl, N0, (e89)⟩)
  · refine Go.st (S' := T85.setTop (mkF m 34 #[.val (.ref o0), .val (.int p1)] [])) (fun t k => XS.icmpYes X85.here hx rfl (pc0 := 9) (pc' := 34) rfl (hb hby dprog_13_method_6_code_9) rfl (flt hc88).2.1 (by decide) (by decide) k) ?_
    refine Go.st (S' := T85.setTop (mkF m 35 #[.val (.ref o0), .val (.int p1)] [(.int (0 : Int32))])) (fun t k => XS.iconst X85.here hx rfl (hb hby dprog_13_method_6_code_34) k) ?_
    exact Go.ret X85 (v := some (.int (0 : Int32))) (fun h => by rw [Bd.returns] at h; cases h) Bd.notSynchronized (fun fs hr => retN X85 hx (t := .boolean) Bd.returns (by simp) (hb hby dprog_13_method_6_code_35) hr) (by decide) (by decide) (⟨(0 : Int32), v84, _, _, _, hv84, rfl, rfl, rfl, (Or.inr (Or.inr ⟨hc88, rfl⟩)), rfl, N0, (e85)⟩)
theorem ef_4 (m : MethodId) (o0 : Addr) : entryFrame m #[(.ref o0)] 7 = mkF m 0 #[.val (.ref o0), .unset, .unset, .unset, .unset, .unset, .unset] [] := by first | (simp [entryFrame, mkF, argsToLocals, Value.category, maxLocals]; done) | rfl
def Q4 (Z : State) (o0 : Addr) (o_1 : Addr) (k_o_1 : ClassId) (z_o_1 : Int32) (e0_o_1 : Int64) (e1_o_1 : Int64) (e2_o_1 : Int64) (e3_o_1 : Int64) (h0 : Heap) (n0 : Nat) (v : Option Value) (h : Heap) (L : List Loc) : Prop := ∃ r : Int32, (r = own_size (e0_o_1) (e1_o_1) (e2_o_1) (e3_o_1)) ∧ v = some (.int r) ∧ Fr n0 L ∧ h = h0
set_option maxRecDepth 65536 in
set_option maxHeartbeats 40000000 in
theorem rm4 (l : Launch) (Z : State) (a0 : Array Value) (hw : ∀ d ∈ tables_1, d.before a0 Z = true) (ws : List Jvm.Cond) (o0 : Addr) (o_1 : Addr) (k_o_1 : ClassId) (z_o_1 : Int32) (e0_o_1 : Int64) (e1_o_1 : Int64) (e2_o_1 : Int64) (e3_o_1 : Int64) (h0 : Heap) (n0 : Nat) (Z0 : n0 ≤ h0.size) (F_o0_words : Fld Z h0 o0 "com/example/heaplens/heaplens/sharing/VarSet" "words" "[J" (.ref o_1)) (hra_z_o_1 : (¬ (z_o_1 < (0 : Int32)))) (hrb_z_o_1 : (¬ ((4 : Int32) < z_o_1))) (V_o_1 : Arv Z h0 o_1 k_o_1 .long z_o_1 [(.long e0_o_1), (.long e1_o_1), (.long e2_o_1), (.long e3_o_1)] (.long (0 : Int64))) (inv_o_1 : ((0 : Int32) < z_o_1 ∨ e0_o_1 = (0 : Int64)) ∧ ((1 : Int32) < z_o_1 ∨ e1_o_1 = (0 : Int64)) ∧ ((2 : Int32) < z_o_1 ∨ e2_o_1 = (0 : Int64)) ∧ ((3 : Int32) < z_o_1 ∨ e3_o_1 = (0 : Int64))) :
    Con l Z (⟨"com/example/heaplens/heaplens/sharing/VarSet", "size", "()I"⟩ : MethodName) prog_13_method_7_code 7 (some .int) ws ({ frames := 1, cells := 0, slots := 0, locals := 14 } : Room) #[(.ref o0)] h0 0 0 (Q4 Z o0 o_1 k_o_1 z_o_1 e0_o_1 e1_o_1 e2_o_1 e3_o_1 h0 n0) := by
  refine MetFree.of_bodySF (plainFor_of_name pn_0) hisR ?_
  intro p e s m args below meth c s₁ Bd hml0 hP hK
  obtain ⟨rfl, hZ, hh⟩ := hP
  have hx := Bd.exec
  have hby := Bd.bytes
  have hml : c.maxLocals = 7 := hml0
  have hown : s.vm.findClass "com/example/heaplens/heaplens/sharing/VarSet" = some m.cls := findClass_of_methodNamed Bd.named
  have hnm := (name_of_methodNamed Bd.named Bd.method).1
  have X0 : Stand p l e ({ frames := 1, cells := 0, slots := 0, locals := 14 } : Room) s m #[(.ref o0)] below meth c s₁ [] 0 0 := Stand.of_body Bd
  have e0 : s₁.heap = h0 := by rw [← hh, Bd.state]; rfl
  have N0 := Fr.nil n0
  refine Go.of ?_
  refine Go.st (S' := s₁.setTop (mkF m 0 #[.val (.ref o0), .unset, .unset, .unset, .unset, .unset, .unset] [])) (fun t k => castTop (ef_4 m o0) k) ?_
  let A113 : Array Slot := #[.val (.ref o0), .unset, .unset, .unset, .unset, .unset, .unset]
  refine Go.st (S' := s₁.setTop (mkF m 1 A113 [(.int (0 : Int32))])) (fun t k => XS.iconst X0.here hx rfl (hb hby dprog_13_method_7_code_0) k) ?_
  let A114 : Array Slot := #[.val (.ref o0), .val (.int (0 : Int32)), .unset, .unset, .unset, .unset, .unset]
  refine Go.st (S' := s₁.setTop (mkF m 2 A114 [])) (fun t k => XS.istoreN X0.here hx rfl (hb hby dprog_13_method_7_code_1) rfl (l' := A114) rfl k) ?_
  refine Go.st (S' := s₁.setTop (mkF m 3 A114 [(.ref o0)])) (fun t k => XS.aloadN X0.here hx rfl (hb hby dprog_13_method_7_code_2) rfl rfl k) ?_
  obtain ⟨T115, X115, e115, st115⟩ := getF X0 hx hZ hown (host := "") (Or.inl (hw _ (List.mem_of_getElem? (i := 14) rfl))) Via.refl e0 F_o0_words (g := (mkF m 3 A114 [(.ref o0)])) rfl rfl (hb hby dprog_13_method_7_code_3)
  refine Go.st (S' := T115.setTop (mkF m 6 A114 [(.ref o_1)])) st115 ?_
  let A116 : Array Slot := #[.val (.ref o0), .val (.int (0 : Int32)), .val (.ref o_1), .unset, .unset, .unset, .unset]
  refine Go.st (S' := T115.setTop (mkF m 7 A116 [])) (fun t k => XS.astoreN X115.here hx rfl (hb hby dprog_13_method_7_code_6) rfl rfl (l' := A116) rfl k) ?_
  refine Go.st (S' := T115.setTop (mkF m 8 A116 [(.ref o_1)])) (fun t k => XS.aloadN X115.here hx rfl (hb hby dprog_13_method_7_code_7) rfl rfl k) ?_
  obtain ⟨cl117, Ar117, -, S117, N117_, -, -⟩ := id V_o_1
  refine Go.op (F := fun z => T115.setTop (mkF m 9 A116 [(.int z)])) (x := cl117.slots.size.toInt32) (fun t k => X115.arraylength hx (own_eh e115 Ar117.1) (State.isArrayOf_alike hZ.alike Ar117.2.1) (g := (mkF m 8 A116 [(.ref o_1)])) rfl rfl (hb hby dprog_13_method_7_code_8) t k) ?_
  intro v118 hv118
  obtain rfl : z_o_1 = v118 := (hv118.trans (len_of S117 N117_)).symm
  let A119 : Array Slot := #[.val (.ref o0), .val (.int (0 : Int32)), .val (.ref o_1), .val (.int z_o_1), .unset, .unset, .unset]
  refine Go.st (S' := T115.setTop (mkF m 10 A119 [])) (fun t k => XS.istoreN X115.here hx rfl (hb hby dprog_13_method_7_code_9) rfl (l' := A119) rfl k) ?_
  refine Go.st (S' := T115.setTop (mkF m 11 A119 [(.int (0 : Int32))])) (fun t k => XS.iconst X115.here hx rfl (hb hby dprog_13_method_7_code_10) k) ?_
  let A120 : Array Slot := #[.val (.ref o0), .val (.int (0 : Int32)), .val (.ref o_1), .val (.int z_o_1), .val (.int (0 : Int32)), .unset, .unset]
  refine Go.st (S' := T115.setTop (mkF m 13 A120 [])) (fun t k => XS.istore X115.here hx rfl (hb hby dprog_13_method_7_code_11) rfl (l' := A120) rfl k) ?_
  refine Go.st (S' := T115.setTop (mkF m 15 A120 [(.int (0 : Int32))])) (fun t k => XS.iload X115.here hx rfl (hb hby dprog_13_method_7_code_13) rfl k) ?_
  refine Go.st (S' := T115.setTop (mkF m 16 A120 [(.int z_o_1), (.int (0 : Int32))])) (fun t k => XS.iloadN X115.here hx rfl (hb hby dprog_13_method_7_code_15) rfl k) ?_
  by_cases hc121 : ((0 : Int32) < z_o_1)
  · refine Go.st (S' := T115.setTop (mkF m 19 A120 [])) (fun t k => XS.icmpNo X115.here hx rfl (hb hby dprog_13_method_7_code_16) rfl (tlt hc121).2.1 k) ?_
    refine Go.st (S' := T115.setTop (mkF m 20 A120 [(.ref o_1)])) (fun t k => XS.aloadN X115.here hx rfl (hb hby dprog_13_method_7_code_19) rfl rfl k) ?_
    refine Go.st (S' := T115.setTop (mkF m 22 A120 [(.int (0 : Int32)), (.ref o_1)])) (fun t k => XS.iload X115.here hx rfl (hb hby dprog_13_method_7_code_20) rfl k) ?_
    obtain ⟨cl122, Ar122, -, S122, N122_, H122, -⟩ := id V_o_1
    have hin122 : ¬ ((0 : Int32) < 0 ∨ cl122.slots.size ≤ ((0 : Int32)).toNatClampNeg) := inb_of S122 ⟨by decide, hc121⟩
    have hat122 : cl122.slots[((0 : Int32)).toNatClampNeg]? = some (.long e0_o_1) := Has.at H122 hin122 rfl
    refine Go.st (S' := T115.setTop (mkF m 23 A120 [(.long e0_o_1)])) (fun t k => X115.laload hx (j := (0 : Int32)) (v := (.long e0_o_1)) (own_eh e115 Ar122.1) (State.isArrayOf_alike hZ.alike Ar122.2.1) Ar122.2.2 hin122 hat122 (g := (mkF m 22 A120 [(.int (0 : Int32)), (.ref o_1)])) rfl rfl (hb hby dprog_13_method_7_code_22) t k) ?_
    let A123 : Array Slot := #[.val (.ref o0), .val (.int (0 : Int32)), .val (.ref o_1), .val (.int z_o_1), .val (.int (0 : Int32)), .val (.long e0_o_1), .second]
    refine Go.st (S' := T115.setTop (mkF m 25 A123 [])) (fun t k => XS.lstore X115.here hx rfl (hb hby dprog_13_method_7_code_23) rfl (l' := A123) rfl k) ?_
    refine Go.st (S' := T115.setTop (mkF m 26 A123 [(.int (0 : Int32))])) (fun t k => XS.iloadN X115.here hx rfl (hb hby dprog_13_method_7_code_25) rfl k) ?_
    refine Go.st (S' := T115.setTop (mkF m 28 A123 [(.long e0_o_1), (.int (0 : Int32))])) (fun t k => XS.lload X115.here hx rfl (hb hby dprog_13_method_7_code_26) rfl k) ?_
    obtain ⟨v125, hv125⟩ : ∃ z, z = (own_bc e0_o_1) := ⟨_, rfl⟩
    obtain ⟨r124, T124, X124_, hE124, st124⟩ := Jvm.Stand.callS X115 hx (Jvm.Free.JP.Long_bitCount_J.law l e0_o_1) hown (fun w_ hw_ => by simp only [Jvm.Free.XT.staticW, List.mem_cons, List.not_mem_nil, or_false] at hw_; rcases hw_ with rfl | rfl; exact mvT hZ (hw _ (List.mem_of_getElem? (i := 62) rfl)); exact mvT hZ (hw _ (List.mem_of_getElem? (i := 63) rfl))) (own_tab_bc hw hZ) (W := 1) (by decide) (by decide) (by decide) (by decide) (g := (mkF m 28 A123 [(.long e0_o_1), (.int (0 : Int32))])) rfl (by rw [hml]; rfl) (Steps.refl _) (argsL := [(.long e0_o_1)]) (rest := [(.int (0 : Int32))]) rfl rfl (by show 2 * 0 + _ ≤ _; exact Nat.le_of_eq rfl) (hb hby dprog_13_method_7_code_28) ⟨rfl, trivial⟩
    obtain ⟨rfl, eh124⟩ := hE124
    have e124 := eh124.trans e115
    rw [List.append_nil] at X124_
    have X124 : Stand p l e _ s m _ below meth c T124 _ 0 0 := X124_
    refine Go.st (S' := T124.setTop (mkF m 31 A123 [(.int v125), (.int (0 : Int32))])) (by rw [hv125]; exact fun t k => st124.trans k) ?_
    refine Go.op (F := fun z => T124.setTop (mkF m 32 A123 [(.int z)])) (x := ((0 : Int32) + v125)) (fun t k => XS.iadd X124.here hx rfl (hb hby dprog_13_method_7_code_31) rfl k) ?_
    intro v126 hv126
    let A127 : Array Slot := #[.val (.ref o0), .val (.int v126), .val (.ref o_1), .val (.int z_o_1), .val (.int (0 : Int32)), .val (.long e0_o_1), .second]
    refine Go.st (S' := T124.setTop (mkF m 33 A127 [])) (fun t k => XS.istoreN X124.here hx rfl (hb hby dprog_13_method_7_code_32) rfl (l' := A127) rfl k) ?_
    refine Go.op (F := fun z => T124.setTop (mkF m 36 #[.val (.ref o0), .val (.int v126), .val (.ref o_1), .val (.int z_o_1), .val (.int z), .val (.long e0_o_1), .second] [])) (x := ((0 : Int32) + (1 : Int32))) (fun t k => XS.iinc X124.here hx rfl (hb hby dprog_13_method_7_code_33) rfl rfl k) ?_
    intro v128 hv128
    obtain rfl : (1 : Int32) = v128 := (hv128.trans (by decide)).symm
    let A129 : Array Slot := #[.val (.ref o0), .val (.int v126), .val (.ref o_1), .val (.int z_o_1), .val (.int (1 : Int32)), .val (.long e0_o_1), .second]
    refine Go.st (S' := T124.setTop (mkF m 13 A129 [])) (fun t k => XS.goto X124.here hx rfl (pc0 := 36) (pc' := 13) rfl (hb hby dprog_13_method_7_code_36) (by decide) (by decide) k) ?_
    refine Go.st (S' := T124.setTop (mkF m 15 A129 [(.int (1 : Int32))])) (fun t k => XS.iload X124.here hx rfl (hb hby dprog_13_method_7_code_13) rfl k) ?_
    refine Go.st (S' := T124.setTop (mkF m 16 A129 [(.int z_o_1), (.int (1 : Int32))])) (fun t k => XS.iloadN X124.here hx rfl (hb hby dprog_13_method_7_code_15) rfl k) ?_
    by_cases hc130 : ((1 : Int32) < z_o_1)
    · refine Go.st (S' := T124.setTop (mkF m 19 A129 [])) (fun t k => XS.icmpNo X124.here hx rfl (hb hby dprog_13_method_7_code_16) rfl (tlt hc130).2.1 k) ?_
      refine Go.st (S' := T124.setTop (mkF m 20 A129 [(.ref o_1)])) (fun t k => XS.aloadN X124.here hx rfl (hb hby dprog_13_method_7_code_19) rfl rfl k) ?_
      refine Go.st (S' := T124.setTop (mkF m 22 A129 [(.int (1 : Int32)), (.ref o_1)])) (fun t k => XS.iload X124.here hx rfl (hb hby dprog_13_method_7_code_20) rfl k) ?_
      obtain ⟨cl131, Ar131, -, S131, N131_, H131, -⟩ := id V_o_1
      have hin131 : ¬ ((1 : Int32) < 0 ∨ cl131.slots.size ≤ ((1 : Int32)).toNatClampNeg) := inb_of S131 ⟨by decide, hc130⟩
      have hat131 : cl131.slots[((1 : Int32)).toNatClampNeg]? = some (.long e1_o_1) := Has.at H131 hin131 rfl
      refine Go.st (S' := T124.setTop (mkF m 23 A129 [(.long e1_o_1)])) (fun t k => X124.laload hx (j := (1 : Int32)) (v := (.long e1_o_1)) (own_eh e124 Ar131.1) (State.isArrayOf_alike hZ.alike Ar131.2.1) Ar131.2.2 hin131 hat131 (g := (mkF m 22 A129 [(.int (1 : Int32)), (.ref o_1)])) rfl rfl (hb hby dprog_13_method_7_code_22) t k) ?_
      let A132 : Array Slot := #[.val (.ref o0), .val (.int v126), .val (.ref o_1), .val (.int z_o_1), .val (.int (1 : Int32)), .val (.long e1_o_1), .second]
      refine Go.st (S' := T124.setTop (mkF m 25 A132 [])) (fun t k => XS.lstore X124.here hx rfl (hb hby dprog_13_method_7_code_23) rfl (l' := A132) rfl k) ?_
      refine Go.st (S' := T124.setTop (mkF m 26 A132 [(.int v126)])) (fun t k => XS.iloadN X124.here hx rfl (hb hby dprog_13_method_7_code_25) rfl k) ?_
      refine Go.st (S' := T124.setTop (mkF m 28 A132 [(.long e1_o_1), (.int v126)])) (fun t k => XS.lload X124.here hx rfl (hb hby dprog_13_method_7_code_26) rfl k) ?_
      obtain ⟨v134, hv134⟩ : ∃ z, z = (own_bc e1_o_1) := ⟨_, rfl⟩
      obtain ⟨r133, T133, X133_, hE133, st133⟩ := Jvm.Stand.callS X124 hx (Jvm.Free.JP.Long_bitCount_J.law l e1_o_1) hown (fun w_ hw_ => by simp only [Jvm.Free.XT.staticW, List.mem_cons, List.not_mem_nil, or_false] at hw_; rcases hw_ with rfl | rfl; exact mvT hZ (hw _ (List.mem_of_getElem? (i := 62) rfl)); exact mvT hZ (hw _ (List.mem_of_getElem? (i := 63) rfl))) (own_tab_bc hw hZ) (W := 1) (by decide) (by decide) (by decide) (by decide) (g := (mkF m 28 A132 [(.long e1_o_1), (.int v126)])) rfl (by rw [hml]; rfl) (Steps.refl _) (argsL := [(.long e1_o_1)]) (rest := [(.int v126)]) rfl rfl (by show 2 * 0 + _ ≤ _; exact Nat.le_of_eq rfl) (hb hby dprog_13_method_7_code_28) ⟨rfl, trivial⟩
      obtain ⟨rfl, eh133⟩ := hE133
      have e133 := eh133.trans e124
      rw [List.append_nil] at X133_
      have X133 : Stand p l e _ s m _ below meth c T133 _ 0 0 := X133_
      refine Go.st (S' := T133.setTop (mkF m 31 A132 [(.int v134), (.int v126)])) (by rw [hv134]; exact fun t k => st133.trans k) ?_
      refine Go.op (F := fun z => T133.setTop (mkF m 32 A132 [(.int z)])) (x := (v126 + v134)) (fun t k => XS.iadd X133.here hx rfl (hb hby dprog_13_method_7_code_31) rfl k) ?_
      intro v135 hv135
      let A136 : Array Slot := #[.val (.ref o0), .val (.int v135), .val (.ref o_1), .val (.int z_o_1), .val (.int (1 : Int32)), .val (.long e1_o_1), .second]
      refine Go.st (S' := T133.setTop (mkF m 33 A136 [])) (fun t k => XS.istoreN X133.here hx rfl (hb hby dprog_13_method_7_code_32) rfl (l' := A136) rfl k) ?_
      refine Go.op (F := fun z => T133.setTop (mkF m 36 #[.val (.ref o0), .val (.int v135), .val (.ref o_1), .val (.int z_o_1), .val (.int z), .val (.long e1_o_1), .second] [])) (x := ((1 : Int32) + (1 : Int32))) (fun t k => XS.iinc X133.here hx rfl (hb hby dprog_13_method_7_code_33) rfl rfl k) ?_
      intro v137 hv137
      obtain rfl : (2 : Int32) = v137 := (hv137.trans (by decide)).symm
      let A138 : Array Slot := #[.val (.ref o0), .val (.int v135), .val (.ref o_1), .val (.int z_o_1), .val (.int (2 : Int32)), .val (.long e1_o_1), .second]
      refine Go.st (S' := T133.setTop (mkF m 13 A138 [])) (fun t k => XS.goto X133.here hx rfl (pc0 := 36) (pc' := 13) rfl (hb hby dprog_13_method_7_code_36) (by decide) (by decide) k) ?_
      refine Go.st (S' := T133.setTop (mkF m 15 A138 [(.int (2 : Int32))])) (fun t k => XS.iload X133.here hx rfl (hb hby dprog_13_method_7_code_13) rfl k) ?_
      refine Go.st (S' := T133.setTop (mkF m 16 A138 [(.int z_o_1), (.int (2 : Int32))])) (fun t k => XS.iloadN X133.here hx rfl (hb hby dprog_13_method_7_code_15) rfl k) ?_
      by_cases hc139 : ((2 : Int32) < z_o_1)
      · refine Go.st (S' := T133.setTop (mkF m 19 A138 [])) (fun t k => XS.icmpNo X133.here hx rfl (hb hby dprog_13_method_7_code_16) rfl (tlt hc139).2.1 k) ?_
        refine Go.st (S' := T133.setTop (mkF m 20 A138 [(.ref o_1)])) (fun t k => XS.aloadN X133.here hx rfl (hb hby dprog_13_method_7_code_19) rfl rfl k) ?_
        refine Go.st (S' := T133.setTop (mkF m 22 A138 [(.int (2 : Int32)), (.ref o_1)])) (fun t k => XS.iload X133.here hx rfl (hb hby dprog_13_method_7_code_20) rfl k) ?_
        obtain ⟨cl140, Ar140, -, S140, N140_, H140, -⟩ := id V_o_1
        have hin140 : ¬ ((2 : Int32) < 0 ∨ cl140.slots.size ≤ ((2 : Int32)).toNatClampNeg) := inb_of S140 ⟨by decide, hc139⟩
        have hat140 : cl140.slots[((2 : Int32)).toNatClampNeg]? = some (.long e2_o_1) := Has.at H140 hin140 rfl
        refine Go.st (S' := T133.setTop (mkF m 23 A138 [(.long e2_o_1)])) (fun t k => X133.laload hx (j := (2 : Int32)) (v := (.long e2_o_1)) (own_eh e133 Ar140.1) (State.isArrayOf_alike hZ.alike Ar140.2.1) Ar140.2.2 hin140 hat140 (g := (mkF m 22 A138 [(.int (2 : Int32)), (.ref o_1)])) rfl rfl (hb hby dprog_13_method_7_code_22) t k) ?_
        let A141 : Array Slot := #[.val (.ref o0), .val (.int v135), .val (.ref o_1), .val (.int z_o_1), .val (.int (2 : Int32)), .val (.long e2_o_1), .second]
        refine Go.st (S' := T133.setTop (mkF m 25 A141 [])) (fun t k => XS.lstore X133.here hx rfl (hb hby dprog_13_method_7_code_23) rfl (l' := A141) rfl k) ?_
        refine Go.st (S' := T133.setTop (mkF m 26 A141 [(.int v135)])) (fun t k => XS.iloadN X133.here hx rfl (hb hby dprog_13_method_7_code_25) rfl k) ?_
        refine Go.st (S' := T133.setTop (mkF m 28 A141 [(.long e2_o_1), (.int v135)])) (fun t k => XS.lload X133.here hx rfl (hb hby dprog_13_method_7_code_26) rfl k) ?_
        obtain ⟨v143, hv143⟩ : ∃ z, z = (own_bc e2_o_1) := ⟨_, rfl⟩
        obtain ⟨r142, T142, X142_, hE142, st142⟩ := Jvm.Stand.callS X133 hx (Jvm.Free.JP.Long_bitCount_J.law l e2_o_1) hown (fun w_ hw_ => by simp only [Jvm.Free.XT.staticW, List.mem_cons, List.not_mem_nil, or_false] at hw_; rcases hw_ with rfl | rfl; exact mvT hZ (hw _ (List.mem_of_getElem? (i := 62) rfl)); exact mvT hZ (hw _ (List.mem_of_getElem? (i := 63) rfl))) (own_tab_bc hw hZ) (W := 1) (by decide) (by decide) (by decide) (by decide) (g := (mkF m 28 A141 [(.long e2_o_1), (.int v135)])) rfl (by rw [hml]; rfl) (Steps.refl _) (argsL := [(.long e2_o_1)]) (rest := [(.int v135)]) rfl rfl (by show 2 * 0 + _ ≤ _; exact Nat.le_of_eq rfl) (hb hby dprog_13_method_7_code_28) ⟨rfl, trivial⟩
        obtain ⟨rfl, eh142⟩ := hE142
        have e142 := eh142.trans e133
        rw [List.append_nil] at X142_
        have X142 : Stand p l e _ s m _ below meth c T142 _ 0 0 := X142_
        refine Go.st (S' := T142.setTop (mkF m 31 A141 [(.int v143), (.int v135)])) (by rw [hv143]; exact fun t k => st142.trans k) ?_
        refine Go.op (F := fun z => T142.setTop (mkF m 32 A141 [(.int z)])) (x := (v135 + v143)) (fun t k => XS.iadd X142.here hx rfl (hb hby dprog_13_method_7_code_31) rfl k) ?_
        intro v144 hv144
        let A145 : Array Slot := #[.val (.ref o0), .val (.int v144), .val (.ref o_1), .val (.int z_o_1), .val (.int (2 : Int32)), .val (.long e2_o_1), .second]
        refine Go.st (S' := T142.setTop (mkF m 33 A145 [])) (fun t k => XS.istoreN X142.here hx rfl (hb hby dprog_13_method_7_code_32) rfl (l' := A145) rfl k) ?_
        refine Go.op (F := fun z => T142.setTop (mkF m 36 #[.val (.ref o0), .val (.int v144), .val (.ref o_1), .val (.int z_o_1), .val (.int z), .val (.long e2_o_1), .second] [])) (x := ((2 : Int32) + (1 : Int32))) (fun t k => XS.iinc X142.here hx rfl (hb hby dprog_13_method_7_code_33) rfl rfl k) ?_
        intro v146 hv146
        obtain rfl : (3 : Int32) = v146 := (hv146.trans (by decide)).symm
        let A147 : Array Slot := #[.val (.ref o0), .val (.int v144), .val (.ref o_1), .val (.int z_o_1), .val (.int (3 : Int32)), .val (.long e2_o_1), .second]
        refine Go.st (S' := T142.setTop (mkF m 13 A147 [])) (fun t k => XS.goto X142.here hx rfl (pc0 := 36) (pc' := 13) rfl (hb hby dprog_13_method_7_code_36) (by decide) (by decide) k) ?_
        refine Go.st (S' := T142.setTop (mkF m 15 A147 [(.int (3 : Int32))])) (fun t k => XS.iload X142.here hx rfl (hb hby dprog_13_method_7_code_13) rfl k) ?_
        refine Go.st (S' := T142.setTop (mkF m 16 A147 [(.int z_o_1), (.int (3 : Int32))])) (fun t k => XS.iloadN X142.here hx rfl (hb hby dprog_13_method_7_code_15) rfl k) ?_
        by_cases hc148 : ((3 : Int32) < z_o_1)
        · refine Go.st (S' := T142.setTop (mkF m 19 A147 [])) (fun t k => XS.icmpNo X142.here hx rfl (hb hby dprog_13_method_7_code_16) rfl (tlt hc148).2.1 k) ?_
          refine Go.st (S' := T142.setTop (mkF m 20 A147 [(.ref o_1)])) (fun t k => XS.aloadN X142.here hx rfl (hb hby dprog_13_method_7_code_19) rfl rfl k) ?_
          refine Go.st (S' := T142.setTop (mkF m 22 A147 [(.int (3 : Int32)), (.ref o_1)])) (fun t k => XS.iload X142.here hx rfl (hb hby dprog_13_method_7_code_20) rfl k) ?_
          obtain ⟨cl149, Ar149, -, S149, N149_, H149, -⟩ := id V_o_1
          have hin149 : ¬ ((3 : Int32) < 0 ∨ cl149.slots.size ≤ ((3 : Int32)).toNatClampNeg) := inb_of S149 ⟨by decide, hc148⟩
          have hat149 : cl149.slots[((3 : Int32)).toNatClampNeg]? = some (.long e3_o_1) := Has.at H149 hin149 rfl
          refine Go.st (S' := T142.setTop (mkF m 23 A147 [(.long e3_o_1)])) (fun t k => X142.laload hx (j := (3 : Int32)) (v := (.long e3_o_1)) (own_eh e142 Ar149.1) (State.isArrayOf_alike hZ.alike Ar149.2.1) Ar149.2.2 hin149 hat149 (g := (mkF m 22 A147 [(.int (3 : Int32)), (.ref o_1)])) rfl rfl (hb hby dprog_13_method_7_code_22) t k) ?_
          let A150 : Array Slot := #[.val (.ref o0), .val (.int v144), .val (.ref o_1), .val (.int z_o_1), .val (.int (3 : Int32)), .val (.long e3_o_1), .second]
          refine Go.st (S' := T142.setTop (mkF m 25 A150 [])) (fun t k => XS.lstore X142.here hx rfl (hb hby dprog_13_method_7_code_23) rfl (l' := A150) rfl k) ?_
          refine Go.st (S' := T142.setTop (mkF m 26 A150 [(.int v144)])) (fun t k => XS.iloadN X142.here hx rfl (hb hby dprog_13_method_7_code_25) rfl k) ?_
          refine Go.st (S' := T142.setTop (mkF m 28 A150 [(.long e3_o_1), (.int v144)])) (fun t k => XS.lload X142.here hx rfl (hb hby dprog_13_method_7_code_26) rfl k) ?_
          obtain ⟨v152, hv152⟩ : ∃ z, z = (own_bc e3_o_1) := ⟨_, rfl⟩
          obtain ⟨r151, T151, X151_, hE151, st151⟩ := Jvm.Stand.callS X142 hx (Jvm.Free.JP.Long_bitCount_J.law l e3_o_1) hown (fun w_ hw_ => by simp only [Jvm.Free.XT.staticW, List.mem_cons, List.not_mem_nil, or_false] at hw_; rcases hw_ with rfl | rfl; exact mvT hZ (hw _ (List.mem_of_getElem? (i := 62) rfl)); exact mvT hZ (hw _ (List.mem_of_getElem? (i := 63) rfl))) (own_tab_bc hw hZ) (W := 1) (by decide) (by decide) (by decide) (by decide) (g := (mkF m 28 A150 [(.long e3_o_1), (.int v144)])) rfl (by rw [hml]; rfl) (Steps.refl _) (argsL := [(.long e3_o_1)]) (rest := [(.int v144)]) rfl rfl (by show 2 * 0 + _ ≤ _; exact Nat.le_of_eq rfl) (hb hby dprog_13_method_7_code_28) ⟨rfl, trivial⟩
          obtain ⟨rfl, eh151⟩ := hE151
          have e151 := eh151.trans e142
          rw [List.append_nil] at X151_
          have X151 : Stand p l e _ s m _ below meth c T151 _ 0 0 := X151_
          refine Go.st (S' := T151.setTop (mkF m 31 A150 [(.int v152), (.int v144)])) (by rw [hv152]; exact fun t k => st151.trans k) ?_
          refine Go.op (F := fun z => T151.setTop (mkF m 32 A150 [(.int z)])) (x := (v144 + v152)) (fun t k => XS.iadd X151.here hx rfl (hb hby dprog_13_method_7_code_31) rfl k) ?_
          intro v153 hv153
          let A154 : Array Slot := #[.val (.ref o0), .val (.int v153), .val (.ref o_1), .val (.int z_o_1), .val (.int (3 : Int32)), .val (.long e3_o_1), .second]
          refine Go.st (S' := T151.setTop (mkF m 33 A154 [])) (fun t k => XS.istoreN X151.here hx rfl (hb hby dprog_13_method_7_code_32) rfl (l' := A154) rfl k) ?_
          refine Go.op (F := fun z => T151.setTop (mkF m 36 #[.val (.ref o0), .val (.int v153), .val (.ref o_1), .val (.int z_o_1), .val (.int z), .val (.long e3_o_1), .second] [])) (x := ((3 : Int32) + (1 : Int32))) (fun t k => XS.iinc X151.here hx rfl (hb hby dprog_13_method_7_code_33) rfl rfl k) ?_
          intro v155 hv155
          obtain rfl : (4 : Int32) = v155 := (hv155.trans (by decide)).symm
          let A156 : Array Slot := #[.val (.ref o0), .val (.int v153), .val (.ref o_1), .val (.int z_o_1), .val (.int (4 : Int32)), .val (.long e3_o_1), .second]
          refine Go.st (S' := T151.setTop (mkF m 13 A156 [])) (fun t k => XS.goto X151.here hx rfl (pc0 := 36) (pc' := 13) rfl (hb hby dprog_13_method_7_code_36) (by decide) (by decide) k) ?_
          refine Go.st (S' := T151.setTop (mkF m 15 A156 [(.int (4 : Int32))])) (fun t k => XS.iload X151.here hx rfl (hb hby dprog_13_method_7_code_13) rfl k) ?_
          refine Go.st (S' := T151.setTop (mkF m 16 A156 [(.int z_o_1), (.int (4 : Int32))])) (fun t k => XS.iloadN X151.here hx rfl (hb hby dprog_13_method_7_code_15) rfl k) ?_
          refine Go.st (S' := T151.setTop (mkF m 39 A156 [])) (fun t k => XS.icmpYes X151.here hx rfl (pc0 := 16) (pc' := 39) rfl (hb hby dprog_13_method_7_code_16) rfl (flt hrb_z_o_1).2.1 (by decide) (by decide) k) ?_
          have hq157 : v153 = own_size e0_o_1 e1_o_1 e2_o_1 e3_o_1 := by
            unfold own_size
            rw [hv153, hv144, hv135, hv126, hv125, hv134, hv143, hv152]
          refine Go.st (S' := T151.setTop (mkF m 40 A156 [(.int v153)])) (fun t k => XS.iloadN X151.here hx rfl (hb hby dprog_13_method_7_code_39) rfl k) ?_
          exact Go.ret X151 (v := some (.int v153)) (fun h => by rw [Bd.returns] at h; cases h) Bd.notSynchronized (fun fs hr => retI X151 hx Bd.returns (hb hby dprog_13_method_7_code_40) hr) (by decide) (by decide) (⟨v153, hq157, rfl, N0, e151⟩)
        · refine Go.st (S' := T142.setTop (mkF m 39 A147 [])) (fun t k => XS.icmpYes X142.here hx rfl (pc0 := 16) (pc' := 39) rfl (hb hby dprog_13_method_7_code_16) rfl (flt hc148).2.1 (by decide) (by decide) k) ?_
          have hq158 : v144 = own_size e0_o_1 e1_o_1 e2_o_1 e3_o_1 := by
            unfold own_size
            rw [(inv_o_1.2.2.2.resolve_left hc148), own_bc0]
            simp only [Int32.add_zero]
            rw [hv144, hv135, hv126, hv125, hv134, hv143]
          refine Go.st (S' := T142.setTop (mkF m 40 A147 [(.int v144)])) (fun t k => XS.iloadN X142.here hx rfl (hb hby dprog_13_method_7_code_39) rfl k) ?_
          exact Go.ret X142 (v := some (.int v144)) (fun h => by rw [Bd.returns] at h; cases h) Bd.notSynchronized (fun fs hr => retI X142 hx Bd.returns (hb hby dprog_13_method_7_code_40) hr) (by decide) (by decide) (⟨v144, hq158, rfl, N0, e142⟩)
      · refine Go.st (S' := T133.setTop (mkF m 39 A138 [])) (fun t k => XS.icmpYes X133.here hx rfl (pc0 := 16) (pc' := 39) rfl (hb hby dprog_13_method_7_code_16) rfl (flt hc139).2.1 (by decide) (by decide) k) ?_
        have hi159 : (¬ ((3 : Int32) < z_o_1)) := by
          intro hc160
          exact ar_5 z_o_1 hra_z_o_1 hrb_z_o_1 hc121 hc130 hc139 hc160
        have hq161 : v135 = own_size e0_o_1 e1_o_1 e2_o_1 e3_o_1 := by
          unfold own_size
          rw [(inv_o_1.2.2.1.resolve_left hc139), (inv_o_1.2.2.2.resolve_left hi159), own_bc0]
          simp only [Int32.add_zero]
          rw [hv135, hv126, hv125, hv134]
        refine Go.st (S' := T133.setTop (mkF m 40 A138 [(.int v135)])) (fun t k => XS.iloadN X133.here hx rfl (hb hby dprog_13_method_7_code_39) rfl k) ?_
        exact Go.ret X133 (v := some (.int v135)) (fun h => by rw [Bd.returns] at h; cases h) Bd.notSynchronized (fun fs hr => retI X133 hx Bd.returns (hb hby dprog_13_method_7_code_40) hr) (by decide) (by decide) (⟨v135, hq161, rfl, N0, e133⟩)
    · refine Go.st (S' := T124.setTop (mkF m 39 A129 [])) (fun t k => XS.icmpYes X124.here hx rfl (pc0 := 16) (pc' := 39) rfl (hb hby dprog_13_method_7_code_16) rfl (flt hc130).2.1 (by decide) (by decide) k) ?_
      have hi162 : (¬ ((2 : Int32) < z_o_1)) := by
        intro hc163
        exact ar_6 z_o_1 hra_z_o_1 hrb_z_o_1 hc121 hc130 hc163
      have hi164 : (¬ ((3 : Int32) < z_o_1)) := by
        intro hc165
        exact ar_7 z_o_1 hra_z_o_1 hrb_z_o_1 hc121 hc130 hi162 hc165
      have hq166 : v126 = own_size e0_o_1 e1_o_1 e2_o_1 e3_o_1 := by
        unfold own_size
        rw [(inv_o_1.2.1.resolve_left hc130), (inv_o_1.2.2.1.resolve_left hi162), (inv_o_1.2.2.2.resolve_left hi164), own_bc0]
        simp only [Int32.add_zero]
        rw [hv126, hv125]
      refine Go.st (S' := T124.setTop (mkF m 40 A129 [(.int v126)])) (fun t k => XS.iloadN X124.here hx rfl (hb hby dprog_13_method_7_code_39) rfl k) ?_
      exact Go.ret X124 (v := some (.int v126)) (fun h => by rw [Bd.returns] at h; cases h) Bd.notSynchronized (fun fs hr => retI X124 hx Bd.returns (hb hby dprog_13_method_7_code_40) hr) (by decide) (by decide) (⟨v126, hq166, rfl, N0, e124⟩)
  · refine Go.st (S' := T115.setTop (mkF m 39 A120 [])) (fun t k => XS.icmpYes X115.here hx rfl (pc0 := 16) (pc' := 39) rfl (hb hby dprog_13_method_7_code_16) rfl (flt hc121).2.1 (by decide) (by decide) k) ?_
    have hi167 : (¬ ((1 : Int32) < z_o_1)) := by
      intro hc168
      exact ar_8 z_o_1 hra_z_o_1 hrb_z_o_1 hc121 hc168
    have hi169 : (¬ ((2 : Int32) < z_o_1)) := by
      intro hc170
      exact ar_9 z_o_1 hra_z_o_1 hrb_z_o_1 hc121 hi167 hc170
    have hi171 : (¬ ((3 : Int32) < z_o_1)) := by
      intro hc172
      exact ar_10 z_o_1 hra_z_o_1 hrb_z_o_1 hc121 hi167 hi169 hc172
    have hq173 : (0 : Int32) = own_size e0_o_1 e1_o_1 e2_o_1 e3_o_1 := by
      unfold own_size
      rw [(inv_o_1.1.resolve_left hc121), (inv_o_1.2.1.resolve_left hi167), (inv_o_1.2.2.1.resolve_left hi169), (inv_o_1.2.2.2.resolve_left hi171), own_bc0]
      simp only [Int32.add_zero]
    refine Go.st (S' := T115.setTop (mkF m 40 A120 [(.int (0 : Int32))])) (fun t k => XS.iloadN X115.here hx rfl (hb hby dprog_13_method_7_code_39) rfl k) ?_
    exact Go.ret X115 (v := some (.int (0 : Int32))) (fun h => by rw [Bd.returns] at h; cases h) Bd.notSynchronized (fun fs hr => retI X115 hx Bd.returns (hb hby dprog_13_method_7_code_40) hr) (by decide) (by decide) (⟨(0 : Int32), hq173, rfl, N0, e115⟩)
theorem ef_5 (m : MethodId) (o0 : Addr) : entryFrame m #[(.ref o0), (.int (0 : Int32))] 5 = mkF m 0 #[.val (.ref o0), .val (.int (0 : Int32)), .unset, .unset, .unset] [] := by first | (simp [entryFrame, mkF, argsToLocals, Value.category, maxLocals]; done) | rfl
def Q5 (Z : State) (o0 : Addr) (o_1 : Addr) (k_o_1 : ClassId) (z_o_1 : Int32) (e0_o_1 : Int64) (e1_o_1 : Int64) (e2_o_1 : Int64) (e3_o_1 : Int64) (h0 : Heap) (n0 : Nat) (v : Option Value) (h : Heap) (L : List Loc) : Prop := ∃ r : Int32, (r = own_first (e0_o_1) (e1_o_1) (e2_o_1) (e3_o_1)) ∧ v = some (.int r) ∧ Fr n0 L ∧ h = h0
set_option maxRecDepth 65536 in
set_option maxHeartbeats 40000000 in
theorem rm5 (l : Launch) (Z : State) (a0 : Array Value) (hw : ∀ d ∈ tables_1, d.before a0 Z = true) (ws : List Jvm.Cond) (o0 : Addr) (o_1 : Addr) (k_o_1 : ClassId) (z_o_1 : Int32) (e0_o_1 : Int64) (e1_o_1 : Int64) (e2_o_1 : Int64) (e3_o_1 : Int64) (h0 : Heap) (n0 : Nat) (Z0 : n0 ≤ h0.size) (F_o0_words : Fld Z h0 o0 "com/example/heaplens/heaplens/sharing/VarSet" "words" "[J" (.ref o_1)) (hra_z_o_1 : (¬ (z_o_1 < (0 : Int32)))) (hrb_z_o_1 : (¬ ((4 : Int32) < z_o_1))) (V_o_1 : Arv Z h0 o_1 k_o_1 .long z_o_1 [(.long e0_o_1), (.long e1_o_1), (.long e2_o_1), (.long e3_o_1)] (.long (0 : Int64))) (inv_o_1 : ((0 : Int32) < z_o_1 ∨ e0_o_1 = (0 : Int64)) ∧ ((1 : Int32) < z_o_1 ∨ e1_o_1 = (0 : Int64)) ∧ ((2 : Int32) < z_o_1 ∨ e2_o_1 = (0 : Int64)) ∧ ((3 : Int32) < z_o_1 ∨ e3_o_1 = (0 : Int64))) :
    Con l Z (⟨"com/example/heaplens/heaplens/sharing/VarSet", "next", "(I)I"⟩ : MethodName) prog_13_method_10_code 5 (some .int) ws ({ frames := 2, cells := 0, slots := 0, locals := 29 } : Room) #[(.ref o0), (.int (0 : Int32))] h0 0 0 (Q5 Z o0 o_1 k_o_1 z_o_1 e0_o_1 e1_o_1 e2_o_1 e3_o_1 h0 n0) := by
  refine MetFree.of_bodySF (plainFor_of_name pn_0) hisR ?_
  intro p e s m args below meth c s₁ Bd hml0 hP hK
  obtain ⟨rfl, hZ, hh⟩ := hP
  have hx := Bd.exec
  have hby := Bd.bytes
  have hml : c.maxLocals = 5 := hml0
  have hown : s.vm.findClass "com/example/heaplens/heaplens/sharing/VarSet" = some m.cls := findClass_of_methodNamed Bd.named
  have hnm := (name_of_methodNamed Bd.named Bd.method).1
  have X0 : Stand p l e ({ frames := 2, cells := 0, slots := 0, locals := 29 } : Room) s m #[(.ref o0), (.int (0 : Int32))] below meth c s₁ [] 0 0 := Stand.of_body Bd
  have e0 : s₁.heap = h0 := by rw [← hh, Bd.state]; rfl
  have N0 := Fr.nil n0
  refine Go.of ?_
  refine Go.st (S' := s₁.setTop (mkF m 0 #[.val (.ref o0), .val (.int (0 : Int32)), .unset, .unset, .unset] [])) (fun t k => castTop (ef_5 m o0) k) ?_
  let A179 : Array Slot := #[.val (.ref o0), .val (.int (0 : Int32)), .unset, .unset, .unset]
  refine Go.st (S' := s₁.setTop (mkF m 1 A179 [(.int (0 : Int32))])) (fun t k => XS.iloadN X0.here hx rfl (hb hby dprog_13_method_10_code_0) rfl k) ?_
  refine Go.st (S' := s₁.setTop (mkF m 3 A179 [(.int (6 : Int32)), (.int (0 : Int32))])) (fun t k => XS.bipush X0.here hx rfl (hb hby dprog_13_method_10_code_1) k) ?_
  refine Go.op (F := fun z => s₁.setTop (mkF m 4 A179 [(.int z)])) (x := ((0 : Int32) >>> ((6 : Int32) &&& 31))) (fun t k => XS.ishr X0.here hx rfl (hb hby dprog_13_method_10_code_3) rfl k) ?_
  intro v180 hv180
  obtain rfl : (0 : Int32) = v180 := (hv180.trans (by decide)).symm
  let A181 : Array Slot := #[.val (.ref o0), .val (.int (0 : Int32)), .val (.int (0 : Int32)), .unset, .unset]
  refine Go.st (S' := s₁.setTop (mkF m 5 A181 [])) (fun t k => XS.istoreN X0.here hx rfl (hb hby dprog_13_method_10_code_4) rfl (l' := A181) rfl k) ?_
  refine Go.st (S' := s₁.setTop (mkF m 6 A181 [(.int (0 : Int32))])) (fun t k => XS.iloadN X0.here hx rfl (hb hby dprog_13_method_10_code_5) rfl k) ?_
  refine Go.st (S' := s₁.setTop (mkF m 7 A181 [(.ref o0), (.int (0 : Int32))])) (fun t k => XS.aloadN X0.here hx rfl (hb hby dprog_13_method_10_code_6) rfl rfl k) ?_
  obtain ⟨T182, X182, e182, st182⟩ := getF X0 hx hZ hown (host := "") (Or.inl (hw _ (List.mem_of_getElem? (i := 14) rfl))) Via.refl e0 F_o0_words (g := (mkF m 7 A181 [(.ref o0), (.int (0 : Int32))])) rfl rfl (hb hby dprog_13_method_10_code_7)
  refine Go.st (S' := T182.setTop (mkF m 10 A181 [(.ref o_1), (.int (0 : Int32))])) st182 ?_
  obtain ⟨cl183, Ar183, -, S183, N183_, -, -⟩ := id V_o_1
  refine Go.op (F := fun z => T182.setTop (mkF m 11 A181 [(.int z), (.int (0 : Int32))])) (x := cl183.slots.size.toInt32) (fun t k => X182.arraylength hx (own_eh e182 Ar183.1) (State.isArrayOf_alike hZ.alike Ar183.2.1) (g := (mkF m 10 A181 [(.ref o_1), (.int (0 : Int32))])) rfl rfl (hb hby dprog_13_method_10_code_10) t k) ?_
  intro v184 hv184
  obtain rfl : z_o_1 = v184 := (hv184.trans (len_of S183 N183_)).symm
  by_cases hc185 : ((0 : Int32) < z_o_1)
  · refine Go.st (S' := T182.setTop (mkF m 16 A181 [])) (fun t k => XS.icmpYes X182.here hx rfl (pc0 := 11) (pc' := 16) rfl (hb hby dprog_13_method_10_code_11) rfl (tlt hc185).1 (by decide) (by decide) k) ?_
    refine Go.st (S' := T182.setTop (mkF m 17 A181 [(.ref o0)])) (fun t k => XS.aloadN X182.here hx rfl (hb hby dprog_13_method_10_code_16) rfl rfl k) ?_
    obtain ⟨T186, X186, e186, st186⟩ := getF X182 hx hZ hown (host := "") (Or.inl (hw _ (List.mem_of_getElem? (i := 14) rfl))) Via.refl e182 F_o0_words (g := (mkF m 17 A181 [(.ref o0)])) rfl rfl (hb hby dprog_13_method_10_code_17)
    refine Go.st (S' := T186.setTop (mkF m 20 A181 [(.ref o_1)])) st186 ?_
    refine Go.st (S' := T186.setTop (mkF m 21 A181 [(.int (0 : Int32)), (.ref o_1)])) (fun t k => XS.iloadN X186.here hx rfl (hb hby dprog_13_method_10_code_20) rfl k) ?_
    obtain ⟨cl187, Ar187, -, S187, N187_, H187, -⟩ := id V_o_1
    have hin187 : ¬ ((0 : Int32) < 0 ∨ cl187.slots.size ≤ ((0 : Int32)).toNatClampNeg) := inb_of S187 ⟨by decide, hc185⟩
    have hat187 : cl187.slots[((0 : Int32)).toNatClampNeg]? = some (.long e0_o_1) := Has.at H187 hin187 rfl
    refine Go.st (S' := T186.setTop (mkF m 22 A181 [(.long e0_o_1)])) (fun t k => X186.laload hx (j := (0 : Int32)) (v := (.long e0_o_1)) (own_eh e186 Ar187.1) (State.isArrayOf_alike hZ.alike Ar187.2.1) Ar187.2.2 hin187 hat187 (g := (mkF m 21 A181 [(.int (0 : Int32)), (.ref o_1)])) rfl rfl (hb hby dprog_13_method_10_code_21) t k) ?_
    refine Go.st (S' := T186.setTop (mkF m 25 A181 [(.long (-1 : Int64)), (.long e0_o_1)])) (fun t k => X186.ldc2Long hx hown (mvT hZ (hw _ (List.mem_of_getElem? (i := 69) rfl))) (g := (mkF m 22 A181 [(.long e0_o_1)])) rfl (hb hby dprog_13_method_10_code_22) t k) ?_
    refine Go.st (S' := T186.setTop (mkF m 26 A181 [(.int (0 : Int32)), (.long (-1 : Int64)), (.long e0_o_1)])) (fun t k => XS.iloadN X186.here hx rfl (hb hby dprog_13_method_10_code_25) rfl k) ?_
    refine Go.op (F := fun z => T186.setTop (mkF m 27 A181 [(.long z), (.long e0_o_1)])) (x := ((-1 : Int64) <<< ((0 : Int32) &&& 0x3f).toInt64)) (fun t k => XS.lshl X186.here hx rfl (hb hby dprog_13_method_10_code_26) rfl k) ?_
    intro v188 hv188
    obtain rfl : (-1 : Int64) = v188 := (hv188.trans (by decide)).symm
    refine Go.op (F := fun z => T186.setTop (mkF m 28 A181 [(.long z)])) (x := (e0_o_1 &&& (-1 : Int64))) (fun t k => XS.land X186.here hx rfl (hb hby dprog_13_method_10_code_27) rfl k) ?_
    intro v189 hv189
    have hu190 : e0_o_1 = v189 := (own_am1 _).symm.trans hv189.symm
    obtain rfl : e0_o_1 = v189 := hu190
    let A191 : Array Slot := #[.val (.ref o0), .val (.int (0 : Int32)), .val (.int (0 : Int32)), .val (.long e0_o_1), .second]
    refine Go.st (S' := T186.setTop (mkF m 29 A191 [])) (fun t k => XS.lstoreN X186.here hx rfl (hb hby dprog_13_method_10_code_28) rfl (l' := A191) rfl k) ?_
    refine Go.st (S' := T186.setTop (mkF m 30 A191 [(.long e0_o_1)])) (fun t k => XS.lloadN X186.here hx rfl (hb hby dprog_13_method_10_code_29) rfl k) ?_
    refine Go.st (S' := T186.setTop (mkF m 31 A191 [(.long (0 : Int64)), (.long e0_o_1)])) (fun t k => XS.lconst X186.here hx rfl (hb hby dprog_13_method_10_code_30) k) ?_
    refine Go.op (F := fun z => T186.setTop (mkF m 32 A191 [(.int z)])) (x := (lcmpW e0_o_1 (0 : Int64))) (fun t k => XS.lcmp X186.here hx rfl (hb hby dprog_13_method_10_code_31) rfl k) ?_
    intro v192 hv192
    by_cases hc193 : (e0_o_1 = (0 : Int64))
    · refine Go.st (S' := T186.setTop (mkF m 45 A191 [])) (fun t k => XS.ifYes X186.here hx rfl (pc0 := 32) (pc' := 45) rfl (hb hby dprog_13_method_10_code_32) rfl ((if0 _ _).trans (teq (by rw [hv192]; exact (lw_eq _ _).2 hc193)).1) (by decide) (by decide) k) ?_
      refine Go.op (F := fun z => T186.setTop (mkF m 48 #[.val (.ref o0), .val (.int (0 : Int32)), .val (.int z), .val (.long e0_o_1), .second] [])) (x := ((0 : Int32) + (1 : Int32))) (fun t k => XS.iinc X186.here hx rfl (hb hby dprog_13_method_10_code_45) rfl rfl k) ?_
      intro v194 hv194
      obtain rfl : (1 : Int32) = v194 := (hv194.trans (by decide)).symm
      let A195 : Array Slot := #[.val (.ref o0), .val (.int (0 : Int32)), .val (.int (1 : Int32)), .val (.long e0_o_1), .second]
      refine Go.st (S' := T186.setTop (mkF m 49 A195 [(.int (1 : Int32))])) (fun t k => XS.iloadN X186.here hx rfl (hb hby dprog_13_method_10_code_48) rfl k) ?_
      refine Go.st (S' := T186.setTop (mkF m 50 A195 [(.ref o0), (.int (1 : Int32))])) (fun t k => XS.aloadN X186.here hx rfl (hb hby dprog_13_method_10_code_49) rfl rfl k) ?_
      obtain ⟨T196, X196, e196, st196⟩ := getF X186 hx hZ hown (host := "") (Or.inl (hw _ (List.mem_of_getElem? (i := 14) rfl))) Via.refl e186 F_o0_words (g := (mkF m 50 A195 [(.ref o0), (.int (1 : Int32))])) rfl rfl (hb hby dprog_13_method_10_code_50)
      refine Go.st (S' := T196.setTop (mkF m 53 A195 [(.ref o_1), (.int (1 : Int32))])) st196 ?_
      obtain ⟨cl197, Ar197, -, S197, N197_, -, -⟩ := id V_o_1
      refine Go.op (F := fun z => T196.setTop (mkF m 54 A195 [(.int z), (.int (1 : Int32))])) (x := cl197.slots.size.toInt32) (fun t k => X196.arraylength hx (own_eh e196 Ar197.1) (State.isArrayOf_alike hZ.alike Ar197.2.1) (g := (mkF m 53 A195 [(.ref o_1), (.int (1 : Int32))])) rfl rfl (hb hby dprog_13_method_10_code_53) t k) ?_
      intro v198 hv198
      obtain rfl : z_o_1 = v198 := (hv198.trans (len_of S197 N197_)).symm
      by_cases hc199 : ((1 : Int32) = z_o_1)
      · refine Go.st (S' := T196.setTop (mkF m 57 A195 [])) (fun t k => XS.icmpNo X196.here hx rfl (hb hby dprog_13_method_10_code_54) rfl (teq hc199).2 k) ?_
        refine Go.st (S' := T196.setTop (mkF m 58 A195 [(.int (-1 : Int32))])) (fun t k => XS.iconst X196.here hx rfl (hb hby dprog_13_method_10_code_57) k) ?_
        have hi201 : (¬ ((1 : Int32) < z_o_1)) := by
          intro hc202
          exact ar_11 z_o_1 hra_z_o_1 hrb_z_o_1 hc185 hc199 hc202
        have hi203 : (¬ ((2 : Int32) < z_o_1)) := by
          intro hc204
          exact ar_12 z_o_1 hra_z_o_1 hrb_z_o_1 hc185 hc199 hi201 hc204
        have hi205 : (¬ ((3 : Int32) < z_o_1)) := by
          intro hc206
          exact ar_13 z_o_1 hra_z_o_1 hrb_z_o_1 hc185 hc199 hi201 hi203 hc206
        have hq200 : (-1 : Int32) = own_first e0_o_1 e1_o_1 e2_o_1 e3_o_1 := by
          unfold own_first
          rw [if_pos hc193, if_pos (inv_o_1.2.1.resolve_left hi201), if_pos (inv_o_1.2.2.1.resolve_left hi203), if_pos (inv_o_1.2.2.2.resolve_left hi205)]
        exact Go.ret X196 (v := some (.int (-1 : Int32))) (fun h => by rw [Bd.returns] at h; cases h) Bd.notSynchronized (fun fs hr => retI X196 hx Bd.returns (hb hby dprog_13_method_10_code_58) hr) (by decide) (by decide) (⟨(-1 : Int32), hq200, rfl, N0, e196⟩)
      · refine Go.st (S' := T196.setTop (mkF m 59 A195 [])) (fun t k => XS.icmpYes X196.here hx rfl (pc0 := 54) (pc' := 59) rfl (hb hby dprog_13_method_10_code_54) rfl (feq hc199).2 (by decide) (by decide) k) ?_
        refine Go.st (S' := T196.setTop (mkF m 60 A195 [(.ref o0)])) (fun t k => XS.aloadN X196.here hx rfl (hb hby dprog_13_method_10_code_59) rfl rfl k) ?_
        obtain ⟨T207, X207, e207, st207⟩ := getF X196 hx hZ hown (host := "") (Or.inl (hw _ (List.mem_of_getElem? (i := 14) rfl))) Via.refl e196 F_o0_words (g := (mkF m 60 A195 [(.ref o0)])) rfl rfl (hb hby dprog_13_method_10_code_60)
        refine Go.st (S' := T207.setTop (mkF m 63 A195 [(.ref o_1)])) st207 ?_
        refine Go.st (S' := T207.setTop (mkF m 64 A195 [(.int (1 : Int32)), (.ref o_1)])) (fun t k => XS.iloadN X207.here hx rfl (hb hby dprog_13_method_10_code_63) rfl k) ?_
        obtain ⟨cl208, Ar208, -, S208, N208_, H208, -⟩ := id V_o_1
        have hi209 : ((1 : Int32) < z_o_1) := by
          refine Decidable.byContradiction fun hc210 => ?_
          exact ar_14 z_o_1 hra_z_o_1 hrb_z_o_1 hc185 hc199 hc210
        have hin208 : ¬ ((1 : Int32) < 0 ∨ cl208.slots.size ≤ ((1 : Int32)).toNatClampNeg) := inb_of S208 ⟨by decide, hi209⟩
        have hat208 : cl208.slots[((1 : Int32)).toNatClampNeg]? = some (.long e1_o_1) := Has.at H208 hin208 rfl
        refine Go.st (S' := T207.setTop (mkF m 65 A195 [(.long e1_o_1)])) (fun t k => X207.laload hx (j := (1 : Int32)) (v := (.long e1_o_1)) (own_eh e207 Ar208.1) (State.isArrayOf_alike hZ.alike Ar208.2.1) Ar208.2.2 hin208 hat208 (g := (mkF m 64 A195 [(.int (1 : Int32)), (.ref o_1)])) rfl rfl (hb hby dprog_13_method_10_code_64) t k) ?_
        let A211 : Array Slot := #[.val (.ref o0), .val (.int (0 : Int32)), .val (.int (1 : Int32)), .val (.long e1_o_1), .second]
        refine Go.st (S' := T207.setTop (mkF m 66 A211 [])) (fun t k => XS.lstoreN X207.here hx rfl (hb hby dprog_13_method_10_code_65) rfl (l' := A211) rfl k) ?_
        refine Go.st (S' := T207.setTop (mkF m 29 A211 [])) (fun t k => XS.goto X207.here hx rfl (pc0 := 66) (pc' := 29) rfl (hb hby dprog_13_method_10_code_66) (by decide) (by decide) k) ?_
        refine Go.st (S' := T207.setTop (mkF m 30 A211 [(.long e1_o_1)])) (fun t k => XS.lloadN X207.here hx rfl (hb hby dprog_13_method_10_code_29) rfl k) ?_
        refine Go.st (S' := T207.setTop (mkF m 31 A211 [(.long (0 : Int64)), (.long e1_o_1)])) (fun t k => XS.lconst X207.here hx rfl (hb hby dprog_13_method_10_code_30) k) ?_
        refine Go.op (F := fun z => T207.setTop (mkF m 32 A211 [(.int z)])) (x := (lcmpW e1_o_1 (0 : Int64))) (fun t k => XS.lcmp X207.here hx rfl (hb hby dprog_13_method_10_code_31) rfl k) ?_
        intro v212 hv212
        by_cases hc213 : (e1_o_1 = (0 : Int64))
        · refine Go.st (S' := T207.setTop (mkF m 45 A211 [])) (fun t k => XS.ifYes X207.here hx rfl (pc0 := 32) (pc' := 45) rfl (hb hby dprog_13_method_10_code_32) rfl ((if0 _ _).trans (teq (by rw [hv212]; exact (lw_eq _ _).2 hc213)).1) (by decide) (by decide) k) ?_
          refine Go.op (F := fun z => T207.setTop (mkF m 48 #[.val (.ref o0), .val (.int (0 : Int32)), .val (.int z), .val (.long e1_o_1), .second] [])) (x := ((1 : Int32) + (1 : Int32))) (fun t k => XS.iinc X207.here hx rfl (hb hby dprog_13_method_10_code_45) rfl rfl k) ?_
          intro v214 hv214
          obtain rfl : (2 : Int32) = v214 := (hv214.trans (by decide)).symm
          let A215 : Array Slot := #[.val (.ref o0), .val (.int (0 : Int32)), .val (.int (2 : Int32)), .val (.long e1_o_1), .second]
          refine Go.st (S' := T207.setTop (mkF m 49 A215 [(.int (2 : Int32))])) (fun t k => XS.iloadN X207.here hx rfl (hb hby dprog_13_method_10_code_48) rfl k) ?_
          refine Go.st (S' := T207.setTop (mkF m 50 A215 [(.ref o0), (.int (2 : Int32))])) (fun t k => XS.aloadN X207.here hx rfl (hb hby dprog_13_method_10_code_49) rfl rfl k) ?_
          obtain ⟨T216, X216, e216, st216⟩ := getF X207 hx hZ hown (host := "") (Or.inl (hw _ (List.mem_of_getElem? (i := 14) rfl))) Via.refl e207 F_o0_words (g := (mkF m 50 A215 [(.ref o0), (.int (2 : Int32))])) rfl rfl (hb hby dprog_13_method_10_code_50)
          refine Go.st (S' := T216.setTop (mkF m 53 A215 [(.ref o_1), (.int (2 : Int32))])) st216 ?_
          obtain ⟨cl217, Ar217, -, S217, N217_, -, -⟩ := id V_o_1
          refine Go.op (F := fun z => T216.setTop (mkF m 54 A215 [(.int z), (.int (2 : Int32))])) (x := cl217.slots.size.toInt32) (fun t k => X216.arraylength hx (own_eh e216 Ar217.1) (State.isArrayOf_alike hZ.alike Ar217.2.1) (g := (mkF m 53 A215 [(.ref o_1), (.int (2 : Int32))])) rfl rfl (hb hby dprog_13_method_10_code_53) t k) ?_
          intro v218 hv218
          obtain rfl : z_o_1 = v218 := (hv218.trans (len_of S217 N217_)).symm
          by_cases hc219 : ((2 : Int32) = z_o_1)
          · refine Go.st (S' := T216.setTop (mkF m 57 A215 [])) (fun t k => XS.icmpNo X216.here hx rfl (hb hby dprog_13_method_10_code_54) rfl (teq hc219).2 k) ?_
            refine Go.st (S' := T216.setTop (mkF m 58 A215 [(.int (-1 : Int32))])) (fun t k => XS.iconst X216.here hx rfl (hb hby dprog_13_method_10_code_57) k) ?_
            have hi221 : (¬ ((2 : Int32) < z_o_1)) := by
              intro hc222
              exact ar_15 z_o_1 hra_z_o_1 hrb_z_o_1 hc185 hc199 hc219 hc222
            have hi223 : (¬ ((3 : Int32) < z_o_1)) := by
              intro hc224
              exact ar_16 z_o_1 hra_z_o_1 hrb_z_o_1 hc185 hc199 hc219 hi221 hc224
            have hq220 : (-1 : Int32) = own_first e0_o_1 e1_o_1 e2_o_1 e3_o_1 := by
              unfold own_first
              rw [if_pos hc193, if_pos hc213, if_pos (inv_o_1.2.2.1.resolve_left hi221), if_pos (inv_o_1.2.2.2.resolve_left hi223)]
            exact Go.ret X216 (v := some (.int (-1 : Int32))) (fun h => by rw [Bd.returns] at h; cases h) Bd.notSynchronized (fun fs hr => retI X216 hx Bd.returns (hb hby dprog_13_method_10_code_58) hr) (by decide) (by decide) (⟨(-1 : Int32), hq220, rfl, N0, e216⟩)
          · refine Go.st (S' := T216.setTop (mkF m 59 A215 [])) (fun t k => XS.icmpYes X216.here hx rfl (pc0 := 54) (pc' := 59) rfl (hb hby dprog_13_method_10_code_54) rfl (feq hc219).2 (by decide) (by decide) k) ?_
            refine Go.st (S' := T216.setTop (mkF m 60 A215 [(.ref o0)])) (fun t k => XS.aloadN X216.here hx rfl (hb hby dprog_13_method_10_code_59) rfl rfl k) ?_
            obtain ⟨T225, X225, e225, st225⟩ := getF X216 hx hZ hown (host := "") (Or.inl (hw _ (List.mem_of_getElem? (i := 14) rfl))) Via.refl e216 F_o0_words (g := (mkF m 60 A215 [(.ref o0)])) rfl rfl (hb hby dprog_13_method_10_code_60)
            refine Go.st (S' := T225.setTop (mkF m 63 A215 [(.ref o_1)])) st225 ?_
            refine Go.st (S' := T225.setTop (mkF m 64 A215 [(.int (2 : Int32)), (.ref o_1)])) (fun t k => XS.iloadN X225.here hx rfl (hb hby dprog_13_method_10_code_63) rfl k) ?_
            obtain ⟨cl226, Ar226, -, S226, N226_, H226, -⟩ := id V_o_1
            have hi227 : ((2 : Int32) < z_o_1) := by
              refine Decidable.byContradiction fun hc228 => ?_
              exact ar_17 z_o_1 hra_z_o_1 hrb_z_o_1 hc185 hc199 hc219 hc228
            have hin226 : ¬ ((2 : Int32) < 0 ∨ cl226.slots.size ≤ ((2 : Int32)).toNatClampNeg) := inb_of S226 ⟨by decide, hi227⟩
            have hat226 : cl226.slots[((2 : Int32)).toNatClampNeg]? = some (.long e2_o_1) := Has.at H226 hin226 rfl
            refine Go.st (S' := T225.setTop (mkF m 65 A215 [(.long e2_o_1)])) (fun t k => X225.laload hx (j := (2 : Int32)) (v := (.long e2_o_1)) (own_eh e225 Ar226.1) (State.isArrayOf_alike hZ.alike Ar226.2.1) Ar226.2.2 hin226 hat226 (g := (mkF m 64 A215 [(.int (2 : Int32)), (.ref o_1)])) rfl rfl (hb hby dprog_13_method_10_code_64) t k) ?_
            let A229 : Array Slot := #[.val (.ref o0), .val (.int (0 : Int32)), .val (.int (2 : Int32)), .val (.long e2_o_1), .second]
            refine Go.st (S' := T225.setTop (mkF m 66 A229 [])) (fun t k => XS.lstoreN X225.here hx rfl (hb hby dprog_13_method_10_code_65) rfl (l' := A229) rfl k) ?_
            refine Go.st (S' := T225.setTop (mkF m 29 A229 [])) (fun t k => XS.goto X225.here hx rfl (pc0 := 66) (pc' := 29) rfl (hb hby dprog_13_method_10_code_66) (by decide) (by decide) k) ?_
            refine Go.st (S' := T225.setTop (mkF m 30 A229 [(.long e2_o_1)])) (fun t k => XS.lloadN X225.here hx rfl (hb hby dprog_13_method_10_code_29) rfl k) ?_
            refine Go.st (S' := T225.setTop (mkF m 31 A229 [(.long (0 : Int64)), (.long e2_o_1)])) (fun t k => XS.lconst X225.here hx rfl (hb hby dprog_13_method_10_code_30) k) ?_
            refine Go.op (F := fun z => T225.setTop (mkF m 32 A229 [(.int z)])) (x := (lcmpW e2_o_1 (0 : Int64))) (fun t k => XS.lcmp X225.here hx rfl (hb hby dprog_13_method_10_code_31) rfl k) ?_
            intro v230 hv230
            by_cases hc231 : (e2_o_1 = (0 : Int64))
            · refine Go.st (S' := T225.setTop (mkF m 45 A229 [])) (fun t k => XS.ifYes X225.here hx rfl (pc0 := 32) (pc' := 45) rfl (hb hby dprog_13_method_10_code_32) rfl ((if0 _ _).trans (teq (by rw [hv230]; exact (lw_eq _ _).2 hc231)).1) (by decide) (by decide) k) ?_
              refine Go.op (F := fun z => T225.setTop (mkF m 48 #[.val (.ref o0), .val (.int (0 : Int32)), .val (.int z), .val (.long e2_o_1), .second] [])) (x := ((2 : Int32) + (1 : Int32))) (fun t k => XS.iinc X225.here hx rfl (hb hby dprog_13_method_10_code_45) rfl rfl k) ?_
              intro v232 hv232
              obtain rfl : (3 : Int32) = v232 := (hv232.trans (by decide)).symm
              let A233 : Array Slot := #[.val (.ref o0), .val (.int (0 : Int32)), .val (.int (3 : Int32)), .val (.long e2_o_1), .second]
              refine Go.st (S' := T225.setTop (mkF m 49 A233 [(.int (3 : Int32))])) (fun t k => XS.iloadN X225.here hx rfl (hb hby dprog_13_method_10_code_48) rfl k) ?_
              refine Go.st (S' := T225.setTop (mkF m 50 A233 [(.ref o0), (.int (3 : Int32))])) (fun t k => XS.aloadN X225.here hx rfl (hb hby dprog_13_method_10_code_49) rfl rfl k) ?_
              obtain ⟨T234, X234, e234, st234⟩ := getF X225 hx hZ hown (host := "") (Or.inl (hw _ (List.mem_of_getElem? (i := 14) rfl))) Via.refl e225 F_o0_words (g := (mkF m 50 A233 [(.ref o0), (.int (3 : Int32))])) rfl rfl (hb hby dprog_13_method_10_code_50)
              refine Go.st (S' := T234.setTop (mkF m 53 A233 [(.ref o_1), (.int (3 : Int32))])) st234 ?_
              obtain ⟨cl235, Ar235, -, S235, N235_, -, -⟩ := id V_o_1
              refine Go.op (F := fun z => T234.setTop (mkF m 54 A233 [(.int z), (.int (3 : Int32))])) (x := cl235.slots.size.toInt32) (fun t k => X234.arraylength hx (own_eh e234 Ar235.1) (State.isArrayOf_alike hZ.alike Ar235.2.1) (g := (mkF m 53 A233 [(.ref o_1), (.int (3 : Int32))])) rfl rfl (hb hby dprog_13_method_10_code_53) t k) ?_
              intro v236 hv236
              obtain rfl : z_o_1 = v236 := (hv236.trans (len_of S235 N235_)).symm
              by_cases hc237 : ((3 : Int32) = z_o_1)
              · refine Go.st (S' := T234.setTop (mkF m 57 A233 [])) (fun t k => XS.icmpNo X234.here hx rfl (hb hby dprog_13_method_10_code_54) rfl (teq hc237).2 k) ?_
                refine Go.st (S' := T234.setTop (mkF m 58 A233 [(.int (-1 : Int32))])) (fun t k => XS.iconst X234.here hx rfl (hb hby dprog_13_method_10_code_57) k) ?_
                have hi239 : (¬ ((3 : Int32) < z_o_1)) := by
                  intro hc240
                  exact ar_18 z_o_1 hra_z_o_1 hrb_z_o_1 hc185 hc199 hc219 hc237 hc240
                have hq238 : (-1 : Int32) = own_first e0_o_1 e1_o_1 e2_o_1 e3_o_1 := by
                  unfold own_first
                  rw [if_pos hc193, if_pos hc213, if_pos hc231, if_pos (inv_o_1.2.2.2.resolve_left hi239)]
                exact Go.ret X234 (v := some (.int (-1 : Int32))) (fun h => by rw [Bd.returns] at h; cases h) Bd.notSynchronized (fun fs hr => retI X234 hx Bd.returns (hb hby dprog_13_method_10_code_58) hr) (by decide) (by decide) (⟨(-1 : Int32), hq238, rfl, N0, e234⟩)
              · refine Go.st (S' := T234.setTop (mkF m 59 A233 [])) (fun t k => XS.icmpYes X234.here hx rfl (pc0 := 54) (pc' := 59) rfl (hb hby dprog_13_method_10_code_54) rfl (feq hc237).2 (by decide) (by decide) k) ?_
                refine Go.st (S' := T234.setTop (mkF m 60 A233 [(.ref o0)])) (fun t k => XS.aloadN X234.here hx rfl (hb hby dprog_13_method_10_code_59) rfl rfl k) ?_
                obtain ⟨T241, X241, e241, st241⟩ := getF X234 hx hZ hown (host := "") (Or.inl (hw _ (List.mem_of_getElem? (i := 14) rfl))) Via.refl e234 F_o0_words (g := (mkF m 60 A233 [(.ref o0)])) rfl rfl (hb hby dprog_13_method_10_code_60)
                refine Go.st (S' := T241.setTop (mkF m 63 A233 [(.ref o_1)])) st241 ?_
                refine Go.st (S' := T241.setTop (mkF m 64 A233 [(.int (3 : Int32)), (.ref o_1)])) (fun t k => XS.iloadN X241.here hx rfl (hb hby dprog_13_method_10_code_63) rfl k) ?_
                obtain ⟨cl242, Ar242, -, S242, N242_, H242, -⟩ := id V_o_1
                have hi243 : ((3 : Int32) < z_o_1) := by
                  refine Decidable.byContradiction fun hc244 => ?_
                  exact ar_19 z_o_1 hra_z_o_1 hrb_z_o_1 hc185 hc199 hc219 hc237 hc244
                have hin242 : ¬ ((3 : Int32) < 0 ∨ cl242.slots.size ≤ ((3 : Int32)).toNatClampNeg) := inb_of S242 ⟨by decide, hi243⟩
                have hat242 : cl242.slots[((3 : Int32)).toNatClampNeg]? = some (.long e3_o_1) := Has.at H242 hin242 rfl
                refine Go.st (S' := T241.setTop (mkF m 65 A233 [(.long e3_o_1)])) (fun t k => X241.laload hx (j := (3 : Int32)) (v := (.long e3_o_1)) (own_eh e241 Ar242.1) (State.isArrayOf_alike hZ.alike Ar242.2.1) Ar242.2.2 hin242 hat242 (g := (mkF m 64 A233 [(.int (3 : Int32)), (.ref o_1)])) rfl rfl (hb hby dprog_13_method_10_code_64) t k) ?_
                let A245 : Array Slot := #[.val (.ref o0), .val (.int (0 : Int32)), .val (.int (3 : Int32)), .val (.long e3_o_1), .second]
                refine Go.st (S' := T241.setTop (mkF m 66 A245 [])) (fun t k => XS.lstoreN X241.here hx rfl (hb hby dprog_13_method_10_code_65) rfl (l' := A245) rfl k) ?_
                refine Go.st (S' := T241.setTop (mkF m 29 A245 [])) (fun t k => XS.goto X241.here hx rfl (pc0 := 66) (pc' := 29) rfl (hb hby dprog_13_method_10_code_66) (by decide) (by decide) k) ?_
                refine Go.st (S' := T241.setTop (mkF m 30 A245 [(.long e3_o_1)])) (fun t k => XS.lloadN X241.here hx rfl (hb hby dprog_13_method_10_code_29) rfl k) ?_
                refine Go.st (S' := T241.setTop (mkF m 31 A245 [(.long (0 : Int64)), (.long e3_o_1)])) (fun t k => XS.lconst X241.here hx rfl (hb hby dprog_13_method_10_code_30) k) ?_
                refine Go.op (F := fun z => T241.setTop (mkF m 32 A245 [(.int z)])) (x := (lcmpW e3_o_1 (0 : Int64))) (fun t k => XS.lcmp X241.here hx rfl (hb hby dprog_13_method_10_code_31) rfl k) ?_
                intro v246 hv246
                by_cases hc247 : (e3_o_1 = (0 : Int64))
                · refine Go.st (S' := T241.setTop (mkF m 45 A245 [])) (fun t k => XS.ifYes X241.here hx rfl (pc0 := 32) (pc' := 45) rfl (hb hby dprog_13_method_10_code_32) rfl ((if0 _ _).trans (teq (by rw [hv246]; exact (lw_eq _ _).2 hc247)).1) (by decide) (by decide) k) ?_
                  refine Go.op (F := fun z => T241.setTop (mkF m 48 #[.val (.ref o0), .val (.int (0 : Int32)), .val (.int z), .val (.long e3_o_1), .second] [])) (x := ((3 : Int32) + (1 : Int32))) (fun t k => XS.iinc X241.here hx rfl (hb hby dprog_13_method_10_code_45) rfl rfl k) ?_
                  intro v248 hv248
                  obtain rfl : (4 : Int32) = v248 := (hv248.trans (by decide)).symm
                  let A249 : Array Slot := #[.val (.ref o0), .val (.int (0 : Int32)), .val (.int (4 : Int32)), .val (.long e3_o_1), .second]
                  refine Go.st (S' := T241.setTop (mkF m 49 A249 [(.int (4 : Int32))])) (fun t k => XS.iloadN X241.here hx rfl (hb hby dprog_13_method_10_code_48) rfl k) ?_
                  refine Go.st (S' := T241.setTop (mkF m 50 A249 [(.ref o0), (.int (4 : Int32))])) (fun t k => XS.aloadN X241.here hx rfl (hb hby dprog_13_method_10_code_49) rfl rfl k) ?_
                  obtain ⟨T250, X250, e250, st250⟩ := getF X241 hx hZ hown (host := "") (Or.inl (hw _ (List.mem_of_getElem? (i := 14) rfl))) Via.refl e241 F_o0_words (g := (mkF m 50 A249 [(.ref o0), (.int (4 : Int32))])) rfl rfl (hb hby dprog_13_method_10_code_50)
                  refine Go.st (S' := T250.setTop (mkF m 53 A249 [(.ref o_1), (.int (4 : Int32))])) st250 ?_
                  obtain ⟨cl251, Ar251, -, S251, N251_, -, -⟩ := id V_o_1
                  refine Go.op (F := fun z => T250.setTop (mkF m 54 A249 [(.int z), (.int (4 : Int32))])) (x := cl251.slots.size.toInt32) (fun t k => X250.arraylength hx (own_eh e250 Ar251.1) (State.isArrayOf_alike hZ.alike Ar251.2.1) (g := (mkF m 53 A249 [(.ref o_1), (.int (4 : Int32))])) rfl rfl (hb hby dprog_13_method_10_code_53) t k) ?_
                  intro v252 hv252
                  obtain rfl : z_o_1 = v252 := (hv252.trans (len_of S251 N251_)).symm
                  have hi253 : ((4 : Int32) = z_o_1) := by
                    refine Decidable.byContradiction fun hc254 => ?_
                    exact ar_20 z_o_1 hra_z_o_1 hrb_z_o_1 hc185 hc199 hc219 hc237 hc254
                  refine Go.st (S' := T250.setTop (mkF m 57 A249 [])) (fun t k => XS.icmpNo X250.here hx rfl (hb hby dprog_13_method_10_code_54) rfl (teq hi253).2 k) ?_
                  refine Go.st (S' := T250.setTop (mkF m 58 A249 [(.int (-1 : Int32))])) (fun t k => XS.iconst X250.here hx rfl (hb hby dprog_13_method_10_code_57) k) ?_
                  have hq255 : (-1 : Int32) = own_first e0_o_1 e1_o_1 e2_o_1 e3_o_1 := by
                    unfold own_first
                    rw [if_pos hc193, if_pos hc213, if_pos hc231, if_pos hc247]
                  exact Go.ret X250 (v := some (.int (-1 : Int32))) (fun h => by rw [Bd.returns] at h; cases h) Bd.notSynchronized (fun fs hr => retI X250 hx Bd.returns (hb hby dprog_13_method_10_code_58) hr) (by decide) (by decide) (⟨(-1 : Int32), hq255, rfl, N0, e250⟩)
                · refine Go.st (S' := T241.setTop (mkF m 35 A245 [])) (fun t k => XS.ifNo X241.here hx rfl (hb hby dprog_13_method_10_code_32) rfl ((if0 _ _).trans (feq (by rw [hv246]; exact fun z => hc247 ((lw_eq _ _).1 z))).1) k) ?_
                  refine Go.st (S' := T241.setTop (mkF m 36 A245 [(.int (3 : Int32))])) (fun t k => XS.iloadN X241.here hx rfl (hb hby dprog_13_method_10_code_35) rfl k) ?_
                  refine Go.st (S' := T241.setTop (mkF m 38 A245 [(.int (6 : Int32)), (.int (3 : Int32))])) (fun t k => XS.bipush X241.here hx rfl (hb hby dprog_13_method_10_code_36) k) ?_
                  refine Go.op (F := fun z => T241.setTop (mkF m 39 A245 [(.int z)])) (x := ((3 : Int32) <<< ((6 : Int32) &&& 31))) (fun t k => XS.ishl X241.here hx rfl (hb hby dprog_13_method_10_code_38) rfl k) ?_
                  intro v256 hv256
                  obtain rfl : (192 : Int32) = v256 := (hv256.trans (by decide)).symm
                  refine Go.st (S' := T241.setTop (mkF m 40 A245 [(.long e3_o_1), (.int (192 : Int32))])) (fun t k => XS.lloadN X241.here hx rfl (hb hby dprog_13_method_10_code_39) rfl k) ?_
                  obtain ⟨v258, hv258⟩ : ∃ z, z = (own_ntz e3_o_1) := ⟨_, rfl⟩
                  obtain ⟨r257, T257, X257_, hE257, st257⟩ := Jvm.Stand.callS X241 hx (Jvm.Free.JP.Long_numberOfTrailingZeros_J.law l e3_o_1) hown (fun w_ hw_ => by simp only [Jvm.Free.XT.staticW, List.mem_cons, List.not_mem_nil, or_false] at hw_; rcases hw_ with rfl | rfl; exact mvT hZ (hw _ (List.mem_of_getElem? (i := 70) rfl)); exact mvT hZ (hw _ (List.mem_of_getElem? (i := 71) rfl))) (own_tab_ntz hw hZ) (W := 1) (by decide) (by decide) (by decide) (by decide) (g := (mkF m 40 A245 [(.long e3_o_1), (.int (192 : Int32))])) rfl (by rw [hml]; rfl) (Steps.refl _) (argsL := [(.long e3_o_1)]) (rest := [(.int (192 : Int32))]) rfl rfl (by show 2 * 0 + _ ≤ _; exact Nat.le_of_eq rfl) (hb hby dprog_13_method_10_code_40) ⟨rfl, trivial⟩
                  obtain ⟨rfl, eh257⟩ := hE257
                  have e257 := eh257.trans e241
                  rw [List.append_nil] at X257_
                  have X257 : Stand p l e _ s m _ below meth c T257 _ 0 0 := X257_
                  refine Go.st (S' := T257.setTop (mkF m 43 A245 [(.int v258), (.int (192 : Int32))])) (by rw [hv258]; exact fun t k => st257.trans k) ?_
                  refine Go.op (F := fun z => T257.setTop (mkF m 44 A245 [(.int z)])) (x := ((192 : Int32) + v258)) (fun t k => XS.iadd X257.here hx rfl (hb hby dprog_13_method_10_code_43) rfl k) ?_
                  intro v259 hv259
                  have hq260 : v259 = own_first e0_o_1 e1_o_1 e2_o_1 e3_o_1 := by
                    unfold own_first
                    rw [if_pos hc193, if_pos hc213, if_pos hc231, if_neg hc247, hv259, hv258]
                  exact Go.ret X257 (v := some (.int v259)) (fun h => by rw [Bd.returns] at h; cases h) Bd.notSynchronized (fun fs hr => retI X257 hx Bd.returns (hb hby dprog_13_method_10_code_44) hr) (by decide) (by decide) (⟨v259, hq260, rfl, N0, e257⟩)
            · refine Go.st (S' := T225.setTop (mkF m 35 A229 [])) (fun t k => XS.ifNo X225.here hx rfl (hb hby dprog_13_method_10_code_32) rfl ((if0 _ _).trans (feq (by rw [hv230]; exact fun z => hc231 ((lw_eq _ _).1 z))).1) k) ?_
              refine Go.st (S' := T225.setTop (mkF m 36 A229 [(.int (2 : Int32))])) (fun t k => XS.iloadN X225.here hx rfl (hb hby dprog_13_method_10_code_35) rfl k) ?_
              refine Go.st (S' := T225.setTop (mkF m 38 A229 [(.int (6 : Int32)), (.int (2 : Int32))])) (fun t k => XS.bipush X225.here hx rfl (hb hby dprog_13_method_10_code_36) k) ?_
              refine Go.op (F := fun z => T225.setTop (mkF m 39 A229 [(.int z)])) (x := ((2 : Int32) <<< ((6 : Int32) &&& 31))) (fun t k => XS.ishl X225.here hx rfl (hb hby dprog_13_method_10_code_38) rfl k) ?_
              intro v261 hv261
              obtain rfl : (128 : Int32) = v261 := (hv261.trans (by decide)).symm
              refine Go.st (S' := T225.setTop (mkF m 40 A229 [(.long e2_o_1), (.int (128 : Int32))])) (fun t k => XS.lloadN X225.here hx rfl (hb hby dprog_13_method_10_code_39) rfl k) ?_
              obtain ⟨v263, hv263⟩ : ∃ z, z = (own_ntz e2_o_1) := ⟨_, rfl⟩
              obtain ⟨r262, T262, X262_, hE262, st262⟩ := Jvm.Stand.callS X225 hx (Jvm.Free.JP.Long_numberOfTrailingZeros_J.law l e2_o_1) hown (fun w_ hw_ => by simp only [Jvm.Free.XT.staticW, List.mem_cons, List.not_mem_nil, or_false] at hw_; rcases hw_ with rfl | rfl; exact mvT hZ (hw _ (List.mem_of_getElem? (i := 70) rfl)); exact mvT hZ (hw _ (List.mem_of_getElem? (i := 71) rfl))) (own_tab_ntz hw hZ) (W := 1) (by decide) (by decide) (by decide) (by decide) (g := (mkF m 40 A229 [(.long e2_o_1), (.int (128 : Int32))])) rfl (by rw [hml]; rfl) (Steps.refl _) (argsL := [(.long e2_o_1)]) (rest := [(.int (128 : Int32))]) rfl rfl (by show 2 * 0 + _ ≤ _; exact Nat.le_of_eq rfl) (hb hby dprog_13_method_10_code_40) ⟨rfl, trivial⟩
              obtain ⟨rfl, eh262⟩ := hE262
              have e262 := eh262.trans e225
              rw [List.append_nil] at X262_
              have X262 : Stand p l e _ s m _ below meth c T262 _ 0 0 := X262_
              refine Go.st (S' := T262.setTop (mkF m 43 A229 [(.int v263), (.int (128 : Int32))])) (by rw [hv263]; exact fun t k => st262.trans k) ?_
              refine Go.op (F := fun z => T262.setTop (mkF m 44 A229 [(.int z)])) (x := ((128 : Int32) + v263)) (fun t k => XS.iadd X262.here hx rfl (hb hby dprog_13_method_10_code_43) rfl k) ?_
              intro v264 hv264
              have hq265 : v264 = own_first e0_o_1 e1_o_1 e2_o_1 e3_o_1 := by
                unfold own_first
                rw [if_pos hc193, if_pos hc213, if_neg hc231, hv264, hv263]
              exact Go.ret X262 (v := some (.int v264)) (fun h => by rw [Bd.returns] at h; cases h) Bd.notSynchronized (fun fs hr => retI X262 hx Bd.returns (hb hby dprog_13_method_10_code_44) hr) (by decide) (by decide) (⟨v264, hq265, rfl, N0, e262⟩)
        · refine Go.st (S' := T207.setTop (mkF m 35 A211 [])) (fun t k => XS.ifNo X207.here hx rfl (hb hby dprog_13_method_10_code_32) rfl ((if0 _ _).trans (feq (by rw [hv212]; exact fun z => hc213 ((lw_eq _ _).1 z))).1) k) ?_
          refine Go.st (S' := T207.setTop (mkF m 36 A211 [(.int (1 : Int32))])) (fun t k => XS.iloadN X207.here hx rfl (hb hby dprog_13_method_10_code_35) rfl k) ?_
          refine Go.st (S' := T207.setTop (mkF m 38 A211 [(.int (6 : Int32)), (.int (1 : Int32))])) (fun t k => XS.bipush X207.here hx rfl (hb hby dprog_13_method_10_code_36) k) ?_
          refine Go.op (F := fun z => T207.setTop (mkF m 39 A211 [(.int z)])) (x := ((1 : Int32) <<< ((6 : Int32) &&& 31))) (fun t k => XS.ishl X207.here hx rfl (hb hby dprog_13_method_10_code_38) rfl k) ?_
          intro v266 hv266
          obtain rfl : (64 : Int32) = v266 := (hv266.trans (by decide)).symm
          refine Go.st (S' := T207.setTop (mkF m 40 A211 [(.long e1_o_1), (.int (64 : Int32))])) (fun t k => XS.lloadN X207.here hx rfl (hb hby dprog_13_method_10_code_39) rfl k) ?_
          obtain ⟨v268, hv268⟩ : ∃ z, z = (own_ntz e1_o_1) := ⟨_, rfl⟩
          obtain ⟨r267, T267, X267_, hE267, st267⟩ := Jvm.Stand.callS X207 hx (Jvm.Free.JP.Long_numberOfTrailingZeros_J.law l e1_o_1) hown (fun w_ hw_ => by simp only [Jvm.Free.XT.staticW, List.mem_cons, List.not_mem_nil, or_false] at hw_; rcases hw_ with rfl | rfl; exact mvT hZ (hw _ (List.mem_of_getElem? (i := 70) rfl)); exact mvT hZ (hw _ (List.mem_of_getElem? (i := 71) rfl))) (own_tab_ntz hw hZ) (W := 1) (by decide) (by decide) (by decide) (by decide) (g := (mkF m 40 A211 [(.long e1_o_1), (.int (64 : Int32))])) rfl (by rw [hml]; rfl) (Steps.refl _) (argsL := [(.long e1_o_1)]) (rest := [(.int (64 : Int32))]) rfl rfl (by show 2 * 0 + _ ≤ _; exact Nat.le_of_eq rfl) (hb hby dprog_13_method_10_code_40) ⟨rfl, trivial⟩
          obtain ⟨rfl, eh267⟩ := hE267
          have e267 := eh267.trans e207
          rw [List.append_nil] at X267_
          have X267 : Stand p l e _ s m _ below meth c T267 _ 0 0 := X267_
          refine Go.st (S' := T267.setTop (mkF m 43 A211 [(.int v268), (.int (64 : Int32))])) (by rw [hv268]; exact fun t k => st267.trans k) ?_
          refine Go.op (F := fun z => T267.setTop (mkF m 44 A211 [(.int z)])) (x := ((64 : Int32) + v268)) (fun t k => XS.iadd X267.here hx rfl (hb hby dprog_13_method_10_code_43) rfl k) ?_
          intro v269 hv269
          have hq270 : v269 = own_first e0_o_1 e1_o_1 e2_o_1 e3_o_1 := by
            unfold own_first
            rw [if_pos hc193, if_neg hc213, hv269, hv268]
          exact Go.ret X267 (v := some (.int v269)) (fun h => by rw [Bd.returns] at h; cases h) Bd.notSynchronized (fun fs hr => retI X267 hx Bd.returns (hb hby dprog_13_method_10_code_44) hr) (by decide) (by decide) (⟨v269, hq270, rfl, N0, e267⟩)
    · refine Go.st (S' := T186.setTop (mkF m 35 A191 [])) (fun t k => XS.ifNo X186.here hx rfl (hb hby dprog_13_method_10_code_32) rfl ((if0 _ _).trans (feq (by rw [hv192]; exact fun z => hc193 ((lw_eq _ _).1 z))).1) k) ?_
      refine Go.st (S' := T186.setTop (mkF m 36 A191 [(.int (0 : Int32))])) (fun t k => XS.iloadN X186.here hx rfl (hb hby dprog_13_method_10_code_35) rfl k) ?_
      refine Go.st (S' := T186.setTop (mkF m 38 A191 [(.int (6 : Int32)), (.int (0 : Int32))])) (fun t k => XS.bipush X186.here hx rfl (hb hby dprog_13_method_10_code_36) k) ?_
      refine Go.op (F := fun z => T186.setTop (mkF m 39 A191 [(.int z)])) (x := ((0 : Int32) <<< ((6 : Int32) &&& 31))) (fun t k => XS.ishl X186.here hx rfl (hb hby dprog_13_method_10_code_38) rfl k) ?_
      intro v271 hv271
      obtain rfl : (0 : Int32) = v271 := (hv271.trans (by decide)).symm
      refine Go.st (S' := T186.setTop (mkF m 40 A191 [(.long e0_o_1), (.int (0 : Int32))])) (fun t k => XS.lloadN X186.here hx rfl (hb hby dprog_13_method_10_code_39) rfl k) ?_
      obtain ⟨v273, hv273⟩ : ∃ z, z = (own_ntz e0_o_1) := ⟨_, rfl⟩
      obtain ⟨r272, T272, X272_, hE272, st272⟩ := Jvm.Stand.callS X186 hx (Jvm.Free.JP.Long_numberOfTrailingZeros_J.law l e0_o_1) hown (fun w_ hw_ => by simp only [Jvm.Free.XT.staticW, List.mem_cons, List.not_mem_nil, or_false] at hw_; rcases hw_ with rfl | rfl; exact mvT hZ (hw _ (List.mem_of_getElem? (i := 70) rfl)); exact mvT hZ (hw _ (List.mem_of_getElem? (i := 71) rfl))) (own_tab_ntz hw hZ) (W := 1) (by decide) (by decide) (by decide) (by decide) (g := (mkF m 40 A191 [(.long e0_o_1), (.int (0 : Int32))])) rfl (by rw [hml]; rfl) (Steps.refl _) (argsL := [(.long e0_o_1)]) (rest := [(.int (0 : Int32))]) rfl rfl (by show 2 * 0 + _ ≤ _; exact Nat.le_of_eq rfl) (hb hby dprog_13_method_10_code_40) ⟨rfl, trivial⟩
      obtain ⟨rfl, eh272⟩ := hE272
      have e272 := eh272.trans e186
      rw [List.append_nil] at X272_
      have X272 : Stand p l e _ s m _ below meth c T272 _ 0 0 := X272_
      refine Go.st (S' := T272.setTop (mkF m 43 A191 [(.int v273), (.int (0 : Int32))])) (by rw [hv273]; exact fun t k => st272.trans k) ?_
      refine Go.op (F := fun z => T272.setTop (mkF m 44 A191 [(.int z)])) (x := ((0 : Int32) + v273)) (fun t k => XS.iadd X272.here hx rfl (hb hby dprog_13_method_10_code_43) rfl k) ?_
      intro v274 hv274
      have hq275 : v274 = own_first e0_o_1 e1_o_1 e2_o_1 e3_o_1 := by
        unfold own_first
        rw [if_neg hc193, hv274, hv273]
      exact Go.ret X272 (v := some (.int v274)) (fun h => by rw [Bd.returns] at h; cases h) Bd.notSynchronized (fun fs hr => retI X272 hx Bd.returns (hb hby dprog_13_method_10_code_44) hr) (by decide) (by decide) (⟨v274, hq275, rfl, N0, e272⟩)
  · refine Go.st (S' := T182.setTop (mkF m 14 A181 [])) (fun t k => XS.icmpNo X182.here hx rfl (hb hby dprog_13_method_10_code_11) rfl (flt hc185).1 k) ?_
    refine Go.st (S' := T182.setTop (mkF m 15 A181 [(.int (-1 : Int32))])) (fun t k => XS.iconst X182.here hx rfl (hb hby dprog_13_method_10_code_14) k) ?_
    have hi277 : (¬ ((1 : Int32) < z_o_1)) := by
      intro hc278
      exact ar_8 z_o_1 hra_z_o_1 hrb_z_o_1 hc185 hc278
    have hi279 : (¬ ((2 : Int32) < z_o_1)) := by
      intro hc280
      exact ar_9 z_o_1 hra_z_o_1 hrb_z_o_1 hc185 hi277 hc280
    have hi281 : (¬ ((3 : Int32) < z_o_1)) := by
      intro hc282
      exact ar_10 z_o_1 hra_z_o_1 hrb_z_o_1 hc185 hi277 hi279 hc282
    have hq276 : (-1 : Int32) = own_first e0_o_1 e1_o_1 e2_o_1 e3_o_1 := by
      unfold own_first
      rw [if_pos (inv_o_1.1.resolve_left hc185), if_pos (inv_o_1.2.1.resolve_left hi277), if_pos (inv_o_1.2.2.1.resolve_left hi279), if_pos (inv_o_1.2.2.2.resolve_left hi281)]
    exact Go.ret X182 (v := some (.int (-1 : Int32))) (fun h => by rw [Bd.returns] at h; cases h) Bd.notSynchronized (fun fs hr => retI X182 hx Bd.returns (hb hby dprog_13_method_10_code_15) hr) (by decide) (by decide) (⟨(-1 : Int32), hq276, rfl, N0, e182⟩)
theorem ef_6 (m : MethodId) (o0 : Addr) : entryFrame m #[(.ref o0)] 1 = mkF m 0 #[.val (.ref o0)] [] := by first | (simp [entryFrame, mkF, argsToLocals, Value.category, maxLocals]; done) | rfl
def Q6 (Z : State) (o0 : Addr) (o_1 : Addr) (k_o_1 : ClassId) (z_o_1 : Int32) (e0_o_1 : Int64) (e1_o_1 : Int64) (e2_o_1 : Int64) (e3_o_1 : Int64) (h0 : Heap) (n0 : Nat) (v : Option Value) (h : Heap) (L : List Loc) : Prop := ∃ r : Int32, (r = own_first (e0_o_1) (e1_o_1) (e2_o_1) (e3_o_1)) ∧ v = some (.int r) ∧ Fr n0 L ∧ h = h0
set_option maxRecDepth 65536 in
set_option maxHeartbeats 40000000 in
theorem rm6 (l : Launch) (Z : State) (a0 : Array Value) (hw : ∀ d ∈ tables_1, d.before a0 Z = true) (ws : List Jvm.Cond) (o0 : Addr) (o_1 : Addr) (k_o_1 : ClassId) (z_o_1 : Int32) (e0_o_1 : Int64) (e1_o_1 : Int64) (e2_o_1 : Int64) (e3_o_1 : Int64) (h0 : Heap) (n0 : Nat) (Z0 : n0 ≤ h0.size) (E_o0 : Exa Z h0 o0 "com/example/heaplens/heaplens/sharing/VarSet") (F_o0_words : Fld Z h0 o0 "com/example/heaplens/heaplens/sharing/VarSet" "words" "[J" (.ref o_1)) (hra_z_o_1 : (¬ (z_o_1 < (0 : Int32)))) (hrb_z_o_1 : (¬ ((4 : Int32) < z_o_1))) (V_o_1 : Arv Z h0 o_1 k_o_1 .long z_o_1 [(.long e0_o_1), (.long e1_o_1), (.long e2_o_1), (.long e3_o_1)] (.long (0 : Int64))) (inv_o_1 : ((0 : Int32) < z_o_1 ∨ e0_o_1 = (0 : Int64)) ∧ ((1 : Int32) < z_o_1 ∨ e1_o_1 = (0 : Int64)) ∧ ((2 : Int32) < z_o_1 ∨ e2_o_1 = (0 : Int64)) ∧ ((3 : Int32) < z_o_1 ∨ e3_o_1 = (0 : Int64))) :
    Con l Z (⟨"com/example/heaplens/heaplens/sharing/VarSet", "first", "()I"⟩ : MethodName) prog_13_method_8_code 1 (some .int) ws ({ frames := 3, cells := 0, slots := 0, locals := 45 } : Room) #[(.ref o0)] h0 0 0 (Q6 Z o0 o_1 k_o_1 z_o_1 e0_o_1 e1_o_1 e2_o_1 e3_o_1 h0 n0) := by
  refine MetFree.of_bodySF (plainFor_of_name pn_0) hisR ?_
  intro p e s m args below meth c s₁ Bd hml0 hP hK
  obtain ⟨rfl, hZ, hh⟩ := hP
  have hx := Bd.exec
  have hby := Bd.bytes
  have hml : c.maxLocals = 1 := hml0
  have hown : s.vm.findClass "com/example/heaplens/heaplens/sharing/VarSet" = some m.cls := findClass_of_methodNamed Bd.named
  have hnm := (name_of_methodNamed Bd.named Bd.method).1
  have X0 : Stand p l e ({ frames := 3, cells := 0, slots := 0, locals := 45 } : Room) s m #[(.ref o0)] below meth c s₁ [] 0 0 := Stand.of_body Bd
  have e0 : s₁.heap = h0 := by rw [← hh, Bd.state]; rfl
  have N0 := Fr.nil n0
  refine Go.of ?_
  refine Go.st (S' := s₁.setTop (mkF m 0 #[.val (.ref o0)] [])) (fun t k => castTop (ef_6 m o0) k) ?_
  refine Go.st (S' := s₁.setTop (mkF m 1 #[.val (.ref o0)] [(.ref o0)])) (fun t k => XS.aloadN X0.here hx rfl (hb hby dprog_13_method_8_code_0) rfl rfl k) ?_
  refine Go.st (S' := s₁.setTop (mkF m 2 #[.val (.ref o0)] [(.int (0 : Int32)), (.ref o0)])) (fun t k => XS.iconst X0.here hx rfl (hb hby dprog_13_method_8_code_1) k) ?_
  obtain ⟨r283, T283, L283, X283, hQ283, st283⟩ := own_callV (W := 0) (a := o0) (C := "com/example/heaplens/heaplens/sharing/VarSet") X0 hx hZ e0 hown (y := (⟨"com/example/heaplens/heaplens/sharing/VarSet", "next", "(I)I"⟩ : MethodName)) (z := (⟨"com/example/heaplens/heaplens/sharing/VarSet", "next", "(I)I"⟩ : MethodName)) (hw _ (List.mem_of_getElem? (i := 31) rfl)) (hw _ (List.mem_of_getElem? (i := 32) rfl)) (notFace_of_selects (args := #[]) (mvT hZ (hw _ (List.mem_of_getElem? (i := 34) rfl)))) (hw _ (List.mem_of_getElem? (i := 34) rfl)) (hw _ (List.mem_of_getElem? (i := 33) rfl)) (hw _ (List.mem_of_getElem? (i := 3) rfl)) (hw _ (List.mem_of_getElem? (i := 35) rfl)) (by decide) (E_o0) (rm5 l Z a0 hw [] o0 o_1 k_o_1 z_o_1 e0_o_1 e1_o_1 e2_o_1 e3_o_1 h0 n0 Z0 (F_o0_words) (hra_z_o_1) (hrb_z_o_1) (V_o_1) (inv_o_1)) (by decide) (by decide) (by decide) (by decide) (g := (mkF m 2 #[.val (.ref o0)] [(.int (0 : Int32)), (.ref o0)])) rfl (by rw [hml]; rfl) (argsL := [(.int (0 : Int32))]) (rest := []) rfl (lenOf pd_4 rfl) rfl (by show 2 * 0 + _ ≤ _; exact Nat.le_of_eq rfl) (hb hby dprog_13_method_8_code_2)
  obtain ⟨r284, hp285, rfl, N283, e283⟩ := hQ283
  have N283_ := Fr.app N0 N283
  refine Go.st (S' := T283.setTop (mkF m 5 #[.val (.ref o0)] [(.int r284)])) st283 ?_
  exact Go.ret X283 (v := some (.int r284)) (fun h => by rw [Bd.returns] at h; cases h) Bd.notSynchronized (fun fs hr => retI X283 hx Bd.returns (hb hby dprog_13_method_8_code_5) hr) (by decide) (by decide) (⟨r284, hp285, rfl, N283_, e283⟩)
theorem ef_7 (m : MethodId) (o0 : Addr) : entryFrame m #[(.ref o0)] 1 = mkF m 0 #[.val (.ref o0)] [] := by first | (simp [entryFrame, mkF, argsToLocals, Value.category, maxLocals]; done) | rfl
def Q7 (Z : State) (o0 : Addr) (o_1 : Addr) (k_o_1 : ClassId) (z_o_1 : Int32) (e0_o_1 : Int64) (e1_o_1 : Int64) (e2_o_1 : Int64) (e3_o_1 : Int64) (h0 : Heap) (n0 : Nat) (v : Option Value) (h : Heap) (L : List Loc) : Prop := (∃ (rv7 : Int32) (v304 : Int32) (v298 : Int32) (v299 : Int32) (v312 : Int64) (v314 : Int32) (v315 : Int32), v304 = (z_o_1 - (1 : Int32)) ∧ v298 = (z_o_1 <<< ((6 : Int32) &&& 31)) ∧ v299 = (v298 - (1 : Int32)) ∧ v312 = (own_get4 v304 e0_o_1 e1_o_1 e2_o_1 e3_o_1) ∧ v314 = (own_nlz v312) ∧ v315 = (v299 - v314) ∧ (((z_o_1 = (0 : Int32)) ∧ (rv7 = (-1 : Int32))) ∨ ((¬ (z_o_1 = (0 : Int32))) ∧ (¬ (v304 < (0 : Int32))) ∧ (v304 < (4 : Int32)) ∧ (v304 < z_o_1) ∧ (rv7 = v315))) ∧ v = some (.int rv7) ∧ Fr n0 L ∧ h = h0)
set_option maxRecDepth 65536 in
set_option maxHeartbeats 40000000 in
theorem rm7 (l : Launch) (Z : State) (a0 : Array Value) (hw : ∀ d ∈ tables_1, d.before a0 Z = true) (ws : List Jvm.Cond) (o0 : Addr) (o_1 : Addr) (k_o_1 : ClassId) (z_o_1 : Int32) (e0_o_1 : Int64) (e1_o_1 : Int64) (e2_o_1 : Int64) (e3_o_1 : Int64) (h0 : Heap) (n0 : Nat) (Z0 : n0 ≤ h0.size) (F_o0_words : Fld Z h0 o0 "com/example/heaplens/heaplens/sharing/VarSet" "words" "[J" (.ref o_1)) (hra_z_o_1 : (¬ (z_o_1 < (0 : Int32)))) (hrb_z_o_1 : (¬ ((4 : Int32) < z_o_1))) (V_o_1 : Arv Z h0 o_1 k_o_1 .long z_o_1 [(.long e0_o_1), (.long e1_o_1), (.long e2_o_1), (.long e3_o_1)] (.long (0 : Int64))) :
    Con l Z (⟨"com/example/heaplens/heaplens/sharing/VarSet", "last", "()I"⟩ : MethodName) prog_13_method_9_code 1 (some .int) ws ({ frames := 2, cells := 0, slots := 0, locals := 29 } : Room) #[(.ref o0)] h0 0 0 (Q7 Z o0 o_1 k_o_1 z_o_1 e0_o_1 e1_o_1 e2_o_1 e3_o_1 h0 n0) := by
  refine MetFree.of_bodySF (plainFor_of_name pn_0) hisR ?_
  intro p e s m args below meth c s₁ Bd hml0 hP hK
  obtain ⟨rfl, hZ, hh⟩ := hP
  have hx := Bd.exec
  have hby := Bd.bytes
  have hml : c.maxLocals = 1 := hml0
  have hown : s.vm.findClass "com/example/heaplens/heaplens/sharing/VarSet" = some m.cls := findClass_of_methodNamed Bd.named
  have hnm := (name_of_methodNamed Bd.named Bd.method).1
  have X0 : Stand p l e ({ frames := 2, cells := 0, slots := 0, locals := 29 } : Room) s m #[(.ref o0)] below meth c s₁ [] 0 0 := Stand.of_body Bd
  have e0 : s₁.heap = h0 := by rw [← hh, Bd.state]; rfl
  have N0 := Fr.nil n0
  refine Go.of ?_
  refine Go.st (S' := s₁.setTop (mkF m 0 #[.val (.ref o0)] [])) (fun t k => castTop (ef_7 m o0) k) ?_
  refine Go.st (S' := s₁.setTop (mkF m 1 #[.val (.ref o0)] [(.ref o0)])) (fun t k => XS.aloadN X0.here hx rfl (hb hby dprog_13_method_9_code_0) rfl rfl k) ?_
  obtain ⟨T291, X291, e291, st291⟩ := getF X0 hx hZ hown (host := "") (Or.inl (hw _ (List.mem_of_getElem? (i := 14) rfl))) Via.refl e0 F_o0_words (g := (mkF m 1 #[.val (.ref o0)] [(.ref o0)])) rfl rfl (hb hby dprog_13_method_9_code_1)
  refine Go.st (S' := T291.setTop (mkF m 4 #[.val (.ref o0)] [(.ref o_1)])) st291 ?_
  obtain ⟨cl292, Ar292, -, S292, N292_, -, -⟩ := id V_o_1
  refine Go.op (F := fun z => T291.setTop (mkF m 5 #[.val (.ref o0)] [(.int z)])) (x := cl292.slots.size.toInt32) (fun t k => X291.arraylength hx (own_eh e291 Ar292.1) (State.isArrayOf_alike hZ.alike Ar292.2.1) (g := (mkF m 4 #[.val (.ref o0)] [(.ref o_1)])) rfl rfl (hb hby dprog_13_method_9_code_4) t k) ?_
  intro v293 hv293
  obtain rfl : z_o_1 = v293 := (hv293.trans (len_of S292 N292_)).symm
  by_cases hc294 : (z_o_1 = (0 : Int32))
  · refine Go.st (S' := T291.setTop (mkF m 8 #[.val (.ref o0)] [])) (fun t k => XS.ifNo X291.here hx rfl (hb hby dprog_13_method_9_code_5) rfl ((if0 _ _).trans (teq hc294).2) k) ?_
    refine Go.st (S' := T291.setTop (mkF m 9 #[.val (.ref o0)] [(.int (-1 : Int32))])) (fun t k => XS.iconst X291.here hx rfl (hb hby dprog_13_method_9_code_8) k) ?_
    refine Go.st (S' := T291.setTop (mkF m 38 #[.val (.ref o0)] [(.int (-1 : Int32))])) (fun t k => XS.goto X291.here hx rfl (pc0 := 9) (pc' := 38) rfl (hb hby dprog_13_method_9_code_9) (by decide) (by decide) k) ?_
    exact Go.ret X291 (v := some (.int (-1 : Int32))) (fun h => by rw [Bd.returns] at h; cases h) Bd.notSynchronized (fun fs hr => retI X291 hx Bd.returns (hb hby dprog_13_method_9_code_38) hr) (by decide) (by decide) (⟨(-1 : Int32), _, _, _, _, _, _, rfl, rfl, rfl, rfl, rfl, rfl, (Or.inl ⟨hc294, rfl⟩), rfl, N0, (e291)⟩)
  · refine Go.st (S' := T291.setTop (mkF m 12 #[.val (.ref o0)] [])) (fun t k => XS.ifYes X291.here hx rfl (pc0 := 5) (pc' := 12) rfl (hb hby dprog_13_method_9_code_5) rfl ((if0 _ _).trans (feq hc294).2) (by decide) (by decide) k) ?_
    refine Go.st (S' := T291.setTop (mkF m 13 #[.val (.ref o0)] [(.ref o0)])) (fun t k => XS.aloadN X291.here hx rfl (hb hby dprog_13_method_9_code_12) rfl rfl k) ?_
    obtain ⟨T295, X295, e295, st295⟩ := getF X291 hx hZ hown (host := "") (Or.inl (hw _ (List.mem_of_getElem? (i := 14) rfl))) Via.refl e291 F_o0_words (g := (mkF m 13 #[.val (.ref o0)] [(.ref o0)])) rfl rfl (hb hby dprog_13_method_9_code_13)
    refine Go.st (S' := T295.setTop (mkF m 16 #[.val (.ref o0)] [(.ref o_1)])) st295 ?_
    obtain ⟨cl296, Ar296, -, S296, N296_, -, -⟩ := id V_o_1
    refine Go.op (F := fun z => T295.setTop (mkF m 17 #[.val (.ref o0)] [(.int z)])) (x := cl296.slots.size.toInt32) (fun t k => X295.arraylength hx (own_eh e295 Ar296.1) (State.isArrayOf_alike hZ.alike Ar296.2.1) (g := (mkF m 16 #[.val (.ref o0)] [(.ref o_1)])) rfl rfl (hb hby dprog_13_method_9_code_16) t k) ?_
    intro v297 hv297
    obtain rfl : z_o_1 = v297 := (hv297.trans (len_of S296 N296_)).symm
    refine Go.st (S' := T295.setTop (mkF m 19 #[.val (.ref o0)] [(.int (6 : Int32)), (.int z_o_1)])) (fun t k => XS.bipush X295.here hx rfl (hb hby dprog_13_method_9_code_17) k) ?_
    refine Go.op (F := fun z => T295.setTop (mkF m 20 #[.val (.ref o0)] [(.int z)])) (x := (z_o_1 <<< ((6 : Int32) &&& 31))) (fun t k => XS.ishl X295.here hx rfl (hb hby dprog_13_method_9_code_19) rfl k) ?_
    intro v298 hv298
    refine Go.st (S' := T295.setTop (mkF m 21 #[.val (.ref o0)] [(.int (1 : Int32)), (.int v298)])) (fun t k => XS.iconst X295.here hx rfl (hb hby dprog_13_method_9_code_20) k) ?_
    refine Go.op (F := fun z => T295.setTop (mkF m 22 #[.val (.ref o0)] [(.int z)])) (x := (v298 - (1 : Int32))) (fun t k => XS.isub X295.here hx rfl (hb hby dprog_13_method_9_code_21) rfl k) ?_
    intro v299 hv299
    refine Go.st (S' := T295.setTop (mkF m 23 #[.val (.ref o0)] [(.ref o0), (.int v299)])) (fun t k => XS.aloadN X295.here hx rfl (hb hby dprog_13_method_9_code_22) rfl rfl k) ?_
    obtain ⟨T300, X300, e300, st300⟩ := getF X295 hx hZ hown (host := "") (Or.inl (hw _ (List.mem_of_getElem? (i := 14) rfl))) Via.refl e295 F_o0_words (g := (mkF m 23 #[.val (.ref o0)] [(.ref o0), (.int v299)])) rfl rfl (hb hby dprog_13_method_9_code_23)
    refine Go.st (S' := T300.setTop (mkF m 26 #[.val (.ref o0)] [(.ref o_1), (.int v299)])) st300 ?_
    refine Go.st (S' := T300.setTop (mkF m 27 #[.val (.ref o0)] [(.ref o0), (.ref o_1), (.int v299)])) (fun t k => XS.aloadN X300.here hx rfl (hb hby dprog_13_method_9_code_26) rfl rfl k) ?_
    obtain ⟨T301, X301, e301, st301⟩ := getF X300 hx hZ hown (host := "") (Or.inl (hw _ (List.mem_of_getElem? (i := 14) rfl))) Via.refl e300 F_o0_words (g := (mkF m 27 #[.val (.ref o0)] [(.ref o0), (.ref o_1), (.int v299)])) rfl rfl (hb hby dprog_13_method_9_code_27)
    refine Go.st (S' := T301.setTop (mkF m 30 #[.val (.ref o0)] [(.ref o_1), (.ref o_1), (.int v299)])) st301 ?_
    obtain ⟨cl302, Ar302, -, S302, N302_, -, -⟩ := id V_o_1
    refine Go.op (F := fun z => T301.setTop (mkF m 31 #[.val (.ref o0)] [(.int z), (.ref o_1), (.int v299)])) (x := cl302.slots.size.toInt32) (fun t k => X301.arraylength hx (own_eh e301 Ar302.1) (State.isArrayOf_alike hZ.alike Ar302.2.1) (g := (mkF m 30 #[.val (.ref o0)] [(.ref o_1), (.ref o_1), (.int v299)])) rfl rfl (hb hby dprog_13_method_9_code_30) t k) ?_
    intro v303 hv303
    obtain rfl : z_o_1 = v303 := (hv303.trans (len_of S302 N302_)).symm
    refine Go.st (S' := T301.setTop (mkF m 32 #[.val (.ref o0)] [(.int (1 : Int32)), (.int z_o_1), (.ref o_1), (.int v299)])) (fun t k => XS.iconst X301.here hx rfl (hb hby dprog_13_method_9_code_31) k) ?_
    refine Go.op (F := fun z => T301.setTop (mkF m 33 #[.val (.ref o0)] [(.int z), (.ref o_1), (.int v299)])) (x := (z_o_1 - (1 : Int32))) (fun t k => XS.isub X301.here hx rfl (hb hby dprog_13_method_9_code_32) rfl k) ?_
    intro v304 hv304
    have hi306 : (¬ (v304 < (0 : Int32))) := by
      intro hc307
      exact ar_21 z_o_1 v304 hv304 hra_z_o_1 hrb_z_o_1 hc294 hc307
    have hi308 : (v304 < (4 : Int32)) := by
      refine Decidable.byContradiction fun hc309 => ?_
      exact ar_22 z_o_1 v304 hv304 hra_z_o_1 hrb_z_o_1 hc294 hi306 hc309
    have hi310 : (v304 < z_o_1) := by
      refine Decidable.byContradiction fun hc311 => ?_
      exact ar_23 z_o_1 v304 hv304 hra_z_o_1 hrb_z_o_1 hc294 hi306 hi308 hc311
    obtain ⟨v312, hv312⟩ : ∃ z, z = (own_get4 v304 e0_o_1 e1_o_1 e2_o_1 e3_o_1) := ⟨_, rfl⟩
    obtain ⟨cl305, Ar305, -, S305, N305_, H305, -⟩ := id V_o_1
    have hin305 : ¬ (v304 < 0 ∨ cl305.slots.size ≤ (v304).toNatClampNeg) := inb_of S305 ⟨hi306, hi310⟩
    have hat305 : cl305.slots[(v304).toNatClampNeg]? = some (.long v312) := Has.at H305 hin305 (by rw [hv312]; exact own_get4_at hi306 hi308)
    refine Go.st (S' := T301.setTop (mkF m 34 #[.val (.ref o0)] [(.long v312), (.int v299)])) (fun t k => X301.laload hx (j := v304) (v := (.long v312)) (own_eh e301 Ar305.1) (State.isArrayOf_alike hZ.alike Ar305.2.1) Ar305.2.2 hin305 hat305 (g := (mkF m 33 #[.val (.ref o0)] [(.int v304), (.ref o_1), (.int v299)])) rfl rfl (hb hby dprog_13_method_9_code_33) t k) ?_
    obtain ⟨v314, hv314⟩ : ∃ z, z = (own_nlz v312) := ⟨_, rfl⟩
    obtain ⟨r313, T313, X313_, hE313, st313⟩ := Jvm.Stand.callS X301 hx (Jvm.Free.JP.Long_numberOfLeadingZeros_J.law l v312) hown (fun w_ hw_ => by simp only [Jvm.Free.XT.staticW, List.mem_cons, List.not_mem_nil, or_false] at hw_; rcases hw_ with rfl | rfl; exact mvT hZ (hw _ (List.mem_of_getElem? (i := 78) rfl)); exact mvT hZ (hw _ (List.mem_of_getElem? (i := 79) rfl))) (own_tab_nlz hw hZ) (W := 1) (by decide) (by decide) (by decide) (by decide) (g := (mkF m 34 #[.val (.ref o0)] [(.long v312), (.int v299)])) rfl (by rw [hml]; rfl) (Steps.refl _) (argsL := [(.long v312)]) (rest := [(.int v299)]) rfl rfl (by show 2 * 0 + _ ≤ _; exact Nat.le_of_eq rfl) (hb hby dprog_13_method_9_code_34) ⟨rfl, trivial⟩
    obtain ⟨rfl, eh313⟩ := hE313
    have e313 := eh313.trans e301
    rw [List.append_nil] at X313_
    have X313 : Stand p l e _ s m _ below meth c T313 _ 0 0 := X313_
    refine Go.st (S' := T313.setTop (mkF m 37 #[.val (.ref o0)] [(.int v314), (.int v299)])) (by rw [hv314]; exact fun t k => st313.trans k) ?_
    refine Go.op (F := fun z => T313.setTop (mkF m 38 #[.val (.ref o0)] [(.int z)])) (x := (v299 - v314)) (fun t k => XS.isub X313.here hx rfl (hb hby dprog_13_method_9_code_37) rfl k) ?_
    intro v315 hv315
    exact Go.ret X313 (v := some (.int v315)) (fun h => by rw [Bd.returns] at h; cases h) Bd.notSynchronized (fun fs hr => retI X313 hx Bd.returns (hb hby dprog_13_method_9_code_38) hr) (by decide) (by decide) (⟨v315, v304, v298, v299, v312, v314, v315, hv304, hv298, hv299, hv312, hv314, hv315, (Or.inr ⟨hc294, hi306, hi308, hi310, rfl⟩), rfl, N0, (e313)⟩)
theorem ef_8 (m : MethodId) (o0 : Addr) : entryFrame m #[(.ref o0)] 1 = mkF m 0 #[.val (.ref o0)] [] := by first | (simp [entryFrame, mkF, argsToLocals, Value.category, maxLocals]; done) | rfl
def Q8 (Z : State) (o0 : Addr) (o_1 : Addr) (k_o_1 : ClassId) (z_o_1 : Int32) (e0_o_1 : Int64) (e1_o_1 : Int64) (e2_o_1 : Int64) (e3_o_1 : Int64) (h0 : Heap) (n0 : Nat) (v : Option Value) (h : Heap) (L : List Loc) : Prop := (∃ (rv8 : Int32), (((z_o_1 = (0 : Int32)) ∧ (rv8 = (1 : Int32))) ∨ ((¬ (z_o_1 = (0 : Int32))) ∧ (rv8 = (0 : Int32)))) ∧ v = some (.int rv8) ∧ Fr n0 L ∧ h = h0)
set_option maxRecDepth 65536 in
set_option maxHeartbeats 40000000 in
theorem rm8 (l : Launch) (Z : State) (a0 : Array Value) (hw : ∀ d ∈ tables_1, d.before a0 Z = true) (ws : List Jvm.Cond) (o0 : Addr) (o_1 : Addr) (k_o_1 : ClassId) (z_o_1 : Int32) (e0_o_1 : Int64) (e1_o_1 : Int64) (e2_o_1 : Int64) (e3_o_1 : Int64) (h0 : Heap) (n0 : Nat) (Z0 : n0 ≤ h0.size) (F_o0_words : Fld Z h0 o0 "com/example/heaplens/heaplens/sharing/VarSet" "words" "[J" (.ref o_1)) (hra_z_o_1 : (¬ (z_o_1 < (0 : Int32)))) (hrb_z_o_1 : (¬ ((4 : Int32) < z_o_1))) (V_o_1 : Arv Z h0 o_1 k_o_1 .long z_o_1 [(.long e0_o_1), (.long e1_o_1), (.long e2_o_1), (.long e3_o_1)] (.long (0 : Int64))) :
    Con l Z (⟨"com/example/heaplens/heaplens/sharing/VarSet", "isEmpty", "()Z"⟩ : MethodName) prog_13_method_5_code 1 (some .boolean) ws ({ frames := 0, cells := 0, slots := 0, locals := 0 } : Room) #[(.ref o0)] h0 0 0 (Q8 Z o0 o_1 k_o_1 z_o_1 e0_o_1 e1_o_1 e2_o_1 e3_o_1 h0 n0) := by
  refine MetFree.of_bodySF (plainFor_of_name pn_0) hisR ?_
  intro p e s m args below meth c s₁ Bd hml0 hP hK
  obtain ⟨rfl, hZ, hh⟩ := hP
  have hx := Bd.exec
  have hby := Bd.bytes
  have hml : c.maxLocals = 1 := hml0
  have hown : s.vm.findClass "com/example/heaplens/heaplens/sharing/VarSet" = some m.cls := findClass_of_methodNamed Bd.named
  have hnm := (name_of_methodNamed Bd.named Bd.method).1
  have X0 : Stand p l e ({ frames := 0, cells := 0, slots := 0, locals := 0 } : Room) s m #[(.ref o0)] below meth c s₁ [] 0 0 := Stand.of_body Bd
  have e0 : s₁.heap = h0 := by rw [← hh, Bd.state]; rfl
  have N0 := Fr.nil n0
  refine Go.of ?_
  refine Go.st (S' := s₁.setTop (mkF m 0 #[.val (.ref o0)] [])) (fun t k => castTop (ef_8 m o0) k) ?_
  refine Go.st (S' := s₁.setTop (mkF m 1 #[.val (.ref o0)] [(.ref o0)])) (fun t k => XS.aloadN X0.here hx rfl (hb hby dprog_13_method_5_code_0) rfl rfl k) ?_
  obtain ⟨T326, X326, e326, st326⟩ := getF X0 hx hZ hown (host := "") (Or.inl (hw _ (List.mem_of_getElem? (i := 14) rfl))) Via.refl e0 F_o0_words (g := (mkF m 1 #[.val (.ref o0)] [(.ref o0)])) rfl rfl (hb hby dprog_13_method_5_code_1)
  refine Go.st (S' := T326.setTop (mkF m 4 #[.val (.ref o0)] [(.ref o_1)])) st326 ?_
  obtain ⟨cl327, Ar327, -, S327, N327_, -, -⟩ := id V_o_1
  refine Go.op (F := fun z => T326.setTop (mkF m 5 #[.val (.ref o0)] [(.int z)])) (x := cl327.slots.size.toInt32) (fun t k => X326.arraylength hx (own_eh e326 Ar327.1) (State.isArrayOf_alike hZ.alike Ar327.2.1) (g := (mkF m 4 #[.val (.ref o0)] [(.ref o_1)])) rfl rfl (hb hby dprog_13_method_5_code_4) t k) ?_
  intro v328 hv328
  obtain rfl : z_o_1 = v328 := (hv328.trans (len_of S327 N327_)).symm
  by_cases hc329 : (z_o_1 = (0 : Int32))
  · refine Go.st (S' := T326.setTop (mkF m 8 #[.val (.ref o0)] [])) (fun t k => XS.ifNo X326.here hx rfl (hb hby dprog_13_method_5_code_5) rfl ((if0 _ _).trans (teq hc329).2) k) ?_
    refine Go.st (S' := T326.setTop (mkF m 9 #[.val (.ref o0)] [(.int (1 : Int32))])) (fun t k => XS.iconst X326.here hx rfl (hb hby dprog_13_method_5_code_8) k) ?_
    refine Go.st (S' := T326.setTop (mkF m 13 #[.val (.ref o0)] [(.int (1 : Int32))])) (fun t k => XS.goto X326.here hx rfl (pc0 := 9) (pc' := 13) rfl (hb hby dprog_13_method_5_code_9) (by decide) (by decide) k) ?_
    exact Go.ret X326 (v := some (.int (1 : Int32))) (fun h => by rw [Bd.returns] at h; cases h) Bd.notSynchronized (fun fs hr => retN X326 hx (t := .boolean) Bd.returns (by simp) (hb hby dprog_13_method_5_code_13) hr) (by decide) (by decide) (⟨(1 : Int32), (Or.inl ⟨hc329, rfl⟩), rfl, N0, (e326)⟩)
  · refine Go.st (S' := T326.setTop (mkF m 12 #[.val (.ref o0)] [])) (fun t k => XS.ifYes X326.here hx rfl (pc0 := 5) (pc' := 12) rfl (hb hby dprog_13_method_5_code_5) rfl ((if0 _ _).trans (feq hc329).2) (by decide) (by decide) k) ?_
    refine Go.st (S' := T326.setTop (mkF m 13 #[.val (.ref o0)] [(.int (0 : Int32))])) (fun t k => XS.iconst X326.here hx rfl (hb hby dprog_13_method_5_code_12) k) ?_
    exact Go.ret X326 (v := some (.int (0 : Int32))) (fun h => by rw [Bd.returns] at h; cases h) Bd.notSynchronized (fun fs hr => retN X326 hx (t := .boolean) Bd.returns (by simp) (hb hby dprog_13_method_5_code_13) hr) (by decide) (by decide) (⟨(0 : Int32), (Or.inr ⟨hc329, rfl⟩), rfl, N0, (e326)⟩)
theorem ef_9 (m : MethodId) (p0 : Int32) (p1 : Int32) : entryFrame m #[(.int p0), (.int p1)] 2 = mkF m 0 #[.val (.int p0), .val (.int p1)] [] := by first | (simp [entryFrame, mkF, argsToLocals, Value.category, maxLocals]; done) | rfl
def Q9 (Z : State) (p0 : Int32) (p1 : Int32) (h0 : Heap) (n0 : Nat) (v : Option Value) (h : Heap) (L : List Loc) : Prop := (∃ (rv9 : Int32), (((p1 < p0) ∧ (rv9 = p1)) ∨ ((¬ (p1 < p0)) ∧ (rv9 = p0))) ∧ v = some (.int rv9) ∧ Fr n0 L ∧ h = h0)
set_option maxRecDepth 65536 in
set_option maxHeartbeats 40000000 in
theorem rm9 (l : Launch) (Z : State) (a0 : Array Value) (hw : ∀ d ∈ tables_1, d.before a0 Z = true) (ws : List Jvm.Cond) (p0 : Int32) (p1 : Int32) (h0 : Heap) (n0 : Nat) (Z0 : n0 ≤ h0.size)  :
    Con l Z (⟨"java/lang/Math", "min", "(II)I"⟩ : MethodName) jdk_29_method_69_code 2 (some .int) ws ({ frames := 0, cells := 0, slots := 0, locals := 0 } : Room) #[(.int p0), (.int p1)] h0 0 0 (Q9 Z p0 p1 h0 n0) := by
  refine MetFree.of_bodySF (Jvm.Free.JP.mathPlain rfl (by decide +kernel)) hisR ?_
  intro p e s m args below meth c s₁ Bd hml0 hP hK
  obtain ⟨rfl, hZ, hh⟩ := hP
  have hx := Bd.exec
  have hby := Bd.bytes
  have hml : c.maxLocals = 2 := hml0
  have hown : s.vm.findClass "java/lang/Math" = some m.cls := findClass_of_methodNamed Bd.named
  have hnm := (name_of_methodNamed Bd.named Bd.method).1
  have X0 : Stand p l e ({ frames := 0, cells := 0, slots := 0, locals := 0 } : Room) s m #[(.int p0), (.int p1)] below meth c s₁ [] 0 0 := Stand.of_body Bd
  have e0 : s₁.heap = h0 := by rw [← hh, Bd.state]; rfl
  have N0 := Fr.nil n0
  refine Go.of ?_
  refine Go.st (S' := s₁.setTop (mkF m 0 #[.val (.int p0), .val (.int p1)] [])) (fun t k => castTop (ef_9 m p0 p1) k) ?_
  refine Go.st (S' := s₁.setTop (mkF m 1 #[.val (.int p0), .val (.int p1)] [(.int p0)])) (fun t k => XS.iloadN X0.here hx rfl (hb hby djdk_29_method_69_code_0) rfl k) ?_
  refine Go.st (S' := s₁.setTop (mkF m 2 #[.val (.int p0), .val (.int p1)] [(.int p1), (.int p0)])) (fun t k => XS.iloadN X0.here hx rfl (hb hby djdk_29_method_69_code_1) rfl k) ?_
  by_cases hc397 : (p1 < p0)
  · refine Go.st (S' := s₁.setTop (mkF m 9 #[.val (.int p0), .val (.int p1)] [])) (fun t k => XS.icmpYes X0.here hx rfl (pc0 := 2) (pc' := 9) rfl (hb hby djdk_29_method_69_code_2) rfl (tlt hc397).2.2.1 (by decide) (by decide) k) ?_
    refine Go.st (S' := s₁.setTop (mkF m 10 #[.val (.int p0), .val (.int p1)] [(.int p1)])) (fun t k => XS.iloadN X0.here hx rfl (hb hby djdk_29_method_69_code_9) rfl k) ?_
    exact Go.ret X0 (v := some (.int p1)) (fun h => by rw [Bd.returns] at h; cases h) Bd.notSynchronized (fun fs hr => retI X0 hx Bd.returns (hb hby djdk_29_method_69_code_10) hr) (by decide) (by decide) (⟨p1, (Or.inl ⟨hc397, rfl⟩), rfl, N0, (e0)⟩)
  · refine Go.st (S' := s₁.setTop (mkF m 5 #[.val (.int p0), .val (.int p1)] [])) (fun t k => XS.icmpNo X0.here hx rfl (hb hby djdk_29_method_69_code_2) rfl (flt hc397).2.2.1 k) ?_
    refine Go.st (S' := s₁.setTop (mkF m 6 #[.val (.int p0), .val (.int p1)] [(.int p0)])) (fun t k => XS.iloadN X0.here hx rfl (hb hby djdk_29_method_69_code_5) rfl k) ?_
    refine Go.st (S' := s₁.setTop (mkF m 10 #[.val (.int p0), .val (.int p1)] [(.int p0)])) (fun t k => XS.goto X0.here hx rfl (pc0 := 6) (pc' := 10) rfl (hb hby djdk_29_method_69_code_6) (by decide) (by decide) k) ?_
    exact Go.ret X0 (v := some (.int p0)) (fun h => by rw [Bd.returns] at h; cases h) Bd.notSynchronized (fun fs hr => retI X0 hx Bd.returns (hb hby djdk_29_method_69_code_10) hr) (by decide) (by decide) (⟨p0, (Or.inr ⟨hc397, rfl⟩), rfl, N0, (e0)⟩)
theorem ef_10 (m : MethodId) (o0 : Addr) (p1 : Int32) : entryFrame m #[(.ref o0), (.int p1)] 3 = mkF m 0 #[.val (.ref o0), .val (.int p1), .unset] [] := by first | (simp [entryFrame, mkF, argsToLocals, Value.category, maxLocals]; done) | rfl
def Q10 (Z : State) (o0 : Addr) (p1 : Int32) (k_o0 : ClassId) (z_o0 : Int32) (e0_o0 : Int64) (e1_o0 : Int64) (e2_o0 : Int64) (e3_o0 : Int64) (h0 : Heap) (n0 : Nat) (v : Option Value) (h : Heap) (L : List Loc) : Prop := (∃ (b388 : Addr) (k388 : ClassId), (¬ (p1 = z_o0)) ∧ (¬ ((4 : Int32) < p1)) ∧ (((p1 < z_o0) ∧ (z_o0 = p1)) ∨ ((¬ (p1 < z_o0)) ∧ (z_o0 = z_o0))) ∧ v = some (.ref b388) ∧ Fr n0 L ∧ Keep h0 h [] ∧ h0.size ≤ b388 ∧ Arv Z h b388 k388 .long p1 [(.long e0_o0), (.long e1_o0), (.long e2_o0), (.long e3_o0)] (.long (0 : Int64)) ∧ Exa Z h b388 "[J")
set_option maxRecDepth 65536 in
set_option maxHeartbeats 40000000 in
theorem rm10 (l : Launch) (Z : State) (a0 : Array Value) (hw : ∀ d ∈ tables_1, d.before a0 Z = true) (ws : List Jvm.Cond) (o0 : Addr) (p1 : Int32) (k_o0 : ClassId) (z_o0 : Int32) (e0_o0 : Int64) (e1_o0 : Int64) (e2_o0 : Int64) (e3_o0 : Int64) (h0 : Heap) (n0 : Nat) (Z0 : n0 ≤ h0.size) (hra_p1 : (¬ (p1 < (1 : Int32)))) (hrb_p1 : (¬ ((4 : Int32) < p1))) (hra_z_o0 : (¬ (z_o0 < (0 : Int32)))) (hrb_z_o0 : (¬ ((4 : Int32) < z_o0))) (V_o0 : Arv Z h0 o0 k_o0 .long z_o0 [(.long e0_o0), (.long e1_o0), (.long e2_o0), (.long e3_o0)] (.long (0 : Int64))) (hra_rel : (z_o0 < p1)) (inv_o0 : ((0 : Int32) < z_o0 ∨ e0_o0 = (0 : Int64)) ∧ ((1 : Int32) < z_o0 ∨ e1_o0 = (0 : Int64)) ∧ ((2 : Int32) < z_o0 ∨ e2_o0 = (0 : Int64)) ∧ ((3 : Int32) < z_o0 ∨ e3_o0 = (0 : Int64))) :
    Con l Z (⟨"java/util/Arrays", "copyOf", "([JI)[J"⟩ : MethodName) jdk_65_method_124_code 3 (some (.array .long)) ws ({ frames := 1, cells := 1, slots := 4, locals := 40 } : Room) #[(.ref o0), (.int p1)] h0 1 4 (Q10 Z o0 p1 k_o0 z_o0 e0_o0 e1_o0 e2_o0 e3_o0 h0 n0) := by
  refine MetFree.of_bodySF (plainFor_of_name pn_1) hisR ?_
  intro p e s m args below meth c s₁ Bd hml0 hP hK
  obtain ⟨rfl, hZ, hh⟩ := hP
  have hx := Bd.exec
  have hby := Bd.bytes
  have hml : c.maxLocals = 3 := hml0
  have hown : s.vm.findClass "java/util/Arrays" = some m.cls := findClass_of_methodNamed Bd.named
  have hnm := (name_of_methodNamed Bd.named Bd.method).1
  have X0 : Stand p l e ({ frames := 1, cells := 1, slots := 4, locals := 40 } : Room) s m #[(.ref o0), (.int p1)] below meth c s₁ [] 0 0 := Stand.of_body Bd
  have e0 : s₁.heap = h0 := by rw [← hh, Bd.state]; rfl
  have N0 := Fr.nil n0
  refine Go.of ?_
  refine Go.st (S' := s₁.setTop (mkF m 0 #[.val (.ref o0), .val (.int p1), .unset] [])) (fun t k => castTop (ef_10 m o0 p1) k) ?_
  refine Go.st (S' := s₁.setTop (mkF m 1 #[.val (.ref o0), .val (.int p1), .unset] [(.int p1)])) (fun t k => XS.iloadN X0.here hx rfl (hb hby djdk_65_method_124_code_0) rfl k) ?_
  refine Go.st (S' := s₁.setTop (mkF m 2 #[.val (.ref o0), .val (.int p1), .unset] [(.ref o0), (.int p1)])) (fun t k => XS.aloadN X0.here hx rfl (hb hby djdk_65_method_124_code_1) rfl rfl k) ?_
  obtain ⟨cl385, Ar385, -, S385, N385_, -, -⟩ := id V_o0
  refine Go.op (F := fun z => s₁.setTop (mkF m 3 #[.val (.ref o0), .val (.int p1), .unset] [(.int z), (.int p1)])) (x := cl385.slots.size.toInt32) (fun t k => X0.arraylength hx (own_eh e0 Ar385.1) (State.isArrayOf_alike hZ.alike Ar385.2.1) (g := (mkF m 2 #[.val (.ref o0), .val (.int p1), .unset] [(.ref o0), (.int p1)])) rfl rfl (hb hby djdk_65_method_124_code_2) t k) ?_
  intro v386 hv386
  obtain rfl : z_o0 = v386 := (hv386.trans (len_of S385 N385_)).symm
  by_cases hc387 : (p1 = z_o0)
  · exfalso
    exact ar_26 p1 z_o0 hra_p1 hrb_p1 hra_z_o0 hrb_z_o0 hra_rel hc387
  · refine Go.st (S' := s₁.setTop (mkF m 14 #[.val (.ref o0), .val (.int p1), .unset] [])) (fun t k => XS.icmpYes X0.here hx rfl (pc0 := 3) (pc' := 14) rfl (hb hby djdk_65_method_124_code_3) rfl (feq hc387).2 (by decide) (by decide) k) ?_
    refine Go.st (S' := s₁.setTop (mkF m 15 #[.val (.ref o0), .val (.int p1), .unset] [(.int p1)])) (fun t k => XS.iloadN X0.here hx rfl (hb hby djdk_65_method_124_code_14) rfl k) ?_
    have hl389 : ¬ (p1 < 0) := by
      intro hc392
      exact ar_27 p1 z_o0 hra_p1 hrb_p1 hra_z_o0 hrb_z_o0 hra_rel hc387 hc392
    have hl390 : ¬ ((4 : Int32) < p1) := by
      intro hc392
      exact ar_28 p1 z_o0 hra_p1 hrb_p1 hra_z_o0 hrb_z_o0 hra_rel hc387 hc392
    obtain ⟨T388, h388, k388, X388, e388, E388, A388, B388, st388⟩ := newPE X0 hx hZ (hw _ (List.mem_of_getElem? (i := 5) rfl)) e0 (g := (mkF m 15 #[.val (.ref o0), .val (.int p1), .unset] [(.int p1)])) rfl (hb hby djdk_65_method_124_code_15) rfl hl389 (cap := 4) (own_capI hl390 (by decide)) (by decide) (by decide) (by decide) (ad := "[J") (by decide)
    obtain ⟨b388, gg388⟩ : ∃ z, z = h0.size := ⟨_, rfl⟩
    rw [← gg388] at A388 B388 st388
    have g_b388 : n0 ≤ b388 := Nat.le_trans Z0 (Nat.le_of_eq gg388.symm)
    have sz_b388 : h0.size ≤ b388 := Nat.le_trans (Keep.refl h0 []).1 (Nat.le_of_eq gg388.symm)
    have Z393 : n0 ≤ h388.size := Nat.le_trans Z0 E388.1
    have K393 : Keep h0 h388 [] := (Keep.refl h0 []).ext E388
    have V388 : Arv Z h388 b388 k388 .long p1 [(.long (0 : Int64)), (.long (0 : Int64)), (.long (0 : Int64)), (.long (0 : Int64))] (.long (0 : Int64)) := (Arv.new A388 hl389).pad (pad_rep [] (.long (0 : Int64)) 4)
    refine Go.st (S' := T388.setTop (mkF m 17 #[.val (.ref o0), .val (.int p1), .unset] [(.ref b388)])) st388 ?_
    refine Go.st (S' := T388.setTop (mkF m 18 #[.val (.ref o0), .val (.int p1), .val (.ref b388)] [])) (fun t k => XS.astoreN X388.here hx rfl (hb hby djdk_65_method_124_code_17) rfl rfl (l' := #[.val (.ref o0), .val (.int p1), .val (.ref b388)]) rfl k) ?_
    refine Go.st (S' := T388.setTop (mkF m 19 #[.val (.ref o0), .val (.int p1), .val (.ref b388)] [(.ref o0)])) (fun t k => XS.aloadN X388.here hx rfl (hb hby djdk_65_method_124_code_18) rfl rfl k) ?_
    refine Go.st (S' := T388.setTop (mkF m 20 #[.val (.ref o0), .val (.int p1), .val (.ref b388)] [(.int (0 : Int32)), (.ref o0)])) (fun t k => XS.iconst X388.here hx rfl (hb hby djdk_65_method_124_code_19) k) ?_
    refine Go.st (S' := T388.setTop (mkF m 21 #[.val (.ref o0), .val (.int p1), .val (.ref b388)] [(.ref b388), (.int (0 : Int32)), (.ref o0)])) (fun t k => XS.aloadN X388.here hx rfl (hb hby djdk_65_method_124_code_20) rfl rfl k) ?_
    refine Go.st (S' := T388.setTop (mkF m 22 #[.val (.ref o0), .val (.int p1), .val (.ref b388)] [(.int (0 : Int32)), (.ref b388), (.int (0 : Int32)), (.ref o0)])) (fun t k => XS.iconst X388.here hx rfl (hb hby djdk_65_method_124_code_21) k) ?_
    refine Go.st (S' := T388.setTop (mkF m 23 #[.val (.ref o0), .val (.int p1), .val (.ref b388)] [(.ref o0), (.int (0 : Int32)), (.ref b388), (.int (0 : Int32)), (.ref o0)])) (fun t k => XS.aloadN X388.here hx rfl (hb hby djdk_65_method_124_code_22) rfl rfl k) ?_
    have f394 := ((V_o0).ext E388)
    obtain ⟨cl395, Ar395, -, S395, N395_, -, -⟩ := id f394
    refine Go.op (F := fun z => T388.setTop (mkF m 24 #[.val (.ref o0), .val (.int p1), .val (.ref b388)] [(.int z), (.int (0 : Int32)), (.ref b388), (.int (0 : Int32)), (.ref o0)])) (x := cl395.slots.size.toInt32) (fun t k => X388.arraylength hx (own_eh e388 Ar395.1) (State.isArrayOf_alike hZ.alike Ar395.2.1) (g := (mkF m 23 #[.val (.ref o0), .val (.int p1), .val (.ref b388)] [(.ref o0), (.int (0 : Int32)), (.ref b388), (.int (0 : Int32)), (.ref o0)])) rfl rfl (hb hby djdk_65_method_124_code_23) t k) ?_
    intro v396 hv396
    obtain rfl : z_o0 = v396 := (hv396.trans (len_of S395 N395_)).symm
    refine Go.st (S' := T388.setTop (mkF m 25 #[.val (.ref o0), .val (.int p1), .val (.ref b388)] [(.int p1), (.int z_o0), (.int (0 : Int32)), (.ref b388), (.int (0 : Int32)), (.ref o0)])) (fun t k => XS.iloadN X388.here hx rfl (hb hby djdk_65_method_124_code_24) rfl k) ?_
    obtain ⟨r398, T398, L398, X398, hQ398, st398⟩ := own_callS (W := 4) X388 hx hZ e388 hown (y := (⟨"java/lang/Math", "min", "(II)I"⟩ : MethodName)) (hw _ (List.mem_of_getElem? (i := 50) rfl)) (hw _ (List.mem_of_getElem? (i := 51) rfl)) (hw _ (List.mem_of_getElem? (i := 52) rfl)) (hw _ (List.mem_of_getElem? (i := 53) rfl)) (by decide) (rm9 l Z a0 hw [] z_o0 p1 h388 n0 Z393 ) (by decide) (by decide) (by decide) (by decide) (g := (mkF m 25 #[.val (.ref o0), .val (.int p1), .val (.ref b388)] [(.int p1), (.int z_o0), (.int (0 : Int32)), (.ref b388), (.int (0 : Int32)), (.ref o0)])) rfl (by rw [hml]; rfl) (argsL := [(.int z_o0), (.int p1)]) (rest := [(.int (0 : Int32)), (.ref b388), (.int (0 : Int32)), (.ref o0)]) rfl (lenOf pd_6 rfl) rfl (by show 2 * 0 + _ ≤ _; exact Nat.le_of_eq rfl) (hb hby djdk_65_method_124_code_25)
    obtain ⟨r399, hc400, rfl, N398, e398⟩ := hQ398
    have N398_ := Fr.app N0 N398
    refine Go.st (S' := T398.setTop (mkF m 28 #[.val (.ref o0), .val (.int p1), .val (.ref b388)] [(.int r399), (.int (0 : Int32)), (.ref b388), (.int (0 : Int32)), (.ref o0)])) st398 ?_
    have hu401 : z_o0 = r399 := by
      refine Decidable.byContradiction fun hc402 => ?_
      exact ar_29 p1 z_o0 r399 hra_p1 hrb_p1 hra_z_o0 hrb_z_o0 hra_rel hc387 hl390 hc400 hc402
    obtain rfl : z_o0 = r399 := hu401
    obtain ⟨T403, h403, L403, X403, e403, N403, K403_, V403, st403⟩ := cpA X398 hx hZ hown (hw _ (List.mem_of_getElem? (i := 54) rfl)) (hw _ (List.mem_of_getElem? (i := 57) rfl)) (hw _ (List.mem_of_getElem? (i := 55) rfl)) (hw _ (List.mem_of_getElem? (i := 56) rfl)) e398 (f394) (V388) (sp := 0) (dp := 0) (nn := z_o0) (us := _) (Or.inl ⟨rfl, rfl⟩) (by decide) (by decide) hra_z_o0 (own_cp1 _) (own_cp2 hra_rel) rfl (own_cp3 hrb_z_o0) N398_ g_b388 (g := (mkF m 28 #[.val (.ref o0), .val (.int p1), .val (.ref b388)] [(.int z_o0), (.int (0 : Int32)), (.ref b388), (.int (0 : Int32)), (.ref o0)])) rfl (by rw [hml]; rfl) rfl (hb hby djdk_65_method_124_code_28) (by decide) (W := 0) (by show 2 * 0 + _ ≤ _; exact Nat.le_of_eq rfl) (by decide)
    have V403 : Arv Z h403 b388 k388 .long p1 [(.long e0_o0), (.long e1_o0), (.long e2_o0), (.long e3_o0)] (.long (0 : Int64)) := V403.pad (own_cp4 hra_z_o0 hrb_z_o0 inv_o0)
    have Z404 : n0 ≤ h403.size := Nat.le_trans Z393 K403_.1
    have K404 : Keep h0 h403 [] := K393.trans K403_ (allS (Or.inr sz_b388) all0)
    refine Go.st (S' := T403.setTop (mkF m 31 #[.val (.ref o0), .val (.int p1), .val (.ref b388)] [])) st403 ?_
    refine Go.st (S' := T403.setTop (mkF m 32 #[.val (.ref o0), .val (.int p1), .val (.ref b388)] [(.ref b388)])) (fun t k => XS.aloadN X403.here hx rfl (hb hby djdk_65_method_124_code_31) rfl rfl k) ?_
    have f405 := ((B388).keep K403_)
    exact Go.ret X403 (v := some (.ref b388)) (fun h => by rw [Bd.returns] at h; cases h) Bd.notSynchronized (fun fs hr => retOut X403 hx Bd.returns rfl (Or.inr (Or.inr (Or.inr (Or.inr ⟨rfl, rfl, rfl⟩)))) (hb hby djdk_65_method_124_code_32) hr) (by decide) (by decide) (by rw [e403]; exact ⟨b388, k388, hc387, hl390, hc400, rfl, N403, K404, sz_b388, V403, f405⟩)
theorem ef_11 (m : MethodId) (o0 : Addr) : entryFrame m #[(.ref o0)] 6 = mkF m 0 #[.val (.ref o0), .unset, .unset, .unset, .unset, .unset] [] := by first | (simp [entryFrame, mkF, argsToLocals, Value.category, maxLocals]; done) | rfl
def Q11 (Z : State) (o0 : Addr) (k_o0 : ClassId) (e0_o0 : Int32) (h0 : Heap) (n0 : Nat) (v : Option Value) (h : Heap) (L : List Loc) : Prop := (∃ (v379 : Int32) (v384 : Int32) (v430 : Int64) (v433 : Int64) (v434 : Int64) (v435 : Int64) (v436 : Int64) (b368 : Addr) (b414 : Addr) (b440 : Addr) (k368 : ClassId) (k415 : ClassId), v379 = (e0_o0 >>> ((6 : Int32) &&& 31)) ∧ v384 = (v379 + (1 : Int32)) ∧ v430 = ((1 : Int64) <<< (e0_o0 &&& 0x3f).toInt64) ∧ v433 = ((0 : Int64) ||| (if v379 = (0 : Int32) then v430 else 0)) ∧ v434 = ((0 : Int64) ||| (if v379 = (1 : Int32) then v430 else 0)) ∧ v435 = ((0 : Int64) ||| (if v379 = (2 : Int32) then v430 else 0)) ∧ v436 = ((0 : Int64) ||| (if v379 = (3 : Int32) then v430 else 0)) ∧ (¬ (v379 < (0 : Int32))) ∧ (¬ (v384 < (1 : Int32))) ∧ (¬ ((4 : Int32) < v384)) ∧ ((0 : Int32) < v384) ∧ (¬ (v384 = (0 : Int32))) ∧ (¬ ((4 : Int32) < v384)) ∧ (((v384 < (0 : Int32)) ∧ ((0 : Int32) = v384)) ∨ ((¬ (v384 < (0 : Int32))) ∧ ((0 : Int32) = (0 : Int32)))) ∧ (v379 < (4 : Int32)) ∧ (v379 < v384) ∧ v = some (.ref b440) ∧ Fr n0 L ∧ Keep h0 h [] ∧ h0.size ≤ b368 ∧ h0.size ≤ b414 ∧ h0.size ≤ b440 ∧ Arv Z h b368 k368 .long (0 : Int32) [(.long (0 : Int64)), (.long (0 : Int64)), (.long (0 : Int64)), (.long (0 : Int64))] (.long (0 : Int64)) ∧ Exa Z h b368 "[J" ∧ Arv Z h b414 k415 .long v384 [(.long v433), (.long v434), (.long v435), (.long v436)] (.long (0 : Int64)) ∧ Exa Z h b414 "[J" ∧ Exa Z h b440 "com/example/heaplens/heaplens/sharing/VarSet" ∧ Fld Z h b440 "com/example/heaplens/heaplens/sharing/VarSet" "words" "[J" (.ref b414) ∧ b368 < b414 ∧ b368 < b440 ∧ b414 < b440)
set_option maxRecDepth 65536 in
set_option maxHeartbeats 40000000 in
theorem rm11 (l : Launch) (Z : State) (a0 : Array Value) (hw : ∀ d ∈ tables_1, d.before a0 Z = true) (ws : List Jvm.Cond) (o0 : Addr) (k_o0 : ClassId) (e0_o0 : Int32) (h0 : Heap) (n0 : Nat) (Z0 : n0 ≤ h0.size) (hra_e0_o0 : (¬ (e0_o0 < (0 : Int32)))) (hrb_e0_o0 : (¬ ((255 : Int32) < e0_o0))) (V_o0 : Arv Z h0 o0 k_o0 .int (1 : Int32) [(.int e0_o0)] (.int (0 : Int32))) :
    Con l Z (⟨"com/example/heaplens/heaplens/sharing/VarSet", "of", "([I)Lcom/example/heaplens/heaplens/sharing/VarSet;"⟩ : MethodName) prog_13_method_2_code 6 (some (.object "com/example/heaplens/heaplens/sharing/VarSet")) ws ({ frames := 2, cells := 3, slots := 6, locals := 54 } : Room) #[(.ref o0)] h0 3 6 (Q11 Z o0 k_o0 e0_o0 h0 n0) := by
  refine MetFree.of_bodySF (plainFor_of_name pn_0) hisR ?_
  intro p e s m args below meth c s₁ Bd hml0 hP hK
  obtain ⟨rfl, hZ, hh⟩ := hP
  have hx := Bd.exec
  have hby := Bd.bytes
  have hml : c.maxLocals = 6 := hml0
  have hown : s.vm.findClass "com/example/heaplens/heaplens/sharing/VarSet" = some m.cls := findClass_of_methodNamed Bd.named
  have hnm := (name_of_methodNamed Bd.named Bd.method).1
  have X0 : Stand p l e ({ frames := 2, cells := 3, slots := 6, locals := 54 } : Room) s m #[(.ref o0)] below meth c s₁ [] 0 0 := Stand.of_body Bd
  have e0 : s₁.heap = h0 := by rw [← hh, Bd.state]; rfl
  have N0 := Fr.nil n0
  refine Go.of ?_
  refine Go.st (S' := s₁.setTop (mkF m 0 #[.val (.ref o0), .unset, .unset, .unset, .unset, .unset] [])) (fun t k => castTop (ef_11 m o0) k) ?_
  refine Go.st (S' := s₁.setTop (mkF m 1 #[.val (.ref o0), .unset, .unset, .unset, .unset, .unset] [(.int (0 : Int32))])) (fun t k => XS.iconst X0.here hx rfl (hb hby dprog_13_method_2_code_0) k) ?_
  obtain ⟨T368, h368, k368, X368, e368, E368, A368, B368, st368⟩ := newPE X0 hx hZ (hw _ (List.mem_of_getElem? (i := 5) rfl)) e0 (g := (mkF m 1 #[.val (.ref o0), .unset, .unset, .unset, .unset, .unset] [(.int (0 : Int32))])) rfl (hb hby dprog_13_method_2_code_1) rfl (by decide) (cap := 0) (by decide) (by decide) (by decide) (by decide) (ad := "[J") (by decide)
  obtain ⟨b368, gg368⟩ : ∃ z, z = h0.size := ⟨_, rfl⟩
  rw [← gg368] at A368 B368 st368
  have g_b368 : n0 ≤ b368 := Nat.le_trans Z0 (Nat.le_of_eq gg368.symm)
  have sz_b368 : h0.size ≤ b368 := Nat.le_trans (Keep.refl h0 []).1 (Nat.le_of_eq gg368.symm)
  have Z369 : n0 ≤ h368.size := Nat.le_trans Z0 E368.1
  have K369 : Keep h0 h368 [] := (Keep.refl h0 []).ext E368
  have V368 : Arv Z h368 b368 k368 .long (0 : Int32) [(.long (0 : Int64)), (.long (0 : Int64)), (.long (0 : Int64)), (.long (0 : Int64))] (.long (0 : Int64)) := (Arv.new A368 (by decide)).pad (pad_rep [] (.long (0 : Int64)) 4)
  refine Go.st (S' := T368.setTop (mkF m 3 #[.val (.ref o0), .unset, .unset, .unset, .unset, .unset] [(.ref b368)])) st368 ?_
  let A370 : Array Slot := #[.val (.ref o0), .val (.ref b368), .unset, .unset, .unset, .unset]
  refine Go.st (S' := T368.setTop (mkF m 4 A370 [])) (fun t k => XS.astoreN X368.here hx rfl (hb hby dprog_13_method_2_code_3) rfl rfl (l' := A370) rfl k) ?_
  refine Go.st (S' := T368.setTop (mkF m 5 A370 [(.ref o0)])) (fun t k => XS.aloadN X368.here hx rfl (hb hby dprog_13_method_2_code_4) rfl rfl k) ?_
  let A371 : Array Slot := #[.val (.ref o0), .val (.ref b368), .val (.ref o0), .unset, .unset, .unset]
  refine Go.st (S' := T368.setTop (mkF m 6 A371 [])) (fun t k => XS.astoreN X368.here hx rfl (hb hby dprog_13_method_2_code_5) rfl rfl (l' := A371) rfl k) ?_
  refine Go.st (S' := T368.setTop (mkF m 7 A371 [(.ref o0)])) (fun t k => XS.aloadN X368.here hx rfl (hb hby dprog_13_method_2_code_6) rfl rfl k) ?_
  have f372 := ((V_o0).ext E368)
  obtain ⟨cl373, Ar373, -, S373, N373_, -, -⟩ := id f372
  refine Go.op (F := fun z => T368.setTop (mkF m 8 A371 [(.int z)])) (x := cl373.slots.size.toInt32) (fun t k => X368.arraylength hx (own_eh e368 Ar373.1) (State.isArrayOf_alike hZ.alike Ar373.2.1) (g := (mkF m 7 A371 [(.ref o0)])) rfl rfl (hb hby dprog_13_method_2_code_7) t k) ?_
  intro v374 hv374
  obtain rfl : (1 : Int32) = v374 := (hv374.trans (len_of S373 N373_)).symm
  let A375 : Array Slot := #[.val (.ref o0), .val (.ref b368), .val (.ref o0), .val (.int (1 : Int32)), .unset, .unset]
  refine Go.st (S' := T368.setTop (mkF m 9 A375 [])) (fun t k => XS.istoreN X368.here hx rfl (hb hby dprog_13_method_2_code_8) rfl (l' := A375) rfl k) ?_
  refine Go.st (S' := T368.setTop (mkF m 10 A375 [(.int (0 : Int32))])) (fun t k => XS.iconst X368.here hx rfl (hb hby dprog_13_method_2_code_9) k) ?_
  let A376 : Array Slot := #[.val (.ref o0), .val (.ref b368), .val (.ref o0), .val (.int (1 : Int32)), .val (.int (0 : Int32)), .unset]
  refine Go.st (S' := T368.setTop (mkF m 12 A376 [])) (fun t k => XS.istore X368.here hx rfl (hb hby dprog_13_method_2_code_10) rfl (l' := A376) rfl k) ?_
  refine Go.st (S' := T368.setTop (mkF m 14 A376 [(.int (0 : Int32))])) (fun t k => XS.iload X368.here hx rfl (hb hby dprog_13_method_2_code_12) rfl k) ?_
  refine Go.st (S' := T368.setTop (mkF m 15 A376 [(.int (1 : Int32)), (.int (0 : Int32))])) (fun t k => XS.iloadN X368.here hx rfl (hb hby dprog_13_method_2_code_14) rfl k) ?_
  refine Go.st (S' := T368.setTop (mkF m 18 A376 [])) (fun t k => XS.icmpNo X368.here hx rfl (hb hby dprog_13_method_2_code_15) rfl (tlt (by decide : ((0 : Int32) < (1 : Int32)))).2.1 k) ?_
  refine Go.st (S' := T368.setTop (mkF m 19 A376 [(.ref o0)])) (fun t k => XS.aloadN X368.here hx rfl (hb hby dprog_13_method_2_code_18) rfl rfl k) ?_
  refine Go.st (S' := T368.setTop (mkF m 21 A376 [(.int (0 : Int32)), (.ref o0)])) (fun t k => XS.iload X368.here hx rfl (hb hby dprog_13_method_2_code_19) rfl k) ?_
  obtain ⟨cl377, Ar377, -, S377, N377_, H377, -⟩ := id f372
  have hin377 : ¬ ((0 : Int32) < 0 ∨ cl377.slots.size ≤ ((0 : Int32)).toNatClampNeg) := inb_of S377 ⟨by decide, by decide⟩
  have hat377 : cl377.slots[((0 : Int32)).toNatClampNeg]? = some (.int e0_o0) := Has.at H377 hin377 rfl
  refine Go.st (S' := T368.setTop (mkF m 22 A376 [(.int e0_o0)])) (fun t k => X368.iaload hx (j := (0 : Int32)) (v := (.int e0_o0)) (own_eh e368 Ar377.1) (State.isArrayOf_alike hZ.alike Ar377.2.1) Ar377.2.2 hin377 hat377 (g := (mkF m 21 A376 [(.int (0 : Int32)), (.ref o0)])) rfl rfl (hb hby dprog_13_method_2_code_21) t k) ?_
  let A378 : Array Slot := #[.val (.ref o0), .val (.ref b368), .val (.ref o0), .val (.int (1 : Int32)), .val (.int (0 : Int32)), .val (.int e0_o0)]
  refine Go.st (S' := T368.setTop (mkF m 24 A378 [])) (fun t k => XS.istore X368.here hx rfl (hb hby dprog_13_method_2_code_22) rfl (l' := A378) rfl k) ?_
  refine Go.st (S' := T368.setTop (mkF m 26 A378 [(.int e0_o0)])) (fun t k => XS.iload X368.here hx rfl (hb hby dprog_13_method_2_code_24) rfl k) ?_
  refine Go.st (S' := T368.setTop (mkF m 28 A378 [(.int (6 : Int32)), (.int e0_o0)])) (fun t k => XS.bipush X368.here hx rfl (hb hby dprog_13_method_2_code_26) k) ?_
  refine Go.op (F := fun z => T368.setTop (mkF m 29 A378 [(.int z)])) (x := (e0_o0 >>> ((6 : Int32) &&& 31))) (fun t k => XS.ishr X368.here hx rfl (hb hby dprog_13_method_2_code_28) rfl k) ?_
  intro v379 hv379
  refine Go.st (S' := T368.setTop (mkF m 30 A378 [(.ref b368), (.int v379)])) (fun t k => XS.aloadN X368.here hx rfl (hb hby dprog_13_method_2_code_29) rfl rfl k) ?_
  obtain ⟨cl380, Ar380, -, S380, N380_, -, -⟩ := id V368
  refine Go.op (F := fun z => T368.setTop (mkF m 31 A378 [(.int z), (.int v379)])) (x := cl380.slots.size.toInt32) (fun t k => X368.arraylength hx (own_eh e368 Ar380.1) (State.isArrayOf_alike hZ.alike Ar380.2.1) (g := (mkF m 30 A378 [(.ref b368), (.int v379)])) rfl rfl (hb hby dprog_13_method_2_code_30) t k) ?_
  intro v381 hv381
  obtain rfl : (0 : Int32) = v381 := (hv381.trans (len_of S380 N380_)).symm
  by_cases hc382 : (v379 < (0 : Int32))
  · exfalso
    exact ar_25 e0_o0 v379 hv379 hra_e0_o0 hrb_e0_o0 hc382
  · refine Go.st (S' := T368.setTop (mkF m 34 A378 [])) (fun t k => XS.icmpNo X368.here hx rfl (hb hby dprog_13_method_2_code_31) rfl (flt hc382).1 k) ?_
    refine Go.st (S' := T368.setTop (mkF m 35 A378 [(.ref b368)])) (fun t k => XS.aloadN X368.here hx rfl (hb hby dprog_13_method_2_code_34) rfl rfl k) ?_
    refine Go.st (S' := T368.setTop (mkF m 37 A378 [(.int e0_o0), (.ref b368)])) (fun t k => XS.iload X368.here hx rfl (hb hby dprog_13_method_2_code_35) rfl k) ?_
    refine Go.st (S' := T368.setTop (mkF m 39 A378 [(.int (6 : Int32)), (.int e0_o0), (.ref b368)])) (fun t k => XS.bipush X368.here hx rfl (hb hby dprog_13_method_2_code_37) k) ?_
    refine Go.op (F := fun z => T368.setTop (mkF m 40 A378 [(.int z), (.ref b368)])) (x := (e0_o0 >>> ((6 : Int32) &&& 31))) (fun t k => XS.ishr X368.here hx rfl (hb hby dprog_13_method_2_code_39) rfl k) ?_
    intro v383 hv383
    obtain rfl : v379 = v383 := hv379.trans hv383.symm
    refine Go.st (S' := T368.setTop (mkF m 41 A378 [(.int (1 : Int32)), (.int v379), (.ref b368)])) (fun t k => XS.iconst X368.here hx rfl (hb hby dprog_13_method_2_code_40) k) ?_
    refine Go.op (F := fun z => T368.setTop (mkF m 42 A378 [(.int z), (.ref b368)])) (x := (v379 + (1 : Int32))) (fun t k => XS.iadd X368.here hx rfl (hb hby dprog_13_method_2_code_41) rfl k) ?_
    intro v384 hv384
    have hi406 : (¬ (v384 < (1 : Int32))) := by
      intro hc407
      exact ar_30 e0_o0 v379 v384 hv379 hv384 hra_e0_o0 hrb_e0_o0 hc382 hc407
    have hi408 : (¬ ((4 : Int32) < v384)) := by
      intro hc409
      exact ar_31 e0_o0 v379 v384 hv379 hv384 hra_e0_o0 hrb_e0_o0 hc382 hi406 hc409
    have hi410 : ((0 : Int32) < v384) := by
      refine Decidable.byContradiction fun hc411 => ?_
      exact ar_32 e0_o0 v379 v384 hv379 hv384 hra_e0_o0 hrb_e0_o0 hc382 hi406 hi408 hc411
    have iv412 : ((0 : Int32) < (0 : Int32) ∨ (0 : Int64) = (0 : Int64)) ∧ ((1 : Int32) < (0 : Int32) ∨ (0 : Int64) = (0 : Int64)) ∧ ((2 : Int32) < (0 : Int32) ∨ (0 : Int64) = (0 : Int64)) ∧ ((3 : Int32) < (0 : Int32) ∨ (0 : Int64) = (0 : Int64)) := ⟨(Or.inr rfl), (Or.inr rfl), (Or.inr rfl), (Or.inr rfl)⟩
    obtain ⟨r413, T413, L413, X413, hQ413, st413⟩ := own_callS (W := 0) X368 hx hZ e368 hown (y := (⟨"java/util/Arrays", "copyOf", "([JI)[J"⟩ : MethodName)) (hw _ (List.mem_of_getElem? (i := 46) rfl)) (hw _ (List.mem_of_getElem? (i := 47) rfl)) (hw _ (List.mem_of_getElem? (i := 48) rfl)) (hw _ (List.mem_of_getElem? (i := 49) rfl)) (by decide) (rm10 l Z a0 hw [] b368 v384 k368 (0 : Int32) (0 : Int64) (0 : Int64) (0 : Int64) (0 : Int64) h368 n0 Z369 (hi406) (hi408) ((by decide : (¬ ((0 : Int32) < (0 : Int32))))) ((by decide : (¬ ((4 : Int32) < (0 : Int32))))) (V368) (hi410) (iv412)) (by decide) (by decide) (by decide) (by decide) (g := (mkF m 42 A378 [(.int v384), (.ref b368)])) rfl (by rw [hml]; rfl) (argsL := [(.ref b368), (.int v384)]) (rest := []) rfl (lenOf pd_7 rfl) rfl (by show 2 * 0 + _ ≤ _; exact Nat.le_of_eq rfl) (hb hby dprog_13_method_2_code_42)
    obtain ⟨b414, k415, hc416, hc417, hc418, rfl, N413, K413_, sz_b414_, f419, f420⟩ := hQ413
    have N413_ := Fr.app N0 N413
    have g_b414 : n0 ≤ b414 := Nat.le_trans Z369 sz_b414_
    have sz_b414 : h0.size ≤ b414 := Nat.le_trans K369.1 sz_b414_
    have lt_b368_b414 : b368 < b414 := Nat.lt_of_lt_of_le (B368).lt sz_b414_
    have Z421 : n0 ≤ T413.heap.size := Nat.le_trans Z369 K413_.1
    have K421 : Keep h0 T413.heap [] := K369.trans K413_ all0
    refine Go.st (S' := T413.setTop (mkF m 45 A378 [(.ref b414)])) st413 ?_
    let A422 : Array Slot := #[.val (.ref o0), .val (.ref b414), .val (.ref o0), .val (.int (1 : Int32)), .val (.int (0 : Int32)), .val (.int e0_o0)]
    refine Go.st (S' := T413.setTop (mkF m 46 A422 [])) (fun t k => XS.astoreN X413.here hx rfl (hb hby dprog_13_method_2_code_45) rfl rfl (l' := A422) rfl k) ?_
    refine Go.st (S' := T413.setTop (mkF m 47 A422 [(.ref b414)])) (fun t k => XS.aloadN X413.here hx rfl (hb hby dprog_13_method_2_code_46) rfl rfl k) ?_
    refine Go.st (S' := T413.setTop (mkF m 49 A422 [(.int e0_o0), (.ref b414)])) (fun t k => XS.iload X413.here hx rfl (hb hby dprog_13_method_2_code_47) rfl k) ?_
    refine Go.st (S' := T413.setTop (mkF m 51 A422 [(.int (6 : Int32)), (.int e0_o0), (.ref b414)])) (fun t k => XS.bipush X413.here hx rfl (hb hby dprog_13_method_2_code_49) k) ?_
    refine Go.op (F := fun z => T413.setTop (mkF m 52 A422 [(.int z), (.ref b414)])) (x := (e0_o0 >>> ((6 : Int32) &&& 31))) (fun t k => XS.ishr X413.here hx rfl (hb hby dprog_13_method_2_code_51) rfl k) ?_
    intro v423 hv423
    obtain rfl : v379 = v423 := hv379.trans hv423.symm
    refine Go.st (S' := T413.setTop (mkF m 53 A422 [(.int v379), (.ref b414), (.int v379), (.ref b414)])) (fun t k => Jvm.Free.XT.dup2 X413.here hx rfl (hb hby dprog_13_method_2_code_52) rfl rfl rfl k) ?_
    have hi425 : (v379 < (4 : Int32)) := by
      refine Decidable.byContradiction fun hc426 => ?_
      exact ar_33 e0_o0 v379 hv379 hra_e0_o0 hrb_e0_o0 hc382 hc426
    have hi427 : (v379 < v384) := by
      refine Decidable.byContradiction fun hc428 => ?_
      exact ar_34 e0_o0 v379 v384 hv379 hv384 hra_e0_o0 hrb_e0_o0 hc382 hi406 hi408 hi410 hc416 hc417 hc418 hi425 hc428
    obtain ⟨v429, hv429⟩ : ∃ z, z = (own_get4 v379 (0 : Int64) (0 : Int64) (0 : Int64) (0 : Int64)) := ⟨_, rfl⟩
    obtain ⟨cl424, Ar424, -, S424, N424_, H424, -⟩ := id f419
    have hin424 : ¬ (v379 < 0 ∨ cl424.slots.size ≤ (v379).toNatClampNeg) := inb_of S424 ⟨hc382, hi427⟩
    have hat424 : cl424.slots[(v379).toNatClampNeg]? = some (.long v429) := Has.at H424 hin424 (by rw [hv429]; exact own_get4_at hc382 hi425)
    refine Go.st (S' := T413.setTop (mkF m 54 A422 [(.long v429), (.int v379), (.ref b414)])) (fun t k => X413.laload hx (j := v379) (v := (.long v429)) (own_eh rfl Ar424.1) (State.isArrayOf_alike hZ.alike Ar424.2.1) Ar424.2.2 hin424 hat424 (g := (mkF m 53 A422 [(.int v379), (.ref b414), (.int v379), (.ref b414)])) rfl rfl (hb hby dprog_13_method_2_code_53) t k) ?_
    refine Go.st (S' := T413.setTop (mkF m 55 A422 [(.long (1 : Int64)), (.long v429), (.int v379), (.ref b414)])) (fun t k => XS.lconst X413.here hx rfl (hb hby dprog_13_method_2_code_54) k) ?_
    refine Go.st (S' := T413.setTop (mkF m 57 A422 [(.int e0_o0), (.long (1 : Int64)), (.long v429), (.int v379), (.ref b414)])) (fun t k => XS.iload X413.here hx rfl (hb hby dprog_13_method_2_code_55) rfl k) ?_
    refine Go.op (F := fun z => T413.setTop (mkF m 58 A422 [(.long z), (.long v429), (.int v379), (.ref b414)])) (x := ((1 : Int64) <<< (e0_o0 &&& 0x3f).toInt64)) (fun t k => XS.lshl X413.here hx rfl (hb hby dprog_13_method_2_code_57) rfl k) ?_
    intro v430 hv430
    refine Go.op (F := fun z => T413.setTop (mkF m 59 A422 [(.long z), (.int v379), (.ref b414)])) (x := (v429 ||| v430)) (fun t k => XS.lor X413.here hx rfl (hb hby dprog_13_method_2_code_58) rfl k) ?_
    intro v431 hv431
    obtain ⟨cl432, Ar432, q432, S432, N432_, H432, G432⟩ := id f419
    have hin432 : ¬ (v379 < 0 ∨ cl432.slots.size ≤ (v379).toNatClampNeg) := inb_of S432 ⟨hc382, hi427⟩
    obtain ⟨T432, h432, X432, e432, W432, st432⟩ := stJ X413 hx hZ rfl Ar432 (j := v379) hin432 (g := (mkF m 59 A422 [(.long v431), (.int v379), (.ref b414)])) rfl rfl (hb hby dprog_13_method_2_code_59)
    obtain ⟨v433, hv433⟩ : ∃ z, z = ((0 : Int64) ||| (if v379 = (0 : Int32) then v430 else 0)) := ⟨_, rfl⟩
    obtain ⟨v434, hv434⟩ : ∃ z, z = ((0 : Int64) ||| (if v379 = (1 : Int32) then v430 else 0)) := ⟨_, rfl⟩
    obtain ⟨v435, hv435⟩ : ∃ z, z = ((0 : Int64) ||| (if v379 = (2 : Int32) then v430 else 0)) := ⟨_, rfl⟩
    obtain ⟨v436, hv436⟩ : ∃ z, z = ((0 : Int64) ||| (if v379 = (3 : Int32) then v430 else 0)) := ⟨_, rfl⟩
    have V432 : Arv Z h432 b414 k415 .long v384 [(.long v433), (.long v434), (.long v435), (.long v436)] (.long (0 : Int64)) := by
      have tt := Arv.set Ar432 q432 S432 N432_ H432 G432 rfl W432 _ rfl (own_lt4 hc382 hi425)
      rw [own_set4 (B := v430) hc382 hi425 (by rw [hv431, hv429]), ← hv433, ← hv434, ← hv435, ← hv436] at tt
      exact tt
    have N432 := Fr.snoc X432 N413_ g_b414
    have Z437 : n0 ≤ h432.size := Nat.le_trans Z421 (Keep.of_wr W432).1
    have K437 : Keep h0 h432 [] := K421.wr W432 (Or.inr sz_b414)
    refine Go.st (S' := T432.setTop (mkF m 60 A422 [])) st432 ?_
    refine Go.op (F := fun z => T432.setTop (mkF m 63 #[.val (.ref o0), .val (.ref b414), .val (.ref o0), .val (.int (1 : Int32)), .val (.int z), .val (.int e0_o0)] [])) (x := ((0 : Int32) + (1 : Int32))) (fun t k => XS.iinc X432.here hx rfl (hb hby dprog_13_method_2_code_60) rfl rfl k) ?_
    intro v438 hv438
    obtain rfl : (1 : Int32) = v438 := (hv438.trans (by decide)).symm
    let A439 : Array Slot := #[.val (.ref o0), .val (.ref b414), .val (.ref o0), .val (.int (1 : Int32)), .val (.int (1 : Int32)), .val (.int e0_o0)]
    refine Go.st (S' := T432.setTop (mkF m 12 A439 [])) (fun t k => XS.goto X432.here hx rfl (pc0 := 63) (pc' := 12) rfl (hb hby dprog_13_method_2_code_63) (by decide) (by decide) k) ?_
    refine Go.st (S' := T432.setTop (mkF m 14 A439 [(.int (1 : Int32))])) (fun t k => XS.iload X432.here hx rfl (hb hby dprog_13_method_2_code_12) rfl k) ?_
    refine Go.st (S' := T432.setTop (mkF m 15 A439 [(.int (1 : Int32)), (.int (1 : Int32))])) (fun t k => XS.iloadN X432.here hx rfl (hb hby dprog_13_method_2_code_14) rfl k) ?_
    refine Go.st (S' := T432.setTop (mkF m 66 A439 [])) (fun t k => XS.icmpYes X432.here hx rfl (pc0 := 15) (pc' := 66) rfl (hb hby dprog_13_method_2_code_15) rfl (flt (by decide : (¬ ((1 : Int32) < (1 : Int32))))).2.1 (by decide) (by decide) k) ?_
    obtain ⟨T440, h440, X440, e440, E440, A440, D440, -, st440⟩ := newO X432 hx hZ hown (hw _ (List.mem_of_getElem? (i := 6) rfl)) (hw _ (List.mem_of_getElem? (i := 7) rfl)) (hw _ (List.mem_of_getElem? (i := 3) rfl)) e432 (g := (mkF m 66 A439 [])) rfl (hb hby dprog_13_method_2_code_66) (by decide) (by decide)
    obtain ⟨b440, gg440⟩ : ∃ z, z = h432.size := ⟨_, rfl⟩
    rw [← gg440] at A440 D440 st440
    have g_b440 : n0 ≤ b440 := Nat.le_trans Z437 (Nat.le_of_eq gg440.symm)
    have sz_b440 : h0.size ≤ b440 := Nat.le_trans K437.1 (Nat.le_of_eq gg440.symm)
    have f441 := ((((B368).keep K413_)).wr W432)
    have lt_b368_b440 : b368 < b440 := Nat.lt_of_lt_of_le (f441).lt (Nat.le_of_eq gg440.symm)
    have f442 := ((f420).wr W432)
    have lt_b414_b440 : b414 < b440 := Nat.lt_of_lt_of_le (f442).lt (Nat.le_of_eq gg440.symm)
    have Z443 : n0 ≤ h440.size := Nat.le_trans Z437 E440.1
    have K443 : Keep h0 h440 [] := K437.ext E440
    have Fb440_words : Fld Z h440 b440 "com/example/heaplens/heaplens/sharing/VarSet" "words" "[J" .null := D440 (Or.inr (hw _ (List.mem_of_getElem? (i := 15) rfl))) (ty := (.array .long)) (by decide)
    refine Go.st (S' := T440.setTop (mkF m 69 A439 [(.ref b440)])) st440 ?_
    refine Go.st (S' := T440.setTop (mkF m 70 A439 [(.ref b440), (.ref b440)])) (fun t k => XS.dup X440.here hx rfl (hb hby dprog_13_method_2_code_69) rfl rfl k) ?_
    refine Go.st (S' := T440.setTop (mkF m 71 A439 [(.ref b414), (.ref b440), (.ref b440)])) (fun t k => XS.aloadN X440.here hx rfl (hb hby dprog_13_method_2_code_70) rfl rfl k) ?_
    obtain ⟨r444, T444, L444, X444, hQ444, st444⟩ := own_callI (W := 1) (a := b440) X440 hx hZ e440 hown (y := (⟨"com/example/heaplens/heaplens/sharing/VarSet", "<init>", "([J)V"⟩ : MethodName)) rfl (hw _ (List.mem_of_getElem? (i := 8) rfl)) (hw _ (List.mem_of_getElem? (i := 9) rfl)) (hw _ (List.mem_of_getElem? (i := 3) rfl)) (hw _ (List.mem_of_getElem? (i := 10) rfl)) (by decide) (rm1 l Z a0 hw [] b440 b414 (.null) h440 n0 Z443 (A440) (Fb440_words) (g_b440)) (by decide) (by decide) (by decide) (by decide) (g := (mkF m 71 A439 [(.ref b414), (.ref b440), (.ref b440)])) rfl (by rw [hml]; rfl) (argsL := [(.ref b414)]) (rest := [(.ref b440)]) rfl (lenOf pd_0 rfl) rfl (by show 2 * 0 + _ ≤ _; exact Nat.le_of_eq rfl) (hb hby dprog_13_method_2_code_71)
    obtain ⟨rfl, N444, K444_, f445, f446⟩ := hQ444
    have N444_ := Fr.app N432 N444
    have Z447 : n0 ≤ T444.heap.size := Nat.le_trans Z443 K444_.1
    have K447 : Keep h0 T444.heap [] := K443.trans K444_ (allS (Or.inr sz_b440) all0)
    refine Go.st (S' := T444.setTop (mkF m 74 A439 [(.ref b440)])) st444 ?_
    have f448 := ((((((((V368).keep K413_ nin0)).other W432 (Nat.ne_of_lt lt_b368_b414))).ext E440)).keep K444_ (ninS (Nat.ne_of_lt lt_b368_b440) nin0))
    have f449 := ((((f441).ext E440)).keep K444_)
    have f450 := ((((V432).ext E440)).keep K444_ (ninS (Nat.ne_of_lt lt_b414_b440) nin0))
    have f451 := ((((f442).ext E440)).keep K444_)
    exact Go.ret X444 (v := some (.ref b440)) (fun h => by rw [Bd.returns] at h; cases h) Bd.notSynchronized (fun fs hr => retOut X444 hx Bd.returns rfl (Or.inr (Or.inr (Or.inr (Or.inr ⟨rfl, rfl, rfl⟩)))) (hb hby dprog_13_method_2_code_74) hr) (by decide) (by decide) (⟨v379, v384, v430, v433, v434, v435, v436, b368, b414, b440, k368, k415, hv379, hv384, hv430, hv433, hv434, hv435, hv436, hc382, hi406, hi408, hi410, hc416, hc417, hc418, hi425, hi427, rfl, N444_, K447, sz_b368, sz_b414, sz_b440, f448, f449, f450, f451, f445, f446, lt_b368_b414, lt_b368_b440, lt_b414_b440⟩)
theorem ef_12 (m : MethodId) (o0 : Addr) : entryFrame m #[(.ref o0)] 6 = mkF m 0 #[.val (.ref o0), .unset, .unset, .unset, .unset, .unset] [] := by first | (simp [entryFrame, mkF, argsToLocals, Value.category, maxLocals]; done) | rfl
def Q12 (Z : State) (o0 : Addr) (k_o0 : ClassId) (e0_o0 : Int32) (e1_o0 : Int32) (h0 : Heap) (n0 : Nat) (v : Option Value) (h : Heap) (L : List Loc) : Prop := (∃ (v584 : Int32) (v589 : Int32) (v627 : Int32) (v614 : Int64) (v617 : Int64) (v638 : Int64) (v641 : Int64) (v618 : Int64) (v642 : Int64) (v619 : Int64) (v643 : Int64) (v620 : Int64) (v644 : Int64) (b573 : Addr) (b598 : Addr) (b648 : Addr) (k573 : ClassId) (k599 : ClassId), v584 = (e0_o0 >>> ((6 : Int32) &&& 31)) ∧ v589 = (v584 + (1 : Int32)) ∧ v627 = (e1_o0 >>> ((6 : Int32) &&& 31)) ∧ v614 = ((1 : Int64) <<< (e0_o0 &&& 0x3f).toInt64) ∧ v617 = ((0 : Int64) ||| (if v584 = (0 : Int32) then v614 else 0)) ∧ v638 = ((1 : Int64) <<< (e1_o0 &&& 0x3f).toInt64) ∧ v641 = (v617 ||| (if v627 = (0 : Int32) then v638 else 0)) ∧ v618 = ((0 : Int64) ||| (if v584 = (1 : Int32) then v614 else 0)) ∧ v642 = (v618 ||| (if v627 = (1 : Int32) then v638 else 0)) ∧ v619 = ((0 : Int64) ||| (if v584 = (2 : Int32) then v614 else 0)) ∧ v643 = (v619 ||| (if v627 = (2 : Int32) then v638 else 0)) ∧ v620 = ((0 : Int64) ||| (if v584 = (3 : Int32) then v614 else 0)) ∧ v644 = (v620 ||| (if v627 = (3 : Int32) then v638 else 0)) ∧ (¬ (v584 < (0 : Int32))) ∧ (¬ (v589 < (1 : Int32))) ∧ (¬ ((4 : Int32) < v589)) ∧ ((0 : Int32) < v589) ∧ (¬ (v589 = (0 : Int32))) ∧ (¬ ((4 : Int32) < v589)) ∧ (((v589 < (0 : Int32)) ∧ ((0 : Int32) = v589)) ∨ ((¬ (v589 < (0 : Int32))) ∧ ((0 : Int32) = (0 : Int32)))) ∧ (v584 < (4 : Int32)) ∧ (v584 < v589) ∧ (v627 < v589) ∧ (¬ (v627 < (0 : Int32))) ∧ (v627 < (4 : Int32)) ∧ v = some (.ref b648) ∧ Fr n0 L ∧ Keep h0 h [] ∧ h0.size ≤ b573 ∧ h0.size ≤ b598 ∧ h0.size ≤ b648 ∧ Arv Z h b573 k573 .long (0 : Int32) [(.long (0 : Int64)), (.long (0 : Int64)), (.long (0 : Int64)), (.long (0 : Int64))] (.long (0 : Int64)) ∧ Exa Z h b573 "[J" ∧ Arv Z h b598 k599 .long v589 [(.long v641), (.long v642), (.long v643), (.long v644)] (.long (0 : Int64)) ∧ Exa Z h b598 "[J" ∧ Exa Z h b648 "com/example/heaplens/heaplens/sharing/VarSet" ∧ Fld Z h b648 "com/example/heaplens/heaplens/sharing/VarSet" "words" "[J" (.ref b598) ∧ b573 < b598 ∧ b573 < b648 ∧ b598 < b648) ∨ (∃ (v584 : Int32) (v589 : Int32) (v627 : Int32) (v661 : Int32) (v614 : Int64) (v617 : Int64) (v618 : Int64) (v619 : Int64) (v620 : Int64) (v692 : Int64) (v695 : Int64) (v696 : Int64) (v697 : Int64) (v698 : Int64) (b573 : Addr) (b598 : Addr) (b672 : Addr) (b702 : Addr) (k573 : ClassId) (k599 : ClassId) (k673 : ClassId), v584 = (e0_o0 >>> ((6 : Int32) &&& 31)) ∧ v589 = (v584 + (1 : Int32)) ∧ v627 = (e1_o0 >>> ((6 : Int32) &&& 31)) ∧ v661 = (v627 + (1 : Int32)) ∧ v614 = ((1 : Int64) <<< (e0_o0 &&& 0x3f).toInt64) ∧ v617 = ((0 : Int64) ||| (if v584 = (0 : Int32) then v614 else 0)) ∧ v618 = ((0 : Int64) ||| (if v584 = (1 : Int32) then v614 else 0)) ∧ v619 = ((0 : Int64) ||| (if v584 = (2 : Int32) then v614 else 0)) ∧ v620 = ((0 : Int64) ||| (if v584 = (3 : Int32) then v614 else 0)) ∧ v692 = ((1 : Int64) <<< (e1_o0 &&& 0x3f).toInt64) ∧ v695 = (v617 ||| (if v627 = (0 : Int32) then v692 else 0)) ∧ v696 = (v618 ||| (if v627 = (1 : Int32) then v692 else 0)) ∧ v697 = (v619 ||| (if v627 = (2 : Int32) then v692 else 0)) ∧ v698 = (v620 ||| (if v627 = (3 : Int32) then v692 else 0)) ∧ (¬ (v584 < (0 : Int32))) ∧ (¬ (v589 < (1 : Int32))) ∧ (¬ ((4 : Int32) < v589)) ∧ ((0 : Int32) < v589) ∧ (¬ (v589 = (0 : Int32))) ∧ (¬ ((4 : Int32) < v589)) ∧ (((v589 < (0 : Int32)) ∧ ((0 : Int32) = v589)) ∨ ((¬ (v589 < (0 : Int32))) ∧ ((0 : Int32) = (0 : Int32)))) ∧ (v584 < (4 : Int32)) ∧ (v584 < v589) ∧ (¬ (v627 < v589)) ∧ (¬ (v661 < (1 : Int32))) ∧ (¬ ((4 : Int32) < v661)) ∧ (v589 < v661) ∧ (¬ (v589 < (0 : Int32))) ∧ (¬ (v661 = v589)) ∧ (¬ ((4 : Int32) < v661)) ∧ (((v661 < v589) ∧ (v589 = v661)) ∨ ((¬ (v661 < v589)) ∧ (v589 = v589))) ∧ (¬ (v627 < (0 : Int32))) ∧ (v627 < (4 : Int32)) ∧ (v627 < v661) ∧ v = some (.ref b702) ∧ Fr n0 L ∧ Keep h0 h [] ∧ h0.size ≤ b573 ∧ h0.size ≤ b598 ∧ h0.size ≤ b672 ∧ h0.size ≤ b702 ∧ Arv Z h b573 k573 .long (0 : Int32) [(.long (0 : Int64)), (.long (0 : Int64)), (.long (0 : Int64)), (.long (0 : Int64))] (.long (0 : Int64)) ∧ Exa Z h b573 "[J" ∧ Arv Z h b598 k599 .long v589 [(.long v617), (.long v618), (.long v619), (.long v620)] (.long (0 : Int64)) ∧ Exa Z h b598 "[J" ∧ Arv Z h b672 k673 .long v661 [(.long v695), (.long v696), (.long v697), (.long v698)] (.long (0 : Int64)) ∧ Exa Z h b672 "[J" ∧ Exa Z h b702 "com/example/heaplens/heaplens/sharing/VarSet" ∧ Fld Z h b702 "com/example/heaplens/heaplens/sharing/VarSet" "words" "[J" (.ref b672) ∧ b573 < b598 ∧ b573 < b672 ∧ b573 < b702 ∧ b598 < b672 ∧ b598 < b702 ∧ b672 < b702)
set_option maxRecDepth 65536 in
set_option maxHeartbeats 40000000 in
theorem rm12 (l : Launch) (Z : State) (a0 : Array Value) (hw : ∀ d ∈ tables_1, d.before a0 Z = true) (ws : List Jvm.Cond) (o0 : Addr) (k_o0 : ClassId) (e0_o0 : Int32) (e1_o0 : Int32) (h0 : Heap) (n0 : Nat) (Z0 : n0 ≤ h0.size) (hra_e0_o0 : (¬ (e0_o0 < (0 : Int32)))) (hrb_e0_o0 : (¬ ((255 : Int32) < e0_o0))) (hra_e1_o0 : (¬ (e1_o0 < (0 : Int32)))) (hrb_e1_o0 : (¬ ((255 : Int32) < e1_o0))) (V_o0 : Arv Z h0 o0 k_o0 .int (2 : Int32) [(.int e0_o0), (.int e1_o0)] (.int (0 : Int32))) :
    Con l Z (⟨"com/example/heaplens/heaplens/sharing/VarSet", "of", "([I)Lcom/example/heaplens/heaplens/sharing/VarSet;"⟩ : MethodName) prog_13_method_2_code 6 (some (.object "com/example/heaplens/heaplens/sharing/VarSet")) ws ({ frames := 2, cells := 4, slots := 10, locals := 54 } : Room) #[(.ref o0)] h0 4 10 (Q12 Z o0 k_o0 e0_o0 e1_o0 h0 n0) := by
  refine MetFree.of_bodySF (plainFor_of_name pn_0) hisR ?_
  intro p e s m args below meth c s₁ Bd hml0 hP hK
  obtain ⟨rfl, hZ, hh⟩ := hP
  have hx := Bd.exec
  have hby := Bd.bytes
  have hml : c.maxLocals = 6 := hml0
  have hown : s.vm.findClass "com/example/heaplens/heaplens/sharing/VarSet" = some m.cls := findClass_of_methodNamed Bd.named
  have hnm := (name_of_methodNamed Bd.named Bd.method).1
  have X0 : Stand p l e ({ frames := 2, cells := 4, slots := 10, locals := 54 } : Room) s m #[(.ref o0)] below meth c s₁ [] 0 0 := Stand.of_body Bd
  have e0 : s₁.heap = h0 := by rw [← hh, Bd.state]; rfl
  have N0 := Fr.nil n0
  refine Go.of ?_
  refine Go.st (S' := s₁.setTop (mkF m 0 #[.val (.ref o0), .unset, .unset, .unset, .unset, .unset] [])) (fun t k => castTop (ef_12 m o0) k) ?_
  refine Go.st (S' := s₁.setTop (mkF m 1 #[.val (.ref o0), .unset, .unset, .unset, .unset, .unset] [(.int (0 : Int32))])) (fun t k => XS.iconst X0.here hx rfl (hb hby dprog_13_method_2_code_0) k) ?_
  obtain ⟨T573, h573, k573, X573, e573, E573, A573, B573, st573⟩ := newPE X0 hx hZ (hw _ (List.mem_of_getElem? (i := 5) rfl)) e0 (g := (mkF m 1 #[.val (.ref o0), .unset, .unset, .unset, .unset, .unset] [(.int (0 : Int32))])) rfl (hb hby dprog_13_method_2_code_1) rfl (by decide) (cap := 0) (by decide) (by decide) (by decide) (by decide) (ad := "[J") (by decide)
  obtain ⟨b573, gg573⟩ : ∃ z, z = h0.size := ⟨_, rfl⟩
  rw [← gg573] at A573 B573 st573
  have g_b573 : n0 ≤ b573 := Nat.le_trans Z0 (Nat.le_of_eq gg573.symm)
  have sz_b573 : h0.size ≤ b573 := Nat.le_trans (Keep.refl h0 []).1 (Nat.le_of_eq gg573.symm)
  have Z574 : n0 ≤ h573.size := Nat.le_trans Z0 E573.1
  have K574 : Keep h0 h573 [] := (Keep.refl h0 []).ext E573
  have V573 : Arv Z h573 b573 k573 .long (0 : Int32) [(.long (0 : Int64)), (.long (0 : Int64)), (.long (0 : Int64)), (.long (0 : Int64))] (.long (0 : Int64)) := (Arv.new A573 (by decide)).pad (pad_rep [] (.long (0 : Int64)) 4)
  refine Go.st (S' := T573.setTop (mkF m 3 #[.val (.ref o0), .unset, .unset, .unset, .unset, .unset] [(.ref b573)])) st573 ?_
  let A575 : Array Slot := #[.val (.ref o0), .val (.ref b573), .unset, .unset, .unset, .unset]
  refine Go.st (S' := T573.setTop (mkF m 4 A575 [])) (fun t k => XS.astoreN X573.here hx rfl (hb hby dprog_13_method_2_code_3) rfl rfl (l' := A575) rfl k) ?_
  refine Go.st (S' := T573.setTop (mkF m 5 A575 [(.ref o0)])) (fun t k => XS.aloadN X573.here hx rfl (hb hby dprog_13_method_2_code_4) rfl rfl k) ?_
  let A576 : Array Slot := #[.val (.ref o0), .val (.ref b573), .val (.ref o0), .unset, .unset, .unset]
  refine Go.st (S' := T573.setTop (mkF m 6 A576 [])) (fun t k => XS.astoreN X573.here hx rfl (hb hby dprog_13_method_2_code_5) rfl rfl (l' := A576) rfl k) ?_
  refine Go.st (S' := T573.setTop (mkF m 7 A576 [(.ref o0)])) (fun t k => XS.aloadN X573.here hx rfl (hb hby dprog_13_method_2_code_6) rfl rfl k) ?_
  have f577 := ((V_o0).ext E573)
  obtain ⟨cl578, Ar578, -, S578, N578_, -, -⟩ := id f577
  refine Go.op (F := fun z => T573.setTop (mkF m 8 A576 [(.int z)])) (x := cl578.slots.size.toInt32) (fun t k => X573.arraylength hx (own_eh e573 Ar578.1) (State.isArrayOf_alike hZ.alike Ar578.2.1) (g := (mkF m 7 A576 [(.ref o0)])) rfl rfl (hb hby dprog_13_method_2_code_7) t k) ?_
  intro v579 hv579
  obtain rfl : (2 : Int32) = v579 := (hv579.trans (len_of S578 N578_)).symm
  let A580 : Array Slot := #[.val (.ref o0), .val (.ref b573), .val (.ref o0), .val (.int (2 : Int32)), .unset, .unset]
  refine Go.st (S' := T573.setTop (mkF m 9 A580 [])) (fun t k => XS.istoreN X573.here hx rfl (hb hby dprog_13_method_2_code_8) rfl (l' := A580) rfl k) ?_
  refine Go.st (S' := T573.setTop (mkF m 10 A580 [(.int (0 : Int32))])) (fun t k => XS.iconst X573.here hx rfl (hb hby dprog_13_method_2_code_9) k) ?_
  let A581 : Array Slot := #[.val (.ref o0), .val (.ref b573), .val (.ref o0), .val (.int (2 : Int32)), .val (.int (0 : Int32)), .unset]
  refine Go.st (S' := T573.setTop (mkF m 12 A581 [])) (fun t k => XS.istore X573.here hx rfl (hb hby dprog_13_method_2_code_10) rfl (l' := A581) rfl k) ?_
  refine Go.st (S' := T573.setTop (mkF m 14 A581 [(.int (0 : Int32))])) (fun t k => XS.iload X573.here hx rfl (hb hby dprog_13_method_2_code_12) rfl k) ?_
  refine Go.st (S' := T573.setTop (mkF m 15 A581 [(.int (2 : Int32)), (.int (0 : Int32))])) (fun t k => XS.iloadN X573.here hx rfl (hb hby dprog_13_method_2_code_14) rfl k) ?_
  refine Go.st (S' := T573.setTop (mkF m 18 A581 [])) (fun t k => XS.icmpNo X573.here hx rfl (hb hby dprog_13_method_2_code_15) rfl (tlt (by decide : ((0 : Int32) < (2 : Int32)))).2.1 k) ?_
  refine Go.st (S' := T573.setTop (mkF m 19 A581 [(.ref o0)])) (fun t k => XS.aloadN X573.here hx rfl (hb hby dprog_13_method_2_code_18) rfl rfl k) ?_
  refine Go.st (S' := T573.setTop (mkF m 21 A581 [(.int (0 : Int32)), (.ref o0)])) (fun t k => XS.iload X573.here hx rfl (hb hby dprog_13_method_2_code_19) rfl k) ?_
  obtain ⟨cl582, Ar582, -, S582, N582_, H582, -⟩ := id f577
  have hin582 : ¬ ((0 : Int32) < 0 ∨ cl582.slots.size ≤ ((0 : Int32)).toNatClampNeg) := inb_of S582 ⟨by decide, by decide⟩
  have hat582 : cl582.slots[((0 : Int32)).toNatClampNeg]? = some (.int e0_o0) := Has.at H582 hin582 rfl
  refine Go.st (S' := T573.setTop (mkF m 22 A581 [(.int e0_o0)])) (fun t k => X573.iaload hx (j := (0 : Int32)) (v := (.int e0_o0)) (own_eh e573 Ar582.1) (State.isArrayOf_alike hZ.alike Ar582.2.1) Ar582.2.2 hin582 hat582 (g := (mkF m 21 A581 [(.int (0 : Int32)), (.ref o0)])) rfl rfl (hb hby dprog_13_method_2_code_21) t k) ?_
  let A583 : Array Slot := #[.val (.ref o0), .val (.ref b573), .val (.ref o0), .val (.int (2 : Int32)), .val (.int (0 : Int32)), .val (.int e0_o0)]
  refine Go.st (S' := T573.setTop (mkF m 24 A583 [])) (fun t k => XS.istore X573.here hx rfl (hb hby dprog_13_method_2_code_22) rfl (l' := A583) rfl k) ?_
  refine Go.st (S' := T573.setTop (mkF m 26 A583 [(.int e0_o0)])) (fun t k => XS.iload X573.here hx rfl (hb hby dprog_13_method_2_code_24) rfl k) ?_
  refine Go.st (S' := T573.setTop (mkF m 28 A583 [(.int (6 : Int32)), (.int e0_o0)])) (fun t k => XS.bipush X573.here hx rfl (hb hby dprog_13_method_2_code_26) k) ?_
  refine Go.op (F := fun z => T573.setTop (mkF m 29 A583 [(.int z)])) (x := (e0_o0 >>> ((6 : Int32) &&& 31))) (fun t k => XS.ishr X573.here hx rfl (hb hby dprog_13_method_2_code_28) rfl k) ?_
  intro v584 hv584
  refine Go.st (S' := T573.setTop (mkF m 30 A583 [(.ref b573), (.int v584)])) (fun t k => XS.aloadN X573.here hx rfl (hb hby dprog_13_method_2_code_29) rfl rfl k) ?_
  obtain ⟨cl585, Ar585, -, S585, N585_, -, -⟩ := id V573
  refine Go.op (F := fun z => T573.setTop (mkF m 31 A583 [(.int z), (.int v584)])) (x := cl585.slots.size.toInt32) (fun t k => X573.arraylength hx (own_eh e573 Ar585.1) (State.isArrayOf_alike hZ.alike Ar585.2.1) (g := (mkF m 30 A583 [(.ref b573), (.int v584)])) rfl rfl (hb hby dprog_13_method_2_code_30) t k) ?_
  intro v586 hv586
  obtain rfl : (0 : Int32) = v586 := (hv586.trans (len_of S585 N585_)).symm
  by_cases hc587 : (v584 < (0 : Int32))
  · exfalso
    exact ar_25 e0_o0 v584 hv584 hra_e0_o0 hrb_e0_o0 hc587
  · refine Go.st (S' := T573.setTop (mkF m 34 A583 [])) (fun t k => XS.icmpNo X573.here hx rfl (hb hby dprog_13_method_2_code_31) rfl (flt hc587).1 k) ?_
    refine Go.st (S' := T573.setTop (mkF m 35 A583 [(.ref b573)])) (fun t k => XS.aloadN X573.here hx rfl (hb hby dprog_13_method_2_code_34) rfl rfl k) ?_
    refine Go.st (S' := T573.setTop (mkF m 37 A583 [(.int e0_o0), (.ref b573)])) (fun t k => XS.iload X573.here hx rfl (hb hby dprog_13_method_2_code_35) rfl k) ?_
    refine Go.st (S' := T573.setTop (mkF m 39 A583 [(.int (6 : Int32)), (.int e0_o0), (.ref b573)])) (fun t k => XS.bipush X573.here hx rfl (hb hby dprog_13_method_2_code_37) k) ?_
    refine Go.op (F := fun z => T573.setTop (mkF m 40 A583 [(.int z), (.ref b573)])) (x := (e0_o0 >>> ((6 : Int32) &&& 31))) (fun t k => XS.ishr X573.here hx rfl (hb hby dprog_13_method_2_code_39) rfl k) ?_
    intro v588 hv588
    obtain rfl : v584 = v588 := hv584.trans hv588.symm
    refine Go.st (S' := T573.setTop (mkF m 41 A583 [(.int (1 : Int32)), (.int v584), (.ref b573)])) (fun t k => XS.iconst X573.here hx rfl (hb hby dprog_13_method_2_code_40) k) ?_
    refine Go.op (F := fun z => T573.setTop (mkF m 42 A583 [(.int z), (.ref b573)])) (x := (v584 + (1 : Int32))) (fun t k => XS.iadd X573.here hx rfl (hb hby dprog_13_method_2_code_41) rfl k) ?_
    intro v589 hv589
    have hi590 : (¬ (v589 < (1 : Int32))) := by
      intro hc591
      exact ar_30 e0_o0 v584 v589 hv584 hv589 hra_e0_o0 hrb_e0_o0 hc587 hc591
    have hi592 : (¬ ((4 : Int32) < v589)) := by
      intro hc593
      exact ar_31 e0_o0 v584 v589 hv584 hv589 hra_e0_o0 hrb_e0_o0 hc587 hi590 hc593
    have hi594 : ((0 : Int32) < v589) := by
      refine Decidable.byContradiction fun hc595 => ?_
      exact ar_32 e0_o0 v584 v589 hv584 hv589 hra_e0_o0 hrb_e0_o0 hc587 hi590 hi592 hc595
    have iv596 : ((0 : Int32) < (0 : Int32) ∨ (0 : Int64) = (0 : Int64)) ∧ ((1 : Int32) < (0 : Int32) ∨ (0 : Int64) = (0 : Int64)) ∧ ((2 : Int32) < (0 : Int32) ∨ (0 : Int64) = (0 : Int64)) ∧ ((3 : Int32) < (0 : Int32) ∨ (0 : Int64) = (0 : Int64)) := ⟨(Or.inr rfl), (Or.inr rfl), (Or.inr rfl), (Or.inr rfl)⟩
    obtain ⟨r597, T597, L597, X597, hQ597, st597⟩ := own_callS (W := 0) X573 hx hZ e573 hown (y := (⟨"java/util/Arrays", "copyOf", "([JI)[J"⟩ : MethodName)) (hw _ (List.mem_of_getElem? (i := 46) rfl)) (hw _ (List.mem_of_getElem? (i := 47) rfl)) (hw _ (List.mem_of_getElem? (i := 48) rfl)) (hw _ (List.mem_of_getElem? (i := 49) rfl)) (by decide) (rm10 l Z a0 hw [] b573 v589 k573 (0 : Int32) (0 : Int64) (0 : Int64) (0 : Int64) (0 : Int64) h573 n0 Z574 (hi590) (hi592) ((by decide : (¬ ((0 : Int32) < (0 : Int32))))) ((by decide : (¬ ((4 : Int32) < (0 : Int32))))) (V573) (hi594) (iv596)) (by decide) (by decide) (by decide) (by decide) (g := (mkF m 42 A583 [(.int v589), (.ref b573)])) rfl (by rw [hml]; rfl) (argsL := [(.ref b573), (.int v589)]) (rest := []) rfl (lenOf pd_7 rfl) rfl (by show 2 * 0 + _ ≤ _; exact Nat.le_of_eq rfl) (hb hby dprog_13_method_2_code_42)
    obtain ⟨b598, k599, hc600, hc601, hc602, rfl, N597, K597_, sz_b598_, f603, f604⟩ := hQ597
    have N597_ := Fr.app N0 N597
    have g_b598 : n0 ≤ b598 := Nat.le_trans Z574 sz_b598_
    have sz_b598 : h0.size ≤ b598 := Nat.le_trans K574.1 sz_b598_
    have lt_b573_b598 : b573 < b598 := Nat.lt_of_lt_of_le (B573).lt sz_b598_
    have Z605 : n0 ≤ T597.heap.size := Nat.le_trans Z574 K597_.1
    have K605 : Keep h0 T597.heap [] := K574.trans K597_ all0
    refine Go.st (S' := T597.setTop (mkF m 45 A583 [(.ref b598)])) st597 ?_
    let A606 : Array Slot := #[.val (.ref o0), .val (.ref b598), .val (.ref o0), .val (.int (2 : Int32)), .val (.int (0 : Int32)), .val (.int e0_o0)]
    refine Go.st (S' := T597.setTop (mkF m 46 A606 [])) (fun t k => XS.astoreN X597.here hx rfl (hb hby dprog_13_method_2_code_45) rfl rfl (l' := A606) rfl k) ?_
    refine Go.st (S' := T597.setTop (mkF m 47 A606 [(.ref b598)])) (fun t k => XS.aloadN X597.here hx rfl (hb hby dprog_13_method_2_code_46) rfl rfl k) ?_
    refine Go.st (S' := T597.setTop (mkF m 49 A606 [(.int e0_o0), (.ref b598)])) (fun t k => XS.iload X597.here hx rfl (hb hby dprog_13_method_2_code_47) rfl k) ?_
    refine Go.st (S' := T597.setTop (mkF m 51 A606 [(.int (6 : Int32)), (.int e0_o0), (.ref b598)])) (fun t k => XS.bipush X597.here hx rfl (hb hby dprog_13_method_2_code_49) k) ?_
    refine Go.op (F := fun z => T597.setTop (mkF m 52 A606 [(.int z), (.ref b598)])) (x := (e0_o0 >>> ((6 : Int32) &&& 31))) (fun t k => XS.ishr X597.here hx rfl (hb hby dprog_13_method_2_code_51) rfl k) ?_
    intro v607 hv607
    obtain rfl : v584 = v607 := hv584.trans hv607.symm
    refine Go.st (S' := T597.setTop (mkF m 53 A606 [(.int v584), (.ref b598), (.int v584), (.ref b598)])) (fun t k => Jvm.Free.XT.dup2 X597.here hx rfl (hb hby dprog_13_method_2_code_52) rfl rfl rfl k) ?_
    have hi609 : (v584 < (4 : Int32)) := by
      refine Decidable.byContradiction fun hc610 => ?_
      exact ar_33 e0_o0 v584 hv584 hra_e0_o0 hrb_e0_o0 hc587 hc610
    have hi611 : (v584 < v589) := by
      refine Decidable.byContradiction fun hc612 => ?_
      exact ar_34 e0_o0 v584 v589 hv584 hv589 hra_e0_o0 hrb_e0_o0 hc587 hi590 hi592 hi594 hc600 hc601 hc602 hi609 hc612
    obtain ⟨v613, hv613⟩ : ∃ z, z = (own_get4 v584 (0 : Int64) (0 : Int64) (0 : Int64) (0 : Int64)) := ⟨_, rfl⟩
    obtain ⟨cl608, Ar608, -, S608, N608_, H608, -⟩ := id f603
    have hin608 : ¬ (v584 < 0 ∨ cl608.slots.size ≤ (v584).toNatClampNeg) := inb_of S608 ⟨hc587, hi611⟩
    have hat608 : cl608.slots[(v584).toNatClampNeg]? = some (.long v613) := Has.at H608 hin608 (by rw [hv613]; exact own_get4_at hc587 hi609)
    refine Go.st (S' := T597.setTop (mkF m 54 A606 [(.long v613), (.int v584), (.ref b598)])) (fun t k => X597.laload hx (j := v584) (v := (.long v613)) (own_eh rfl Ar608.1) (State.isArrayOf_alike hZ.alike Ar608.2.1) Ar608.2.2 hin608 hat608 (g := (mkF m 53 A606 [(.int v584), (.ref b598), (.int v584), (.ref b598)])) rfl rfl (hb hby dprog_13_method_2_code_53) t k) ?_
    refine Go.st (S' := T597.setTop (mkF m 55 A606 [(.long (1 : Int64)), (.long v613), (.int v584), (.ref b598)])) (fun t k => XS.lconst X597.here hx rfl (hb hby dprog_13_method_2_code_54) k) ?_
    refine Go.st (S' := T597.setTop (mkF m 57 A606 [(.int e0_o0), (.long (1 : Int64)), (.long v613), (.int v584), (.ref b598)])) (fun t k => XS.iload X597.here hx rfl (hb hby dprog_13_method_2_code_55) rfl k) ?_
    refine Go.op (F := fun z => T597.setTop (mkF m 58 A606 [(.long z), (.long v613), (.int v584), (.ref b598)])) (x := ((1 : Int64) <<< (e0_o0 &&& 0x3f).toInt64)) (fun t k => XS.lshl X597.here hx rfl (hb hby dprog_13_method_2_code_57) rfl k) ?_
    intro v614 hv614
    refine Go.op (F := fun z => T597.setTop (mkF m 59 A606 [(.long z), (.int v584), (.ref b598)])) (x := (v613 ||| v614)) (fun t k => XS.lor X597.here hx rfl (hb hby dprog_13_method_2_code_58) rfl k) ?_
    intro v615 hv615
    obtain ⟨cl616, Ar616, q616, S616, N616_, H616, G616⟩ := id f603
    have hin616 : ¬ (v584 < 0 ∨ cl616.slots.size ≤ (v584).toNatClampNeg) := inb_of S616 ⟨hc587, hi611⟩
    obtain ⟨T616, h616, X616, e616, W616, st616⟩ := stJ X597 hx hZ rfl Ar616 (j := v584) hin616 (g := (mkF m 59 A606 [(.long v615), (.int v584), (.ref b598)])) rfl rfl (hb hby dprog_13_method_2_code_59)
    obtain ⟨v617, hv617⟩ : ∃ z, z = ((0 : Int64) ||| (if v584 = (0 : Int32) then v614 else 0)) := ⟨_, rfl⟩
    obtain ⟨v618, hv618⟩ : ∃ z, z = ((0 : Int64) ||| (if v584 = (1 : Int32) then v614 else 0)) := ⟨_, rfl⟩
    obtain ⟨v619, hv619⟩ : ∃ z, z = ((0 : Int64) ||| (if v584 = (2 : Int32) then v614 else 0)) := ⟨_, rfl⟩
    obtain ⟨v620, hv620⟩ : ∃ z, z = ((0 : Int64) ||| (if v584 = (3 : Int32) then v614 else 0)) := ⟨_, rfl⟩
    have V616 : Arv Z h616 b598 k599 .long v589 [(.long v617), (.long v618), (.long v619), (.long v620)] (.long (0 : Int64)) := by
      have tt := Arv.set Ar616 q616 S616 N616_ H616 G616 rfl W616 _ rfl (own_lt4 hc587 hi609)
      rw [own_set4 (B := v614) hc587 hi609 (by rw [hv615, hv613]), ← hv617, ← hv618, ← hv619, ← hv620] at tt
      exact tt
    have N616 := Fr.snoc X616 N597_ g_b598
    have Z621 : n0 ≤ h616.size := Nat.le_trans Z605 (Keep.of_wr W616).1
    have K621 : Keep h0 h616 [] := K605.wr W616 (Or.inr sz_b598)
    refine Go.st (S' := T616.setTop (mkF m 60 A606 [])) st616 ?_
    refine Go.op (F := fun z => T616.setTop (mkF m 63 #[.val (.ref o0), .val (.ref b598), .val (.ref o0), .val (.int (2 : Int32)), .val (.int z), .val (.int e0_o0)] [])) (x := ((0 : Int32) + (1 : Int32))) (fun t k => XS.iinc X616.here hx rfl (hb hby dprog_13_method_2_code_60) rfl rfl k) ?_
    intro v622 hv622
    obtain rfl : (1 : Int32) = v622 := (hv622.trans (by decide)).symm
    let A623 : Array Slot := #[.val (.ref o0), .val (.ref b598), .val (.ref o0), .val (.int (2 : Int32)), .val (.int (1 : Int32)), .val (.int e0_o0)]
    refine Go.st (S' := T616.setTop (mkF m 12 A623 [])) (fun t k => XS.goto X616.here hx rfl (pc0 := 63) (pc' := 12) rfl (hb hby dprog_13_method_2_code_63) (by decide) (by decide) k) ?_
    refine Go.st (S' := T616.setTop (mkF m 14 A623 [(.int (1 : Int32))])) (fun t k => XS.iload X616.here hx rfl (hb hby dprog_13_method_2_code_12) rfl k) ?_
    refine Go.st (S' := T616.setTop (mkF m 15 A623 [(.int (2 : Int32)), (.int (1 : Int32))])) (fun t k => XS.iloadN X616.here hx rfl (hb hby dprog_13_method_2_code_14) rfl k) ?_
    refine Go.st (S' := T616.setTop (mkF m 18 A623 [])) (fun t k => XS.icmpNo X616.here hx rfl (hb hby dprog_13_method_2_code_15) rfl (tlt (by decide : ((1 : Int32) < (2 : Int32)))).2.1 k) ?_
    refine Go.st (S' := T616.setTop (mkF m 19 A623 [(.ref o0)])) (fun t k => XS.aloadN X616.here hx rfl (hb hby dprog_13_method_2_code_18) rfl rfl k) ?_
    refine Go.st (S' := T616.setTop (mkF m 21 A623 [(.int (1 : Int32)), (.ref o0)])) (fun t k => XS.iload X616.here hx rfl (hb hby dprog_13_method_2_code_19) rfl k) ?_
    have f624 := ((((f577).keep K597_ nin0)).other W616 (Nat.ne_of_lt (Nat.lt_of_lt_of_le (V_o0).lt sz_b598)))
    obtain ⟨cl625, Ar625, -, S625, N625_, H625, -⟩ := id f624
    have hin625 : ¬ ((1 : Int32) < 0 ∨ cl625.slots.size ≤ ((1 : Int32)).toNatClampNeg) := inb_of S625 ⟨by decide, by decide⟩
    have hat625 : cl625.slots[((1 : Int32)).toNatClampNeg]? = some (.int e1_o0) := Has.at H625 hin625 rfl
    refine Go.st (S' := T616.setTop (mkF m 22 A623 [(.int e1_o0)])) (fun t k => X616.iaload hx (j := (1 : Int32)) (v := (.int e1_o0)) (own_eh e616 Ar625.1) (State.isArrayOf_alike hZ.alike Ar625.2.1) Ar625.2.2 hin625 hat625 (g := (mkF m 21 A623 [(.int (1 : Int32)), (.ref o0)])) rfl rfl (hb hby dprog_13_method_2_code_21) t k) ?_
    let A626 : Array Slot := #[.val (.ref o0), .val (.ref b598), .val (.ref o0), .val (.int (2 : Int32)), .val (.int (1 : Int32)), .val (.int e1_o0)]
    refine Go.st (S' := T616.setTop (mkF m 24 A626 [])) (fun t k => XS.istore X616.here hx rfl (hb hby dprog_13_method_2_code_22) rfl (l' := A626) rfl k) ?_
    refine Go.st (S' := T616.setTop (mkF m 26 A626 [(.int e1_o0)])) (fun t k => XS.iload X616.here hx rfl (hb hby dprog_13_method_2_code_24) rfl k) ?_
    refine Go.st (S' := T616.setTop (mkF m 28 A626 [(.int (6 : Int32)), (.int e1_o0)])) (fun t k => XS.bipush X616.here hx rfl (hb hby dprog_13_method_2_code_26) k) ?_
    refine Go.op (F := fun z => T616.setTop (mkF m 29 A626 [(.int z)])) (x := (e1_o0 >>> ((6 : Int32) &&& 31))) (fun t k => XS.ishr X616.here hx rfl (hb hby dprog_13_method_2_code_28) rfl k) ?_
    intro v627 hv627
    refine Go.st (S' := T616.setTop (mkF m 30 A626 [(.ref b598), (.int v627)])) (fun t k => XS.aloadN X616.here hx rfl (hb hby dprog_13_method_2_code_29) rfl rfl k) ?_
    obtain ⟨cl628, Ar628, -, S628, N628_, -, -⟩ := id V616
    refine Go.op (F := fun z => T616.setTop (mkF m 31 A626 [(.int z), (.int v627)])) (x := cl628.slots.size.toInt32) (fun t k => X616.arraylength hx (own_eh e616 Ar628.1) (State.isArrayOf_alike hZ.alike Ar628.2.1) (g := (mkF m 30 A626 [(.ref b598), (.int v627)])) rfl rfl (hb hby dprog_13_method_2_code_30) t k) ?_
    intro v629 hv629
    obtain rfl : v589 = v629 := (hv629.trans (len_of S628 N628_)).symm
    by_cases hc630 : (v627 < v589)
    · refine Go.st (S' := T616.setTop (mkF m 46 A626 [])) (fun t k => XS.icmpYes X616.here hx rfl (pc0 := 31) (pc' := 46) rfl (hb hby dprog_13_method_2_code_31) rfl (tlt hc630).1 (by decide) (by decide) k) ?_
      refine Go.st (S' := T616.setTop (mkF m 47 A626 [(.ref b598)])) (fun t k => XS.aloadN X616.here hx rfl (hb hby dprog_13_method_2_code_46) rfl rfl k) ?_
      refine Go.st (S' := T616.setTop (mkF m 49 A626 [(.int e1_o0), (.ref b598)])) (fun t k => XS.iload X616.here hx rfl (hb hby dprog_13_method_2_code_47) rfl k) ?_
      refine Go.st (S' := T616.setTop (mkF m 51 A626 [(.int (6 : Int32)), (.int e1_o0), (.ref b598)])) (fun t k => XS.bipush X616.here hx rfl (hb hby dprog_13_method_2_code_49) k) ?_
      refine Go.op (F := fun z => T616.setTop (mkF m 52 A626 [(.int z), (.ref b598)])) (x := (e1_o0 >>> ((6 : Int32) &&& 31))) (fun t k => XS.ishr X616.here hx rfl (hb hby dprog_13_method_2_code_51) rfl k) ?_
      intro v631 hv631
      obtain rfl : v627 = v631 := hv627.trans hv631.symm
      refine Go.st (S' := T616.setTop (mkF m 53 A626 [(.int v627), (.ref b598), (.int v627), (.ref b598)])) (fun t k => Jvm.Free.XT.dup2 X616.here hx rfl (hb hby dprog_13_method_2_code_52) rfl rfl rfl k) ?_
      have hi633 : (¬ (v627 < (0 : Int32))) := by
        intro hc634
        exact ar_41 e0_o0 v584 v589 e1_o0 v627 hv584 hv589 hv627 hra_e0_o0 hrb_e0_o0 hra_e1_o0 hrb_e1_o0 hc587 hi590 hi592 hi594 hc600 hc601 hi609 hi611 hc630 hc634
      have hi635 : (v627 < (4 : Int32)) := by
        refine Decidable.byContradiction fun hc636 => ?_
        exact ar_42 e0_o0 v584 v589 e1_o0 v627 hv584 hv589 hv627 hra_e0_o0 hrb_e0_o0 hra_e1_o0 hrb_e1_o0 hc587 hi590 hi592 hi594 hc600 hc601 hi609 hi611 hc630 hi633 hc636
      obtain ⟨v637, hv637⟩ : ∃ z, z = (own_get4 v627 v617 v618 v619 v620) := ⟨_, rfl⟩
      obtain ⟨cl632, Ar632, -, S632, N632_, H632, -⟩ := id V616
      have hin632 : ¬ (v627 < 0 ∨ cl632.slots.size ≤ (v627).toNatClampNeg) := inb_of S632 ⟨hi633, hc630⟩
      have hat632 : cl632.slots[(v627).toNatClampNeg]? = some (.long v637) := Has.at H632 hin632 (by rw [hv637]; exact own_get4_at hi633 hi635)
      refine Go.st (S' := T616.setTop (mkF m 54 A626 [(.long v637), (.int v627), (.ref b598)])) (fun t k => X616.laload hx (j := v627) (v := (.long v637)) (own_eh e616 Ar632.1) (State.isArrayOf_alike hZ.alike Ar632.2.1) Ar632.2.2 hin632 hat632 (g := (mkF m 53 A626 [(.int v627), (.ref b598), (.int v627), (.ref b598)])) rfl rfl (hb hby dprog_13_method_2_code_53) t k) ?_
      refine Go.st (S' := T616.setTop (mkF m 55 A626 [(.long (1 : Int64)), (.long v637), (.int v627), (.ref b598)])) (fun t k => XS.lconst X616.here hx rfl (hb hby dprog_13_method_2_code_54) k) ?_
      refine Go.st (S' := T616.setTop (mkF m 57 A626 [(.int e1_o0), (.long (1 : Int64)), (.long v637), (.int v627), (.ref b598)])) (fun t k => XS.iload X616.here hx rfl (hb hby dprog_13_method_2_code_55) rfl k) ?_
      refine Go.op (F := fun z => T616.setTop (mkF m 58 A626 [(.long z), (.long v637), (.int v627), (.ref b598)])) (x := ((1 : Int64) <<< (e1_o0 &&& 0x3f).toInt64)) (fun t k => XS.lshl X616.here hx rfl (hb hby dprog_13_method_2_code_57) rfl k) ?_
      intro v638 hv638
      refine Go.op (F := fun z => T616.setTop (mkF m 59 A626 [(.long z), (.int v627), (.ref b598)])) (x := (v637 ||| v638)) (fun t k => XS.lor X616.here hx rfl (hb hby dprog_13_method_2_code_58) rfl k) ?_
      intro v639 hv639
      obtain ⟨cl640, Ar640, q640, S640, N640_, H640, G640⟩ := id V616
      have hin640 : ¬ (v627 < 0 ∨ cl640.slots.size ≤ (v627).toNatClampNeg) := inb_of S640 ⟨hi633, hc630⟩
      obtain ⟨T640, h640, X640, e640, W640, st640⟩ := stJ X616 hx hZ e616 Ar640 (j := v627) hin640 (g := (mkF m 59 A626 [(.long v639), (.int v627), (.ref b598)])) rfl rfl (hb hby dprog_13_method_2_code_59)
      obtain ⟨v641, hv641⟩ : ∃ z, z = (v617 ||| (if v627 = (0 : Int32) then v638 else 0)) := ⟨_, rfl⟩
      obtain ⟨v642, hv642⟩ : ∃ z, z = (v618 ||| (if v627 = (1 : Int32) then v638 else 0)) := ⟨_, rfl⟩
      obtain ⟨v643, hv643⟩ : ∃ z, z = (v619 ||| (if v627 = (2 : Int32) then v638 else 0)) := ⟨_, rfl⟩
      obtain ⟨v644, hv644⟩ : ∃ z, z = (v620 ||| (if v627 = (3 : Int32) then v638 else 0)) := ⟨_, rfl⟩
      have V640 : Arv Z h640 b598 k599 .long v589 [(.long v641), (.long v642), (.long v643), (.long v644)] (.long (0 : Int64)) := by
        have tt := Arv.set Ar640 q640 S640 N640_ H640 G640 rfl W640 _ rfl (own_lt4 hi633 hi635)
        rw [own_set4 (B := v638) hi633 hi635 (by rw [hv639, hv637]), ← hv641, ← hv642, ← hv643, ← hv644] at tt
        exact tt
      have N640 := Fr.snoc X640 N616 g_b598
      have Z645 : n0 ≤ h640.size := Nat.le_trans Z621 (Keep.of_wr W640).1
      have K645 : Keep h0 h640 [] := K621.wr W640 (Or.inr sz_b598)
      refine Go.st (S' := T640.setTop (mkF m 60 A626 [])) st640 ?_
      refine Go.op (F := fun z => T640.setTop (mkF m 63 #[.val (.ref o0), .val (.ref b598), .val (.ref o0), .val (.int (2 : Int32)), .val (.int z), .val (.int e1_o0)] [])) (x := ((1 : Int32) + (1 : Int32))) (fun t k => XS.iinc X640.here hx rfl (hb hby dprog_13_method_2_code_60) rfl rfl k) ?_
      intro v646 hv646
      obtain rfl : (2 : Int32) = v646 := (hv646.trans (by decide)).symm
      let A647 : Array Slot := #[.val (.ref o0), .val (.ref b598), .val (.ref o0), .val (.int (2 : Int32)), .val (.int (2 : Int32)), .val (.int e1_o0)]
      refine Go.st (S' := T640.setTop (mkF m 12 A647 [])) (fun t k => XS.goto X640.here hx rfl (pc0 := 63) (pc' := 12) rfl (hb hby dprog_13_method_2_code_63) (by decide) (by decide) k) ?_
      refine Go.st (S' := T640.setTop (mkF m 14 A647 [(.int (2 : Int32))])) (fun t k => XS.iload X640.here hx rfl (hb hby dprog_13_method_2_code_12) rfl k) ?_
      refine Go.st (S' := T640.setTop (mkF m 15 A647 [(.int (2 : Int32)), (.int (2 : Int32))])) (fun t k => XS.iloadN X640.here hx rfl (hb hby dprog_13_method_2_code_14) rfl k) ?_
      refine Go.st (S' := T640.setTop (mkF m 66 A647 [])) (fun t k => XS.icmpYes X640.here hx rfl (pc0 := 15) (pc' := 66) rfl (hb hby dprog_13_method_2_code_15) rfl (flt (by decide : (¬ ((2 : Int32) < (2 : Int32))))).2.1 (by decide) (by decide) k) ?_
      obtain ⟨T648, h648, X648, e648, E648, A648, D648, -, st648⟩ := newO X640 hx hZ hown (hw _ (List.mem_of_getElem? (i := 6) rfl)) (hw _ (List.mem_of_getElem? (i := 7) rfl)) (hw _ (List.mem_of_getElem? (i := 3) rfl)) e640 (g := (mkF m 66 A647 [])) rfl (hb hby dprog_13_method_2_code_66) (by decide) (by decide)
      obtain ⟨b648, gg648⟩ : ∃ z, z = h640.size := ⟨_, rfl⟩
      rw [← gg648] at A648 D648 st648
      have g_b648 : n0 ≤ b648 := Nat.le_trans Z645 (Nat.le_of_eq gg648.symm)
      have sz_b648 : h0.size ≤ b648 := Nat.le_trans K645.1 (Nat.le_of_eq gg648.symm)
      have f649 := ((((((B573).keep K597_)).wr W616)).wr W640)
      have lt_b573_b648 : b573 < b648 := Nat.lt_of_lt_of_le (f649).lt (Nat.le_of_eq gg648.symm)
      have f650 := ((((f604).wr W616)).wr W640)
      have lt_b598_b648 : b598 < b648 := Nat.lt_of_lt_of_le (f650).lt (Nat.le_of_eq gg648.symm)
      have Z651 : n0 ≤ h648.size := Nat.le_trans Z645 E648.1
      have K651 : Keep h0 h648 [] := K645.ext E648
      have Fb648_words : Fld Z h648 b648 "com/example/heaplens/heaplens/sharing/VarSet" "words" "[J" .null := D648 (Or.inr (hw _ (List.mem_of_getElem? (i := 15) rfl))) (ty := (.array .long)) (by decide)
      refine Go.st (S' := T648.setTop (mkF m 69 A647 [(.ref b648)])) st648 ?_
      refine Go.st (S' := T648.setTop (mkF m 70 A647 [(.ref b648), (.ref b648)])) (fun t k => XS.dup X648.here hx rfl (hb hby dprog_13_method_2_code_69) rfl rfl k) ?_
      refine Go.st (S' := T648.setTop (mkF m 71 A647 [(.ref b598), (.ref b648), (.ref b648)])) (fun t k => XS.aloadN X648.here hx rfl (hb hby dprog_13_method_2_code_70) rfl rfl k) ?_
      obtain ⟨r652, T652, L652, X652, hQ652, st652⟩ := own_callI (W := 1) (a := b648) X648 hx hZ e648 hown (y := (⟨"com/example/heaplens/heaplens/sharing/VarSet", "<init>", "([J)V"⟩ : MethodName)) rfl (hw _ (List.mem_of_getElem? (i := 8) rfl)) (hw _ (List.mem_of_getElem? (i := 9) rfl)) (hw _ (List.mem_of_getElem? (i := 3) rfl)) (hw _ (List.mem_of_getElem? (i := 10) rfl)) (by decide) (rm1 l Z a0 hw [] b648 b598 (.null) h648 n0 Z651 (A648) (Fb648_words) (g_b648)) (by decide) (by decide) (by decide) (by decide) (g := (mkF m 71 A647 [(.ref b598), (.ref b648), (.ref b648)])) rfl (by rw [hml]; rfl) (argsL := [(.ref b598)]) (rest := [(.ref b648)]) rfl (lenOf pd_0 rfl) rfl (by show 2 * 0 + _ ≤ _; exact Nat.le_of_eq rfl) (hb hby dprog_13_method_2_code_71)
      obtain ⟨rfl, N652, K652_, f653, f654⟩ := hQ652
      have N652_ := Fr.app N640 N652
      have Z655 : n0 ≤ T652.heap.size := Nat.le_trans Z651 K652_.1
      have K655 : Keep h0 T652.heap [] := K651.trans K652_ (allS (Or.inr sz_b648) all0)
      refine Go.st (S' := T652.setTop (mkF m 74 A647 [(.ref b648)])) st652 ?_
      have f656 := ((((((((((V573).keep K597_ nin0)).other W616 (Nat.ne_of_lt lt_b573_b598))).other W640 (Nat.ne_of_lt lt_b573_b598))).ext E648)).keep K652_ (ninS (Nat.ne_of_lt lt_b573_b648) nin0))
      have f657 := ((((f649).ext E648)).keep K652_)
      have f658 := ((((V640).ext E648)).keep K652_ (ninS (Nat.ne_of_lt lt_b598_b648) nin0))
      have f659 := ((((f650).ext E648)).keep K652_)
      exact Go.ret X652 (v := some (.ref b648)) (fun h => by rw [Bd.returns] at h; cases h) Bd.notSynchronized (fun fs hr => retOut X652 hx Bd.returns rfl (Or.inr (Or.inr (Or.inr (Or.inr ⟨rfl, rfl, rfl⟩)))) (hb hby dprog_13_method_2_code_74) hr) (by decide) (by decide) ((Or.inl ⟨v584, v589, v627, v614, v617, v638, v641, v618, v642, v619, v643, v620, v644, b573, b598, b648, k573, k599, hv584, hv589, hv627, hv614, hv617, hv638, hv641, hv618, hv642, hv619, hv643, hv620, hv644, hc587, hi590, hi592, hi594, hc600, hc601, hc602, hi609, hi611, hc630, hi633, hi635, rfl, N652_, K655, sz_b573, sz_b598, sz_b648, f656, f657, f658, f659, f653, f654, lt_b573_b598, lt_b573_b648, lt_b598_b648⟩))
    · refine Go.st (S' := T616.setTop (mkF m 34 A626 [])) (fun t k => XS.icmpNo X616.here hx rfl (hb hby dprog_13_method_2_code_31) rfl (flt hc630).1 k) ?_
      refine Go.st (S' := T616.setTop (mkF m 35 A626 [(.ref b598)])) (fun t k => XS.aloadN X616.here hx rfl (hb hby dprog_13_method_2_code_34) rfl rfl k) ?_
      refine Go.st (S' := T616.setTop (mkF m 37 A626 [(.int e1_o0), (.ref b598)])) (fun t k => XS.iload X616.here hx rfl (hb hby dprog_13_method_2_code_35) rfl k) ?_
      refine Go.st (S' := T616.setTop (mkF m 39 A626 [(.int (6 : Int32)), (.int e1_o0), (.ref b598)])) (fun t k => XS.bipush X616.here hx rfl (hb hby dprog_13_method_2_code_37) k) ?_
      refine Go.op (F := fun z => T616.setTop (mkF m 40 A626 [(.int z), (.ref b598)])) (x := (e1_o0 >>> ((6 : Int32) &&& 31))) (fun t k => XS.ishr X616.here hx rfl (hb hby dprog_13_method_2_code_39) rfl k) ?_
      intro v660 hv660
      obtain rfl : v627 = v660 := hv627.trans hv660.symm
      refine Go.st (S' := T616.setTop (mkF m 41 A626 [(.int (1 : Int32)), (.int v627), (.ref b598)])) (fun t k => XS.iconst X616.here hx rfl (hb hby dprog_13_method_2_code_40) k) ?_
      refine Go.op (F := fun z => T616.setTop (mkF m 42 A626 [(.int z), (.ref b598)])) (x := (v627 + (1 : Int32))) (fun t k => XS.iadd X616.here hx rfl (hb hby dprog_13_method_2_code_41) rfl k) ?_
      intro v661 hv661
      have hi662 : (¬ (v661 < (1 : Int32))) := by
        intro hc663
        exact ar_43 e0_o0 v584 v589 e1_o0 v627 v661 hv584 hv589 hv627 hv661 hra_e0_o0 hrb_e0_o0 hra_e1_o0 hrb_e1_o0 hc587 hi590 hi592 hi594 hc600 hc601 hi609 hi611 hc630 hc663
      have hi664 : (¬ ((4 : Int32) < v661)) := by
        intro hc665
        exact ar_44 e0_o0 v584 v589 e1_o0 v627 v661 hv584 hv589 hv627 hv661 hra_e0_o0 hrb_e0_o0 hra_e1_o0 hrb_e1_o0 hc587 hi590 hi592 hi594 hc600 hc601 hi609 hi611 hc630 hi662 hc665
      have hi666 : (v589 < v661) := by
        refine Decidable.byContradiction fun hc667 => ?_
        exact ar_45 e0_o0 v584 v589 e1_o0 v627 v661 hv584 hv589 hv627 hv661 hra_e0_o0 hrb_e0_o0 hra_e1_o0 hrb_e1_o0 hc587 hi590 hi592 hi594 hc600 hc601 hc602 hi609 hi611 hc630 hi662 hi664 hc667
      have iv668 : ((0 : Int32) < v589 ∨ v617 = (0 : Int64)) ∧ ((1 : Int32) < v589 ∨ v618 = (0 : Int64)) ∧ ((2 : Int32) < v589 ∨ v619 = (0 : Int64)) ∧ ((3 : Int32) < v589 ∨ v620 = (0 : Int64)) := ⟨(own_inv hi611 (Or.inr rfl) hv617), (own_inv hi611 (Or.inr rfl) hv618), (own_inv hi611 (Or.inr rfl) hv619), (own_inv hi611 (Or.inr rfl) hv620)⟩
      have hi669 : (¬ (v589 < (0 : Int32))) := by
        intro hc670
        exact ar_46 e0_o0 v584 v589 e1_o0 v627 v661 hv584 hv589 hv627 hv661 hra_e0_o0 hrb_e0_o0 hra_e1_o0 hrb_e1_o0 hc587 hi590 hi592 hi594 hc600 hc601 hc602 hi609 hi611 hc630 hi662 hi664 hi666 hc670
      obtain ⟨r671, T671, L671, X671, hQ671, st671⟩ := own_callS (W := 0) X616 hx hZ e616 hown (y := (⟨"java/util/Arrays", "copyOf", "([JI)[J"⟩ : MethodName)) (hw _ (List.mem_of_getElem? (i := 46) rfl)) (hw _ (List.mem_of_getElem? (i := 47) rfl)) (hw _ (List.mem_of_getElem? (i := 48) rfl)) (hw _ (List.mem_of_getElem? (i := 49) rfl)) (by decide) (rm10 l Z a0 hw [] b598 v661 k599 v589 v617 v618 v619 v620 h616 n0 Z621 (hi662) (hi664) (hi669) (hi592) (V616) (hi666) (iv668)) (by decide) (by decide) (by decide) (by decide) (g := (mkF m 42 A626 [(.int v661), (.ref b598)])) rfl (by rw [hml]; rfl) (argsL := [(.ref b598), (.int v661)]) (rest := []) rfl (lenOf pd_7 rfl) rfl (by show 2 * 0 + _ ≤ _; exact Nat.le_of_eq rfl) (hb hby dprog_13_method_2_code_42)
      obtain ⟨b672, k673, hc674, hc675, hc676, rfl, N671, K671_, sz_b672_, f677, f678⟩ := hQ671
      have N671_ := Fr.app N616 N671
      have g_b672 : n0 ≤ b672 := Nat.le_trans Z621 sz_b672_
      have sz_b672 : h0.size ≤ b672 := Nat.le_trans K621.1 sz_b672_
      have f679 := ((((B573).keep K597_)).wr W616)
      have lt_b573_b672 : b573 < b672 := Nat.lt_of_lt_of_le (f679).lt sz_b672_
      have f680 := ((f604).wr W616)
      have lt_b598_b672 : b598 < b672 := Nat.lt_of_lt_of_le (f680).lt sz_b672_
      have Z681 : n0 ≤ T671.heap.size := Nat.le_trans Z621 K671_.1
      have K681 : Keep h0 T671.heap [] := K621.trans K671_ all0
      refine Go.st (S' := T671.setTop (mkF m 45 A626 [(.ref b672)])) st671 ?_
      let A682 : Array Slot := #[.val (.ref o0), .val (.ref b672), .val (.ref o0), .val (.int (2 : Int32)), .val (.int (1 : Int32)), .val (.int e1_o0)]
      refine Go.st (S' := T671.setTop (mkF m 46 A682 [])) (fun t k => XS.astoreN X671.here hx rfl (hb hby dprog_13_method_2_code_45) rfl rfl (l' := A682) rfl k) ?_
      refine Go.st (S' := T671.setTop (mkF m 47 A682 [(.ref b672)])) (fun t k => XS.aloadN X671.here hx rfl (hb hby dprog_13_method_2_code_46) rfl rfl k) ?_
      refine Go.st (S' := T671.setTop (mkF m 49 A682 [(.int e1_o0), (.ref b672)])) (fun t k => XS.iload X671.here hx rfl (hb hby dprog_13_method_2_code_47) rfl k) ?_
      refine Go.st (S' := T671.setTop (mkF m 51 A682 [(.int (6 : Int32)), (.int e1_o0), (.ref b672)])) (fun t k => XS.bipush X671.here hx rfl (hb hby dprog_13_method_2_code_49) k) ?_
      refine Go.op (F := fun z => T671.setTop (mkF m 52 A682 [(.int z), (.ref b672)])) (x := (e1_o0 >>> ((6 : Int32) &&& 31))) (fun t k => XS.ishr X671.here hx rfl (hb hby dprog_13_method_2_code_51) rfl k) ?_
      intro v683 hv683
      obtain rfl : v627 = v683 := hv627.trans hv683.symm
      refine Go.st (S' := T671.setTop (mkF m 53 A682 [(.int v627), (.ref b672), (.int v627), (.ref b672)])) (fun t k => Jvm.Free.XT.dup2 X671.here hx rfl (hb hby dprog_13_method_2_code_52) rfl rfl rfl k) ?_
      have hi685 : (¬ (v627 < (0 : Int32))) := by
        intro hc686
        exact ar_47 e0_o0 v584 v589 e1_o0 v627 v661 hv584 hv589 hv627 hv661 hra_e0_o0 hrb_e0_o0 hra_e1_o0 hrb_e1_o0 hc587 hi590 hi592 hi594 hc600 hc601 hi609 hi611 hc630 hi662 hi664 hi666 hi669 hc674 hc675 hc686
      have hi687 : (v627 < (4 : Int32)) := by
        refine Decidable.byContradiction fun hc688 => ?_
        exact ar_48 e0_o0 v584 v589 e1_o0 v627 v661 hv584 hv589 hv627 hv661 hra_e0_o0 hrb_e0_o0 hra_e1_o0 hrb_e1_o0 hc587 hi590 hi592 hi594 hc600 hc601 hi609 hi611 hc630 hi662 hi664 hi666 hi669 hc674 hc675 hi685 hc688
      have hi689 : (v627 < v661) := by
        refine Decidable.byContradiction fun hc690 => ?_
        exact ar_49 e0_o0 v584 v589 e1_o0 v627 v661 hv584 hv589 hv627 hv661 hra_e0_o0 hrb_e0_o0 hra_e1_o0 hrb_e1_o0 hc587 hi590 hi592 hi594 hc600 hc601 hi609 hi611 hc630 hi662 hi664 hi666 hi669 hc674 hc675 hc676 hi685 hi687 hc690
      obtain ⟨v691, hv691⟩ : ∃ z, z = (own_get4 v627 v617 v618 v619 v620) := ⟨_, rfl⟩
      obtain ⟨cl684, Ar684, -, S684, N684_, H684, -⟩ := id f677
      have hin684 : ¬ (v627 < 0 ∨ cl684.slots.size ≤ (v627).toNatClampNeg) := inb_of S684 ⟨hi685, hi689⟩
      have hat684 : cl684.slots[(v627).toNatClampNeg]? = some (.long v691) := Has.at H684 hin684 (by rw [hv691]; exact own_get4_at hi685 hi687)
      refine Go.st (S' := T671.setTop (mkF m 54 A682 [(.long v691), (.int v627), (.ref b672)])) (fun t k => X671.laload hx (j := v627) (v := (.long v691)) (own_eh rfl Ar684.1) (State.isArrayOf_alike hZ.alike Ar684.2.1) Ar684.2.2 hin684 hat684 (g := (mkF m 53 A682 [(.int v627), (.ref b672), (.int v627), (.ref b672)])) rfl rfl (hb hby dprog_13_method_2_code_53) t k) ?_
      refine Go.st (S' := T671.setTop (mkF m 55 A682 [(.long (1 : Int64)), (.long v691), (.int v627), (.ref b672)])) (fun t k => XS.lconst X671.here hx rfl (hb hby dprog_13_method_2_code_54) k) ?_
      refine Go.st (S' := T671.setTop (mkF m 57 A682 [(.int e1_o0), (.long (1 : Int64)), (.long v691), (.int v627), (.ref b672)])) (fun t k => XS.iload X671.here hx rfl (hb hby dprog_13_method_2_code_55) rfl k) ?_
      refine Go.op (F := fun z => T671.setTop (mkF m 58 A682 [(.long z), (.long v691), (.int v627), (.ref b672)])) (x := ((1 : Int64) <<< (e1_o0 &&& 0x3f).toInt64)) (fun t k => XS.lshl X671.here hx rfl (hb hby dprog_13_method_2_code_57) rfl k) ?_
      intro v692 hv692
      refine Go.op (F := fun z => T671.setTop (mkF m 59 A682 [(.long z), (.int v627), (.ref b672)])) (x := (v691 ||| v692)) (fun t k => XS.lor X671.here hx rfl (hb hby dprog_13_method_2_code_58) rfl k) ?_
      intro v693 hv693
      obtain ⟨cl694, Ar694, q694, S694, N694_, H694, G694⟩ := id f677
      have hin694 : ¬ (v627 < 0 ∨ cl694.slots.size ≤ (v627).toNatClampNeg) := inb_of S694 ⟨hi685, hi689⟩
      obtain ⟨T694, h694, X694, e694, W694, st694⟩ := stJ X671 hx hZ rfl Ar694 (j := v627) hin694 (g := (mkF m 59 A682 [(.long v693), (.int v627), (.ref b672)])) rfl rfl (hb hby dprog_13_method_2_code_59)
      obtain ⟨v695, hv695⟩ : ∃ z, z = (v617 ||| (if v627 = (0 : Int32) then v692 else 0)) := ⟨_, rfl⟩
      obtain ⟨v696, hv696⟩ : ∃ z, z = (v618 ||| (if v627 = (1 : Int32) then v692 else 0)) := ⟨_, rfl⟩
      obtain ⟨v697, hv697⟩ : ∃ z, z = (v619 ||| (if v627 = (2 : Int32) then v692 else 0)) := ⟨_, rfl⟩
      obtain ⟨v698, hv698⟩ : ∃ z, z = (v620 ||| (if v627 = (3 : Int32) then v692 else 0)) := ⟨_, rfl⟩
      have V694 : Arv Z h694 b672 k673 .long v661 [(.long v695), (.long v696), (.long v697), (.long v698)] (.long (0 : Int64)) := by
        have tt := Arv.set Ar694 q694 S694 N694_ H694 G694 rfl W694 _ rfl (own_lt4 hi685 hi687)
        rw [own_set4 (B := v692) hi685 hi687 (by rw [hv693, hv691]), ← hv695, ← hv696, ← hv697, ← hv698] at tt
        exact tt
      have N694 := Fr.snoc X694 N671_ g_b672
      have Z699 : n0 ≤ h694.size := Nat.le_trans Z681 (Keep.of_wr W694).1
      have K699 : Keep h0 h694 [] := K681.wr W694 (Or.inr sz_b672)
      refine Go.st (S' := T694.setTop (mkF m 60 A682 [])) st694 ?_
      refine Go.op (F := fun z => T694.setTop (mkF m 63 #[.val (.ref o0), .val (.ref b672), .val (.ref o0), .val (.int (2 : Int32)), .val (.int z), .val (.int e1_o0)] [])) (x := ((1 : Int32) + (1 : Int32))) (fun t k => XS.iinc X694.here hx rfl (hb hby dprog_13_method_2_code_60) rfl rfl k) ?_
      intro v700 hv700
      obtain rfl : (2 : Int32) = v700 := (hv700.trans (by decide)).symm
      let A701 : Array Slot := #[.val (.ref o0), .val (.ref b672), .val (.ref o0), .val (.int (2 : Int32)), .val (.int (2 : Int32)), .val (.int e1_o0)]
      refine Go.st (S' := T694.setTop (mkF m 12 A701 [])) (fun t k => XS.goto X694.here hx rfl (pc0 := 63) (pc' := 12) rfl (hb hby dprog_13_method_2_code_63) (by decide) (by decide) k) ?_
      refine Go.st (S' := T694.setTop (mkF m 14 A701 [(.int (2 : Int32))])) (fun t k => XS.iload X694.here hx rfl (hb hby dprog_13_method_2_code_12) rfl k) ?_
      refine Go.st (S' := T694.setTop (mkF m 15 A701 [(.int (2 : Int32)), (.int (2 : Int32))])) (fun t k => XS.iloadN X694.here hx rfl (hb hby dprog_13_method_2_code_14) rfl k) ?_
      refine Go.st (S' := T694.setTop (mkF m 66 A701 [])) (fun t k => XS.icmpYes X694.here hx rfl (pc0 := 15) (pc' := 66) rfl (hb hby dprog_13_method_2_code_15) rfl (flt (by decide : (¬ ((2 : Int32) < (2 : Int32))))).2.1 (by decide) (by decide) k) ?_
      obtain ⟨T702, h702, X702, e702, E702, A702, D702, -, st702⟩ := newO X694 hx hZ hown (hw _ (List.mem_of_getElem? (i := 6) rfl)) (hw _ (List.mem_of_getElem? (i := 7) rfl)) (hw _ (List.mem_of_getElem? (i := 3) rfl)) e694 (g := (mkF m 66 A701 [])) rfl (hb hby dprog_13_method_2_code_66) (by decide) (by decide)
      obtain ⟨b702, gg702⟩ : ∃ z, z = h694.size := ⟨_, rfl⟩
      rw [← gg702] at A702 D702 st702
      have g_b702 : n0 ≤ b702 := Nat.le_trans Z699 (Nat.le_of_eq gg702.symm)
      have sz_b702 : h0.size ≤ b702 := Nat.le_trans K699.1 (Nat.le_of_eq gg702.symm)
      have f703 := ((((f679).keep K671_)).wr W694)
      have lt_b573_b702 : b573 < b702 := Nat.lt_of_lt_of_le (f703).lt (Nat.le_of_eq gg702.symm)
      have f704 := ((((f680).keep K671_)).wr W694)
      have lt_b598_b702 : b598 < b702 := Nat.lt_of_lt_of_le (f704).lt (Nat.le_of_eq gg702.symm)
      have f705 := ((f678).wr W694)
      have lt_b672_b702 : b672 < b702 := Nat.lt_of_lt_of_le (f705).lt (Nat.le_of_eq gg702.symm)
      have Z706 : n0 ≤ h702.size := Nat.le_trans Z699 E702.1
      have K706 : Keep h0 h702 [] := K699.ext E702
      have Fb702_words : Fld Z h702 b702 "com/example/heaplens/heaplens/sharing/VarSet" "words" "[J" .null := D702 (Or.inr (hw _ (List.mem_of_getElem? (i := 15) rfl))) (ty := (.array .long)) (by decide)
      refine Go.st (S' := T702.setTop (mkF m 69 A701 [(.ref b702)])) st702 ?_
      refine Go.st (S' := T702.setTop (mkF m 70 A701 [(.ref b702), (.ref b702)])) (fun t k => XS.dup X702.here hx rfl (hb hby dprog_13_method_2_code_69) rfl rfl k) ?_
      refine Go.st (S' := T702.setTop (mkF m 71 A701 [(.ref b672), (.ref b702), (.ref b702)])) (fun t k => XS.aloadN X702.here hx rfl (hb hby dprog_13_method_2_code_70) rfl rfl k) ?_
      obtain ⟨r707, T707, L707, X707, hQ707, st707⟩ := own_callI (W := 1) (a := b702) X702 hx hZ e702 hown (y := (⟨"com/example/heaplens/heaplens/sharing/VarSet", "<init>", "([J)V"⟩ : MethodName)) rfl (hw _ (List.mem_of_getElem? (i := 8) rfl)) (hw _ (List.mem_of_getElem? (i := 9) rfl)) (hw _ (List.mem_of_getElem? (i := 3) rfl)) (hw _ (List.mem_of_getElem? (i := 10) rfl)) (by decide) (rm1 l Z a0 hw [] b702 b672 (.null) h702 n0 Z706 (A702) (Fb702_words) (g_b702)) (by decide) (by decide) (by decide) (by decide) (g := (mkF m 71 A701 [(.ref b672), (.ref b702), (.ref b702)])) rfl (by rw [hml]; rfl) (argsL := [(.ref b672)]) (rest := [(.ref b702)]) rfl (lenOf pd_0 rfl) rfl (by show 2 * 0 + _ ≤ _; exact Nat.le_of_eq rfl) (hb hby dprog_13_method_2_code_71)
      obtain ⟨rfl, N707, K707_, f708, f709⟩ := hQ707
      have N707_ := Fr.app N694 N707
      have Z710 : n0 ≤ T707.heap.size := Nat.le_trans Z706 K707_.1
      have K710 : Keep h0 T707.heap [] := K706.trans K707_ (allS (Or.inr sz_b702) all0)
      refine Go.st (S' := T707.setTop (mkF m 74 A701 [(.ref b702)])) st707 ?_
      have f711 := ((((((((((((V573).keep K597_ nin0)).other W616 (Nat.ne_of_lt lt_b573_b598))).keep K671_ nin0)).other W694 (Nat.ne_of_lt lt_b573_b672))).ext E702)).keep K707_ (ninS (Nat.ne_of_lt lt_b573_b702) nin0))
      have f712 := ((((f703).ext E702)).keep K707_)
      have f713 := ((((((((V616).keep K671_ nin0)).other W694 (Nat.ne_of_lt lt_b598_b672))).ext E702)).keep K707_ (ninS (Nat.ne_of_lt lt_b598_b702) nin0))
      have f714 := ((((f704).ext E702)).keep K707_)
      have f715 := ((((V694).ext E702)).keep K707_ (ninS (Nat.ne_of_lt lt_b672_b702) nin0))
      have f716 := ((((f705).ext E702)).keep K707_)
      exact Go.ret X707 (v := some (.ref b702)) (fun h => by rw [Bd.returns] at h; cases h) Bd.notSynchronized (fun fs hr => retOut X707 hx Bd.returns rfl (Or.inr (Or.inr (Or.inr (Or.inr ⟨rfl, rfl, rfl⟩)))) (hb hby dprog_13_method_2_code_74) hr) (by decide) (by decide) ((Or.inr ⟨v584, v589, v627, v661, v614, v617, v618, v619, v620, v692, v695, v696, v697, v698, b573, b598, b672, b702, k573, k599, k673, hv584, hv589, hv627, hv661, hv614, hv617, hv618, hv619, hv620, hv692, hv695, hv696, hv697, hv698, hc587, hi590, hi592, hi594, hc600, hc601, hc602, hi609, hi611, hc630, hi662, hi664, hi666, hi669, hc674, hc675, hc676, hi685, hi687, hi689, rfl, N707_, K710, sz_b573, sz_b598, sz_b672, sz_b702, f711, f712, f713, f714, f715, f716, f708, f709, lt_b573_b598, lt_b573_b672, lt_b573_b702, lt_b598_b672, lt_b598_b702, lt_b672_b702⟩))
theorem ef_13 (m : MethodId) (p0 : Int32) (p1 : Int32) : entryFrame m #[(.int p0), (.int p1)] 2 = mkF m 0 #[.val (.int p0), .val (.int p1)] [] := by first | (simp [entryFrame, mkF, argsToLocals, Value.category, maxLocals]; done) | rfl
def Q13 (Z : State) (p0 : Int32) (p1 : Int32) (h0 : Heap) (n0 : Nat) (v : Option Value) (h : Heap) (L : List Loc) : Prop := (∃ (rv13 : Int32), (((p0 < p1) ∧ (rv13 = p1)) ∨ ((¬ (p0 < p1)) ∧ (rv13 = p0))) ∧ v = some (.int rv13) ∧ Fr n0 L ∧ h = h0)
set_option maxRecDepth 65536 in
set_option maxHeartbeats 40000000 in
theorem rm13 (l : Launch) (Z : State) (a0 : Array Value) (hw : ∀ d ∈ tables_1, d.before a0 Z = true) (ws : List Jvm.Cond) (p0 : Int32) (p1 : Int32) (h0 : Heap) (n0 : Nat) (Z0 : n0 ≤ h0.size)  :
    Con l Z (⟨"java/lang/Math", "max", "(II)I"⟩ : MethodName) jdk_29_method_65_code 2 (some .int) ws ({ frames := 0, cells := 0, slots := 0, locals := 0 } : Room) #[(.int p0), (.int p1)] h0 0 0 (Q13 Z p0 p1 h0 n0) := by
  refine MetFree.of_bodySF (Jvm.Free.JP.mathPlain rfl (by decide +kernel)) hisR ?_
  intro p e s m args below meth c s₁ Bd hml0 hP hK
  obtain ⟨rfl, hZ, hh⟩ := hP
  have hx := Bd.exec
  have hby := Bd.bytes
  have hml : c.maxLocals = 2 := hml0
  have hown : s.vm.findClass "java/lang/Math" = some m.cls := findClass_of_methodNamed Bd.named
  have hnm := (name_of_methodNamed Bd.named Bd.method).1
  have X0 : Stand p l e ({ frames := 0, cells := 0, slots := 0, locals := 0 } : Room) s m #[(.int p0), (.int p1)] below meth c s₁ [] 0 0 := Stand.of_body Bd
  have e0 : s₁.heap = h0 := by rw [← hh, Bd.state]; rfl
  have N0 := Fr.nil n0
  refine Go.of ?_
  refine Go.st (S' := s₁.setTop (mkF m 0 #[.val (.int p0), .val (.int p1)] [])) (fun t k => castTop (ef_13 m p0 p1) k) ?_
  refine Go.st (S' := s₁.setTop (mkF m 1 #[.val (.int p0), .val (.int p1)] [(.int p0)])) (fun t k => XS.iloadN X0.here hx rfl (hb hby djdk_29_method_65_code_0) rfl k) ?_
  refine Go.st (S' := s₁.setTop (mkF m 2 #[.val (.int p0), .val (.int p1)] [(.int p1), (.int p0)])) (fun t k => XS.iloadN X0.here hx rfl (hb hby djdk_29_method_65_code_1) rfl k) ?_
  by_cases hc788 : (p0 < p1)
  · refine Go.st (S' := s₁.setTop (mkF m 9 #[.val (.int p0), .val (.int p1)] [])) (fun t k => XS.icmpYes X0.here hx rfl (pc0 := 2) (pc' := 9) rfl (hb hby djdk_29_method_65_code_2) rfl (tlt hc788).1 (by decide) (by decide) k) ?_
    refine Go.st (S' := s₁.setTop (mkF m 10 #[.val (.int p0), .val (.int p1)] [(.int p1)])) (fun t k => XS.iloadN X0.here hx rfl (hb hby djdk_29_method_65_code_9) rfl k) ?_
    exact Go.ret X0 (v := some (.int p1)) (fun h => by rw [Bd.returns] at h; cases h) Bd.notSynchronized (fun fs hr => retI X0 hx Bd.returns (hb hby djdk_29_method_65_code_10) hr) (by decide) (by decide) (⟨p1, (Or.inl ⟨hc788, rfl⟩), rfl, N0, (e0)⟩)
  · refine Go.st (S' := s₁.setTop (mkF m 5 #[.val (.int p0), .val (.int p1)] [])) (fun t k => XS.icmpNo X0.here hx rfl (hb hby djdk_29_method_65_code_2) rfl (flt hc788).1 k) ?_
    refine Go.st (S' := s₁.setTop (mkF m 6 #[.val (.int p0), .val (.int p1)] [(.int p0)])) (fun t k => XS.iloadN X0.here hx rfl (hb hby djdk_29_method_65_code_5) rfl k) ?_
    refine Go.st (S' := s₁.setTop (mkF m 10 #[.val (.int p0), .val (.int p1)] [(.int p0)])) (fun t k => XS.goto X0.here hx rfl (pc0 := 6) (pc' := 10) rfl (hb hby djdk_29_method_65_code_6) (by decide) (by decide) k) ?_
    exact Go.ret X0 (v := some (.int p0)) (fun h => by rw [Bd.returns] at h; cases h) Bd.notSynchronized (fun fs hr => retI X0 hx Bd.returns (hb hby djdk_29_method_65_code_10) hr) (by decide) (by decide) (⟨p0, (Or.inr ⟨hc788, rfl⟩), rfl, N0, (e0)⟩)
theorem ef_14 (m : MethodId) (o0 : Addr) : entryFrame m #[(.ref o0)] 6 = mkF m 0 #[.val (.ref o0), .unset, .unset, .unset, .unset, .unset] [] := by first | (simp [entryFrame, mkF, argsToLocals, Value.category, maxLocals]; done) | rfl
def Q14 (Z : State) (o0 : Addr) (k_o0 : ClassId) (e0_o0 : Int32) (e1_o0 : Int32) (e2_o0 : Int32) (h0 : Heap) (n0 : Nat) (v : Option Value) (h : Heap) (L : List Loc) : Prop := (∃ (v996 : Int32) (v1001 : Int32) (v1039 : Int32) (v1063 : Int32) (v1026 : Int64) (v1029 : Int64) (v1050 : Int64) (v1053 : Int64) (v1074 : Int64) (v1077 : Int64) (v1030 : Int64) (v1054 : Int64) (v1078 : Int64) (v1031 : Int64) (v1055 : Int64) (v1079 : Int64) (v1032 : Int64) (v1056 : Int64) (v1080 : Int64) (b985 : Addr) (b1010 : Addr) (b1084 : Addr) (k985 : ClassId) (k1011 : ClassId), v996 = (e0_o0 >>> ((6 : Int32) &&& 31)) ∧ v1001 = (v996 + (1 : Int32)) ∧ v1039 = (e1_o0 >>> ((6 : Int32) &&& 31)) ∧ v1063 = (e2_o0 >>> ((6 : Int32) &&& 31)) ∧ v1026 = ((1 : Int64) <<< (e0_o0 &&& 0x3f).toInt64) ∧ v1029 = ((0 : Int64) ||| (if v996 = (0 : Int32) then v1026 else 0)) ∧ v1050 = ((1 : Int64) <<< (e1_o0 &&& 0x3f).toInt64) ∧ v1053 = (v1029 ||| (if v1039 = (0 : Int32) then v1050 else 0)) ∧ v1074 = ((1 : Int64) <<< (e2_o0 &&& 0x3f).toInt64) ∧ v1077 = (v1053 ||| (if v1063 = (0 : Int32) then v1074 else 0)) ∧ v1030 = ((0 : Int64) ||| (if v996 = (1 : Int32) then v1026 else 0)) ∧ v1054 = (v1030 ||| (if v1039 = (1 : Int32) then v1050 else 0)) ∧ v1078 = (v1054 ||| (if v1063 = (1 : Int32) then v1074 else 0)) ∧ v1031 = ((0 : Int64) ||| (if v996 = (2 : Int32) then v1026 else 0)) ∧ v1055 = (v1031 ||| (if v1039 = (2 : Int32) then v1050 else 0)) ∧ v1079 = (v1055 ||| (if v1063 = (2 : Int32) then v1074 else 0)) ∧ v1032 = ((0 : Int64) ||| (if v996 = (3 : Int32) then v1026 else 0)) ∧ v1056 = (v1032 ||| (if v1039 = (3 : Int32) then v1050 else 0)) ∧ v1080 = (v1056 ||| (if v1063 = (3 : Int32) then v1074 else 0)) ∧ (¬ (v996 < (0 : Int32))) ∧ (¬ (v1001 < (1 : Int32))) ∧ (¬ ((4 : Int32) < v1001)) ∧ ((0 : Int32) < v1001) ∧ (¬ (v1001 = (0 : Int32))) ∧ (¬ ((4 : Int32) < v1001)) ∧ (((v1001 < (0 : Int32)) ∧ ((0 : Int32) = v1001)) ∨ ((¬ (v1001 < (0 : Int32))) ∧ ((0 : Int32) = (0 : Int32)))) ∧ (v996 < (4 : Int32)) ∧ (v996 < v1001) ∧ (v1039 < v1001) ∧ (¬ (v1039 < (0 : Int32))) ∧ (v1039 < (4 : Int32)) ∧ (v1063 < v1001) ∧ (¬ (v1063 < (0 : Int32))) ∧ (v1063 < (4 : Int32)) ∧ v = some (.ref b1084) ∧ Fr n0 L ∧ Keep h0 h [] ∧ h0.size ≤ b985 ∧ h0.size ≤ b1010 ∧ h0.size ≤ b1084 ∧ Arv Z h b985 k985 .long (0 : Int32) [(.long (0 : Int64)), (.long (0 : Int64)), (.long (0 : Int64)), (.long (0 : Int64))] (.long (0 : Int64)) ∧ Exa Z h b985 "[J" ∧ Arv Z h b1010 k1011 .long v1001 [(.long v1077), (.long v1078), (.long v1079), (.long v1080)] (.long (0 : Int64)) ∧ Exa Z h b1010 "[J" ∧ Exa Z h b1084 "com/example/heaplens/heaplens/sharing/VarSet" ∧ Fld Z h b1084 "com/example/heaplens/heaplens/sharing/VarSet" "words" "[J" (.ref b1010) ∧ b985 < b1010 ∧ b985 < b1084 ∧ b1010 < b1084) ∨ (∃ (v996 : Int32) (v1001 : Int32) (v1039 : Int32) (v1063 : Int32) (v1097 : Int32) (v1026 : Int64) (v1029 : Int64) (v1050 : Int64) (v1053 : Int64) (v1030 : Int64) (v1054 : Int64) (v1031 : Int64) (v1055 : Int64) (v1032 : Int64) (v1056 : Int64) (v1128 : Int64) (v1131 : Int64) (v1132 : Int64) (v1133 : Int64) (v1134 : Int64) (b985 : Addr) (b1010 : Addr) (b1108 : Addr) (b1138 : Addr) (k985 : ClassId) (k1011 : ClassId) (k1109 : ClassId), v996 = (e0_o0 >>> ((6 : Int32) &&& 31)) ∧ v1001 = (v996 + (1 : Int32)) ∧ v1039 = (e1_o0 >>> ((6 : Int32) &&& 31)) ∧ v1063 = (e2_o0 >>> ((6 : Int32) &&& 31)) ∧ v1097 = (v1063 + (1 : Int32)) ∧ v1026 = ((1 : Int64) <<< (e0_o0 &&& 0x3f).toInt64) ∧ v1029 = ((0 : Int64) ||| (if v996 = (0 : Int32) then v1026 else 0)) ∧ v1050 = ((1 : Int64) <<< (e1_o0 &&& 0x3f).toInt64) ∧ v1053 = (v1029 ||| (if v1039 = (0 : Int32) then v1050 else 0)) ∧ v1030 = ((0 : Int64) ||| (if v996 = (1 : Int32) then v1026 else 0)) ∧ v1054 = (v1030 ||| (if v1039 = (1 : Int32) then v1050 else 0)) ∧ v1031 = ((0 : Int64) ||| (if v996 = (2 : Int32) then v1026 else 0)) ∧ v1055 = (v1031 ||| (if v1039 = (2 : Int32) then v1050 else 0)) ∧ v1032 = ((0 : Int64) ||| (if v996 = (3 : Int32) then v1026 else 0)) ∧ v1056 = (v1032 ||| (if v1039 = (3 : Int32) then v1050 else 0)) ∧ v1128 = ((1 : Int64) <<< (e2_o0 &&& 0x3f).toInt64) ∧ v1131 = (v1053 ||| (if v1063 = (0 : Int32) then v1128 else 0)) ∧ v1132 = (v1054 ||| (if v1063 = (1 : Int32) then v1128 else 0)) ∧ v1133 = (v1055 ||| (if v1063 = (2 : Int32) then v1128 else 0)) ∧ v1134 = (v1056 ||| (if v1063 = (3 : Int32) then v1128 else 0)) ∧ (¬ (v996 < (0 : Int32))) ∧ (¬ (v1001 < (1 : Int32))) ∧ (¬ ((4 : Int32) < v1001)) ∧ ((0 : Int32) < v1001) ∧ (¬ (v1001 = (0 : Int32))) ∧ (¬ ((4 : Int32) < v1001)) ∧ (((v1001 < (0 : Int32)) ∧ ((0 : Int32) = v1001)) ∨ ((¬ (v1001 < (0 : Int32))) ∧ ((0 : Int32) = (0 : Int32)))) ∧ (v996 < (4 : Int32)) ∧ (v996 < v1001) ∧ (v1039 < v1001) ∧ (¬ (v1039 < (0 : Int32))) ∧ (v1039 < (4 : Int32)) ∧ (¬ (v1063 < v1001)) ∧ (¬ (v1097 < (1 : Int32))) ∧ (¬ ((4 : Int32) < v1097)) ∧ (v1001 < v1097) ∧ (¬ (v1001 < (0 : Int32))) ∧ (¬ (v1097 = v1001)) ∧ (¬ ((4 : Int32) < v1097)) ∧ (((v1097 < v1001) ∧ (v1001 = v1097)) ∨ ((¬ (v1097 < v1001)) ∧ (v1001 = v1001))) ∧ (¬ (v1063 < (0 : Int32))) ∧ (v1063 < (4 : Int32)) ∧ (v1063 < v1097) ∧ v = some (.ref b1138) ∧ Fr n0 L ∧ Keep h0 h [] ∧ h0.size ≤ b985 ∧ h0.size ≤ b1010 ∧ h0.size ≤ b1108 ∧ h0.size ≤ b1138 ∧ Arv Z h b985 k985 .long (0 : Int32) [(.long (0 : Int64)), (.long (0 : Int64)), (.long (0 : Int64)), (.long (0 : Int64))] (.long (0 : Int64)) ∧ Exa Z h b985 "[J" ∧ Arv Z h b1010 k1011 .long v1001 [(.long v1053), (.long v1054), (.long v1055), (.long v1056)] (.long (0 : Int64)) ∧ Exa Z h b1010 "[J" ∧ Arv Z h b1108 k1109 .long v1097 [(.long v1131), (.long v1132), (.long v1133), (.long v1134)] (.long (0 : Int64)) ∧ Exa Z h b1108 "[J" ∧ Exa Z h b1138 "com/example/heaplens/heaplens/sharing/VarSet" ∧ Fld Z h b1138 "com/example/heaplens/heaplens/sharing/VarSet" "words" "[J" (.ref b1108) ∧ b985 < b1010 ∧ b985 < b1108 ∧ b985 < b1138 ∧ b1010 < b1108 ∧ b1010 < b1138 ∧ b1108 < b1138) ∨ (∃ (v996 : Int32) (v1001 : Int32) (v1039 : Int32) (v1154 : Int32) (v1198 : Int32) (v1026 : Int64) (v1029 : Int64) (v1030 : Int64) (v1031 : Int64) (v1032 : Int64) (v1185 : Int64) (v1188 : Int64) (v1209 : Int64) (v1212 : Int64) (v1189 : Int64) (v1213 : Int64) (v1190 : Int64) (v1214 : Int64) (v1191 : Int64) (v1215 : Int64) (b985 : Addr) (b1010 : Addr) (b1165 : Addr) (b1219 : Addr) (k985 : ClassId) (k1011 : ClassId) (k1166 : ClassId), v996 = (e0_o0 >>> ((6 : Int32) &&& 31)) ∧ v1001 = (v996 + (1 : Int32)) ∧ v1039 = (e1_o0 >>> ((6 : Int32) &&& 31)) ∧ v1154 = (v1039 + (1 : Int32)) ∧ v1198 = (e2_o0 >>> ((6 : Int32) &&& 31)) ∧ v1026 = ((1 : Int64) <<< (e0_o0 &&& 0x3f).toInt64) ∧ v1029 = ((0 : Int64) ||| (if v996 = (0 : Int32) then v1026 else 0)) ∧ v1030 = ((0 : Int64) ||| (if v996 = (1 : Int32) then v1026 else 0)) ∧ v1031 = ((0 : Int64) ||| (if v996 = (2 : Int32) then v1026 else 0)) ∧ v1032 = ((0 : Int64) ||| (if v996 = (3 : Int32) then v1026 else 0)) ∧ v1185 = ((1 : Int64) <<< (e1_o0 &&& 0x3f).toInt64) ∧ v1188 = (v1029 ||| (if v1039 = (0 : Int32) then v1185 else 0)) ∧ v1209 = ((1 : Int64) <<< (e2_o0 &&& 0x3f).toInt64) ∧ v1212 = (v1188 ||| (if v1198 = (0 : Int32) then v1209 else 0)) ∧ v1189 = (v1030 ||| (if v1039 = (1 : Int32) then v1185 else 0)) ∧ v1213 = (v1189 ||| (if v1198 = (1 : Int32) then v1209 else 0)) ∧ v1190 = (v1031 ||| (if v1039 = (2 : Int32) then v1185 else 0)) ∧ v1214 = (v1190 ||| (if v1198 = (2 : Int32) then v1209 else 0)) ∧ v1191 = (v1032 ||| (if v1039 = (3 : Int32) then v1185 else 0)) ∧ v1215 = (v1191 ||| (if v1198 = (3 : Int32) then v1209 else 0)) ∧ (¬ (v996 < (0 : Int32))) ∧ (¬ (v1001 < (1 : Int32))) ∧ (¬ ((4 : Int32) < v1001)) ∧ ((0 : Int32) < v1001) ∧ (¬ (v1001 = (0 : Int32))) ∧ (¬ ((4 : Int32) < v1001)) ∧ (((v1001 < (0 : Int32)) ∧ ((0 : Int32) = v1001)) ∨ ((¬ (v1001 < (0 : Int32))) ∧ ((0 : Int32) = (0 : Int32)))) ∧ (v996 < (4 : Int32)) ∧ (v996 < v1001) ∧ (¬ (v1039 < v1001)) ∧ (¬ (v1154 < (1 : Int32))) ∧ (¬ ((4 : Int32) < v1154)) ∧ (v1001 < v1154) ∧ (¬ (v1001 < (0 : Int32))) ∧ (¬ (v1154 = v1001)) ∧ (¬ ((4 : Int32) < v1154)) ∧ (((v1154 < v1001) ∧ (v1001 = v1154)) ∨ ((¬ (v1154 < v1001)) ∧ (v1001 = v1001))) ∧ (¬ (v1039 < (0 : Int32))) ∧ (v1039 < (4 : Int32)) ∧ (v1039 < v1154) ∧ (v1198 < v1154) ∧ (¬ (v1198 < (0 : Int32))) ∧ (v1198 < (4 : Int32)) ∧ v = some (.ref b1219) ∧ Fr n0 L ∧ Keep h0 h [] ∧ h0.size ≤ b985 ∧ h0.size ≤ b1010 ∧ h0.size ≤ b1165 ∧ h0.size ≤ b1219 ∧ Arv Z h b985 k985 .long (0 : Int32) [(.long (0 : Int64)), (.long (0 : Int64)), (.long (0 : Int64)), (.long (0 : Int64))] (.long (0 : Int64)) ∧ Exa Z h b985 "[J" ∧ Arv Z h b1010 k1011 .long v1001 [(.long v1029), (.long v1030), (.long v1031), (.long v1032)] (.long (0 : Int64)) ∧ Exa Z h b1010 "[J" ∧ Arv Z h b1165 k1166 .long v1154 [(.long v1212), (.long v1213), (.long v1214), (.long v1215)] (.long (0 : Int64)) ∧ Exa Z h b1165 "[J" ∧ Exa Z h b1219 "com/example/heaplens/heaplens/sharing/VarSet" ∧ Fld Z h b1219 "com/example/heaplens/heaplens/sharing/VarSet" "words" "[J" (.ref b1165) ∧ b985 < b1010 ∧ b985 < b1165 ∧ b985 < b1219 ∧ b1010 < b1165 ∧ b1010 < b1219 ∧ b1165 < b1219) ∨ (∃ (v996 : Int32) (v1001 : Int32) (v1039 : Int32) (v1154 : Int32) (v1198 : Int32) (v1235 : Int32) (v1026 : Int64) (v1029 : Int64) (v1030 : Int64) (v1031 : Int64) (v1032 : Int64) (v1185 : Int64) (v1188 : Int64) (v1189 : Int64) (v1190 : Int64) (v1191 : Int64) (v1269 : Int64) (v1272 : Int64) (v1273 : Int64) (v1274 : Int64) (v1275 : Int64) (b985 : Addr) (b1010 : Addr) (b1165 : Addr) (b1248 : Addr) (b1279 : Addr) (k985 : ClassId) (k1011 : ClassId) (k1166 : ClassId) (k1249 : ClassId), v996 = (e0_o0 >>> ((6 : Int32) &&& 31)) ∧ v1001 = (v996 + (1 : Int32)) ∧ v1039 = (e1_o0 >>> ((6 : Int32) &&& 31)) ∧ v1154 = (v1039 + (1 : Int32)) ∧ v1198 = (e2_o0 >>> ((6 : Int32) &&& 31)) ∧ v1235 = (v1198 + (1 : Int32)) ∧ v1026 = ((1 : Int64) <<< (e0_o0 &&& 0x3f).toInt64) ∧ v1029 = ((0 : Int64) ||| (if v996 = (0 : Int32) then v1026 else 0)) ∧ v1030 = ((0 : Int64) ||| (if v996 = (1 : Int32) then v1026 else 0)) ∧ v1031 = ((0 : Int64) ||| (if v996 = (2 : Int32) then v1026 else 0)) ∧ v1032 = ((0 : Int64) ||| (if v996 = (3 : Int32) then v1026 else 0)) ∧ v1185 = ((1 : Int64) <<< (e1_o0 &&& 0x3f).toInt64) ∧ v1188 = (v1029 ||| (if v1039 = (0 : Int32) then v1185 else 0)) ∧ v1189 = (v1030 ||| (if v1039 = (1 : Int32) then v1185 else 0)) ∧ v1190 = (v1031 ||| (if v1039 = (2 : Int32) then v1185 else 0)) ∧ v1191 = (v1032 ||| (if v1039 = (3 : Int32) then v1185 else 0)) ∧ v1269 = ((1 : Int64) <<< (e2_o0 &&& 0x3f).toInt64) ∧ v1272 = (v1188 ||| (if v1198 = (0 : Int32) then v1269 else 0)) ∧ v1273 = (v1189 ||| (if v1198 = (1 : Int32) then v1269 else 0)) ∧ v1274 = (v1190 ||| (if v1198 = (2 : Int32) then v1269 else 0)) ∧ v1275 = (v1191 ||| (if v1198 = (3 : Int32) then v1269 else 0)) ∧ (¬ (v996 < (0 : Int32))) ∧ (¬ (v1001 < (1 : Int32))) ∧ (¬ ((4 : Int32) < v1001)) ∧ ((0 : Int32) < v1001) ∧ (¬ (v1001 = (0 : Int32))) ∧ (¬ ((4 : Int32) < v1001)) ∧ (((v1001 < (0 : Int32)) ∧ ((0 : Int32) = v1001)) ∨ ((¬ (v1001 < (0 : Int32))) ∧ ((0 : Int32) = (0 : Int32)))) ∧ (v996 < (4 : Int32)) ∧ (v996 < v1001) ∧ (¬ (v1039 < v1001)) ∧ (¬ (v1154 < (1 : Int32))) ∧ (¬ ((4 : Int32) < v1154)) ∧ (v1001 < v1154) ∧ (¬ (v1001 < (0 : Int32))) ∧ (¬ (v1154 = v1001)) ∧ (¬ ((4 : Int32) < v1154)) ∧ (((v1154 < v1001) ∧ (v1001 = v1154)) ∨ ((¬ (v1154 < v1001)) ∧ (v1001 = v1001))) ∧ (¬ (v1039 < (0 : Int32))) ∧ (v1039 < (4 : Int32)) ∧ (v1039 < v1154) ∧ (¬ (v1198 < v1154)) ∧ (¬ (v1235 < (1 : Int32))) ∧ (¬ ((4 : Int32) < v1235)) ∧ (v1154 < v1235) ∧ (v996 < v1154) ∧ (¬ (v1154 < (0 : Int32))) ∧ (¬ (v1235 = v1154)) ∧ (¬ ((4 : Int32) < v1235)) ∧ (((v1235 < v1154) ∧ (v1154 = v1235)) ∨ ((¬ (v1235 < v1154)) ∧ (v1154 = v1154))) ∧ (¬ (v1198 < (0 : Int32))) ∧ (v1198 < (4 : Int32)) ∧ (v1198 < v1235) ∧ v = some (.ref b1279) ∧ Fr n0 L ∧ Keep h0 h [] ∧ h0.size ≤ b985 ∧ h0.size ≤ b1010 ∧ h0.size ≤ b1165 ∧ h0.size ≤ b1248 ∧ h0.size ≤ b1279 ∧ Arv Z h b985 k985 .long (0 : Int32) [(.long (0 : Int64)), (.long (0 : Int64)), (.long (0 : Int64)), (.long (0 : Int64))] (.long (0 : Int64)) ∧ Exa Z h b985 "[J" ∧ Arv Z h b1010 k1011 .long v1001 [(.long v1029), (.long v1030), (.long v1031), (.long v1032)] (.long (0 : Int64)) ∧ Exa Z h b1010 "[J" ∧ Arv Z h b1165 k1166 .long v1154 [(.long v1188), (.long v1189), (.long v1190), (.long v1191)] (.long (0 : Int64)) ∧ Exa Z h b1165 "[J" ∧ Arv Z h b1248 k1249 .long v1235 [(.long v1272), (.long v1273), (.long v1274), (.long v1275)] (.long (0 : Int64)) ∧ Exa Z h b1248 "[J" ∧ Exa Z h b1279 "com/example/heaplens/heaplens/sharing/VarSet" ∧ Fld Z h b1279 "com/example/heaplens/heaplens/sharing/VarSet" "words" "[J" (.ref b1248) ∧ b985 < b1010 ∧ b985 < b1165 ∧ b985 < b1248 ∧ b985 < b1279 ∧ b1010 < b1165 ∧ b1010 < b1248 ∧ b1010 < b1279 ∧ b1165 < b1248 ∧ b1165 < b1279 ∧ b1248 < b1279)
set_option maxRecDepth 65536 in
set_option maxHeartbeats 40000000 in
theorem rm14 (l : Launch) (Z : State) (a0 : Array Value) (hw : ∀ d ∈ tables_1, d.before a0 Z = true) (ws : List Jvm.Cond) (o0 : Addr) (k_o0 : ClassId) (e0_o0 : Int32) (e1_o0 : Int32) (e2_o0 : Int32) (h0 : Heap) (n0 : Nat) (Z0 : n0 ≤ h0.size) (hra_e0_o0 : (¬ (e0_o0 < (0 : Int32)))) (hrb_e0_o0 : (¬ ((255 : Int32) < e0_o0))) (hra_e1_o0 : (¬ (e1_o0 < (0 : Int32)))) (hrb_e1_o0 : (¬ ((255 : Int32) < e1_o0))) (hra_e2_o0 : (¬ (e2_o0 < (0 : Int32)))) (hrb_e2_o0 : (¬ ((255 : Int32) < e2_o0))) (V_o0 : Arv Z h0 o0 k_o0 .int (3 : Int32) [(.int e0_o0), (.int e1_o0), (.int e2_o0)] (.int (0 : Int32))) :
    Con l Z (⟨"com/example/heaplens/heaplens/sharing/VarSet", "of", "([I)Lcom/example/heaplens/heaplens/sharing/VarSet;"⟩ : MethodName) prog_13_method_2_code 6 (some (.object "com/example/heaplens/heaplens/sharing/VarSet")) ws ({ frames := 2, cells := 5, slots := 14, locals := 54 } : Room) #[(.ref o0)] h0 5 14 (Q14 Z o0 k_o0 e0_o0 e1_o0 e2_o0 h0 n0) := by
  refine MetFree.of_bodySF (plainFor_of_name pn_0) hisR ?_
  intro p e s m args below meth c s₁ Bd hml0 hP hK
  obtain ⟨rfl, hZ, hh⟩ := hP
  have hx := Bd.exec
  have hby := Bd.bytes
  have hml : c.maxLocals = 6 := hml0
  have hown : s.vm.findClass "com/example/heaplens/heaplens/sharing/VarSet" = some m.cls := findClass_of_methodNamed Bd.named
  have hnm := (name_of_methodNamed Bd.named Bd.method).1
  have X0 : Stand p l e ({ frames := 2, cells := 5, slots := 14, locals := 54 } : Room) s m #[(.ref o0)] below meth c s₁ [] 0 0 := Stand.of_body Bd
  have e0 : s₁.heap = h0 := by rw [← hh, Bd.state]; rfl
  have N0 := Fr.nil n0
  refine Go.of ?_
  refine Go.st (S' := s₁.setTop (mkF m 0 #[.val (.ref o0), .unset, .unset, .unset, .unset, .unset] [])) (fun t k => castTop (ef_14 m o0) k) ?_
  refine Go.st (S' := s₁.setTop (mkF m 1 #[.val (.ref o0), .unset, .unset, .unset, .unset, .unset] [(.int (0 : Int32))])) (fun t k => XS.iconst X0.here hx rfl (hb hby dprog_13_method_2_code_0) k) ?_
  obtain ⟨T985, h985, k985, X985, e985, E985, A985, B985, st985⟩ := newPE X0 hx hZ (hw _ (List.mem_of_getElem? (i := 5) rfl)) e0 (g := (mkF m 1 #[.val (.ref o0), .unset, .unset, .unset, .unset, .unset] [(.int (0 : Int32))])) rfl (hb hby dprog_13_method_2_code_1) rfl (by decide) (cap := 0) (by decide) (by decide) (by decide) (by decide) (ad := "[J") (by decide)
  obtain ⟨b985, gg985⟩ : ∃ z, z = h0.size := ⟨_, rfl⟩
  rw [← gg985] at A985 B985 st985
  have g_b985 : n0 ≤ b985 := Nat.le_trans Z0 (Nat.le_of_eq gg985.symm)
  have sz_b985 : h0.size ≤ b985 := Nat.le_trans (Keep.refl h0 []).1 (Nat.le_of_eq gg985.symm)
  have Z986 : n0 ≤ h985.size := Nat.le_trans Z0 E985.1
  have K986 : Keep h0 h985 [] := (Keep.refl h0 []).ext E985
  have V985 : Arv Z h985 b985 k985 .long (0 : Int32) [(.long (0 : Int64)), (.long (0 : Int64)), (.long (0 : Int64)), (.long (0 : Int64))] (.long (0 : Int64)) := (Arv.new A985 (by decide)).pad (pad_rep [] (.long (0 : Int64)) 4)
  refine Go.st (S' := T985.setTop (mkF m 3 #[.val (.ref o0), .unset, .unset, .unset, .unset, .unset] [(.ref b985)])) st985 ?_
  let A987 : Array Slot := #[.val (.ref o0), .val (.ref b985), .unset, .unset, .unset, .unset]
  refine Go.st (S' := T985.setTop (mkF m 4 A987 [])) (fun t k => XS.astoreN X985.here hx rfl (hb hby dprog_13_method_2_code_3) rfl rfl (l' := A987) rfl k) ?_
  refine Go.st (S' := T985.setTop (mkF m 5 A987 [(.ref o0)])) (fun t k => XS.aloadN X985.here hx rfl (hb hby dprog_13_method_2_code_4) rfl rfl k) ?_
  let A988 : Array Slot := #[.val (.ref o0), .val (.ref b985), .val (.ref o0), .unset, .unset, .unset]
  refine Go.st (S' := T985.setTop (mkF m 6 A988 [])) (fun t k => XS.astoreN X985.here hx rfl (hb hby dprog_13_method_2_code_5) rfl rfl (l' := A988) rfl k) ?_
  refine Go.st (S' := T985.setTop (mkF m 7 A988 [(.ref o0)])) (fun t k => XS.aloadN X985.here hx rfl (hb hby dprog_13_method_2_code_6) rfl rfl k) ?_
  have f989 := ((V_o0).ext E985)
  obtain ⟨cl990, Ar990, -, S990, N990_, -, -⟩ := id f989
  refine Go.op (F := fun z => T985.setTop (mkF m 8 A988 [(.int z)])) (x := cl990.slots.size.toInt32) (fun t k => X985.arraylength hx (own_eh e985 Ar990.1) (State.isArrayOf_alike hZ.alike Ar990.2.1) (g := (mkF m 7 A988 [(.ref o0)])) rfl rfl (hb hby dprog_13_method_2_code_7) t k) ?_
  intro v991 hv991
  obtain rfl : (3 : Int32) = v991 := (hv991.trans (len_of S990 N990_)).symm
  let A992 : Array Slot := #[.val (.ref o0), .val (.ref b985), .val (.ref o0), .val (.int (3 : Int32)), .unset, .unset]
  refine Go.st (S' := T985.setTop (mkF m 9 A992 [])) (fun t k => XS.istoreN X985.here hx rfl (hb hby dprog_13_method_2_code_8) rfl (l' := A992) rfl k) ?_
  refine Go.st (S' := T985.setTop (mkF m 10 A992 [(.int (0 : Int32))])) (fun t k => XS.iconst X985.here hx rfl (hb hby dprog_13_method_2_code_9) k) ?_
  let A993 : Array Slot := #[.val (.ref o0), .val (.ref b985), .val (.ref o0), .val (.int (3 : Int32)), .val (.int (0 : Int32)), .unset]
  refine Go.st (S' := T985.setTop (mkF m 12 A993 [])) (fun t k => XS.istore X985.here hx rfl (hb hby dprog_13_method_2_code_10) rfl (l' := A993) rfl k) ?_
  refine Go.st (S' := T985.setTop (mkF m 14 A993 [(.int (0 : Int32))])) (fun t k => XS.iload X985.here hx rfl (hb hby dprog_13_method_2_code_12) rfl k) ?_
  refine Go.st (S' := T985.setTop (mkF m 15 A993 [(.int (3 : Int32)), (.int (0 : Int32))])) (fun t k => XS.iloadN X985.here hx rfl (hb hby dprog_13_method_2_code_14) rfl k) ?_
  refine Go.st (S' := T985.setTop (mkF m 18 A993 [])) (fun t k => XS.icmpNo X985.here hx rfl (hb hby dprog_13_method_2_code_15) rfl (tlt (by decide : ((0 : Int32) < (3 : Int32)))).2.1 k) ?_
  refine Go.st (S' := T985.setTop (mkF m 19 A993 [(.ref o0)])) (fun t k => XS.aloadN X985.here hx rfl (hb hby dprog_13_method_2_code_18) rfl rfl k) ?_
  refine Go.st (S' := T985.setTop (mkF m 21 A993 [(.int (0 : Int32)), (.ref o0)])) (fun t k => XS.iload X985.here hx rfl (hb hby dprog_13_method_2_code_19) rfl k) ?_
  obtain ⟨cl994, Ar994, -, S994, N994_, H994, -⟩ := id f989
  have hin994 : ¬ ((0 : Int32) < 0 ∨ cl994.slots.size ≤ ((0 : Int32)).toNatClampNeg) := inb_of S994 ⟨by decide, by decide⟩
  have hat994 : cl994.slots[((0 : Int32)).toNatClampNeg]? = some (.int e0_o0) := Has.at H994 hin994 rfl
  refine Go.st (S' := T985.setTop (mkF m 22 A993 [(.int e0_o0)])) (fun t k => X985.iaload hx (j := (0 : Int32)) (v := (.int e0_o0)) (own_eh e985 Ar994.1) (State.isArrayOf_alike hZ.alike Ar994.2.1) Ar994.2.2 hin994 hat994 (g := (mkF m 21 A993 [(.int (0 : Int32)), (.ref o0)])) rfl rfl (hb hby dprog_13_method_2_code_21) t k) ?_
  let A995 : Array Slot := #[.val (.ref o0), .val (.ref b985), .val (.ref o0), .val (.int (3 : Int32)), .val (.int (0 : Int32)), .val (.int e0_o0)]
  refine Go.st (S' := T985.setTop (mkF m 24 A995 [])) (fun t k => XS.istore X985.here hx rfl (hb hby dprog_13_method_2_code_22) rfl (l' := A995) rfl k) ?_
  refine Go.st (S' := T985.setTop (mkF m 26 A995 [(.int e0_o0)])) (fun t k => XS.iload X985.here hx rfl (hb hby dprog_13_method_2_code_24) rfl k) ?_
  refine Go.st (S' := T985.setTop (mkF m 28 A995 [(.int (6 : Int32)), (.int e0_o0)])) (fun t k => XS.bipush X985.here hx rfl (hb hby dprog_13_method_2_code_26) k) ?_
  refine Go.op (F := fun z => T985.setTop (mkF m 29 A995 [(.int z)])) (x := (e0_o0 >>> ((6 : Int32) &&& 31))) (fun t k => XS.ishr X985.here hx rfl (hb hby dprog_13_method_2_code_28) rfl k) ?_
  intro v996 hv996
  refine Go.st (S' := T985.setTop (mkF m 30 A995 [(.ref b985), (.int v996)])) (fun t k => XS.aloadN X985.here hx rfl (hb hby dprog_13_method_2_code_29) rfl rfl k) ?_
  obtain ⟨cl997, Ar997, -, S997, N997_, -, -⟩ := id V985
  refine Go.op (F := fun z => T985.setTop (mkF m 31 A995 [(.int z), (.int v996)])) (x := cl997.slots.size.toInt32) (fun t k => X985.arraylength hx (own_eh e985 Ar997.1) (State.isArrayOf_alike hZ.alike Ar997.2.1) (g := (mkF m 30 A995 [(.ref b985), (.int v996)])) rfl rfl (hb hby dprog_13_method_2_code_30) t k) ?_
  intro v998 hv998
  obtain rfl : (0 : Int32) = v998 := (hv998.trans (len_of S997 N997_)).symm
  by_cases hc999 : (v996 < (0 : Int32))
  · exfalso
    exact ar_25 e0_o0 v996 hv996 hra_e0_o0 hrb_e0_o0 hc999
  · refine Go.st (S' := T985.setTop (mkF m 34 A995 [])) (fun t k => XS.icmpNo X985.here hx rfl (hb hby dprog_13_method_2_code_31) rfl (flt hc999).1 k) ?_
    refine Go.st (S' := T985.setTop (mkF m 35 A995 [(.ref b985)])) (fun t k => XS.aloadN X985.here hx rfl (hb hby dprog_13_method_2_code_34) rfl rfl k) ?_
    refine Go.st (S' := T985.setTop (mkF m 37 A995 [(.int e0_o0), (.ref b985)])) (fun t k => XS.iload X985.here hx rfl (hb hby dprog_13_method_2_code_35) rfl k) ?_
    refine Go.st (S' := T985.setTop (mkF m 39 A995 [(.int (6 : Int32)), (.int e0_o0), (.ref b985)])) (fun t k => XS.bipush X985.here hx rfl (hb hby dprog_13_method_2_code_37) k) ?_
    refine Go.op (F := fun z => T985.setTop (mkF m 40 A995 [(.int z), (.ref b985)])) (x := (e0_o0 >>> ((6 : Int32) &&& 31))) (fun t k => XS.ishr X985.here hx rfl (hb hby dprog_13_method_2_code_39) rfl k) ?_
    intro v1000 hv1000
    obtain rfl : v996 = v1000 := hv996.trans hv1000.symm
    refine Go.st (S' := T985.setTop (mkF m 41 A995 [(.int (1 : Int32)), (.int v996), (.ref b985)])) (fun t k => XS.iconst X985.here hx rfl (hb hby dprog_13_method_2_code_40) k) ?_
    refine Go.op (F := fun z => T985.setTop (mkF m 42 A995 [(.int z), (.ref b985)])) (x := (v996 + (1 : Int32))) (fun t k => XS.iadd X985.here hx rfl (hb hby dprog_13_method_2_code_41) rfl k) ?_
    intro v1001 hv1001
    have hi1002 : (¬ (v1001 < (1 : Int32))) := by
      intro hc1003
      exact ar_30 e0_o0 v996 v1001 hv996 hv1001 hra_e0_o0 hrb_e0_o0 hc999 hc1003
    have hi1004 : (¬ ((4 : Int32) < v1001)) := by
      intro hc1005
      exact ar_31 e0_o0 v996 v1001 hv996 hv1001 hra_e0_o0 hrb_e0_o0 hc999 hi1002 hc1005
    have hi1006 : ((0 : Int32) < v1001) := by
      refine Decidable.byContradiction fun hc1007 => ?_
      exact ar_32 e0_o0 v996 v1001 hv996 hv1001 hra_e0_o0 hrb_e0_o0 hc999 hi1002 hi1004 hc1007
    have iv1008 : ((0 : Int32) < (0 : Int32) ∨ (0 : Int64) = (0 : Int64)) ∧ ((1 : Int32) < (0 : Int32) ∨ (0 : Int64) = (0 : Int64)) ∧ ((2 : Int32) < (0 : Int32) ∨ (0 : Int64) = (0 : Int64)) ∧ ((3 : Int32) < (0 : Int32) ∨ (0 : Int64) = (0 : Int64)) := ⟨(Or.inr rfl), (Or.inr rfl), (Or.inr rfl), (Or.inr rfl)⟩
    obtain ⟨r1009, T1009, L1009, X1009, hQ1009, st1009⟩ := own_callS (W := 0) X985 hx hZ e985 hown (y := (⟨"java/util/Arrays", "copyOf", "([JI)[J"⟩ : MethodName)) (hw _ (List.mem_of_getElem? (i := 46) rfl)) (hw _ (List.mem_of_getElem? (i := 47) rfl)) (hw _ (List.mem_of_getElem? (i := 48) rfl)) (hw _ (List.mem_of_getElem? (i := 49) rfl)) (by decide) (rm10 l Z a0 hw [] b985 v1001 k985 (0 : Int32) (0 : Int64) (0 : Int64) (0 : Int64) (0 : Int64) h985 n0 Z986 (hi1002) (hi1004) ((by decide : (¬ ((0 : Int32) < (0 : Int32))))) ((by decide : (¬ ((4 : Int32) < (0 : Int32))))) (V985) (hi1006) (iv1008)) (by decide) (by decide) (by decide) (by decide) (g := (mkF m 42 A995 [(.int v1001), (.ref b985)])) rfl (by rw [hml]; rfl) (argsL := [(.ref b985), (.int v1001)]) (rest := []) rfl (lenOf pd_7 rfl) rfl (by show 2 * 0 + _ ≤ _; exact Nat.le_of_eq rfl) (hb hby dprog_13_method_2_code_42)
    obtain ⟨b1010, k1011, hc1012, hc1013, hc1014, rfl, N1009, K1009_, sz_b1010_, f1015, f1016⟩ := hQ1009
    have N1009_ := Fr.app N0 N1009
    have g_b1010 : n0 ≤ b1010 := Nat.le_trans Z986 sz_b1010_
    have sz_b1010 : h0.size ≤ b1010 := Nat.le_trans K986.1 sz_b1010_
    have lt_b985_b1010 : b985 < b1010 := Nat.lt_of_lt_of_le (B985).lt sz_b1010_
    have Z1017 : n0 ≤ T1009.heap.size := Nat.le_trans Z986 K1009_.1
    have K1017 : Keep h0 T1009.heap [] := K986.trans K1009_ all0
    refine Go.st (S' := T1009.setTop (mkF m 45 A995 [(.ref b1010)])) st1009 ?_
    let A1018 : Array Slot := #[.val (.ref o0), .val (.ref b1010), .val (.ref o0), .val (.int (3 : Int32)), .val (.int (0 : Int32)), .val (.int e0_o0)]
    refine Go.st (S' := T1009.setTop (mkF m 46 A1018 [])) (fun t k => XS.astoreN X1009.here hx rfl (hb hby dprog_13_method_2_code_45) rfl rfl (l' := A1018) rfl k) ?_
    refine Go.st (S' := T1009.setTop (mkF m 47 A1018 [(.ref b1010)])) (fun t k => XS.aloadN X1009.here hx rfl (hb hby dprog_13_method_2_code_46) rfl rfl k) ?_
    refine Go.st (S' := T1009.setTop (mkF m 49 A1018 [(.int e0_o0), (.ref b1010)])) (fun t k => XS.iload X1009.here hx rfl (hb hby dprog_13_method_2_code_47) rfl k) ?_
    refine Go.st (S' := T1009.setTop (mkF m 51 A1018 [(.int (6 : Int32)), (.int e0_o0), (.ref b1010)])) (fun t k => XS.bipush X1009.here hx rfl (hb hby dprog_13_method_2_code_49) k) ?_
    refine Go.op (F := fun z => T1009.setTop (mkF m 52 A1018 [(.int z), (.ref b1010)])) (x := (e0_o0 >>> ((6 : Int32) &&& 31))) (fun t k => XS.ishr X1009.here hx rfl (hb hby dprog_13_method_2_code_51) rfl k) ?_
    intro v1019 hv1019
    obtain rfl : v996 = v1019 := hv996.trans hv1019.symm
    refine Go.st (S' := T1009.setTop (mkF m 53 A1018 [(.int v996), (.ref b1010), (.int v996), (.ref b1010)])) (fun t k => Jvm.Free.XT.dup2 X1009.here hx rfl (hb hby dprog_13_method_2_code_52) rfl rfl rfl k) ?_
    have hi1021 : (v996 < (4 : Int32)) := by
      refine Decidable.byContradiction fun hc1022 => ?_
      exact ar_33 e0_o0 v996 hv996 hra_e0_o0 hrb_e0_o0 hc999 hc1022
    have hi1023 : (v996 < v1001) := by
      refine Decidable.byContradiction fun hc1024 => ?_
      exact ar_34 e0_o0 v996 v1001 hv996 hv1001 hra_e0_o0 hrb_e0_o0 hc999 hi1002 hi1004 hi1006 hc1012 hc1013 hc1014 hi1021 hc1024
    obtain ⟨v1025, hv1025⟩ : ∃ z, z = (own_get4 v996 (0 : Int64) (0 : Int64) (0 : Int64) (0 : Int64)) := ⟨_, rfl⟩
    obtain ⟨cl1020, Ar1020, -, S1020, N1020_, H1020, -⟩ := id f1015
    have hin1020 : ¬ (v996 < 0 ∨ cl1020.slots.size ≤ (v996).toNatClampNeg) := inb_of S1020 ⟨hc999, hi1023⟩
    have hat1020 : cl1020.slots[(v996).toNatClampNeg]? = some (.long v1025) := Has.at H1020 hin1020 (by rw [hv1025]; exact own_get4_at hc999 hi1021)
    refine Go.st (S' := T1009.setTop (mkF m 54 A1018 [(.long v1025), (.int v996), (.ref b1010)])) (fun t k => X1009.laload hx (j := v996) (v := (.long v1025)) (own_eh rfl Ar1020.1) (State.isArrayOf_alike hZ.alike Ar1020.2.1) Ar1020.2.2 hin1020 hat1020 (g := (mkF m 53 A1018 [(.int v996), (.ref b1010), (.int v996), (.ref b1010)])) rfl rfl (hb hby dprog_13_method_2_code_53) t k) ?_
    refine Go.st (S' := T1009.setTop (mkF m 55 A1018 [(.long (1 : Int64)), (.long v1025), (.int v996), (.ref b1010)])) (fun t k => XS.lconst X1009.here hx rfl (hb hby dprog_13_method_2_code_54) k) ?_
    refine Go.st (S' := T1009.setTop (mkF m 57 A1018 [(.int e0_o0), (.long (1 : Int64)), (.long v1025), (.int v996), (.ref b1010)])) (fun t k => XS.iload X1009.here hx rfl (hb hby dprog_13_method_2_code_55) rfl k) ?_
    refine Go.op (F := fun z => T1009.setTop (mkF m 58 A1018 [(.long z), (.long v1025), (.int v996), (.ref b1010)])) (x := ((1 : Int64) <<< (e0_o0 &&& 0x3f).toInt64)) (fun t k => XS.lshl X1009.here hx rfl (hb hby dprog_13_method_2_code_57) rfl k) ?_
    intro v1026 hv1026
    refine Go.op (F := fun z => T1009.setTop (mkF m 59 A1018 [(.long z), (.int v996), (.ref b1010)])) (x := (v1025 ||| v1026)) (fun t k => XS.lor X1009.here hx rfl (hb hby dprog_13_method_2_code_58) rfl k) ?_
    intro v1027 hv1027
    obtain ⟨cl1028, Ar1028, q1028, S1028, N1028_, H1028, G1028⟩ := id f1015
    have hin1028 : ¬ (v996 < 0 ∨ cl1028.slots.size ≤ (v996).toNatClampNeg) := inb_of S1028 ⟨hc999, hi1023⟩
    obtain ⟨T1028, h1028, X1028, e1028, W1028, st1028⟩ := stJ X1009 hx hZ rfl Ar1028 (j := v996) hin1028 (g := (mkF m 59 A1018 [(.long v1027), (.int v996), (.ref b1010)])) rfl rfl (hb hby dprog_13_method_2_code_59)
    obtain ⟨v1029, hv1029⟩ : ∃ z, z = ((0 : Int64) ||| (if v996 = (0 : Int32) then v1026 else 0)) := ⟨_, rfl⟩
    obtain ⟨v1030, hv1030⟩ : ∃ z, z = ((0 : Int64) ||| (if v996 = (1 : Int32) then v1026 else 0)) := ⟨_, rfl⟩
    obtain ⟨v1031, hv1031⟩ : ∃ z, z = ((0 : Int64) ||| (if v996 = (2 : Int32) then v1026 else 0)) := ⟨_, rfl⟩
    obtain ⟨v1032, hv1032⟩ : ∃ z, z = ((0 : Int64) ||| (if v996 = (3 : Int32) then v1026 else 0)) := ⟨_, rfl⟩
    have V1028 : Arv Z h1028 b1010 k1011 .long v1001 [(.long v1029), (.long v1030), (.long v1031), (.long v1032)] (.long (0 : Int64)) := by
      have tt := Arv.set Ar1028 q1028 S1028 N1028_ H1028 G1028 rfl W1028 _ rfl (own_lt4 hc999 hi1021)
      rw [own_set4 (B := v1026) hc999 hi1021 (by rw [hv1027, hv1025]), ← hv1029, ← hv1030, ← hv1031, ← hv1032] at tt
      exact tt
    have N1028 := Fr.snoc X1028 N1009_ g_b1010
    have Z1033 : n0 ≤ h1028.size := Nat.le_trans Z1017 (Keep.of_wr W1028).1
    have K1033 : Keep h0 h1028 [] := K1017.wr W1028 (Or.inr sz_b1010)
    refine Go.st (S' := T1028.setTop (mkF m 60 A1018 [])) st1028 ?_
    refine Go.op (F := fun z => T1028.setTop (mkF m 63 #[.val (.ref o0), .val (.ref b1010), .val (.ref o0), .val (.int (3 : Int32)), .val (.int z), .val (.int e0_o0)] [])) (x := ((0 : Int32) + (1 : Int32))) (fun t k => XS.iinc X1028.here hx rfl (hb hby dprog_13_method_2_code_60) rfl rfl k) ?_
    intro v1034 hv1034
    obtain rfl : (1 : Int32) = v1034 := (hv1034.trans (by decide)).symm
    let A1035 : Array Slot := #[.val (.ref o0), .val (.ref b1010), .val (.ref o0), .val (.int (3 : Int32)), .val (.int (1 : Int32)), .val (.int e0_o0)]
    refine Go.st (S' := T1028.setTop (mkF m 12 A1035 [])) (fun t k => XS.goto X1028.here hx rfl (pc0 := 63) (pc' := 12) rfl (hb hby dprog_13_method_2_code_63) (by decide) (by decide) k) ?_
    refine Go.st (S' := T1028.setTop (mkF m 14 A1035 [(.int (1 : Int32))])) (fun t k => XS.iload X1028.here hx rfl (hb hby dprog_13_method_2_code_12) rfl k) ?_
    refine Go.st (S' := T1028.setTop (mkF m 15 A1035 [(.int (3 : Int32)), (.int (1 : Int32))])) (fun t k => XS.iloadN X1028.here hx rfl (hb hby dprog_13_method_2_code_14) rfl k) ?_
    refine Go.st (S' := T1028.setTop (mkF m 18 A1035 [])) (fun t k => XS.icmpNo X1028.here hx rfl (hb hby dprog_13_method_2_code_15) rfl (tlt (by decide : ((1 : Int32) < (3 : Int32)))).2.1 k) ?_
    refine Go.st (S' := T1028.setTop (mkF m 19 A1035 [(.ref o0)])) (fun t k => XS.aloadN X1028.here hx rfl (hb hby dprog_13_method_2_code_18) rfl rfl k) ?_
    refine Go.st (S' := T1028.setTop (mkF m 21 A1035 [(.int (1 : Int32)), (.ref o0)])) (fun t k => XS.iload X1028.here hx rfl (hb hby dprog_13_method_2_code_19) rfl k) ?_
    have f1036 := ((((f989).keep K1009_ nin0)).other W1028 (Nat.ne_of_lt (Nat.lt_of_lt_of_le (V_o0).lt sz_b1010)))
    obtain ⟨cl1037, Ar1037, -, S1037, N1037_, H1037, -⟩ := id f1036
    have hin1037 : ¬ ((1 : Int32) < 0 ∨ cl1037.slots.size ≤ ((1 : Int32)).toNatClampNeg) := inb_of S1037 ⟨by decide, by decide⟩
    have hat1037 : cl1037.slots[((1 : Int32)).toNatClampNeg]? = some (.int e1_o0) := Has.at H1037 hin1037 rfl
    refine Go.st (S' := T1028.setTop (mkF m 22 A1035 [(.int e1_o0)])) (fun t k => X1028.iaload hx (j := (1 : Int32)) (v := (.int e1_o0)) (own_eh e1028 Ar1037.1) (State.isArrayOf_alike hZ.alike Ar1037.2.1) Ar1037.2.2 hin1037 hat1037 (g := (mkF m 21 A1035 [(.int (1 : Int32)), (.ref o0)])) rfl rfl (hb hby dprog_13_method_2_code_21) t k) ?_
    let A1038 : Array Slot := #[.val (.ref o0), .val (.ref b1010), .val (.ref o0), .val (.int (3 : Int32)), .val (.int (1 : Int32)), .val (.int e1_o0)]
    refine Go.st (S' := T1028.setTop (mkF m 24 A1038 [])) (fun t k => XS.istore X1028.here hx rfl (hb hby dprog_13_method_2_code_22) rfl (l' := A1038) rfl k) ?_
    refine Go.st (S' := T1028.setTop (mkF m 26 A1038 [(.int e1_o0)])) (fun t k => XS.iload X1028.here hx rfl (hb hby dprog_13_method_2_code_24) rfl k) ?_
    refine Go.st (S' := T1028.setTop (mkF m 28 A1038 [(.int (6 : Int32)), (.int e1_o0)])) (fun t k => XS.bipush X1028.here hx rfl (hb hby dprog_13_method_2_code_26) k) ?_
    refine Go.op (F := fun z => T1028.setTop (mkF m 29 A1038 [(.int z)])) (x := (e1_o0 >>> ((6 : Int32) &&& 31))) (fun t k => XS.ishr X1028.here hx rfl (hb hby dprog_13_method_2_code_28) rfl k) ?_
    intro v1039 hv1039
    refine Go.st (S' := T1028.setTop (mkF m 30 A1038 [(.ref b1010), (.int v1039)])) (fun t k => XS.aloadN X1028.here hx rfl (hb hby dprog_13_method_2_code_29) rfl rfl k) ?_
    obtain ⟨cl1040, Ar1040, -, S1040, N1040_, -, -⟩ := id V1028
    refine Go.op (F := fun z => T1028.setTop (mkF m 31 A1038 [(.int z), (.int v1039)])) (x := cl1040.slots.size.toInt32) (fun t k => X1028.arraylength hx (own_eh e1028 Ar1040.1) (State.isArrayOf_alike hZ.alike Ar1040.2.1) (g := (mkF m 30 A1038 [(.ref b1010), (.int v1039)])) rfl rfl (hb hby dprog_13_method_2_code_30) t k) ?_
    intro v1041 hv1041
    obtain rfl : v1001 = v1041 := (hv1041.trans (len_of S1040 N1040_)).symm
    by_cases hc1042 : (v1039 < v1001)
    · refine Go.st (S' := T1028.setTop (mkF m 46 A1038 [])) (fun t k => XS.icmpYes X1028.here hx rfl (pc0 := 31) (pc' := 46) rfl (hb hby dprog_13_method_2_code_31) rfl (tlt hc1042).1 (by decide) (by decide) k) ?_
      refine Go.st (S' := T1028.setTop (mkF m 47 A1038 [(.ref b1010)])) (fun t k => XS.aloadN X1028.here hx rfl (hb hby dprog_13_method_2_code_46) rfl rfl k) ?_
      refine Go.st (S' := T1028.setTop (mkF m 49 A1038 [(.int e1_o0), (.ref b1010)])) (fun t k => XS.iload X1028.here hx rfl (hb hby dprog_13_method_2_code_47) rfl k) ?_
      refine Go.st (S' := T1028.setTop (mkF m 51 A1038 [(.int (6 : Int32)), (.int e1_o0), (.ref b1010)])) (fun t k => XS.bipush X1028.here hx rfl (hb hby dprog_13_method_2_code_49) k) ?_
      refine Go.op (F := fun z => T1028.setTop (mkF m 52 A1038 [(.int z), (.ref b1010)])) (x := (e1_o0 >>> ((6 : Int32) &&& 31))) (fun t k => XS.ishr X1028.here hx rfl (hb hby dprog_13_method_2_code_51) rfl k) ?_
      intro v1043 hv1043
      obtain rfl : v1039 = v1043 := hv1039.trans hv1043.symm
      refine Go.st (S' := T1028.setTop (mkF m 53 A1038 [(.int v1039), (.ref b1010), (.int v1039), (.ref b1010)])) (fun t k => Jvm.Free.XT.dup2 X1028.here hx rfl (hb hby dprog_13_method_2_code_52) rfl rfl rfl k) ?_
      have hi1045 : (¬ (v1039 < (0 : Int32))) := by
        intro hc1046
        exact ar_41 e0_o0 v996 v1001 e1_o0 v1039 hv996 hv1001 hv1039 hra_e0_o0 hrb_e0_o0 hra_e1_o0 hrb_e1_o0 hc999 hi1002 hi1004 hi1006 hc1012 hc1013 hi1021 hi1023 hc1042 hc1046
      have hi1047 : (v1039 < (4 : Int32)) := by
        refine Decidable.byContradiction fun hc1048 => ?_
        exact ar_42 e0_o0 v996 v1001 e1_o0 v1039 hv996 hv1001 hv1039 hra_e0_o0 hrb_e0_o0 hra_e1_o0 hrb_e1_o0 hc999 hi1002 hi1004 hi1006 hc1012 hc1013 hi1021 hi1023 hc1042 hi1045 hc1048
      obtain ⟨v1049, hv1049⟩ : ∃ z, z = (own_get4 v1039 v1029 v1030 v1031 v1032) := ⟨_, rfl⟩
      obtain ⟨cl1044, Ar1044, -, S1044, N1044_, H1044, -⟩ := id V1028
      have hin1044 : ¬ (v1039 < 0 ∨ cl1044.slots.size ≤ (v1039).toNatClampNeg) := inb_of S1044 ⟨hi1045, hc1042⟩
      have hat1044 : cl1044.slots[(v1039).toNatClampNeg]? = some (.long v1049) := Has.at H1044 hin1044 (by rw [hv1049]; exact own_get4_at hi1045 hi1047)
      refine Go.st (S' := T1028.setTop (mkF m 54 A1038 [(.long v1049), (.int v1039), (.ref b1010)])) (fun t k => X1028.laload hx (j := v1039) (v := (.long v1049)) (own_eh e1028 Ar1044.1) (State.isArrayOf_alike hZ.alike Ar1044.2.1) Ar1044.2.2 hin1044 hat1044 (g := (mkF m 53 A1038 [(.int v1039), (.ref b1010), (.int v1039), (.ref b1010)])) rfl rfl (hb hby dprog_13_method_2_code_53) t k) ?_
      refine Go.st (S' := T1028.setTop (mkF m 55 A1038 [(.long (1 : Int64)), (.long v1049), (.int v1039), (.ref b1010)])) (fun t k => XS.lconst X1028.here hx rfl (hb hby dprog_13_method_2_code_54) k) ?_
      refine Go.st (S' := T1028.setTop (mkF m 57 A1038 [(.int e1_o0), (.long (1 : Int64)), (.long v1049), (.int v1039), (.ref b1010)])) (fun t k => XS.iload X1028.here hx rfl (hb hby dprog_13_method_2_code_55) rfl k) ?_
      refine Go.op (F := fun z => T1028.setTop (mkF m 58 A1038 [(.long z), (.long v1049), (.int v1039), (.ref b1010)])) (x := ((1 : Int64) <<< (e1_o0 &&& 0x3f).toInt64)) (fun t k => XS.lshl X1028.here hx rfl (hb hby dprog_13_method_2_code_57) rfl k) ?_
      intro v1050 hv1050
      refine Go.op (F := fun z => T1028.setTop (mkF m 59 A1038 [(.long z), (.int v1039), (.ref b1010)])) (x := (v1049 ||| v1050)) (fun t k => XS.lor X1028.here hx rfl (hb hby dprog_13_method_2_code_58) rfl k) ?_
      intro v1051 hv1051
      obtain ⟨cl1052, Ar1052, q1052, S1052, N1052_, H1052, G1052⟩ := id V1028
      have hin1052 : ¬ (v1039 < 0 ∨ cl1052.slots.size ≤ (v1039).toNatClampNeg) := inb_of S1052 ⟨hi1045, hc1042⟩
      obtain ⟨T1052, h1052, X1052, e1052, W1052, st1052⟩ := stJ X1028 hx hZ e1028 Ar1052 (j := v1039) hin1052 (g := (mkF m 59 A1038 [(.long v1051), (.int v1039), (.ref b1010)])) rfl rfl (hb hby dprog_13_method_2_code_59)
      obtain ⟨v1053, hv1053⟩ : ∃ z, z = (v1029 ||| (if v1039 = (0 : Int32) then v1050 else 0)) := ⟨_, rfl⟩
      obtain ⟨v1054, hv1054⟩ : ∃ z, z = (v1030 ||| (if v1039 = (1 : Int32) then v1050 else 0)) := ⟨_, rfl⟩
      obtain ⟨v1055, hv1055⟩ : ∃ z, z = (v1031 ||| (if v1039 = (2 : Int32) then v1050 else 0)) := ⟨_, rfl⟩
      obtain ⟨v1056, hv1056⟩ : ∃ z, z = (v1032 ||| (if v1039 = (3 : Int32) then v1050 else 0)) := ⟨_, rfl⟩
      have V1052 : Arv Z h1052 b1010 k1011 .long v1001 [(.long v1053), (.long v1054), (.long v1055), (.long v1056)] (.long (0 : Int64)) := by
        have tt := Arv.set Ar1052 q1052 S1052 N1052_ H1052 G1052 rfl W1052 _ rfl (own_lt4 hi1045 hi1047)
        rw [own_set4 (B := v1050) hi1045 hi1047 (by rw [hv1051, hv1049]), ← hv1053, ← hv1054, ← hv1055, ← hv1056] at tt
        exact tt
      have N1052 := Fr.snoc X1052 N1028 g_b1010
      have Z1057 : n0 ≤ h1052.size := Nat.le_trans Z1033 (Keep.of_wr W1052).1
      have K1057 : Keep h0 h1052 [] := K1033.wr W1052 (Or.inr sz_b1010)
      refine Go.st (S' := T1052.setTop (mkF m 60 A1038 [])) st1052 ?_
      refine Go.op (F := fun z => T1052.setTop (mkF m 63 #[.val (.ref o0), .val (.ref b1010), .val (.ref o0), .val (.int (3 : Int32)), .val (.int z), .val (.int e1_o0)] [])) (x := ((1 : Int32) + (1 : Int32))) (fun t k => XS.iinc X1052.here hx rfl (hb hby dprog_13_method_2_code_60) rfl rfl k) ?_
      intro v1058 hv1058
      obtain rfl : (2 : Int32) = v1058 := (hv1058.trans (by decide)).symm
      let A1059 : Array Slot := #[.val (.ref o0), .val (.ref b1010), .val (.ref o0), .val (.int (3 : Int32)), .val (.int (2 : Int32)), .val (.int e1_o0)]
      refine Go.st (S' := T1052.setTop (mkF m 12 A1059 [])) (fun t k => XS.goto X1052.here hx rfl (pc0 := 63) (pc' := 12) rfl (hb hby dprog_13_method_2_code_63) (by decide) (by decide) k) ?_
      refine Go.st (S' := T1052.setTop (mkF m 14 A1059 [(.int (2 : Int32))])) (fun t k => XS.iload X1052.here hx rfl (hb hby dprog_13_method_2_code_12) rfl k) ?_
      refine Go.st (S' := T1052.setTop (mkF m 15 A1059 [(.int (3 : Int32)), (.int (2 : Int32))])) (fun t k => XS.iloadN X1052.here hx rfl (hb hby dprog_13_method_2_code_14) rfl k) ?_
      refine Go.st (S' := T1052.setTop (mkF m 18 A1059 [])) (fun t k => XS.icmpNo X1052.here hx rfl (hb hby dprog_13_method_2_code_15) rfl (tlt (by decide : ((2 : Int32) < (3 : Int32)))).2.1 k) ?_
      refine Go.st (S' := T1052.setTop (mkF m 19 A1059 [(.ref o0)])) (fun t k => XS.aloadN X1052.here hx rfl (hb hby dprog_13_method_2_code_18) rfl rfl k) ?_
      refine Go.st (S' := T1052.setTop (mkF m 21 A1059 [(.int (2 : Int32)), (.ref o0)])) (fun t k => XS.iload X1052.here hx rfl (hb hby dprog_13_method_2_code_19) rfl k) ?_
      have f1060 := ((f1036).other W1052 (Nat.ne_of_lt (Nat.lt_of_lt_of_le (V_o0).lt sz_b1010)))
      obtain ⟨cl1061, Ar1061, -, S1061, N1061_, H1061, -⟩ := id f1060
      have hin1061 : ¬ ((2 : Int32) < 0 ∨ cl1061.slots.size ≤ ((2 : Int32)).toNatClampNeg) := inb_of S1061 ⟨by decide, by decide⟩
      have hat1061 : cl1061.slots[((2 : Int32)).toNatClampNeg]? = some (.int e2_o0) := Has.at H1061 hin1061 rfl
      refine Go.st (S' := T1052.setTop (mkF m 22 A1059 [(.int e2_o0)])) (fun t k => X1052.iaload hx (j := (2 : Int32)) (v := (.int e2_o0)) (own_eh e1052 Ar1061.1) (State.isArrayOf_alike hZ.alike Ar1061.2.1) Ar1061.2.2 hin1061 hat1061 (g := (mkF m 21 A1059 [(.int (2 : Int32)), (.ref o0)])) rfl rfl (hb hby dprog_13_method_2_code_21) t k) ?_
      let A1062 : Array Slot := #[.val (.ref o0), .val (.ref b1010), .val (.ref o0), .val (.int (3 : Int32)), .val (.int (2 : Int32)), .val (.int e2_o0)]
      refine Go.st (S' := T1052.setTop (mkF m 24 A1062 [])) (fun t k => XS.istore X1052.here hx rfl (hb hby dprog_13_method_2_code_22) rfl (l' := A1062) rfl k) ?_
      refine Go.st (S' := T1052.setTop (mkF m 26 A1062 [(.int e2_o0)])) (fun t k => XS.iload X1052.here hx rfl (hb hby dprog_13_method_2_code_24) rfl k) ?_
      refine Go.st (S' := T1052.setTop (mkF m 28 A1062 [(.int (6 : Int32)), (.int e2_o0)])) (fun t k => XS.bipush X1052.here hx rfl (hb hby dprog_13_method_2_code_26) k) ?_
      refine Go.op (F := fun z => T1052.setTop (mkF m 29 A1062 [(.int z)])) (x := (e2_o0 >>> ((6 : Int32) &&& 31))) (fun t k => XS.ishr X1052.here hx rfl (hb hby dprog_13_method_2_code_28) rfl k) ?_
      intro v1063 hv1063
      refine Go.st (S' := T1052.setTop (mkF m 30 A1062 [(.ref b1010), (.int v1063)])) (fun t k => XS.aloadN X1052.here hx rfl (hb hby dprog_13_method_2_code_29) rfl rfl k) ?_
      obtain ⟨cl1064, Ar1064, -, S1064, N1064_, -, -⟩ := id V1052
      refine Go.op (F := fun z => T1052.setTop (mkF m 31 A1062 [(.int z), (.int v1063)])) (x := cl1064.slots.size.toInt32) (fun t k => X1052.arraylength hx (own_eh e1052 Ar1064.1) (State.isArrayOf_alike hZ.alike Ar1064.2.1) (g := (mkF m 30 A1062 [(.ref b1010), (.int v1063)])) rfl rfl (hb hby dprog_13_method_2_code_30) t k) ?_
      intro v1065 hv1065
      obtain rfl : v1001 = v1065 := (hv1065.trans (len_of S1064 N1064_)).symm
      by_cases hc1066 : (v1063 < v1001)
      · refine Go.st (S' := T1052.setTop (mkF m 46 A1062 [])) (fun t k => XS.icmpYes X1052.here hx rfl (pc0 := 31) (pc' := 46) rfl (hb hby dprog_13_method_2_code_31) rfl (tlt hc1066).1 (by decide) (by decide) k) ?_
        refine Go.st (S' := T1052.setTop (mkF m 47 A1062 [(.ref b1010)])) (fun t k => XS.aloadN X1052.here hx rfl (hb hby dprog_13_method_2_code_46) rfl rfl k) ?_
        refine Go.st (S' := T1052.setTop (mkF m 49 A1062 [(.int e2_o0), (.ref b1010)])) (fun t k => XS.iload X1052.here hx rfl (hb hby dprog_13_method_2_code_47) rfl k) ?_
        refine Go.st (S' := T1052.setTop (mkF m 51 A1062 [(.int (6 : Int32)), (.int e2_o0), (.ref b1010)])) (fun t k => XS.bipush X1052.here hx rfl (hb hby dprog_13_method_2_code_49) k) ?_
        refine Go.op (F := fun z => T1052.setTop (mkF m 52 A1062 [(.int z), (.ref b1010)])) (x := (e2_o0 >>> ((6 : Int32) &&& 31))) (fun t k => XS.ishr X1052.here hx rfl (hb hby dprog_13_method_2_code_51) rfl k) ?_
        intro v1067 hv1067
        obtain rfl : v1063 = v1067 := hv1063.trans hv1067.symm
        refine Go.st (S' := T1052.setTop (mkF m 53 A1062 [(.int v1063), (.ref b1010), (.int v1063), (.ref b1010)])) (fun t k => Jvm.Free.XT.dup2 X1052.here hx rfl (hb hby dprog_13_method_2_code_52) rfl rfl rfl k) ?_
        have hi1069 : (¬ (v1063 < (0 : Int32))) := by
          intro hc1070
          exact ar_56 e0_o0 v996 v1001 e1_o0 v1039 e2_o0 v1063 hv996 hv1001 hv1039 hv1063 hra_e0_o0 hrb_e0_o0 hra_e1_o0 hrb_e1_o0 hra_e2_o0 hrb_e2_o0 hc999 hi1002 hi1004 hi1006 hc1012 hc1013 hi1021 hi1023 hc1042 hi1045 hi1047 hc1066 hc1070
        have hi1071 : (v1063 < (4 : Int32)) := by
          refine Decidable.byContradiction fun hc1072 => ?_
          exact ar_57 e0_o0 v996 v1001 e1_o0 v1039 e2_o0 v1063 hv996 hv1001 hv1039 hv1063 hra_e0_o0 hrb_e0_o0 hra_e1_o0 hrb_e1_o0 hra_e2_o0 hrb_e2_o0 hc999 hi1002 hi1004 hi1006 hc1012 hc1013 hi1021 hi1023 hc1042 hi1045 hi1047 hc1066 hi1069 hc1072
        obtain ⟨v1073, hv1073⟩ : ∃ z, z = (own_get4 v1063 v1053 v1054 v1055 v1056) := ⟨_, rfl⟩
        obtain ⟨cl1068, Ar1068, -, S1068, N1068_, H1068, -⟩ := id V1052
        have hin1068 : ¬ (v1063 < 0 ∨ cl1068.slots.size ≤ (v1063).toNatClampNeg) := inb_of S1068 ⟨hi1069, hc1066⟩
        have hat1068 : cl1068.slots[(v1063).toNatClampNeg]? = some (.long v1073) := Has.at H1068 hin1068 (by rw [hv1073]; exact own_get4_at hi1069 hi1071)
        refine Go.st (S' := T1052.setTop (mkF m 54 A1062 [(.long v1073), (.int v1063), (.ref b1010)])) (fun t k => X1052.laload hx (j := v1063) (v := (.long v1073)) (own_eh e1052 Ar1068.1) (State.isArrayOf_alike hZ.alike Ar1068.2.1) Ar1068.2.2 hin1068 hat1068 (g := (mkF m 53 A1062 [(.int v1063), (.ref b1010), (.int v1063), (.ref b1010)])) rfl rfl (hb hby dprog_13_method_2_code_53) t k) ?_
        refine Go.st (S' := T1052.setTop (mkF m 55 A1062 [(.long (1 : Int64)), (.long v1073), (.int v1063), (.ref b1010)])) (fun t k => XS.lconst X1052.here hx rfl (hb hby dprog_13_method_2_code_54) k) ?_
        refine Go.st (S' := T1052.setTop (mkF m 57 A1062 [(.int e2_o0), (.long (1 : Int64)), (.long v1073), (.int v1063), (.ref b1010)])) (fun t k => XS.iload X1052.here hx rfl (hb hby dprog_13_method_2_code_55) rfl k) ?_
        refine Go.op (F := fun z => T1052.setTop (mkF m 58 A1062 [(.long z), (.long v1073), (.int v1063), (.ref b1010)])) (x := ((1 : Int64) <<< (e2_o0 &&& 0x3f).toInt64)) (fun t k => XS.lshl X1052.here hx rfl (hb hby dprog_13_method_2_code_57) rfl k) ?_
        intro v1074 hv1074
        refine Go.op (F := fun z => T1052.setTop (mkF m 59 A1062 [(.long z), (.int v1063), (.ref b1010)])) (x := (v1073 ||| v1074)) (fun t k => XS.lor X1052.here hx rfl (hb hby dprog_13_method_2_code_58) rfl k) ?_
        intro v1075 hv1075
        obtain ⟨cl1076, Ar1076, q1076, S1076, N1076_, H1076, G1076⟩ := id V1052
        have hin1076 : ¬ (v1063 < 0 ∨ cl1076.slots.size ≤ (v1063).toNatClampNeg) := inb_of S1076 ⟨hi1069, hc1066⟩
        obtain ⟨T1076, h1076, X1076, e1076, W1076, st1076⟩ := stJ X1052 hx hZ e1052 Ar1076 (j := v1063) hin1076 (g := (mkF m 59 A1062 [(.long v1075), (.int v1063), (.ref b1010)])) rfl rfl (hb hby dprog_13_method_2_code_59)
        obtain ⟨v1077, hv1077⟩ : ∃ z, z = (v1053 ||| (if v1063 = (0 : Int32) then v1074 else 0)) := ⟨_, rfl⟩
        obtain ⟨v1078, hv1078⟩ : ∃ z, z = (v1054 ||| (if v1063 = (1 : Int32) then v1074 else 0)) := ⟨_, rfl⟩
        obtain ⟨v1079, hv1079⟩ : ∃ z, z = (v1055 ||| (if v1063 = (2 : Int32) then v1074 else 0)) := ⟨_, rfl⟩
        obtain ⟨v1080, hv1080⟩ : ∃ z, z = (v1056 ||| (if v1063 = (3 : Int32) then v1074 else 0)) := ⟨_, rfl⟩
        have V1076 : Arv Z h1076 b1010 k1011 .long v1001 [(.long v1077), (.long v1078), (.long v1079), (.long v1080)] (.long (0 : Int64)) := by
          have tt := Arv.set Ar1076 q1076 S1076 N1076_ H1076 G1076 rfl W1076 _ rfl (own_lt4 hi1069 hi1071)
          rw [own_set4 (B := v1074) hi1069 hi1071 (by rw [hv1075, hv1073]), ← hv1077, ← hv1078, ← hv1079, ← hv1080] at tt
          exact tt
        have N1076 := Fr.snoc X1076 N1052 g_b1010
        have Z1081 : n0 ≤ h1076.size := Nat.le_trans Z1057 (Keep.of_wr W1076).1
        have K1081 : Keep h0 h1076 [] := K1057.wr W1076 (Or.inr sz_b1010)
        refine Go.st (S' := T1076.setTop (mkF m 60 A1062 [])) st1076 ?_
        refine Go.op (F := fun z => T1076.setTop (mkF m 63 #[.val (.ref o0), .val (.ref b1010), .val (.ref o0), .val (.int (3 : Int32)), .val (.int z), .val (.int e2_o0)] [])) (x := ((2 : Int32) + (1 : Int32))) (fun t k => XS.iinc X1076.here hx rfl (hb hby dprog_13_method_2_code_60) rfl rfl k) ?_
        intro v1082 hv1082
        obtain rfl : (3 : Int32) = v1082 := (hv1082.trans (by decide)).symm
        let A1083 : Array Slot := #[.val (.ref o0), .val (.ref b1010), .val (.ref o0), .val (.int (3 : Int32)), .val (.int (3 : Int32)), .val (.int e2_o0)]
        refine Go.st (S' := T1076.setTop (mkF m 12 A1083 [])) (fun t k => XS.goto X1076.here hx rfl (pc0 := 63) (pc' := 12) rfl (hb hby dprog_13_method_2_code_63) (by decide) (by decide) k) ?_
        refine Go.st (S' := T1076.setTop (mkF m 14 A1083 [(.int (3 : Int32))])) (fun t k => XS.iload X1076.here hx rfl (hb hby dprog_13_method_2_code_12) rfl k) ?_
        refine Go.st (S' := T1076.setTop (mkF m 15 A1083 [(.int (3 : Int32)), (.int (3 : Int32))])) (fun t k => XS.iloadN X1076.here hx rfl (hb hby dprog_13_method_2_code_14) rfl k) ?_
        refine Go.st (S' := T1076.setTop (mkF m 66 A1083 [])) (fun t k => XS.icmpYes X1076.here hx rfl (pc0 := 15) (pc' := 66) rfl (hb hby dprog_13_method_2_code_15) rfl (flt (by decide : (¬ ((3 : Int32) < (3 : Int32))))).2.1 (by decide) (by decide) k) ?_
        obtain ⟨T1084, h1084, X1084, e1084, E1084, A1084, D1084, -, st1084⟩ := newO X1076 hx hZ hown (hw _ (List.mem_of_getElem? (i := 6) rfl)) (hw _ (List.mem_of_getElem? (i := 7) rfl)) (hw _ (List.mem_of_getElem? (i := 3) rfl)) e1076 (g := (mkF m 66 A1083 [])) rfl (hb hby dprog_13_method_2_code_66) (by decide) (by decide)
        obtain ⟨b1084, gg1084⟩ : ∃ z, z = h1076.size := ⟨_, rfl⟩
        rw [← gg1084] at A1084 D1084 st1084
        have g_b1084 : n0 ≤ b1084 := Nat.le_trans Z1081 (Nat.le_of_eq gg1084.symm)
        have sz_b1084 : h0.size ≤ b1084 := Nat.le_trans K1081.1 (Nat.le_of_eq gg1084.symm)
        have f1085 := ((((((((B985).keep K1009_)).wr W1028)).wr W1052)).wr W1076)
        have lt_b985_b1084 : b985 < b1084 := Nat.lt_of_lt_of_le (f1085).lt (Nat.le_of_eq gg1084.symm)
        have f1086 := ((((((f1016).wr W1028)).wr W1052)).wr W1076)
        have lt_b1010_b1084 : b1010 < b1084 := Nat.lt_of_lt_of_le (f1086).lt (Nat.le_of_eq gg1084.symm)
        have Z1087 : n0 ≤ h1084.size := Nat.le_trans Z1081 E1084.1
        have K1087 : Keep h0 h1084 [] := K1081.ext E1084
        have Fb1084_words : Fld Z h1084 b1084 "com/example/heaplens/heaplens/sharing/VarSet" "words" "[J" .null := D1084 (Or.inr (hw _ (List.mem_of_getElem? (i := 15) rfl))) (ty := (.array .long)) (by decide)
        refine Go.st (S' := T1084.setTop (mkF m 69 A1083 [(.ref b1084)])) st1084 ?_
        refine Go.st (S' := T1084.setTop (mkF m 70 A1083 [(.ref b1084), (.ref b1084)])) (fun t k => XS.dup X1084.here hx rfl (hb hby dprog_13_method_2_code_69) rfl rfl k) ?_
        refine Go.st (S' := T1084.setTop (mkF m 71 A1083 [(.ref b1010), (.ref b1084), (.ref b1084)])) (fun t k => XS.aloadN X1084.here hx rfl (hb hby dprog_13_method_2_code_70) rfl rfl k) ?_
        obtain ⟨r1088, T1088, L1088, X1088, hQ1088, st1088⟩ := own_callI (W := 1) (a := b1084) X1084 hx hZ e1084 hown (y := (⟨"com/example/heaplens/heaplens/sharing/VarSet", "<init>", "([J)V"⟩ : MethodName)) rfl (hw _ (List.mem_of_getElem? (i := 8) rfl)) (hw _ (List.mem_of_getElem? (i := 9) rfl)) (hw _ (List.mem_of_getElem? (i := 3) rfl)) (hw _ (List.mem_of_getElem? (i := 10) rfl)) (by decide) (rm1 l Z a0 hw [] b1084 b1010 (.null) h1084 n0 Z1087 (A1084) (Fb1084_words) (g_b1084)) (by decide) (by decide) (by decide) (by decide) (g := (mkF m 71 A1083 [(.ref b1010), (.ref b1084), (.ref b1084)])) rfl (by rw [hml]; rfl) (argsL := [(.ref b1010)]) (rest := [(.ref b1084)]) rfl (lenOf pd_0 rfl) rfl (by show 2 * 0 + _ ≤ _; exact Nat.le_of_eq rfl) (hb hby dprog_13_method_2_code_71)
        obtain ⟨rfl, N1088, K1088_, f1089, f1090⟩ := hQ1088
        have N1088_ := Fr.app N1076 N1088
        have Z1091 : n0 ≤ T1088.heap.size := Nat.le_trans Z1087 K1088_.1
        have K1091 : Keep h0 T1088.heap [] := K1087.trans K1088_ (allS (Or.inr sz_b1084) all0)
        refine Go.st (S' := T1088.setTop (mkF m 74 A1083 [(.ref b1084)])) st1088 ?_
        have f1092 := ((((((((((((V985).keep K1009_ nin0)).other W1028 (Nat.ne_of_lt lt_b985_b1010))).other W1052 (Nat.ne_of_lt lt_b985_b1010))).other W1076 (Nat.ne_of_lt lt_b985_b1010))).ext E1084)).keep K1088_ (ninS (Nat.ne_of_lt lt_b985_b1084) nin0))
        have f1093 := ((((f1085).ext E1084)).keep K1088_)
        have f1094 := ((((V1076).ext E1084)).keep K1088_ (ninS (Nat.ne_of_lt lt_b1010_b1084) nin0))
        have f1095 := ((((f1086).ext E1084)).keep K1088_)
        exact Go.ret X1088 (v := some (.ref b1084)) (fun h => by rw [Bd.returns] at h; cases h) Bd.notSynchronized (fun fs hr => retOut X1088 hx Bd.returns rfl (Or.inr (Or.inr (Or.inr (Or.inr ⟨rfl, rfl, rfl⟩)))) (hb hby dprog_13_method_2_code_74) hr) (by decide) (by decide) ((Or.inl ⟨v996, v1001, v1039, v1063, v1026, v1029, v1050, v1053, v1074, v1077, v1030, v1054, v1078, v1031, v1055, v1079, v1032, v1056, v1080, b985, b1010, b1084, k985, k1011, hv996, hv1001, hv1039, hv1063, hv1026, hv1029, hv1050, hv1053, hv1074, hv1077, hv1030, hv1054, hv1078, hv1031, hv1055, hv1079, hv1032, hv1056, hv1080, hc999, hi1002, hi1004, hi1006, hc1012, hc1013, hc1014, hi1021, hi1023, hc1042, hi1045, hi1047, hc1066, hi1069, hi1071, rfl, N1088_, K1091, sz_b985, sz_b1010, sz_b1084, f1092, f1093, f1094, f1095, f1089, f1090, lt_b985_b1010, lt_b985_b1084, lt_b1010_b1084⟩))
      · refine Go.st (S' := T1052.setTop (mkF m 34 A1062 [])) (fun t k => XS.icmpNo X1052.here hx rfl (hb hby dprog_13_method_2_code_31) rfl (flt hc1066).1 k) ?_
        refine Go.st (S' := T1052.setTop (mkF m 35 A1062 [(.ref b1010)])) (fun t k => XS.aloadN X1052.here hx rfl (hb hby dprog_13_method_2_code_34) rfl rfl k) ?_
        refine Go.st (S' := T1052.setTop (mkF m 37 A1062 [(.int e2_o0), (.ref b1010)])) (fun t k => XS.iload X1052.here hx rfl (hb hby dprog_13_method_2_code_35) rfl k) ?_
        refine Go.st (S' := T1052.setTop (mkF m 39 A1062 [(.int (6 : Int32)), (.int e2_o0), (.ref b1010)])) (fun t k => XS.bipush X1052.here hx rfl (hb hby dprog_13_method_2_code_37) k) ?_
        refine Go.op (F := fun z => T1052.setTop (mkF m 40 A1062 [(.int z), (.ref b1010)])) (x := (e2_o0 >>> ((6 : Int32) &&& 31))) (fun t k => XS.ishr X1052.here hx rfl (hb hby dprog_13_method_2_code_39) rfl k) ?_
        intro v1096 hv1096
        obtain rfl : v1063 = v1096 := hv1063.trans hv1096.symm
        refine Go.st (S' := T1052.setTop (mkF m 41 A1062 [(.int (1 : Int32)), (.int v1063), (.ref b1010)])) (fun t k => XS.iconst X1052.here hx rfl (hb hby dprog_13_method_2_code_40) k) ?_
        refine Go.op (F := fun z => T1052.setTop (mkF m 42 A1062 [(.int z), (.ref b1010)])) (x := (v1063 + (1 : Int32))) (fun t k => XS.iadd X1052.here hx rfl (hb hby dprog_13_method_2_code_41) rfl k) ?_
        intro v1097 hv1097
        have hi1098 : (¬ (v1097 < (1 : Int32))) := by
          intro hc1099
          exact ar_58 e0_o0 v996 v1001 e1_o0 v1039 e2_o0 v1063 v1097 hv996 hv1001 hv1039 hv1063 hv1097 hra_e0_o0 hrb_e0_o0 hra_e1_o0 hrb_e1_o0 hra_e2_o0 hrb_e2_o0 hc999 hi1002 hi1004 hi1006 hc1012 hc1013 hi1021 hi1023 hc1042 hi1045 hi1047 hc1066 hc1099
        have hi1100 : (¬ ((4 : Int32) < v1097)) := by
          intro hc1101
          exact ar_59 e0_o0 v996 v1001 e1_o0 v1039 e2_o0 v1063 v1097 hv996 hv1001 hv1039 hv1063 hv1097 hra_e0_o0 hrb_e0_o0 hra_e1_o0 hrb_e1_o0 hra_e2_o0 hrb_e2_o0 hc999 hi1002 hi1004 hi1006 hc1012 hc1013 hi1021 hi1023 hc1042 hi1045 hi1047 hc1066 hi1098 hc1101
        have hi1102 : (v1001 < v1097) := by
          refine Decidable.byContradiction fun hc1103 => ?_
          exact ar_60 e0_o0 v996 v1001 e1_o0 v1039 e2_o0 v1063 v1097 hv996 hv1001 hv1039 hv1063 hv1097 hra_e0_o0 hrb_e0_o0 hra_e1_o0 hrb_e1_o0 hra_e2_o0 hrb_e2_o0 hc999 hi1002 hi1004 hi1006 hc1012 hc1013 hc1014 hi1021 hi1023 hc1042 hi1045 hi1047 hc1066 hi1098 hi1100 hc1103
        have iv1104 : ((0 : Int32) < v1001 ∨ v1053 = (0 : Int64)) ∧ ((1 : Int32) < v1001 ∨ v1054 = (0 : Int64)) ∧ ((2 : Int32) < v1001 ∨ v1055 = (0 : Int64)) ∧ ((3 : Int32) < v1001 ∨ v1056 = (0 : Int64)) := ⟨(own_inv hc1042 (own_inv hi1023 (Or.inr rfl) hv1029) hv1053), (own_inv hc1042 (own_inv hi1023 (Or.inr rfl) hv1030) hv1054), (own_inv hc1042 (own_inv hi1023 (Or.inr rfl) hv1031) hv1055), (own_inv hc1042 (own_inv hi1023 (Or.inr rfl) hv1032) hv1056)⟩
        have hi1105 : (¬ (v1001 < (0 : Int32))) := by
          intro hc1106
          exact ar_61 e0_o0 v996 v1001 e1_o0 v1039 e2_o0 v1063 v1097 hv996 hv1001 hv1039 hv1063 hv1097 hra_e0_o0 hrb_e0_o0 hra_e1_o0 hrb_e1_o0 hra_e2_o0 hrb_e2_o0 hc999 hi1002 hi1004 hi1006 hc1012 hc1013 hc1014 hi1021 hi1023 hc1042 hi1045 hi1047 hc1066 hi1098 hi1100 hi1102 hc1106
        obtain ⟨r1107, T1107, L1107, X1107, hQ1107, st1107⟩ := own_callS (W := 0) X1052 hx hZ e1052 hown (y := (⟨"java/util/Arrays", "copyOf", "([JI)[J"⟩ : MethodName)) (hw _ (List.mem_of_getElem? (i := 46) rfl)) (hw _ (List.mem_of_getElem? (i := 47) rfl)) (hw _ (List.mem_of_getElem? (i := 48) rfl)) (hw _ (List.mem_of_getElem? (i := 49) rfl)) (by decide) (rm10 l Z a0 hw [] b1010 v1097 k1011 v1001 v1053 v1054 v1055 v1056 h1052 n0 Z1057 (hi1098) (hi1100) (hi1105) (hi1004) (V1052) (hi1102) (iv1104)) (by decide) (by decide) (by decide) (by decide) (g := (mkF m 42 A1062 [(.int v1097), (.ref b1010)])) rfl (by rw [hml]; rfl) (argsL := [(.ref b1010), (.int v1097)]) (rest := []) rfl (lenOf pd_7 rfl) rfl (by show 2 * 0 + _ ≤ _; exact Nat.le_of_eq rfl) (hb hby dprog_13_method_2_code_42)
        obtain ⟨b1108, k1109, hc1110, hc1111, hc1112, rfl, N1107, K1107_, sz_b1108_, f1113, f1114⟩ := hQ1107
        have N1107_ := Fr.app N1052 N1107
        have g_b1108 : n0 ≤ b1108 := Nat.le_trans Z1057 sz_b1108_
        have sz_b1108 : h0.size ≤ b1108 := Nat.le_trans K1057.1 sz_b1108_
        have f1115 := ((((((B985).keep K1009_)).wr W1028)).wr W1052)
        have lt_b985_b1108 : b985 < b1108 := Nat.lt_of_lt_of_le (f1115).lt sz_b1108_
        have f1116 := ((((f1016).wr W1028)).wr W1052)
        have lt_b1010_b1108 : b1010 < b1108 := Nat.lt_of_lt_of_le (f1116).lt sz_b1108_
        have Z1117 : n0 ≤ T1107.heap.size := Nat.le_trans Z1057 K1107_.1
        have K1117 : Keep h0 T1107.heap [] := K1057.trans K1107_ all0
        refine Go.st (S' := T1107.setTop (mkF m 45 A1062 [(.ref b1108)])) st1107 ?_
        let A1118 : Array Slot := #[.val (.ref o0), .val (.ref b1108), .val (.ref o0), .val (.int (3 : Int32)), .val (.int (2 : Int32)), .val (.int e2_o0)]
        refine Go.st (S' := T1107.setTop (mkF m 46 A1118 [])) (fun t k => XS.astoreN X1107.here hx rfl (hb hby dprog_13_method_2_code_45) rfl rfl (l' := A1118) rfl k) ?_
        refine Go.st (S' := T1107.setTop (mkF m 47 A1118 [(.ref b1108)])) (fun t k => XS.aloadN X1107.here hx rfl (hb hby dprog_13_method_2_code_46) rfl rfl k) ?_
        refine Go.st (S' := T1107.setTop (mkF m 49 A1118 [(.int e2_o0), (.ref b1108)])) (fun t k => XS.iload X1107.here hx rfl (hb hby dprog_13_method_2_code_47) rfl k) ?_
        refine Go.st (S' := T1107.setTop (mkF m 51 A1118 [(.int (6 : Int32)), (.int e2_o0), (.ref b1108)])) (fun t k => XS.bipush X1107.here hx rfl (hb hby dprog_13_method_2_code_49) k) ?_
        refine Go.op (F := fun z => T1107.setTop (mkF m 52 A1118 [(.int z), (.ref b1108)])) (x := (e2_o0 >>> ((6 : Int32) &&& 31))) (fun t k => XS.ishr X1107.here hx rfl (hb hby dprog_13_method_2_code_51) rfl k) ?_
        intro v1119 hv1119
        obtain rfl : v1063 = v1119 := hv1063.trans hv1119.symm
        refine Go.st (S' := T1107.setTop (mkF m 53 A1118 [(.int v1063), (.ref b1108), (.int v1063), (.ref b1108)])) (fun t k => Jvm.Free.XT.dup2 X1107.here hx rfl (hb hby dprog_13_method_2_code_52) rfl rfl rfl k) ?_
        have hi1121 : (¬ (v1063 < (0 : Int32))) := by
          intro hc1122
          exact ar_62 e0_o0 v996 v1001 e1_o0 v1039 e2_o0 v1063 v1097 hv996 hv1001 hv1039 hv1063 hv1097 hra_e0_o0 hrb_e0_o0 hra_e1_o0 hrb_e1_o0 hra_e2_o0 hrb_e2_o0 hc999 hi1002 hi1004 hi1006 hc1012 hc1013 hi1021 hi1023 hc1042 hi1045 hi1047 hc1066 hi1098 hi1100 hi1102 hi1105 hc1110 hc1111 hc1122
        have hi1123 : (v1063 < (4 : Int32)) := by
          refine Decidable.byContradiction fun hc1124 => ?_
          exact ar_63 e0_o0 v996 v1001 e1_o0 v1039 e2_o0 v1063 v1097 hv996 hv1001 hv1039 hv1063 hv1097 hra_e0_o0 hrb_e0_o0 hra_e1_o0 hrb_e1_o0 hra_e2_o0 hrb_e2_o0 hc999 hi1002 hi1004 hi1006 hc1012 hc1013 hi1021 hi1023 hc1042 hi1045 hi1047 hc1066 hi1098 hi1100 hi1102 hi1105 hc1110 hc1111 hi1121 hc1124
        have hi1125 : (v1063 < v1097) := by
          refine Decidable.byContradiction fun hc1126 => ?_
          exact ar_64 e0_o0 v996 v1001 e1_o0 v1039 e2_o0 v1063 v1097 hv996 hv1001 hv1039 hv1063 hv1097 hra_e0_o0 hrb_e0_o0 hra_e1_o0 hrb_e1_o0 hra_e2_o0 hrb_e2_o0 hc999 hi1002 hi1004 hi1006 hc1012 hc1013 hi1021 hi1023 hc1042 hi1045 hi1047 hc1066 hi1098 hi1100 hi1102 hi1105 hc1110 hc1111 hc1112 hi1121 hi1123 hc1126
        obtain ⟨v1127, hv1127⟩ : ∃ z, z = (own_get4 v1063 v1053 v1054 v1055 v1056) := ⟨_, rfl⟩
        obtain ⟨cl1120, Ar1120, -, S1120, N1120_, H1120, -⟩ := id f1113
        have hin1120 : ¬ (v1063 < 0 ∨ cl1120.slots.size ≤ (v1063).toNatClampNeg) := inb_of S1120 ⟨hi1121, hi1125⟩
        have hat1120 : cl1120.slots[(v1063).toNatClampNeg]? = some (.long v1127) := Has.at H1120 hin1120 (by rw [hv1127]; exact own_get4_at hi1121 hi1123)
        refine Go.st (S' := T1107.setTop (mkF m 54 A1118 [(.long v1127), (.int v1063), (.ref b1108)])) (fun t k => X1107.laload hx (j := v1063) (v := (.long v1127)) (own_eh rfl Ar1120.1) (State.isArrayOf_alike hZ.alike Ar1120.2.1) Ar1120.2.2 hin1120 hat1120 (g := (mkF m 53 A1118 [(.int v1063), (.ref b1108), (.int v1063), (.ref b1108)])) rfl rfl (hb hby dprog_13_method_2_code_53) t k) ?_
        refine Go.st (S' := T1107.setTop (mkF m 55 A1118 [(.long (1 : Int64)), (.long v1127), (.int v1063), (.ref b1108)])) (fun t k => XS.lconst X1107.here hx rfl (hb hby dprog_13_method_2_code_54) k) ?_
        refine Go.st (S' := T1107.setTop (mkF m 57 A1118 [(.int e2_o0), (.long (1 : Int64)), (.long v1127), (.int v1063), (.ref b1108)])) (fun t k => XS.iload X1107.here hx rfl (hb hby dprog_13_method_2_code_55) rfl k) ?_
        refine Go.op (F := fun z => T1107.setTop (mkF m 58 A1118 [(.long z), (.long v1127), (.int v1063), (.ref b1108)])) (x := ((1 : Int64) <<< (e2_o0 &&& 0x3f).toInt64)) (fun t k => XS.lshl X1107.here hx rfl (hb hby dprog_13_method_2_code_57) rfl k) ?_
        intro v1128 hv1128
        refine Go.op (F := fun z => T1107.setTop (mkF m 59 A1118 [(.long z), (.int v1063), (.ref b1108)])) (x := (v1127 ||| v1128)) (fun t k => XS.lor X1107.here hx rfl (hb hby dprog_13_method_2_code_58) rfl k) ?_
        intro v1129 hv1129
        obtain ⟨cl1130, Ar1130, q1130, S1130, N1130_, H1130, G1130⟩ := id f1113
        have hin1130 : ¬ (v1063 < 0 ∨ cl1130.slots.size ≤ (v1063).toNatClampNeg) := inb_of S1130 ⟨hi1121, hi1125⟩
        obtain ⟨T1130, h1130, X1130, e1130, W1130, st1130⟩ := stJ X1107 hx hZ rfl Ar1130 (j := v1063) hin1130 (g := (mkF m 59 A1118 [(.long v1129), (.int v1063), (.ref b1108)])) rfl rfl (hb hby dprog_13_method_2_code_59)
        obtain ⟨v1131, hv1131⟩ : ∃ z, z = (v1053 ||| (if v1063 = (0 : Int32) then v1128 else 0)) := ⟨_, rfl⟩
        obtain ⟨v1132, hv1132⟩ : ∃ z, z = (v1054 ||| (if v1063 = (1 : Int32) then v1128 else 0)) := ⟨_, rfl⟩
        obtain ⟨v1133, hv1133⟩ : ∃ z, z = (v1055 ||| (if v1063 = (2 : Int32) then v1128 else 0)) := ⟨_, rfl⟩
        obtain ⟨v1134, hv1134⟩ : ∃ z, z = (v1056 ||| (if v1063 = (3 : Int32) then v1128 else 0)) := ⟨_, rfl⟩
        have V1130 : Arv Z h1130 b1108 k1109 .long v1097 [(.long v1131), (.long v1132), (.long v1133), (.long v1134)] (.long (0 : Int64)) := by
          have tt := Arv.set Ar1130 q1130 S1130 N1130_ H1130 G1130 rfl W1130 _ rfl (own_lt4 hi1121 hi1123)
          rw [own_set4 (B := v1128) hi1121 hi1123 (by rw [hv1129, hv1127]), ← hv1131, ← hv1132, ← hv1133, ← hv1134] at tt
          exact tt
        have N1130 := Fr.snoc X1130 N1107_ g_b1108
        have Z1135 : n0 ≤ h1130.size := Nat.le_trans Z1117 (Keep.of_wr W1130).1
        have K1135 : Keep h0 h1130 [] := K1117.wr W1130 (Or.inr sz_b1108)
        refine Go.st (S' := T1130.setTop (mkF m 60 A1118 [])) st1130 ?_
        refine Go.op (F := fun z => T1130.setTop (mkF m 63 #[.val (.ref o0), .val (.ref b1108), .val (.ref o0), .val (.int (3 : Int32)), .val (.int z), .val (.int e2_o0)] [])) (x := ((2 : Int32) + (1 : Int32))) (fun t k => XS.iinc X1130.here hx rfl (hb hby dprog_13_method_2_code_60) rfl rfl k) ?_
        intro v1136 hv1136
        obtain rfl : (3 : Int32) = v1136 := (hv1136.trans (by decide)).symm
        let A1137 : Array Slot := #[.val (.ref o0), .val (.ref b1108), .val (.ref o0), .val (.int (3 : Int32)), .val (.int (3 : Int32)), .val (.int e2_o0)]
        refine Go.st (S' := T1130.setTop (mkF m 12 A1137 [])) (fun t k => XS.goto X1130.here hx rfl (pc0 := 63) (pc' := 12) rfl (hb hby dprog_13_method_2_code_63) (by decide) (by decide) k) ?_
        refine Go.st (S' := T1130.setTop (mkF m 14 A1137 [(.int (3 : Int32))])) (fun t k => XS.iload X1130.here hx rfl (hb hby dprog_13_method_2_code_12) rfl k) ?_
        refine Go.st (S' := T1130.setTop (mkF m 15 A1137 [(.int (3 : Int32)), (.int (3 : Int32))])) (fun t k => XS.iloadN X1130.here hx rfl (hb hby dprog_13_method_2_code_14) rfl k) ?_
        refine Go.st (S' := T1130.setTop (mkF m 66 A1137 [])) (fun t k => XS.icmpYes X1130.here hx rfl (pc0 := 15) (pc' := 66) rfl (hb hby dprog_13_method_2_code_15) rfl (flt (by decide : (¬ ((3 : Int32) < (3 : Int32))))).2.1 (by decide) (by decide) k) ?_
        obtain ⟨T1138, h1138, X1138, e1138, E1138, A1138, D1138, -, st1138⟩ := newO X1130 hx hZ hown (hw _ (List.mem_of_getElem? (i := 6) rfl)) (hw _ (List.mem_of_getElem? (i := 7) rfl)) (hw _ (List.mem_of_getElem? (i := 3) rfl)) e1130 (g := (mkF m 66 A1137 [])) rfl (hb hby dprog_13_method_2_code_66) (by decide) (by decide)
        obtain ⟨b1138, gg1138⟩ : ∃ z, z = h1130.size := ⟨_, rfl⟩
        rw [← gg1138] at A1138 D1138 st1138
        have g_b1138 : n0 ≤ b1138 := Nat.le_trans Z1135 (Nat.le_of_eq gg1138.symm)
        have sz_b1138 : h0.size ≤ b1138 := Nat.le_trans K1135.1 (Nat.le_of_eq gg1138.symm)
        have f1139 := ((((f1115).keep K1107_)).wr W1130)
        have lt_b985_b1138 : b985 < b1138 := Nat.lt_of_lt_of_le (f1139).lt (Nat.le_of_eq gg1138.symm)
        have f1140 := ((((f1116).keep K1107_)).wr W1130)
        have lt_b1010_b1138 : b1010 < b1138 := Nat.lt_of_lt_of_le (f1140).lt (Nat.le_of_eq gg1138.symm)
        have f1141 := ((f1114).wr W1130)
        have lt_b1108_b1138 : b1108 < b1138 := Nat.lt_of_lt_of_le (f1141).lt (Nat.le_of_eq gg1138.symm)
        have Z1142 : n0 ≤ h1138.size := Nat.le_trans Z1135 E1138.1
        have K1142 : Keep h0 h1138 [] := K1135.ext E1138
        have Fb1138_words : Fld Z h1138 b1138 "com/example/heaplens/heaplens/sharing/VarSet" "words" "[J" .null := D1138 (Or.inr (hw _ (List.mem_of_getElem? (i := 15) rfl))) (ty := (.array .long)) (by decide)
        refine Go.st (S' := T1138.setTop (mkF m 69 A1137 [(.ref b1138)])) st1138 ?_
        refine Go.st (S' := T1138.setTop (mkF m 70 A1137 [(.ref b1138), (.ref b1138)])) (fun t k => XS.dup X1138.here hx rfl (hb hby dprog_13_method_2_code_69) rfl rfl k) ?_
        refine Go.st (S' := T1138.setTop (mkF m 71 A1137 [(.ref b1108), (.ref b1138), (.ref b1138)])) (fun t k => XS.aloadN X1138.here hx rfl (hb hby dprog_13_method_2_code_70) rfl rfl k) ?_
        obtain ⟨r1143, T1143, L1143, X1143, hQ1143, st1143⟩ := own_callI (W := 1) (a := b1138) X1138 hx hZ e1138 hown (y := (⟨"com/example/heaplens/heaplens/sharing/VarSet", "<init>", "([J)V"⟩ : MethodName)) rfl (hw _ (List.mem_of_getElem? (i := 8) rfl)) (hw _ (List.mem_of_getElem? (i := 9) rfl)) (hw _ (List.mem_of_getElem? (i := 3) rfl)) (hw _ (List.mem_of_getElem? (i := 10) rfl)) (by decide) (rm1 l Z a0 hw [] b1138 b1108 (.null) h1138 n0 Z1142 (A1138) (Fb1138_words) (g_b1138)) (by decide) (by decide) (by decide) (by decide) (g := (mkF m 71 A1137 [(.ref b1108), (.ref b1138), (.ref b1138)])) rfl (by rw [hml]; rfl) (argsL := [(.ref b1108)]) (rest := [(.ref b1138)]) rfl (lenOf pd_0 rfl) rfl (by show 2 * 0 + _ ≤ _; exact Nat.le_of_eq rfl) (hb hby dprog_13_method_2_code_71)
        obtain ⟨rfl, N1143, K1143_, f1144, f1145⟩ := hQ1143
        have N1143_ := Fr.app N1130 N1143
        have Z1146 : n0 ≤ T1143.heap.size := Nat.le_trans Z1142 K1143_.1
        have K1146 : Keep h0 T1143.heap [] := K1142.trans K1143_ (allS (Or.inr sz_b1138) all0)
        refine Go.st (S' := T1143.setTop (mkF m 74 A1137 [(.ref b1138)])) st1143 ?_
        have f1147 := ((((((((((((((V985).keep K1009_ nin0)).other W1028 (Nat.ne_of_lt lt_b985_b1010))).other W1052 (Nat.ne_of_lt lt_b985_b1010))).keep K1107_ nin0)).other W1130 (Nat.ne_of_lt lt_b985_b1108))).ext E1138)).keep K1143_ (ninS (Nat.ne_of_lt lt_b985_b1138) nin0))
        have f1148 := ((((f1139).ext E1138)).keep K1143_)
        have f1149 := ((((((((V1052).keep K1107_ nin0)).other W1130 (Nat.ne_of_lt lt_b1010_b1108))).ext E1138)).keep K1143_ (ninS (Nat.ne_of_lt lt_b1010_b1138) nin0))
        have f1150 := ((((f1140).ext E1138)).keep K1143_)
        have f1151 := ((((V1130).ext E1138)).keep K1143_ (ninS (Nat.ne_of_lt lt_b1108_b1138) nin0))
        have f1152 := ((((f1141).ext E1138)).keep K1143_)
        exact Go.ret X1143 (v := some (.ref b1138)) (fun h => by rw [Bd.returns] at h; cases h) Bd.notSynchronized (fun fs hr => retOut X1143 hx Bd.returns rfl (Or.inr (Or.inr (Or.inr (Or.inr ⟨rfl, rfl, rfl⟩)))) (hb hby dprog_13_method_2_code_74) hr) (by decide) (by decide) ((Or.inr (Or.inl ⟨v996, v1001, v1039, v1063, v1097, v1026, v1029, v1050, v1053, v1030, v1054, v1031, v1055, v1032, v1056, v1128, v1131, v1132, v1133, v1134, b985, b1010, b1108, b1138, k985, k1011, k1109, hv996, hv1001, hv1039, hv1063, hv1097, hv1026, hv1029, hv1050, hv1053, hv1030, hv1054, hv1031, hv1055, hv1032, hv1056, hv1128, hv1131, hv1132, hv1133, hv1134, hc999, hi1002, hi1004, hi1006, hc1012, hc1013, hc1014, hi1021, hi1023, hc1042, hi1045, hi1047, hc1066, hi1098, hi1100, hi1102, hi1105, hc1110, hc1111, hc1112, hi1121, hi1123, hi1125, rfl, N1143_, K1146, sz_b985, sz_b1010, sz_b1108, sz_b1138, f1147, f1148, f1149, f1150, f1151, f1152, f1144, f1145, lt_b985_b1010, lt_b985_b1108, lt_b985_b1138, lt_b1010_b1108, lt_b1010_b1138, lt_b1108_b1138⟩)))
    · refine Go.st (S' := T1028.setTop (mkF m 34 A1038 [])) (fun t k => XS.icmpNo X1028.here hx rfl (hb hby dprog_13_method_2_code_31) rfl (flt hc1042).1 k) ?_
      refine Go.st (S' := T1028.setTop (mkF m 35 A1038 [(.ref b1010)])) (fun t k => XS.aloadN X1028.here hx rfl (hb hby dprog_13_method_2_code_34) rfl rfl k) ?_
      refine Go.st (S' := T1028.setTop (mkF m 37 A1038 [(.int e1_o0), (.ref b1010)])) (fun t k => XS.iload X1028.here hx rfl (hb hby dprog_13_method_2_code_35) rfl k) ?_
      refine Go.st (S' := T1028.setTop (mkF m 39 A1038 [(.int (6 : Int32)), (.int e1_o0), (.ref b1010)])) (fun t k => XS.bipush X1028.here hx rfl (hb hby dprog_13_method_2_code_37) k) ?_
      refine Go.op (F := fun z => T1028.setTop (mkF m 40 A1038 [(.int z), (.ref b1010)])) (x := (e1_o0 >>> ((6 : Int32) &&& 31))) (fun t k => XS.ishr X1028.here hx rfl (hb hby dprog_13_method_2_code_39) rfl k) ?_
      intro v1153 hv1153
      obtain rfl : v1039 = v1153 := hv1039.trans hv1153.symm
      refine Go.st (S' := T1028.setTop (mkF m 41 A1038 [(.int (1 : Int32)), (.int v1039), (.ref b1010)])) (fun t k => XS.iconst X1028.here hx rfl (hb hby dprog_13_method_2_code_40) k) ?_
      refine Go.op (F := fun z => T1028.setTop (mkF m 42 A1038 [(.int z), (.ref b1010)])) (x := (v1039 + (1 : Int32))) (fun t k => XS.iadd X1028.here hx rfl (hb hby dprog_13_method_2_code_41) rfl k) ?_
      intro v1154 hv1154
      have hi1155 : (¬ (v1154 < (1 : Int32))) := by
        intro hc1156
        exact ar_43 e0_o0 v996 v1001 e1_o0 v1039 v1154 hv996 hv1001 hv1039 hv1154 hra_e0_o0 hrb_e0_o0 hra_e1_o0 hrb_e1_o0 hc999 hi1002 hi1004 hi1006 hc1012 hc1013 hi1021 hi1023 hc1042 hc1156
      have hi1157 : (¬ ((4 : Int32) < v1154)) := by
        intro hc1158
        exact ar_44 e0_o0 v996 v1001 e1_o0 v1039 v1154 hv996 hv1001 hv1039 hv1154 hra_e0_o0 hrb_e0_o0 hra_e1_o0 hrb_e1_o0 hc999 hi1002 hi1004 hi1006 hc1012 hc1013 hi1021 hi1023 hc1042 hi1155 hc1158
      have hi1159 : (v1001 < v1154) := by
        refine Decidable.byContradiction fun hc1160 => ?_
        exact ar_45 e0_o0 v996 v1001 e1_o0 v1039 v1154 hv996 hv1001 hv1039 hv1154 hra_e0_o0 hrb_e0_o0 hra_e1_o0 hrb_e1_o0 hc999 hi1002 hi1004 hi1006 hc1012 hc1013 hc1014 hi1021 hi1023 hc1042 hi1155 hi1157 hc1160
      have iv1161 : ((0 : Int32) < v1001 ∨ v1029 = (0 : Int64)) ∧ ((1 : Int32) < v1001 ∨ v1030 = (0 : Int64)) ∧ ((2 : Int32) < v1001 ∨ v1031 = (0 : Int64)) ∧ ((3 : Int32) < v1001 ∨ v1032 = (0 : Int64)) := ⟨(own_inv hi1023 (Or.inr rfl) hv1029), (own_inv hi1023 (Or.inr rfl) hv1030), (own_inv hi1023 (Or.inr rfl) hv1031), (own_inv hi1023 (Or.inr rfl) hv1032)⟩
      have hi1162 : (¬ (v1001 < (0 : Int32))) := by
        intro hc1163
        exact ar_46 e0_o0 v996 v1001 e1_o0 v1039 v1154 hv996 hv1001 hv1039 hv1154 hra_e0_o0 hrb_e0_o0 hra_e1_o0 hrb_e1_o0 hc999 hi1002 hi1004 hi1006 hc1012 hc1013 hc1014 hi1021 hi1023 hc1042 hi1155 hi1157 hi1159 hc1163
      obtain ⟨r1164, T1164, L1164, X1164, hQ1164, st1164⟩ := own_callS (W := 0) X1028 hx hZ e1028 hown (y := (⟨"java/util/Arrays", "copyOf", "([JI)[J"⟩ : MethodName)) (hw _ (List.mem_of_getElem? (i := 46) rfl)) (hw _ (List.mem_of_getElem? (i := 47) rfl)) (hw _ (List.mem_of_getElem? (i := 48) rfl)) (hw _ (List.mem_of_getElem? (i := 49) rfl)) (by decide) (rm10 l Z a0 hw [] b1010 v1154 k1011 v1001 v1029 v1030 v1031 v1032 h1028 n0 Z1033 (hi1155) (hi1157) (hi1162) (hi1004) (V1028) (hi1159) (iv1161)) (by decide) (by decide) (by decide) (by decide) (g := (mkF m 42 A1038 [(.int v1154), (.ref b1010)])) rfl (by rw [hml]; rfl) (argsL := [(.ref b1010), (.int v1154)]) (rest := []) rfl (lenOf pd_7 rfl) rfl (by show 2 * 0 + _ ≤ _; exact Nat.le_of_eq rfl) (hb hby dprog_13_method_2_code_42)
      obtain ⟨b1165, k1166, hc1167, hc1168, hc1169, rfl, N1164, K1164_, sz_b1165_, f1170, f1171⟩ := hQ1164
      have N1164_ := Fr.app N1028 N1164
      have g_b1165 : n0 ≤ b1165 := Nat.le_trans Z1033 sz_b1165_
      have sz_b1165 : h0.size ≤ b1165 := Nat.le_trans K1033.1 sz_b1165_
      have f1172 := ((((B985).keep K1009_)).wr W1028)
      have lt_b985_b1165 : b985 < b1165 := Nat.lt_of_lt_of_le (f1172).lt sz_b1165_
      have f1173 := ((f1016).wr W1028)
      have lt_b1010_b1165 : b1010 < b1165 := Nat.lt_of_lt_of_le (f1173).lt sz_b1165_
      have Z1174 : n0 ≤ T1164.heap.size := Nat.le_trans Z1033 K1164_.1
      have K1174 : Keep h0 T1164.heap [] := K1033.trans K1164_ all0
      refine Go.st (S' := T1164.setTop (mkF m 45 A1038 [(.ref b1165)])) st1164 ?_
      let A1175 : Array Slot := #[.val (.ref o0), .val (.ref b1165), .val (.ref o0), .val (.int (3 : Int32)), .val (.int (1 : Int32)), .val (.int e1_o0)]
      refine Go.st (S' := T1164.setTop (mkF m 46 A1175 [])) (fun t k => XS.astoreN X1164.here hx rfl (hb hby dprog_13_method_2_code_45) rfl rfl (l' := A1175) rfl k) ?_
      refine Go.st (S' := T1164.setTop (mkF m 47 A1175 [(.ref b1165)])) (fun t k => XS.aloadN X1164.here hx rfl (hb hby dprog_13_method_2_code_46) rfl rfl k) ?_
      refine Go.st (S' := T1164.setTop (mkF m 49 A1175 [(.int e1_o0), (.ref b1165)])) (fun t k => XS.iload X1164.here hx rfl (hb hby dprog_13_method_2_code_47) rfl k) ?_
      refine Go.st (S' := T1164.setTop (mkF m 51 A1175 [(.int (6 : Int32)), (.int e1_o0), (.ref b1165)])) (fun t k => XS.bipush X1164.here hx rfl (hb hby dprog_13_method_2_code_49) k) ?_
      refine Go.op (F := fun z => T1164.setTop (mkF m 52 A1175 [(.int z), (.ref b1165)])) (x := (e1_o0 >>> ((6 : Int32) &&& 31))) (fun t k => XS.ishr X1164.here hx rfl (hb hby dprog_13_method_2_code_51) rfl k) ?_
      intro v1176 hv1176
      obtain rfl : v1039 = v1176 := hv1039.trans hv1176.symm
      refine Go.st (S' := T1164.setTop (mkF m 53 A1175 [(.int v1039), (.ref b1165), (.int v1039), (.ref b1165)])) (fun t k => Jvm.Free.XT.dup2 X1164.here hx rfl (hb hby dprog_13_method_2_code_52) rfl rfl rfl k) ?_
      have hi1178 : (¬ (v1039 < (0 : Int32))) := by
        intro hc1179
        exact ar_47 e0_o0 v996 v1001 e1_o0 v1039 v1154 hv996 hv1001 hv1039 hv1154 hra_e0_o0 hrb_e0_o0 hra_e1_o0 hrb_e1_o0 hc999 hi1002 hi1004 hi1006 hc1012 hc1013 hi1021 hi1023 hc1042 hi1155 hi1157 hi1159 hi1162 hc1167 hc1168 hc1179
      have hi1180 : (v1039 < (4 : Int32)) := by
        refine Decidable.byContradiction fun hc1181 => ?_
        exact ar_48 e0_o0 v996 v1001 e1_o0 v1039 v1154 hv996 hv1001 hv1039 hv1154 hra_e0_o0 hrb_e0_o0 hra_e1_o0 hrb_e1_o0 hc999 hi1002 hi1004 hi1006 hc1012 hc1013 hi1021 hi1023 hc1042 hi1155 hi1157 hi1159 hi1162 hc1167 hc1168 hi1178 hc1181
      have hi1182 : (v1039 < v1154) := by
        refine Decidable.byContradiction fun hc1183 => ?_
        exact ar_49 e0_o0 v996 v1001 e1_o0 v1039 v1154 hv996 hv1001 hv1039 hv1154 hra_e0_o0 hrb_e0_o0 hra_e1_o0 hrb_e1_o0 hc999 hi1002 hi1004 hi1006 hc1012 hc1013 hi1021 hi1023 hc1042 hi1155 hi1157 hi1159 hi1162 hc1167 hc1168 hc1169 hi1178 hi1180 hc1183
      obtain ⟨v1184, hv1184⟩ : ∃ z, z = (own_get4 v1039 v1029 v1030 v1031 v1032) := ⟨_, rfl⟩
      obtain ⟨cl1177, Ar1177, -, S1177, N1177_, H1177, -⟩ := id f1170
      have hin1177 : ¬ (v1039 < 0 ∨ cl1177.slots.size ≤ (v1039).toNatClampNeg) := inb_of S1177 ⟨hi1178, hi1182⟩
      have hat1177 : cl1177.slots[(v1039).toNatClampNeg]? = some (.long v1184) := Has.at H1177 hin1177 (by rw [hv1184]; exact own_get4_at hi1178 hi1180)
      refine Go.st (S' := T1164.setTop (mkF m 54 A1175 [(.long v1184), (.int v1039), (.ref b1165)])) (fun t k => X1164.laload hx (j := v1039) (v := (.long v1184)) (own_eh rfl Ar1177.1) (State.isArrayOf_alike hZ.alike Ar1177.2.1) Ar1177.2.2 hin1177 hat1177 (g := (mkF m 53 A1175 [(.int v1039), (.ref b1165), (.int v1039), (.ref b1165)])) rfl rfl (hb hby dprog_13_method_2_code_53) t k) ?_
      refine Go.st (S' := T1164.setTop (mkF m 55 A1175 [(.long (1 : Int64)), (.long v1184), (.int v1039), (.ref b1165)])) (fun t k => XS.lconst X1164.here hx rfl (hb hby dprog_13_method_2_code_54) k) ?_
      refine Go.st (S' := T1164.setTop (mkF m 57 A1175 [(.int e1_o0), (.long (1 : Int64)), (.long v1184), (.int v1039), (.ref b1165)])) (fun t k => XS.iload X1164.here hx rfl (hb hby dprog_13_method_2_code_55) rfl k) ?_
      refine Go.op (F := fun z => T1164.setTop (mkF m 58 A1175 [(.long z), (.long v1184), (.int v1039), (.ref b1165)])) (x := ((1 : Int64) <<< (e1_o0 &&& 0x3f).toInt64)) (fun t k => XS.lshl X1164.here hx rfl (hb hby dprog_13_method_2_code_57) rfl k) ?_
      intro v1185 hv1185
      refine Go.op (F := fun z => T1164.setTop (mkF m 59 A1175 [(.long z), (.int v1039), (.ref b1165)])) (x := (v1184 ||| v1185)) (fun t k => XS.lor X1164.here hx rfl (hb hby dprog_13_method_2_code_58) rfl k) ?_
      intro v1186 hv1186
      obtain ⟨cl1187, Ar1187, q1187, S1187, N1187_, H1187, G1187⟩ := id f1170
      have hin1187 : ¬ (v1039 < 0 ∨ cl1187.slots.size ≤ (v1039).toNatClampNeg) := inb_of S1187 ⟨hi1178, hi1182⟩
      obtain ⟨T1187, h1187, X1187, e1187, W1187, st1187⟩ := stJ X1164 hx hZ rfl Ar1187 (j := v1039) hin1187 (g := (mkF m 59 A1175 [(.long v1186), (.int v1039), (.ref b1165)])) rfl rfl (hb hby dprog_13_method_2_code_59)
      obtain ⟨v1188, hv1188⟩ : ∃ z, z = (v1029 ||| (if v1039 = (0 : Int32) then v1185 else 0)) := ⟨_, rfl⟩
      obtain ⟨v1189, hv1189⟩ : ∃ z, z = (v1030 ||| (if v1039 = (1 : Int32) then v1185 else 0)) := ⟨_, rfl⟩
      obtain ⟨v1190, hv1190⟩ : ∃ z, z = (v1031 ||| (if v1039 = (2 : Int32) then v1185 else 0)) := ⟨_, rfl⟩
      obtain ⟨v1191, hv1191⟩ : ∃ z, z = (v1032 ||| (if v1039 = (3 : Int32) then v1185 else 0)) := ⟨_, rfl⟩
      have V1187 : Arv Z h1187 b1165 k1166 .long v1154 [(.long v1188), (.long v1189), (.long v1190), (.long v1191)] (.long (0 : Int64)) := by
        have tt := Arv.set Ar1187 q1187 S1187 N1187_ H1187 G1187 rfl W1187 _ rfl (own_lt4 hi1178 hi1180)
        rw [own_set4 (B := v1185) hi1178 hi1180 (by rw [hv1186, hv1184]), ← hv1188, ← hv1189, ← hv1190, ← hv1191] at tt
        exact tt
      have N1187 := Fr.snoc X1187 N1164_ g_b1165
      have Z1192 : n0 ≤ h1187.size := Nat.le_trans Z1174 (Keep.of_wr W1187).1
      have K1192 : Keep h0 h1187 [] := K1174.wr W1187 (Or.inr sz_b1165)
      refine Go.st (S' := T1187.setTop (mkF m 60 A1175 [])) st1187 ?_
      refine Go.op (F := fun z => T1187.setTop (mkF m 63 #[.val (.ref o0), .val (.ref b1165), .val (.ref o0), .val (.int (3 : Int32)), .val (.int z), .val (.int e1_o0)] [])) (x := ((1 : Int32) + (1 : Int32))) (fun t k => XS.iinc X1187.here hx rfl (hb hby dprog_13_method_2_code_60) rfl rfl k) ?_
      intro v1193 hv1193
      obtain rfl : (2 : Int32) = v1193 := (hv1193.trans (by decide)).symm
      let A1194 : Array Slot := #[.val (.ref o0), .val (.ref b1165), .val (.ref o0), .val (.int (3 : Int32)), .val (.int (2 : Int32)), .val (.int e1_o0)]
      refine Go.st (S' := T1187.setTop (mkF m 12 A1194 [])) (fun t k => XS.goto X1187.here hx rfl (pc0 := 63) (pc' := 12) rfl (hb hby dprog_13_method_2_code_63) (by decide) (by decide) k) ?_
      refine Go.st (S' := T1187.setTop (mkF m 14 A1194 [(.int (2 : Int32))])) (fun t k => XS.iload X1187.here hx rfl (hb hby dprog_13_method_2_code_12) rfl k) ?_
      refine Go.st (S' := T1187.setTop (mkF m 15 A1194 [(.int (3 : Int32)), (.int (2 : Int32))])) (fun t k => XS.iloadN X1187.here hx rfl (hb hby dprog_13_method_2_code_14) rfl k) ?_
      refine Go.st (S' := T1187.setTop (mkF m 18 A1194 [])) (fun t k => XS.icmpNo X1187.here hx rfl (hb hby dprog_13_method_2_code_15) rfl (tlt (by decide : ((2 : Int32) < (3 : Int32)))).2.1 k) ?_
      refine Go.st (S' := T1187.setTop (mkF m 19 A1194 [(.ref o0)])) (fun t k => XS.aloadN X1187.here hx rfl (hb hby dprog_13_method_2_code_18) rfl rfl k) ?_
      refine Go.st (S' := T1187.setTop (mkF m 21 A1194 [(.int (2 : Int32)), (.ref o0)])) (fun t k => XS.iload X1187.here hx rfl (hb hby dprog_13_method_2_code_19) rfl k) ?_
      have f1195 := ((((f1036).keep K1164_ nin0)).other W1187 (Nat.ne_of_lt (Nat.lt_of_lt_of_le (V_o0).lt sz_b1165)))
      obtain ⟨cl1196, Ar1196, -, S1196, N1196_, H1196, -⟩ := id f1195
      have hin1196 : ¬ ((2 : Int32) < 0 ∨ cl1196.slots.size ≤ ((2 : Int32)).toNatClampNeg) := inb_of S1196 ⟨by decide, by decide⟩
      have hat1196 : cl1196.slots[((2 : Int32)).toNatClampNeg]? = some (.int e2_o0) := Has.at H1196 hin1196 rfl
      refine Go.st (S' := T1187.setTop (mkF m 22 A1194 [(.int e2_o0)])) (fun t k => X1187.iaload hx (j := (2 : Int32)) (v := (.int e2_o0)) (own_eh e1187 Ar1196.1) (State.isArrayOf_alike hZ.alike Ar1196.2.1) Ar1196.2.2 hin1196 hat1196 (g := (mkF m 21 A1194 [(.int (2 : Int32)), (.ref o0)])) rfl rfl (hb hby dprog_13_method_2_code_21) t k) ?_
      let A1197 : Array Slot := #[.val (.ref o0), .val (.ref b1165), .val (.ref o0), .val (.int (3 : Int32)), .val (.int (2 : Int32)), .val (.int e2_o0)]
      refine Go.st (S' := T1187.setTop (mkF m 24 A1197 [])) (fun t k => XS.istore X1187.here hx rfl (hb hby dprog_13_method_2_code_22) rfl (l' := A1197) rfl k) ?_
      refine Go.st (S' := T1187.setTop (mkF m 26 A1197 [(.int e2_o0)])) (fun t k => XS.iload X1187.here hx rfl (hb hby dprog_13_method_2_code_24) rfl k) ?_
      refine Go.st (S' := T1187.setTop (mkF m 28 A1197 [(.int (6 : Int32)), (.int e2_o0)])) (fun t k => XS.bipush X1187.here hx rfl (hb hby dprog_13_method_2_code_26) k) ?_
      refine Go.op (F := fun z => T1187.setTop (mkF m 29 A1197 [(.int z)])) (x := (e2_o0 >>> ((6 : Int32) &&& 31))) (fun t k => XS.ishr X1187.here hx rfl (hb hby dprog_13_method_2_code_28) rfl k) ?_
      intro v1198 hv1198
      refine Go.st (S' := T1187.setTop (mkF m 30 A1197 [(.ref b1165), (.int v1198)])) (fun t k => XS.aloadN X1187.here hx rfl (hb hby dprog_13_method_2_code_29) rfl rfl k) ?_
      obtain ⟨cl1199, Ar1199, -, S1199, N1199_, -, -⟩ := id V1187
      refine Go.op (F := fun z => T1187.setTop (mkF m 31 A1197 [(.int z), (.int v1198)])) (x := cl1199.slots.size.toInt32) (fun t k => X1187.arraylength hx (own_eh e1187 Ar1199.1) (State.isArrayOf_alike hZ.alike Ar1199.2.1) (g := (mkF m 30 A1197 [(.ref b1165), (.int v1198)])) rfl rfl (hb hby dprog_13_method_2_code_30) t k) ?_
      intro v1200 hv1200
      obtain rfl : v1154 = v1200 := (hv1200.trans (len_of S1199 N1199_)).symm
      by_cases hc1201 : (v1198 < v1154)
      · refine Go.st (S' := T1187.setTop (mkF m 46 A1197 [])) (fun t k => XS.icmpYes X1187.here hx rfl (pc0 := 31) (pc' := 46) rfl (hb hby dprog_13_method_2_code_31) rfl (tlt hc1201).1 (by decide) (by decide) k) ?_
        refine Go.st (S' := T1187.setTop (mkF m 47 A1197 [(.ref b1165)])) (fun t k => XS.aloadN X1187.here hx rfl (hb hby dprog_13_method_2_code_46) rfl rfl k) ?_
        refine Go.st (S' := T1187.setTop (mkF m 49 A1197 [(.int e2_o0), (.ref b1165)])) (fun t k => XS.iload X1187.here hx rfl (hb hby dprog_13_method_2_code_47) rfl k) ?_
        refine Go.st (S' := T1187.setTop (mkF m 51 A1197 [(.int (6 : Int32)), (.int e2_o0), (.ref b1165)])) (fun t k => XS.bipush X1187.here hx rfl (hb hby dprog_13_method_2_code_49) k) ?_
        refine Go.op (F := fun z => T1187.setTop (mkF m 52 A1197 [(.int z), (.ref b1165)])) (x := (e2_o0 >>> ((6 : Int32) &&& 31))) (fun t k => XS.ishr X1187.here hx rfl (hb hby dprog_13_method_2_code_51) rfl k) ?_
        intro v1202 hv1202
        obtain rfl : v1198 = v1202 := hv1198.trans hv1202.symm
        refine Go.st (S' := T1187.setTop (mkF m 53 A1197 [(.int v1198), (.ref b1165), (.int v1198), (.ref b1165)])) (fun t k => Jvm.Free.XT.dup2 X1187.here hx rfl (hb hby dprog_13_method_2_code_52) rfl rfl rfl k) ?_
        have hi1204 : (¬ (v1198 < (0 : Int32))) := by
          intro hc1205
          exact ar_65 e0_o0 v996 v1001 e1_o0 v1039 v1154 e2_o0 v1198 hv996 hv1001 hv1039 hv1154 hv1198 hra_e0_o0 hrb_e0_o0 hra_e1_o0 hrb_e1_o0 hra_e2_o0 hrb_e2_o0 hc999 hi1002 hi1004 hi1006 hc1012 hc1013 hi1021 hi1023 hc1042 hi1155 hi1157 hi1159 hi1162 hc1167 hc1168 hi1178 hi1180 hi1182 hc1201 hc1205
        have hi1206 : (v1198 < (4 : Int32)) := by
          refine Decidable.byContradiction fun hc1207 => ?_
          exact ar_66 e0_o0 v996 v1001 e1_o0 v1039 v1154 e2_o0 v1198 hv996 hv1001 hv1039 hv1154 hv1198 hra_e0_o0 hrb_e0_o0 hra_e1_o0 hrb_e1_o0 hra_e2_o0 hrb_e2_o0 hc999 hi1002 hi1004 hi1006 hc1012 hc1013 hi1021 hi1023 hc1042 hi1155 hi1157 hi1159 hi1162 hc1167 hc1168 hi1178 hi1180 hi1182 hc1201 hi1204 hc1207
        obtain ⟨v1208, hv1208⟩ : ∃ z, z = (own_get4 v1198 v1188 v1189 v1190 v1191) := ⟨_, rfl⟩
        obtain ⟨cl1203, Ar1203, -, S1203, N1203_, H1203, -⟩ := id V1187
        have hin1203 : ¬ (v1198 < 0 ∨ cl1203.slots.size ≤ (v1198).toNatClampNeg) := inb_of S1203 ⟨hi1204, hc1201⟩
        have hat1203 : cl1203.slots[(v1198).toNatClampNeg]? = some (.long v1208) := Has.at H1203 hin1203 (by rw [hv1208]; exact own_get4_at hi1204 hi1206)
        refine Go.st (S' := T1187.setTop (mkF m 54 A1197 [(.long v1208), (.int v1198), (.ref b1165)])) (fun t k => X1187.laload hx (j := v1198) (v := (.long v1208)) (own_eh e1187 Ar1203.1) (State.isArrayOf_alike hZ.alike Ar1203.2.1) Ar1203.2.2 hin1203 hat1203 (g := (mkF m 53 A1197 [(.int v1198), (.ref b1165), (.int v1198), (.ref b1165)])) rfl rfl (hb hby dprog_13_method_2_code_53) t k) ?_
        refine Go.st (S' := T1187.setTop (mkF m 55 A1197 [(.long (1 : Int64)), (.long v1208), (.int v1198), (.ref b1165)])) (fun t k => XS.lconst X1187.here hx rfl (hb hby dprog_13_method_2_code_54) k) ?_
        refine Go.st (S' := T1187.setTop (mkF m 57 A1197 [(.int e2_o0), (.long (1 : Int64)), (.long v1208), (.int v1198), (.ref b1165)])) (fun t k => XS.iload X1187.here hx rfl (hb hby dprog_13_method_2_code_55) rfl k) ?_
        refine Go.op (F := fun z => T1187.setTop (mkF m 58 A1197 [(.long z), (.long v1208), (.int v1198), (.ref b1165)])) (x := ((1 : Int64) <<< (e2_o0 &&& 0x3f).toInt64)) (fun t k => XS.lshl X1187.here hx rfl (hb hby dprog_13_method_2_code_57) rfl k) ?_
        intro v1209 hv1209
        refine Go.op (F := fun z => T1187.setTop (mkF m 59 A1197 [(.long z), (.int v1198), (.ref b1165)])) (x := (v1208 ||| v1209)) (fun t k => XS.lor X1187.here hx rfl (hb hby dprog_13_method_2_code_58) rfl k) ?_
        intro v1210 hv1210
        obtain ⟨cl1211, Ar1211, q1211, S1211, N1211_, H1211, G1211⟩ := id V1187
        have hin1211 : ¬ (v1198 < 0 ∨ cl1211.slots.size ≤ (v1198).toNatClampNeg) := inb_of S1211 ⟨hi1204, hc1201⟩
        obtain ⟨T1211, h1211, X1211, e1211, W1211, st1211⟩ := stJ X1187 hx hZ e1187 Ar1211 (j := v1198) hin1211 (g := (mkF m 59 A1197 [(.long v1210), (.int v1198), (.ref b1165)])) rfl rfl (hb hby dprog_13_method_2_code_59)
        obtain ⟨v1212, hv1212⟩ : ∃ z, z = (v1188 ||| (if v1198 = (0 : Int32) then v1209 else 0)) := ⟨_, rfl⟩
        obtain ⟨v1213, hv1213⟩ : ∃ z, z = (v1189 ||| (if v1198 = (1 : Int32) then v1209 else 0)) := ⟨_, rfl⟩
        obtain ⟨v1214, hv1214⟩ : ∃ z, z = (v1190 ||| (if v1198 = (2 : Int32) then v1209 else 0)) := ⟨_, rfl⟩
        obtain ⟨v1215, hv1215⟩ : ∃ z, z = (v1191 ||| (if v1198 = (3 : Int32) then v1209 else 0)) := ⟨_, rfl⟩
        have V1211 : Arv Z h1211 b1165 k1166 .long v1154 [(.long v1212), (.long v1213), (.long v1214), (.long v1215)] (.long (0 : Int64)) := by
          have tt := Arv.set Ar1211 q1211 S1211 N1211_ H1211 G1211 rfl W1211 _ rfl (own_lt4 hi1204 hi1206)
          rw [own_set4 (B := v1209) hi1204 hi1206 (by rw [hv1210, hv1208]), ← hv1212, ← hv1213, ← hv1214, ← hv1215] at tt
          exact tt
        have N1211 := Fr.snoc X1211 N1187 g_b1165
        have Z1216 : n0 ≤ h1211.size := Nat.le_trans Z1192 (Keep.of_wr W1211).1
        have K1216 : Keep h0 h1211 [] := K1192.wr W1211 (Or.inr sz_b1165)
        refine Go.st (S' := T1211.setTop (mkF m 60 A1197 [])) st1211 ?_
        refine Go.op (F := fun z => T1211.setTop (mkF m 63 #[.val (.ref o0), .val (.ref b1165), .val (.ref o0), .val (.int (3 : Int32)), .val (.int z), .val (.int e2_o0)] [])) (x := ((2 : Int32) + (1 : Int32))) (fun t k => XS.iinc X1211.here hx rfl (hb hby dprog_13_method_2_code_60) rfl rfl k) ?_
        intro v1217 hv1217
        obtain rfl : (3 : Int32) = v1217 := (hv1217.trans (by decide)).symm
        let A1218 : Array Slot := #[.val (.ref o0), .val (.ref b1165), .val (.ref o0), .val (.int (3 : Int32)), .val (.int (3 : Int32)), .val (.int e2_o0)]
        refine Go.st (S' := T1211.setTop (mkF m 12 A1218 [])) (fun t k => XS.goto X1211.here hx rfl (pc0 := 63) (pc' := 12) rfl (hb hby dprog_13_method_2_code_63) (by decide) (by decide) k) ?_
        refine Go.st (S' := T1211.setTop (mkF m 14 A1218 [(.int (3 : Int32))])) (fun t k => XS.iload X1211.here hx rfl (hb hby dprog_13_method_2_code_12) rfl k) ?_
        refine Go.st (S' := T1211.setTop (mkF m 15 A1218 [(.int (3 : Int32)), (.int (3 : Int32))])) (fun t k => XS.iloadN X1211.here hx rfl (hb hby dprog_13_method_2_code_14) rfl k) ?_
        refine Go.st (S' := T1211.setTop (mkF m 66 A1218 [])) (fun t k => XS.icmpYes X1211.here hx rfl (pc0 := 15) (pc' := 66) rfl (hb hby dprog_13_method_2_code_15) rfl (flt (by decide : (¬ ((3 : Int32) < (3 : Int32))))).2.1 (by decide) (by decide) k) ?_
        obtain ⟨T1219, h1219, X1219, e1219, E1219, A1219, D1219, -, st1219⟩ := newO X1211 hx hZ hown (hw _ (List.mem_of_getElem? (i := 6) rfl)) (hw _ (List.mem_of_getElem? (i := 7) rfl)) (hw _ (List.mem_of_getElem? (i := 3) rfl)) e1211 (g := (mkF m 66 A1218 [])) rfl (hb hby dprog_13_method_2_code_66) (by decide) (by decide)
        obtain ⟨b1219, gg1219⟩ : ∃ z, z = h1211.size := ⟨_, rfl⟩
        rw [← gg1219] at A1219 D1219 st1219
        have g_b1219 : n0 ≤ b1219 := Nat.le_trans Z1216 (Nat.le_of_eq gg1219.symm)
        have sz_b1219 : h0.size ≤ b1219 := Nat.le_trans K1216.1 (Nat.le_of_eq gg1219.symm)
        have f1220 := ((((((f1172).keep K1164_)).wr W1187)).wr W1211)
        have lt_b985_b1219 : b985 < b1219 := Nat.lt_of_lt_of_le (f1220).lt (Nat.le_of_eq gg1219.symm)
        have f1221 := ((((((f1173).keep K1164_)).wr W1187)).wr W1211)
        have lt_b1010_b1219 : b1010 < b1219 := Nat.lt_of_lt_of_le (f1221).lt (Nat.le_of_eq gg1219.symm)
        have f1222 := ((((f1171).wr W1187)).wr W1211)
        have lt_b1165_b1219 : b1165 < b1219 := Nat.lt_of_lt_of_le (f1222).lt (Nat.le_of_eq gg1219.symm)
        have Z1223 : n0 ≤ h1219.size := Nat.le_trans Z1216 E1219.1
        have K1223 : Keep h0 h1219 [] := K1216.ext E1219
        have Fb1219_words : Fld Z h1219 b1219 "com/example/heaplens/heaplens/sharing/VarSet" "words" "[J" .null := D1219 (Or.inr (hw _ (List.mem_of_getElem? (i := 15) rfl))) (ty := (.array .long)) (by decide)
        refine Go.st (S' := T1219.setTop (mkF m 69 A1218 [(.ref b1219)])) st1219 ?_
        refine Go.st (S' := T1219.setTop (mkF m 70 A1218 [(.ref b1219), (.ref b1219)])) (fun t k => XS.dup X1219.here hx rfl (hb hby dprog_13_method_2_code_69) rfl rfl k) ?_
        refine Go.st (S' := T1219.setTop (mkF m 71 A1218 [(.ref b1165), (.ref b1219), (.ref b1219)])) (fun t k => XS.aloadN X1219.here hx rfl (hb hby dprog_13_method_2_code_70) rfl rfl k) ?_
        obtain ⟨r1224, T1224, L1224, X1224, hQ1224, st1224⟩ := own_callI (W := 1) (a := b1219) X1219 hx hZ e1219 hown (y := (⟨"com/example/heaplens/heaplens/sharing/VarSet", "<init>", "([J)V"⟩ : MethodName)) rfl (hw _ (List.mem_of_getElem? (i := 8) rfl)) (hw _ (List.mem_of_getElem? (i := 9) rfl)) (hw _ (List.mem_of_getElem? (i := 3) rfl)) (hw _ (List.mem_of_getElem? (i := 10) rfl)) (by decide) (rm1 l Z a0 hw [] b1219 b1165 (.null) h1219 n0 Z1223 (A1219) (Fb1219_words) (g_b1219)) (by decide) (by decide) (by decide) (by decide) (g := (mkF m 71 A1218 [(.ref b1165), (.ref b1219), (.ref b1219)])) rfl (by rw [hml]; rfl) (argsL := [(.ref b1165)]) (rest := [(.ref b1219)]) rfl (lenOf pd_0 rfl) rfl (by show 2 * 0 + _ ≤ _; exact Nat.le_of_eq rfl) (hb hby dprog_13_method_2_code_71)
        obtain ⟨rfl, N1224, K1224_, f1225, f1226⟩ := hQ1224
        have N1224_ := Fr.app N1211 N1224
        have Z1227 : n0 ≤ T1224.heap.size := Nat.le_trans Z1223 K1224_.1
        have K1227 : Keep h0 T1224.heap [] := K1223.trans K1224_ (allS (Or.inr sz_b1219) all0)
        refine Go.st (S' := T1224.setTop (mkF m 74 A1218 [(.ref b1219)])) st1224 ?_
        have f1228 := ((((((((((((((V985).keep K1009_ nin0)).other W1028 (Nat.ne_of_lt lt_b985_b1010))).keep K1164_ nin0)).other W1187 (Nat.ne_of_lt lt_b985_b1165))).other W1211 (Nat.ne_of_lt lt_b985_b1165))).ext E1219)).keep K1224_ (ninS (Nat.ne_of_lt lt_b985_b1219) nin0))
        have f1229 := ((((f1220).ext E1219)).keep K1224_)
        have f1230 := ((((((((((V1028).keep K1164_ nin0)).other W1187 (Nat.ne_of_lt lt_b1010_b1165))).other W1211 (Nat.ne_of_lt lt_b1010_b1165))).ext E1219)).keep K1224_ (ninS (Nat.ne_of_lt lt_b1010_b1219) nin0))
        have f1231 := ((((f1221).ext E1219)).keep K1224_)
        have f1232 := ((((V1211).ext E1219)).keep K1224_ (ninS (Nat.ne_of_lt lt_b1165_b1219) nin0))
        have f1233 := ((((f1222).ext E1219)).keep K1224_)
        exact Go.ret X1224 (v := some (.ref b1219)) (fun h => by rw [Bd.returns] at h; cases h) Bd.notSynchronized (fun fs hr => retOut X1224 hx Bd.returns rfl (Or.inr (Or.inr (Or.inr (Or.inr ⟨rfl, rfl, rfl⟩)))) (hb hby dprog_13_method_2_code_74) hr) (by decide) (by decide) ((Or.inr (Or.inr (Or.inl ⟨v996, v1001, v1039, v1154, v1198, v1026, v1029, v1030, v1031, v1032, v1185, v1188, v1209, v1212, v1189, v1213, v1190, v1214, v1191, v1215, b985, b1010, b1165, b1219, k985, k1011, k1166, hv996, hv1001, hv1039, hv1154, hv1198, hv1026, hv1029, hv1030, hv1031, hv1032, hv1185, hv1188, hv1209, hv1212, hv1189, hv1213, hv1190, hv1214, hv1191, hv1215, hc999, hi1002, hi1004, hi1006, hc1012, hc1013, hc1014, hi1021, hi1023, hc1042, hi1155, hi1157, hi1159, hi1162, hc1167, hc1168, hc1169, hi1178, hi1180, hi1182, hc1201, hi1204, hi1206, rfl, N1224_, K1227, sz_b985, sz_b1010, sz_b1165, sz_b1219, f1228, f1229, f1230, f1231, f1232, f1233, f1225, f1226, lt_b985_b1010, lt_b985_b1165, lt_b985_b1219, lt_b1010_b1165, lt_b1010_b1219, lt_b1165_b1219⟩))))
      · refine Go.st (S' := T1187.setTop (mkF m 34 A1197 [])) (fun t k => XS.icmpNo X1187.here hx rfl (hb hby dprog_13_method_2_code_31) rfl (flt hc1201).1 k) ?_
        refine Go.st (S' := T1187.setTop (mkF m 35 A1197 [(.ref b1165)])) (fun t k => XS.aloadN X1187.here hx rfl (hb hby dprog_13_method_2_code_34) rfl rfl k) ?_
        refine Go.st (S' := T1187.setTop (mkF m 37 A1197 [(.int e2_o0), (.ref b1165)])) (fun t k => XS.iload X1187.here hx rfl (hb hby dprog_13_method_2_code_35) rfl k) ?_
        refine Go.st (S' := T1187.setTop (mkF m 39 A1197 [(.int (6 : Int32)), (.int e2_o0), (.ref b1165)])) (fun t k => XS.bipush X1187.here hx rfl (hb hby dprog_13_method_2_code_37) k) ?_
        refine Go.op (F := fun z => T1187.setTop (mkF m 40 A1197 [(.int z), (.ref b1165)])) (x := (e2_o0 >>> ((6 : Int32) &&& 31))) (fun t k => XS.ishr X1187.here hx rfl (hb hby dprog_13_method_2_code_39) rfl k) ?_
        intro v1234 hv1234
        obtain rfl : v1198 = v1234 := hv1198.trans hv1234.symm
        refine Go.st (S' := T1187.setTop (mkF m 41 A1197 [(.int (1 : Int32)), (.int v1198), (.ref b1165)])) (fun t k => XS.iconst X1187.here hx rfl (hb hby dprog_13_method_2_code_40) k) ?_
        refine Go.op (F := fun z => T1187.setTop (mkF m 42 A1197 [(.int z), (.ref b1165)])) (x := (v1198 + (1 : Int32))) (fun t k => XS.iadd X1187.here hx rfl (hb hby dprog_13_method_2_code_41) rfl k) ?_
        intro v1235 hv1235
        have hi1236 : (¬ (v1235 < (1 : Int32))) := by
          intro hc1237
          exact ar_67 e0_o0 v996 v1001 e1_o0 v1039 v1154 e2_o0 v1198 v1235 hv996 hv1001 hv1039 hv1154 hv1198 hv1235 hra_e0_o0 hrb_e0_o0 hra_e1_o0 hrb_e1_o0 hra_e2_o0 hrb_e2_o0 hc999 hi1002 hi1004 hi1006 hc1012 hc1013 hi1021 hi1023 hc1042 hi1155 hi1157 hi1159 hi1162 hc1167 hc1168 hi1178 hi1180 hi1182 hc1201 hc1237
        have hi1238 : (¬ ((4 : Int32) < v1235)) := by
          intro hc1239
          exact ar_68 e0_o0 v996 v1001 e1_o0 v1039 v1154 e2_o0 v1198 v1235 hv996 hv1001 hv1039 hv1154 hv1198 hv1235 hra_e0_o0 hrb_e0_o0 hra_e1_o0 hrb_e1_o0 hra_e2_o0 hrb_e2_o0 hc999 hi1002 hi1004 hi1006 hc1012 hc1013 hi1021 hi1023 hc1042 hi1155 hi1157 hi1159 hi1162 hc1167 hc1168 hi1178 hi1180 hi1182 hc1201 hi1236 hc1239
        have hi1240 : (v1154 < v1235) := by
          refine Decidable.byContradiction fun hc1241 => ?_
          exact ar_69 e0_o0 v996 v1001 e1_o0 v1039 v1154 e2_o0 v1198 v1235 hv996 hv1001 hv1039 hv1154 hv1198 hv1235 hra_e0_o0 hrb_e0_o0 hra_e1_o0 hrb_e1_o0 hra_e2_o0 hrb_e2_o0 hc999 hi1002 hi1004 hi1006 hc1012 hc1013 hi1021 hi1023 hc1042 hi1155 hi1157 hi1159 hi1162 hc1167 hc1168 hc1169 hi1178 hi1180 hi1182 hc1201 hi1236 hi1238 hc1241
        have hi1242 : (v996 < v1154) := by
          refine Decidable.byContradiction fun hc1243 => ?_
          exact ar_70 e0_o0 v996 v1001 e1_o0 v1039 v1154 e2_o0 v1198 v1235 hv996 hv1001 hv1039 hv1154 hv1198 hv1235 hra_e0_o0 hrb_e0_o0 hra_e1_o0 hrb_e1_o0 hra_e2_o0 hrb_e2_o0 hc999 hi1002 hi1004 hi1006 hc1012 hc1013 hi1021 hi1023 hc1042 hi1155 hi1157 hi1159 hi1162 hc1167 hc1168 hc1169 hi1178 hi1180 hi1182 hc1201 hi1236 hi1238 hi1240 hc1243
        have iv1244 : ((0 : Int32) < v1154 ∨ v1188 = (0 : Int64)) ∧ ((1 : Int32) < v1154 ∨ v1189 = (0 : Int64)) ∧ ((2 : Int32) < v1154 ∨ v1190 = (0 : Int64)) ∧ ((3 : Int32) < v1154 ∨ v1191 = (0 : Int64)) := ⟨(own_inv hi1182 (own_inv hi1242 (Or.inr rfl) hv1029) hv1188), (own_inv hi1182 (own_inv hi1242 (Or.inr rfl) hv1030) hv1189), (own_inv hi1182 (own_inv hi1242 (Or.inr rfl) hv1031) hv1190), (own_inv hi1182 (own_inv hi1242 (Or.inr rfl) hv1032) hv1191)⟩
        have hi1245 : (¬ (v1154 < (0 : Int32))) := by
          intro hc1246
          exact ar_71 e0_o0 v996 v1001 e1_o0 v1039 v1154 e2_o0 v1198 v1235 hv996 hv1001 hv1039 hv1154 hv1198 hv1235 hra_e0_o0 hrb_e0_o0 hra_e1_o0 hrb_e1_o0 hra_e2_o0 hrb_e2_o0 hc999 hi1002 hi1004 hi1006 hc1012 hc1013 hi1021 hi1023 hc1042 hi1155 hi1157 hi1159 hi1162 hc1167 hc1168 hc1169 hi1178 hi1180 hi1182 hc1201 hi1236 hi1238 hi1240 hi1242 hc1246
        obtain ⟨r1247, T1247, L1247, X1247, hQ1247, st1247⟩ := own_callS (W := 0) X1187 hx hZ e1187 hown (y := (⟨"java/util/Arrays", "copyOf", "([JI)[J"⟩ : MethodName)) (hw _ (List.mem_of_getElem? (i := 46) rfl)) (hw _ (List.mem_of_getElem? (i := 47) rfl)) (hw _ (List.mem_of_getElem? (i := 48) rfl)) (hw _ (List.mem_of_getElem? (i := 49) rfl)) (by decide) (rm10 l Z a0 hw [] b1165 v1235 k1166 v1154 v1188 v1189 v1190 v1191 h1187 n0 Z1192 (hi1236) (hi1238) (hi1245) (hi1157) (V1187) (hi1240) (iv1244)) (by decide) (by decide) (by decide) (by decide) (g := (mkF m 42 A1197 [(.int v1235), (.ref b1165)])) rfl (by rw [hml]; rfl) (argsL := [(.ref b1165), (.int v1235)]) (rest := []) rfl (lenOf pd_7 rfl) rfl (by show 2 * 0 + _ ≤ _; exact Nat.le_of_eq rfl) (hb hby dprog_13_method_2_code_42)
        obtain ⟨b1248, k1249, hc1250, hc1251, hc1252, rfl, N1247, K1247_, sz_b1248_, f1253, f1254⟩ := hQ1247
        have N1247_ := Fr.app N1187 N1247
        have g_b1248 : n0 ≤ b1248 := Nat.le_trans Z1192 sz_b1248_
        have sz_b1248 : h0.size ≤ b1248 := Nat.le_trans K1192.1 sz_b1248_
        have f1255 := ((((f1172).keep K1164_)).wr W1187)
        have lt_b985_b1248 : b985 < b1248 := Nat.lt_of_lt_of_le (f1255).lt sz_b1248_
        have f1256 := ((((f1173).keep K1164_)).wr W1187)
        have lt_b1010_b1248 : b1010 < b1248 := Nat.lt_of_lt_of_le (f1256).lt sz_b1248_
        have f1257 := ((f1171).wr W1187)
        have lt_b1165_b1248 : b1165 < b1248 := Nat.lt_of_lt_of_le (f1257).lt sz_b1248_
        have Z1258 : n0 ≤ T1247.heap.size := Nat.le_trans Z1192 K1247_.1
        have K1258 : Keep h0 T1247.heap [] := K1192.trans K1247_ all0
        refine Go.st (S' := T1247.setTop (mkF m 45 A1197 [(.ref b1248)])) st1247 ?_
        let A1259 : Array Slot := #[.val (.ref o0), .val (.ref b1248), .val (.ref o0), .val (.int (3 : Int32)), .val (.int (2 : Int32)), .val (.int e2_o0)]
        refine Go.st (S' := T1247.setTop (mkF m 46 A1259 [])) (fun t k => XS.astoreN X1247.here hx rfl (hb hby dprog_13_method_2_code_45) rfl rfl (l' := A1259) rfl k) ?_
        refine Go.st (S' := T1247.setTop (mkF m 47 A1259 [(.ref b1248)])) (fun t k => XS.aloadN X1247.here hx rfl (hb hby dprog_13_method_2_code_46) rfl rfl k) ?_
        refine Go.st (S' := T1247.setTop (mkF m 49 A1259 [(.int e2_o0), (.ref b1248)])) (fun t k => XS.iload X1247.here hx rfl (hb hby dprog_13_method_2_code_47) rfl k) ?_
        refine Go.st (S' := T1247.setTop (mkF m 51 A1259 [(.int (6 : Int32)), (.int e2_o0), (.ref b1248)])) (fun t k => XS.bipush X1247.here hx rfl (hb hby dprog_13_method_2_code_49) k) ?_
        refine Go.op (F := fun z => T1247.setTop (mkF m 52 A1259 [(.int z), (.ref b1248)])) (x := (e2_o0 >>> ((6 : Int32) &&& 31))) (fun t k => XS.ishr X1247.here hx rfl (hb hby dprog_13_method_2_code_51) rfl k) ?_
        intro v1260 hv1260
        obtain rfl : v1198 = v1260 := hv1198.trans hv1260.symm
        refine Go.st (S' := T1247.setTop (mkF m 53 A1259 [(.int v1198), (.ref b1248), (.int v1198), (.ref b1248)])) (fun t k => Jvm.Free.XT.dup2 X1247.here hx rfl (hb hby dprog_13_method_2_code_52) rfl rfl rfl k) ?_
        have hi1262 : (¬ (v1198 < (0 : Int32))) := by
          intro hc1263
          exact ar_72 e0_o0 v996 v1001 e1_o0 v1039 v1154 e2_o0 v1198 v1235 hv996 hv1001 hv1039 hv1154 hv1198 hv1235 hra_e0_o0 hrb_e0_o0 hra_e1_o0 hrb_e1_o0 hra_e2_o0 hrb_e2_o0 hc999 hi1002 hi1004 hi1006 hc1012 hc1013 hi1021 hi1023 hc1042 hi1155 hi1157 hi1159 hi1162 hc1167 hc1168 hi1178 hi1180 hi1182 hc1201 hi1236 hi1238 hi1240 hi1242 hi1245 hc1250 hc1251 hc1263
        have hi1264 : (v1198 < (4 : Int32)) := by
          refine Decidable.byContradiction fun hc1265 => ?_
          exact ar_73 e0_o0 v996 v1001 e1_o0 v1039 v1154 e2_o0 v1198 v1235 hv996 hv1001 hv1039 hv1154 hv1198 hv1235 hra_e0_o0 hrb_e0_o0 hra_e1_o0 hrb_e1_o0 hra_e2_o0 hrb_e2_o0 hc999 hi1002 hi1004 hi1006 hc1012 hc1013 hi1021 hi1023 hc1042 hi1155 hi1157 hi1159 hi1162 hc1167 hc1168 hi1178 hi1180 hi1182 hc1201 hi1236 hi1238 hi1240 hi1242 hi1245 hc1250 hc1251 hi1262 hc1265
        have hi1266 : (v1198 < v1235) := by
          refine Decidable.byContradiction fun hc1267 => ?_
          exact ar_74 e0_o0 v996 v1001 e1_o0 v1039 v1154 e2_o0 v1198 v1235 hv996 hv1001 hv1039 hv1154 hv1198 hv1235 hra_e0_o0 hrb_e0_o0 hra_e1_o0 hrb_e1_o0 hra_e2_o0 hrb_e2_o0 hc999 hi1002 hi1004 hi1006 hc1012 hc1013 hi1021 hi1023 hc1042 hi1155 hi1157 hi1159 hi1162 hc1167 hc1168 hi1178 hi1180 hi1182 hc1201 hi1236 hi1238 hi1240 hi1242 hi1245 hc1250 hc1251 hc1252 hi1262 hi1264 hc1267
        obtain ⟨v1268, hv1268⟩ : ∃ z, z = (own_get4 v1198 v1188 v1189 v1190 v1191) := ⟨_, rfl⟩
        obtain ⟨cl1261, Ar1261, -, S1261, N1261_, H1261, -⟩ := id f1253
        have hin1261 : ¬ (v1198 < 0 ∨ cl1261.slots.size ≤ (v1198).toNatClampNeg) := inb_of S1261 ⟨hi1262, hi1266⟩
        have hat1261 : cl1261.slots[(v1198).toNatClampNeg]? = some (.long v1268) := Has.at H1261 hin1261 (by rw [hv1268]; exact own_get4_at hi1262 hi1264)
        refine Go.st (S' := T1247.setTop (mkF m 54 A1259 [(.long v1268), (.int v1198), (.ref b1248)])) (fun t k => X1247.laload hx (j := v1198) (v := (.long v1268)) (own_eh rfl Ar1261.1) (State.isArrayOf_alike hZ.alike Ar1261.2.1) Ar1261.2.2 hin1261 hat1261 (g := (mkF m 53 A1259 [(.int v1198), (.ref b1248), (.int v1198), (.ref b1248)])) rfl rfl (hb hby dprog_13_method_2_code_53) t k) ?_
        refine Go.st (S' := T1247.setTop (mkF m 55 A1259 [(.long (1 : Int64)), (.long v1268), (.int v1198), (.ref b1248)])) (fun t k => XS.lconst X1247.here hx rfl (hb hby dprog_13_method_2_code_54) k) ?_
        refine Go.st (S' := T1247.setTop (mkF m 57 A1259 [(.int e2_o0), (.long (1 : Int64)), (.long v1268), (.int v1198), (.ref b1248)])) (fun t k => XS.iload X1247.here hx rfl (hb hby dprog_13_method_2_code_55) rfl k) ?_
        refine Go.op (F := fun z => T1247.setTop (mkF m 58 A1259 [(.long z), (.long v1268), (.int v1198), (.ref b1248)])) (x := ((1 : Int64) <<< (e2_o0 &&& 0x3f).toInt64)) (fun t k => XS.lshl X1247.here hx rfl (hb hby dprog_13_method_2_code_57) rfl k) ?_
        intro v1269 hv1269
        refine Go.op (F := fun z => T1247.setTop (mkF m 59 A1259 [(.long z), (.int v1198), (.ref b1248)])) (x := (v1268 ||| v1269)) (fun t k => XS.lor X1247.here hx rfl (hb hby dprog_13_method_2_code_58) rfl k) ?_
        intro v1270 hv1270
        obtain ⟨cl1271, Ar1271, q1271, S1271, N1271_, H1271, G1271⟩ := id f1253
        have hin1271 : ¬ (v1198 < 0 ∨ cl1271.slots.size ≤ (v1198).toNatClampNeg) := inb_of S1271 ⟨hi1262, hi1266⟩
        obtain ⟨T1271, h1271, X1271, e1271, W1271, st1271⟩ := stJ X1247 hx hZ rfl Ar1271 (j := v1198) hin1271 (g := (mkF m 59 A1259 [(.long v1270), (.int v1198), (.ref b1248)])) rfl rfl (hb hby dprog_13_method_2_code_59)
        obtain ⟨v1272, hv1272⟩ : ∃ z, z = (v1188 ||| (if v1198 = (0 : Int32) then v1269 else 0)) := ⟨_, rfl⟩
        obtain ⟨v1273, hv1273⟩ : ∃ z, z = (v1189 ||| (if v1198 = (1 : Int32) then v1269 else 0)) := ⟨_, rfl⟩
        obtain ⟨v1274, hv1274⟩ : ∃ z, z = (v1190 ||| (if v1198 = (2 : Int32) then v1269 else 0)) := ⟨_, rfl⟩
        obtain ⟨v1275, hv1275⟩ : ∃ z, z = (v1191 ||| (if v1198 = (3 : Int32) then v1269 else 0)) := ⟨_, rfl⟩
        have V1271 : Arv Z h1271 b1248 k1249 .long v1235 [(.long v1272), (.long v1273), (.long v1274), (.long v1275)] (.long (0 : Int64)) := by
          have tt := Arv.set Ar1271 q1271 S1271 N1271_ H1271 G1271 rfl W1271 _ rfl (own_lt4 hi1262 hi1264)
          rw [own_set4 (B := v1269) hi1262 hi1264 (by rw [hv1270, hv1268]), ← hv1272, ← hv1273, ← hv1274, ← hv1275] at tt
          exact tt
        have N1271 := Fr.snoc X1271 N1247_ g_b1248
        have Z1276 : n0 ≤ h1271.size := Nat.le_trans Z1258 (Keep.of_wr W1271).1
        have K1276 : Keep h0 h1271 [] := K1258.wr W1271 (Or.inr sz_b1248)
        refine Go.st (S' := T1271.setTop (mkF m 60 A1259 [])) st1271 ?_
        refine Go.op (F := fun z => T1271.setTop (mkF m 63 #[.val (.ref o0), .val (.ref b1248), .val (.ref o0), .val (.int (3 : Int32)), .val (.int z), .val (.int e2_o0)] [])) (x := ((2 : Int32) + (1 : Int32))) (fun t k => XS.iinc X1271.here hx rfl (hb hby dprog_13_method_2_code_60) rfl rfl k) ?_
        intro v1277 hv1277
        obtain rfl : (3 : Int32) = v1277 := (hv1277.trans (by decide)).symm
        let A1278 : Array Slot := #[.val (.ref o0), .val (.ref b1248), .val (.ref o0), .val (.int (3 : Int32)), .val (.int (3 : Int32)), .val (.int e2_o0)]
        refine Go.st (S' := T1271.setTop (mkF m 12 A1278 [])) (fun t k => XS.goto X1271.here hx rfl (pc0 := 63) (pc' := 12) rfl (hb hby dprog_13_method_2_code_63) (by decide) (by decide) k) ?_
        refine Go.st (S' := T1271.setTop (mkF m 14 A1278 [(.int (3 : Int32))])) (fun t k => XS.iload X1271.here hx rfl (hb hby dprog_13_method_2_code_12) rfl k) ?_
        refine Go.st (S' := T1271.setTop (mkF m 15 A1278 [(.int (3 : Int32)), (.int (3 : Int32))])) (fun t k => XS.iloadN X1271.here hx rfl (hb hby dprog_13_method_2_code_14) rfl k) ?_
        refine Go.st (S' := T1271.setTop (mkF m 66 A1278 [])) (fun t k => XS.icmpYes X1271.here hx rfl (pc0 := 15) (pc' := 66) rfl (hb hby dprog_13_method_2_code_15) rfl (flt (by decide : (¬ ((3 : Int32) < (3 : Int32))))).2.1 (by decide) (by decide) k) ?_
        obtain ⟨T1279, h1279, X1279, e1279, E1279, A1279, D1279, -, st1279⟩ := newO X1271 hx hZ hown (hw _ (List.mem_of_getElem? (i := 6) rfl)) (hw _ (List.mem_of_getElem? (i := 7) rfl)) (hw _ (List.mem_of_getElem? (i := 3) rfl)) e1271 (g := (mkF m 66 A1278 [])) rfl (hb hby dprog_13_method_2_code_66) (by decide) (by decide)
        obtain ⟨b1279, gg1279⟩ : ∃ z, z = h1271.size := ⟨_, rfl⟩
        rw [← gg1279] at A1279 D1279 st1279
        have g_b1279 : n0 ≤ b1279 := Nat.le_trans Z1276 (Nat.le_of_eq gg1279.symm)
        have sz_b1279 : h0.size ≤ b1279 := Nat.le_trans K1276.1 (Nat.le_of_eq gg1279.symm)
        have f1280 := ((((f1255).keep K1247_)).wr W1271)
        have lt_b985_b1279 : b985 < b1279 := Nat.lt_of_lt_of_le (f1280).lt (Nat.le_of_eq gg1279.symm)
        have f1281 := ((((f1256).keep K1247_)).wr W1271)
        have lt_b1010_b1279 : b1010 < b1279 := Nat.lt_of_lt_of_le (f1281).lt (Nat.le_of_eq gg1279.symm)
        have f1282 := ((((f1257).keep K1247_)).wr W1271)
        have lt_b1165_b1279 : b1165 < b1279 := Nat.lt_of_lt_of_le (f1282).lt (Nat.le_of_eq gg1279.symm)
        have f1283 := ((f1254).wr W1271)
        have lt_b1248_b1279 : b1248 < b1279 := Nat.lt_of_lt_of_le (f1283).lt (Nat.le_of_eq gg1279.symm)
        have Z1284 : n0 ≤ h1279.size := Nat.le_trans Z1276 E1279.1
        have K1284 : Keep h0 h1279 [] := K1276.ext E1279
        have Fb1279_words : Fld Z h1279 b1279 "com/example/heaplens/heaplens/sharing/VarSet" "words" "[J" .null := D1279 (Or.inr (hw _ (List.mem_of_getElem? (i := 15) rfl))) (ty := (.array .long)) (by decide)
        refine Go.st (S' := T1279.setTop (mkF m 69 A1278 [(.ref b1279)])) st1279 ?_
        refine Go.st (S' := T1279.setTop (mkF m 70 A1278 [(.ref b1279), (.ref b1279)])) (fun t k => XS.dup X1279.here hx rfl (hb hby dprog_13_method_2_code_69) rfl rfl k) ?_
        refine Go.st (S' := T1279.setTop (mkF m 71 A1278 [(.ref b1248), (.ref b1279), (.ref b1279)])) (fun t k => XS.aloadN X1279.here hx rfl (hb hby dprog_13_method_2_code_70) rfl rfl k) ?_
        obtain ⟨r1285, T1285, L1285, X1285, hQ1285, st1285⟩ := own_callI (W := 1) (a := b1279) X1279 hx hZ e1279 hown (y := (⟨"com/example/heaplens/heaplens/sharing/VarSet", "<init>", "([J)V"⟩ : MethodName)) rfl (hw _ (List.mem_of_getElem? (i := 8) rfl)) (hw _ (List.mem_of_getElem? (i := 9) rfl)) (hw _ (List.mem_of_getElem? (i := 3) rfl)) (hw _ (List.mem_of_getElem? (i := 10) rfl)) (by decide) (rm1 l Z a0 hw [] b1279 b1248 (.null) h1279 n0 Z1284 (A1279) (Fb1279_words) (g_b1279)) (by decide) (by decide) (by decide) (by decide) (g := (mkF m 71 A1278 [(.ref b1248), (.ref b1279), (.ref b1279)])) rfl (by rw [hml]; rfl) (argsL := [(.ref b1248)]) (rest := [(.ref b1279)]) rfl (lenOf pd_0 rfl) rfl (by show 2 * 0 + _ ≤ _; exact Nat.le_of_eq rfl) (hb hby dprog_13_method_2_code_71)
        obtain ⟨rfl, N1285, K1285_, f1286, f1287⟩ := hQ1285
        have N1285_ := Fr.app N1271 N1285
        have Z1288 : n0 ≤ T1285.heap.size := Nat.le_trans Z1284 K1285_.1
        have K1288 : Keep h0 T1285.heap [] := K1284.trans K1285_ (allS (Or.inr sz_b1279) all0)
        refine Go.st (S' := T1285.setTop (mkF m 74 A1278 [(.ref b1279)])) st1285 ?_
        have f1289 := ((((((((((((((((V985).keep K1009_ nin0)).other W1028 (Nat.ne_of_lt lt_b985_b1010))).keep K1164_ nin0)).other W1187 (Nat.ne_of_lt lt_b985_b1165))).keep K1247_ nin0)).other W1271 (Nat.ne_of_lt lt_b985_b1248))).ext E1279)).keep K1285_ (ninS (Nat.ne_of_lt lt_b985_b1279) nin0))
        have f1290 := ((((f1280).ext E1279)).keep K1285_)
        have f1291 := ((((((((((((V1028).keep K1164_ nin0)).other W1187 (Nat.ne_of_lt lt_b1010_b1165))).keep K1247_ nin0)).other W1271 (Nat.ne_of_lt lt_b1010_b1248))).ext E1279)).keep K1285_ (ninS (Nat.ne_of_lt lt_b1010_b1279) nin0))
        have f1292 := ((((f1281).ext E1279)).keep K1285_)
        have f1293 := ((((((((V1187).keep K1247_ nin0)).other W1271 (Nat.ne_of_lt lt_b1165_b1248))).ext E1279)).keep K1285_ (ninS (Nat.ne_of_lt lt_b1165_b1279) nin0))
        have f1294 := ((((f1282).ext E1279)).keep K1285_)
        have f1295 := ((((V1271).ext E1279)).keep K1285_ (ninS (Nat.ne_of_lt lt_b1248_b1279) nin0))
        have f1296 := ((((f1283).ext E1279)).keep K1285_)
        exact Go.ret X1285 (v := some (.ref b1279)) (fun h => by rw [Bd.returns] at h; cases h) Bd.notSynchronized (fun fs hr => retOut X1285 hx Bd.returns rfl (Or.inr (Or.inr (Or.inr (Or.inr ⟨rfl, rfl, rfl⟩)))) (hb hby dprog_13_method_2_code_74) hr) (by decide) (by decide) ((Or.inr (Or.inr (Or.inr ⟨v996, v1001, v1039, v1154, v1198, v1235, v1026, v1029, v1030, v1031, v1032, v1185, v1188, v1189, v1190, v1191, v1269, v1272, v1273, v1274, v1275, b985, b1010, b1165, b1248, b1279, k985, k1011, k1166, k1249, hv996, hv1001, hv1039, hv1154, hv1198, hv1235, hv1026, hv1029, hv1030, hv1031, hv1032, hv1185, hv1188, hv1189, hv1190, hv1191, hv1269, hv1272, hv1273, hv1274, hv1275, hc999, hi1002, hi1004, hi1006, hc1012, hc1013, hc1014, hi1021, hi1023, hc1042, hi1155, hi1157, hi1159, hi1162, hc1167, hc1168, hc1169, hi1178, hi1180, hi1182, hc1201, hi1236, hi1238, hi1240, hi1242, hi1245, hc1250, hc1251, hc1252, hi1262, hi1264, hi1266, rfl, N1285_, K1288, sz_b985, sz_b1010, sz_b1165, sz_b1248, sz_b1279, f1289, f1290, f1291, f1292, f1293, f1294, f1295, f1296, f1286, f1287, lt_b985_b1010, lt_b985_b1165, lt_b985_b1248, lt_b985_b1279, lt_b1010_b1165, lt_b1010_b1248, lt_b1010_b1279, lt_b1165_b1248, lt_b1165_b1279, lt_b1248_b1279⟩))))
theorem ef_15 (m : MethodId) (p0 : Int32) (p1 : Int32) (p2 : Int32) (p3 : Int32) (p4 : Int32) : entryFrame m #[(.int p0), (.int p1), (.int p2), (.int p3), (.int p4)] maxLocals = mkF m 0 #[.val (.int p0), .val (.int p1), .val (.int p2), .val (.int p3), .val (.int p4), .unset, .unset, .unset, .unset, .unset, .unset, .unset, .unset, .unset, .unset, .unset] [] := by first | (simp [entryFrame, mkF, argsToLocals, Value.category, maxLocals]; done) | rfl
def Q15 (Z : State) (p0 : Int32) (p1 : Int32) (p2 : Int32) (p3 : Int32) (p4 : Int32) (h0 : Heap) (n0 : Nat) (v : Option Value) (h : Heap) (L : List Loc) : Prop := v = some (.int 1) ∧ Fr n0 L
set_option maxRecDepth 65536 in
set_option maxHeartbeats 40000000 in
theorem rm15 (l : Launch) (Z : State) (a0 : Array Value) (hw : ∀ d ∈ tables_1, d.before a0 Z = true) (ws : List Jvm.Cond) (p0 : Int32) (p1 : Int32) (p2 : Int32) (p3 : Int32) (p4 : Int32) (h0 : Heap) (n0 : Nat) (Z0 : n0 ≤ h0.size)  :
    Con l Z x code maxLocals ret ws room_1 #[(.int p0), (.int p1), (.int p2), (.int p3), (.int p4)] h0 6 17 (Q15 Z p0 p1 p2 p3 p4 h0 n0) := by
  refine MetFree.of_bodySF (plainFor_of_name pn_2) hisR ?_
  intro p e s m args below meth c s₁ Bd hml0 hP hK
  obtain ⟨rfl, hZ, hh⟩ := hP
  have hx := Bd.exec
  have hby := Bd.bytes
  have hml : c.maxLocals = 16 := hml0
  have hown : s.vm.findClass "com/example/heaplens/heaplens/sharing/VarSetOfPinLaw" = some m.cls := findClass_of_methodNamed Bd.named
  have hnm := (name_of_methodNamed Bd.named Bd.method).1
  have X0 : Stand p l e room_1 s m #[(.int p0), (.int p1), (.int p2), (.int p3), (.int p4)] below meth c s₁ [] 0 0 := Stand.of_body Bd
  have e0 : s₁.heap = h0 := by rw [← hh, Bd.state]; rfl
  have N0 := Fr.nil n0
  refine Go.of ?_
  refine Go.st (S' := s₁.setTop (mkF m 0 #[.val (.int p0), .val (.int p1), .val (.int p2), .val (.int p3), .val (.int p4), .unset, .unset, .unset, .unset, .unset, .unset, .unset, .unset, .unset, .unset, .unset] [])) (fun t k => castTop (ef_15 m p0 p1 p2 p3 p4) k) ?_
  let A1 : Array Slot := #[.val (.int p0), .val (.int p1), .val (.int p2), .val (.int p3), .val (.int p4), .unset, .unset, .unset, .unset, .unset, .unset, .unset, .unset, .unset, .unset, .unset]
  refine Go.st (S' := s₁.setTop (mkF m 1 A1 [(.int p0)])) (fun t k => XS.iloadN X0.here hx rfl (hb hby at_0) rfl k) ?_
  refine Go.st (S' := s₁.setTop (mkF m 2 A1 [(.int (3 : Int32)), (.int p0)])) (fun t k => XS.iconst X0.here hx rfl (hb hby at_1) k) ?_
  refine Go.op (F := fun z => s₁.setTop (mkF m 3 A1 [(.int z)])) (x := (p0 &&& (3 : Int32))) (fun t k => XS.iand X0.here hx rfl (hb hby at_2) rfl k) ?_
  intro v2 hv2
  let A3 : Array Slot := #[.val (.int p0), .val (.int p1), .val (.int p2), .val (.int p3), .val (.int p4), .val (.int v2), .unset, .unset, .unset, .unset, .unset, .unset, .unset, .unset, .unset, .unset]
  refine Go.st (S' := s₁.setTop (mkF m 5 A3 [])) (fun t k => XS.istore X0.here hx rfl (hb hby at_3) rfl (l' := A3) rfl k) ?_
  refine Go.st (S' := s₁.setTop (mkF m 6 A3 [(.int p1)])) (fun t k => XS.iloadN X0.here hx rfl (hb hby at_5) rfl k) ?_
  refine Go.st (S' := s₁.setTop (mkF m 9 A3 [(.int (255 : Int32)), (.int p1)])) (fun t k => XS.sipush X0.here hx rfl (hb hby at_6) k) ?_
  refine Go.op (F := fun z => s₁.setTop (mkF m 10 A3 [(.int z)])) (x := (p1 &&& (255 : Int32))) (fun t k => XS.iand X0.here hx rfl (hb hby at_9) rfl k) ?_
  intro v4 hv4
  let A5 : Array Slot := #[.val (.int p0), .val (.int p1), .val (.int p2), .val (.int p3), .val (.int p4), .val (.int v2), .val (.int v4), .unset, .unset, .unset, .unset, .unset, .unset, .unset, .unset, .unset]
  refine Go.st (S' := s₁.setTop (mkF m 12 A5 [])) (fun t k => XS.istore X0.here hx rfl (hb hby at_10) rfl (l' := A5) rfl k) ?_
  refine Go.st (S' := s₁.setTop (mkF m 13 A5 [(.int p2)])) (fun t k => XS.iloadN X0.here hx rfl (hb hby at_12) rfl k) ?_
  refine Go.st (S' := s₁.setTop (mkF m 16 A5 [(.int (255 : Int32)), (.int p2)])) (fun t k => XS.sipush X0.here hx rfl (hb hby at_13) k) ?_
  refine Go.op (F := fun z => s₁.setTop (mkF m 17 A5 [(.int z)])) (x := (p2 &&& (255 : Int32))) (fun t k => XS.iand X0.here hx rfl (hb hby at_16) rfl k) ?_
  intro v6 hv6
  let A7 : Array Slot := #[.val (.int p0), .val (.int p1), .val (.int p2), .val (.int p3), .val (.int p4), .val (.int v2), .val (.int v4), .val (.int v6), .unset, .unset, .unset, .unset, .unset, .unset, .unset, .unset]
  refine Go.st (S' := s₁.setTop (mkF m 19 A7 [])) (fun t k => XS.istore X0.here hx rfl (hb hby at_17) rfl (l' := A7) rfl k) ?_
  refine Go.st (S' := s₁.setTop (mkF m 20 A7 [(.int p3)])) (fun t k => XS.iloadN X0.here hx rfl (hb hby at_19) rfl k) ?_
  refine Go.st (S' := s₁.setTop (mkF m 23 A7 [(.int (255 : Int32)), (.int p3)])) (fun t k => XS.sipush X0.here hx rfl (hb hby at_20) k) ?_
  refine Go.op (F := fun z => s₁.setTop (mkF m 24 A7 [(.int z)])) (x := (p3 &&& (255 : Int32))) (fun t k => XS.iand X0.here hx rfl (hb hby at_23) rfl k) ?_
  intro v8 hv8
  let A9 : Array Slot := #[.val (.int p0), .val (.int p1), .val (.int p2), .val (.int p3), .val (.int p4), .val (.int v2), .val (.int v4), .val (.int v6), .val (.int v8), .unset, .unset, .unset, .unset, .unset, .unset, .unset]
  refine Go.st (S' := s₁.setTop (mkF m 26 A9 [])) (fun t k => XS.istore X0.here hx rfl (hb hby at_24) rfl (l' := A9) rfl k) ?_
  refine Go.st (S' := s₁.setTop (mkF m 28 A9 [(.int p4)])) (fun t k => XS.iload X0.here hx rfl (hb hby at_26) rfl k) ?_
  refine Go.st (S' := s₁.setTop (mkF m 31 A9 [(.int (511 : Int32)), (.int p4)])) (fun t k => XS.sipush X0.here hx rfl (hb hby at_28) k) ?_
  refine Go.op (F := fun z => s₁.setTop (mkF m 32 A9 [(.int z)])) (x := (p4 &&& (511 : Int32))) (fun t k => XS.iand X0.here hx rfl (hb hby at_31) rfl k) ?_
  intro v10 hv10
  let A11 : Array Slot := #[.val (.int p0), .val (.int p1), .val (.int p2), .val (.int p3), .val (.int p4), .val (.int v2), .val (.int v4), .val (.int v6), .val (.int v8), .val (.int v10), .unset, .unset, .unset, .unset, .unset, .unset]
  refine Go.st (S' := s₁.setTop (mkF m 34 A11 [])) (fun t k => XS.istore X0.here hx rfl (hb hby at_32) rfl (l' := A11) rfl k) ?_
  refine Go.st (S' := s₁.setTop (mkF m 36 A11 [(.int v2)])) (fun t k => XS.iload X0.here hx rfl (hb hby at_34) rfl k) ?_
  by_cases hc39 : (v2 = (0 : Int32))
  · refine Go.st (S' := s₁.setTop (mkF m 39 A11 [])) (fun t k => XS.ifNo X0.here hx rfl (hb hby at_36) rfl ((if0 _ _).trans (teq hc39).2) k) ?_
    refine Go.st (S' := s₁.setTop (mkF m 40 A11 [(.int (0 : Int32))])) (fun t k => XS.iconst X0.here hx rfl (hb hby at_39) k) ?_
    obtain ⟨T40, h40, k40, X40, e40, E40, A40, B40, st40⟩ := newPE X0 hx hZ (hw _ (List.mem_of_getElem? (i := 0) rfl)) e0 (g := (mkF m 40 A11 [(.int (0 : Int32))])) rfl (hb hby at_40) rfl (by decide) (cap := 0) (by decide) (by decide) (by decide) (by decide) (ad := "[I") (by decide)
    obtain ⟨b40, gg40⟩ : ∃ z, z = h0.size := ⟨_, rfl⟩
    rw [← gg40] at A40 B40 st40
    have g_b40 : n0 ≤ b40 := Nat.le_trans Z0 (Nat.le_of_eq gg40.symm)
    have sz_b40 : h0.size ≤ b40 := Nat.le_trans (Keep.refl h0 []).1 (Nat.le_of_eq gg40.symm)
    have Z41 : n0 ≤ h40.size := Nat.le_trans Z0 E40.1
    have K41 : Keep h0 h40 [] := (Keep.refl h0 []).ext E40
    have V40 : Arv Z h40 b40 k40 .int (0 : Int32) [] (.int (0 : Int32)) := (Arv.new A40 (by decide)).pad (pad_rep [] (.int (0 : Int32)) 0)
    refine Go.st (S' := T40.setTop (mkF m 42 A11 [(.ref b40)])) st40 ?_
    let A42 : Array Slot := #[.val (.int p0), .val (.int p1), .val (.int p2), .val (.int p3), .val (.int p4), .val (.int v2), .val (.int v4), .val (.int v6), .val (.int v8), .val (.int v10), .val (.ref b40), .unset, .unset, .unset, .unset, .unset]
    refine Go.st (S' := T40.setTop (mkF m 44 A42 [])) (fun t k => XS.astore X40.here hx rfl (hb hby at_42) rfl rfl (l' := A42) rfl k) ?_
    refine Go.st (S' := T40.setTop (mkF m 110 A42 [])) (fun t k => XS.goto X40.here hx rfl (pc0 := 44) (pc' := 110) rfl (hb hby at_44) (by decide) (by decide) k) ?_
    have hu43 : v2 = (0 : Int32) := by
      refine Decidable.byContradiction fun hc44 => ?_
      exact ar_0 p0 v2 hv2 hc39 hc44
    obtain rfl : (0 : Int32) = v2 := hu43.symm
    obtain ⟨v45, hv45⟩ : ∃ z, z = (p0 &&& (3 : Int32)) := ⟨_, rfl⟩
    have hc46 : v45 = (0 : Int32) := hv45.trans hv2.symm
    let A47 : Array Slot := #[.val (.int p0), .val (.int p1), .val (.int p2), .val (.int p3), .val (.int p4), .val (.int (0 : Int32)), .val (.int v4), .val (.int v6), .val (.int v8), .val (.int v10), .val (.ref b40), .unset, .unset, .unset, .unset, .unset]
    refine Go.st (S' := T40.setTop (mkF m 112 A47 [(.ref b40)])) (fun t k => XS.aload X40.here hx rfl (hb hby at_110) rfl rfl k) ?_
    obtain ⟨r69, T69, L69, X69, hQ69, st69⟩ := own_callS (W := 0) X40 hx hZ e40 hown (y := (⟨"com/example/heaplens/heaplens/sharing/VarSet", "of", "([I)Lcom/example/heaplens/heaplens/sharing/VarSet;"⟩ : MethodName)) (hw _ (List.mem_of_getElem? (i := 1) rfl)) (hw _ (List.mem_of_getElem? (i := 2) rfl)) (hw _ (List.mem_of_getElem? (i := 3) rfl)) (hw _ (List.mem_of_getElem? (i := 4) rfl)) (by decide) (rm2 l Z a0 hw [] b40 k40 h40 n0 Z41 (V40)) (by decide) (by decide) (by decide) (by decide) (g := (mkF m 112 A47 [(.ref b40)])) rfl (by rw [hml]; rfl) (argsL := [(.ref b40)]) (rest := []) rfl (lenOf pd_1 rfl) rfl (by show 2 * 0 + _ ≤ _; exact Nat.le_of_eq rfl) (hb hby at_112)
    obtain ⟨b70, b71, k72, rfl, N69, K69_, sz_b70_, sz_b71_, f73, f74, f75, f76, hlt77⟩ := hQ69
    have N69_ := Fr.app N0 N69
    have g_b70 : n0 ≤ b70 := Nat.le_trans Z41 sz_b70_
    have sz_b70 : h0.size ≤ b70 := Nat.le_trans K41.1 sz_b70_
    have lt_b40_b70 : b40 < b70 := Nat.lt_of_lt_of_le (B40).lt sz_b70_
    have g_b71 : n0 ≤ b71 := Nat.le_trans Z41 sz_b71_
    have sz_b71 : h0.size ≤ b71 := Nat.le_trans K41.1 sz_b71_
    have lt_b40_b71 : b40 < b71 := Nat.lt_of_lt_of_le (B40).lt sz_b71_
    have Z78 : n0 ≤ T69.heap.size := Nat.le_trans Z41 K69_.1
    have K78 : Keep h0 T69.heap [] := K41.trans K69_ all0
    refine Go.st (S' := T69.setTop (mkF m 115 A47 [(.ref b71)])) st69 ?_
    let A79 : Array Slot := #[.val (.int p0), .val (.int p1), .val (.int p2), .val (.int p3), .val (.int p4), .val (.int (0 : Int32)), .val (.int v4), .val (.int v6), .val (.int v8), .val (.int v10), .val (.ref b40), .val (.ref b71), .unset, .unset, .unset, .unset]
    refine Go.st (S' := T69.setTop (mkF m 117 A79 [])) (fun t k => XS.astore X69.here hx rfl (hb hby at_115) rfl rfl (l' := A79) rfl k) ?_
    refine Go.st (S' := T69.setTop (mkF m 119 A79 [(.int (0 : Int32))])) (fun t k => XS.iload X69.here hx rfl (hb hby at_117) rfl k) ?_
    refine Go.st (S' := T69.setTop (mkF m 120 A79 [(.int (1 : Int32)), (.int (0 : Int32))])) (fun t k => XS.iconst X69.here hx rfl (hb hby at_119) k) ?_
    refine Go.st (S' := T69.setTop (mkF m 130 A79 [])) (fun t k => XS.icmpYes X69.here hx rfl (pc0 := 120) (pc' := 130) rfl (hb hby at_120) rfl (tlt (by decide : ((0 : Int32) < (1 : Int32)))).1 (by decide) (by decide) k) ?_
    refine Go.st (S' := T69.setTop (mkF m 132 A79 [(.int (0 : Int32))])) (fun t k => XS.iload X69.here hx rfl (hb hby at_130) rfl k) ?_
    refine Go.st (S' := T69.setTop (mkF m 133 A79 [(.int (2 : Int32)), (.int (0 : Int32))])) (fun t k => XS.iconst X69.here hx rfl (hb hby at_132) k) ?_
    refine Go.st (S' := T69.setTop (mkF m 143 A79 [])) (fun t k => XS.icmpYes X69.here hx rfl (pc0 := 133) (pc' := 143) rfl (hb hby at_133) rfl (tlt (by decide : ((0 : Int32) < (2 : Int32)))).1 (by decide) (by decide) k) ?_
    refine Go.st (S' := T69.setTop (mkF m 145 A79 [(.int (0 : Int32))])) (fun t k => XS.iload X69.here hx rfl (hb hby at_143) rfl k) ?_
    refine Go.st (S' := T69.setTop (mkF m 146 A79 [(.int (3 : Int32)), (.int (0 : Int32))])) (fun t k => XS.iconst X69.here hx rfl (hb hby at_145) k) ?_
    refine Go.st (S' := T69.setTop (mkF m 160 A79 [])) (fun t k => XS.icmpYes X69.here hx rfl (pc0 := 146) (pc' := 160) rfl (hb hby at_146) rfl (tlt (by decide : ((0 : Int32) < (3 : Int32)))).1 (by decide) (by decide) k) ?_
    refine Go.st (S' := T69.setTop (mkF m 161 A79 [(.int (0 : Int32))])) (fun t k => XS.iconst X69.here hx rfl (hb hby at_160) k) ?_
    let A80 : Array Slot := #[.val (.int p0), .val (.int p1), .val (.int p2), .val (.int p3), .val (.int p4), .val (.int (0 : Int32)), .val (.int v4), .val (.int v6), .val (.int v8), .val (.int v10), .val (.ref b40), .val (.ref b71), .val (.int (0 : Int32)), .unset, .unset, .unset]
    refine Go.st (S' := T69.setTop (mkF m 163 A80 [])) (fun t k => XS.istore X69.here hx rfl (hb hby at_161) rfl (l' := A80) rfl k) ?_
    refine Go.st (S' := T69.setTop (mkF m 165 A80 [(.int (0 : Int32))])) (fun t k => XS.iload X69.here hx rfl (hb hby at_163) rfl k) ?_
    refine Go.st (S' := T69.setTop (mkF m 168 A80 [])) (fun t k => XS.ifNo X69.here hx rfl (hb hby at_165) rfl ((if0 _ _).trans (teq (by decide : ((0 : Int32) = (0 : Int32)))).2) k) ?_
    refine Go.st (S' := T69.setTop (mkF m 169 A80 [(.int (0 : Int32))])) (fun t k => XS.iconst X69.here hx rfl (hb hby at_168) k) ?_
    let A81 : Array Slot := #[.val (.int p0), .val (.int p1), .val (.int p2), .val (.int p3), .val (.int p4), .val (.int (0 : Int32)), .val (.int v4), .val (.int v6), .val (.int v8), .val (.int v10), .val (.ref b40), .val (.ref b71), .val (.int (0 : Int32)), .val (.int (0 : Int32)), .unset, .unset]
    refine Go.st (S' := T69.setTop (mkF m 171 A81 [])) (fun t k => XS.istore X69.here hx rfl (hb hby at_169) rfl (l' := A81) rfl k) ?_
    refine Go.st (S' := T69.setTop (mkF m 172 A81 [(.int (-1 : Int32))])) (fun t k => XS.iconst X69.here hx rfl (hb hby at_171) k) ?_
    let A82 : Array Slot := #[.val (.int p0), .val (.int p1), .val (.int p2), .val (.int p3), .val (.int p4), .val (.int (0 : Int32)), .val (.int v4), .val (.int v6), .val (.int v8), .val (.int v10), .val (.ref b40), .val (.ref b71), .val (.int (0 : Int32)), .val (.int (0 : Int32)), .val (.int (-1 : Int32)), .unset]
    refine Go.st (S' := T69.setTop (mkF m 174 A82 [])) (fun t k => XS.istore X69.here hx rfl (hb hby at_172) rfl (l' := A82) rfl k) ?_
    refine Go.st (S' := T69.setTop (mkF m 175 A82 [(.int (-1 : Int32))])) (fun t k => XS.iconst X69.here hx rfl (hb hby at_174) k) ?_
    let A83 : Array Slot := #[.val (.int p0), .val (.int p1), .val (.int p2), .val (.int p3), .val (.int p4), .val (.int (0 : Int32)), .val (.int v4), .val (.int v6), .val (.int v8), .val (.int v10), .val (.ref b40), .val (.ref b71), .val (.int (0 : Int32)), .val (.int (0 : Int32)), .val (.int (-1 : Int32)), .val (.int (-1 : Int32))]
    refine Go.st (S' := T69.setTop (mkF m 177 A83 [])) (fun t k => XS.istore X69.here hx rfl (hb hby at_175) rfl (l' := A83) rfl k) ?_
    refine Go.st (S' := T69.setTop (mkF m 305 A83 [])) (fun t k => XS.goto X69.here hx rfl (pc0 := 177) (pc' := 305) rfl (hb hby at_177) (by decide) (by decide) k) ?_
    refine Go.st (S' := T69.setTop (mkF m 307 A83 [(.ref b71)])) (fun t k => XS.aload X69.here hx rfl (hb hby at_305) rfl rfl k) ?_
    refine Go.st (S' := T69.setTop (mkF m 309 A83 [(.int v10), (.ref b71)])) (fun t k => XS.iload X69.here hx rfl (hb hby at_307) rfl k) ?_
    have hi101 : (¬ (v10 < (0 : Int32))) := by
      intro hc102
      exact ar_3 p4 v10 hv10 hc102
    have hi103 : (¬ ((511 : Int32) < v10)) := by
      intro hc104
      exact ar_4 p4 v10 hv10 hi101 hc104
    obtain ⟨r105, T105, L105, X105, hQ105, st105⟩ := own_callV (W := 0) (a := b71) (C := "com/example/heaplens/heaplens/sharing/VarSet") X69 hx hZ rfl hown (y := (⟨"com/example/heaplens/heaplens/sharing/VarSet", "contains", "(I)Z"⟩ : MethodName)) (z := (⟨"com/example/heaplens/heaplens/sharing/VarSet", "contains", "(I)Z"⟩ : MethodName)) (hw _ (List.mem_of_getElem? (i := 16) rfl)) (hw _ (List.mem_of_getElem? (i := 17) rfl)) (notFace_of_selects (args := #[]) (mvT hZ (hw _ (List.mem_of_getElem? (i := 19) rfl)))) (hw _ (List.mem_of_getElem? (i := 19) rfl)) (hw _ (List.mem_of_getElem? (i := 18) rfl)) (hw _ (List.mem_of_getElem? (i := 3) rfl)) (hw _ (List.mem_of_getElem? (i := 20) rfl)) (by decide) (f75) (rm3 l Z a0 hw [] b71 v10 b70 k72 (0 : Int32) (0 : Int64) (0 : Int64) (0 : Int64) (0 : Int64) T69.heap n0 Z78 (hi101) (hi103) (f76) ((by decide : (¬ ((0 : Int32) < (0 : Int32))))) ((by decide : (¬ ((4 : Int32) < (0 : Int32))))) (f73)) (by decide) (by decide) (by decide) (by decide) (g := (mkF m 309 A83 [(.int v10), (.ref b71)])) rfl (by rw [hml]; rfl) (argsL := [(.int v10)]) (rest := []) rfl (lenOf pd_2 rfl) rfl (by show 2 * 0 + _ ≤ _; exact Nat.le_of_eq rfl) (hb hby at_309)
    obtain ⟨r110, v106, v107, v108, v109, hv106, hv107, hv108, hv109, hc111, rfl, N105, e105⟩ := hQ105
    have N105_ := Fr.app N69_ N105
    refine Go.st (S' := T105.setTop (mkF m 312 A83 [(.int r110)])) st105 ?_
    refine Go.st (S' := T105.setTop (mkF m 314 A83 [(.int (0 : Int32)), (.int r110)])) (fun t k => XS.iload X105.here hx rfl (hb hby at_312) rfl k) ?_
    have hu112 : r110 = (0 : Int32) := by
      rcases hc111 with ⟨x1, x2, -⟩ | ⟨x1, x2, -⟩ | ⟨-, x3⟩
      · exact absurd x1 x2
      · exact absurd x1 x2
      · exact x3
    obtain rfl : (0 : Int32) = r110 := hu112.symm
    refine Go.st (S' := T105.setTop (mkF m 317 A83 [])) (fun t k => XS.icmpNo X105.here hx rfl (hb hby at_314) rfl (teq (by decide : ((0 : Int32) = (0 : Int32)))).2 k) ?_
    refine Go.st (S' := T105.setTop (mkF m 319 A83 [(.ref b71)])) (fun t k => XS.aload X105.here hx rfl (hb hby at_317) rfl rfl k) ?_
    have iv174 : ((0 : Int32) < (0 : Int32) ∨ (0 : Int64) = (0 : Int64)) ∧ ((1 : Int32) < (0 : Int32) ∨ (0 : Int64) = (0 : Int64)) ∧ ((2 : Int32) < (0 : Int32) ∨ (0 : Int64) = (0 : Int64)) ∧ ((3 : Int32) < (0 : Int32) ∨ (0 : Int64) = (0 : Int64)) := ⟨(Or.inr rfl), (Or.inr rfl), (Or.inr rfl), (Or.inr rfl)⟩
    obtain ⟨r175, T175, L175, X175, hQ175, st175⟩ := own_callV (W := 0) (a := b71) (C := "com/example/heaplens/heaplens/sharing/VarSet") X105 hx hZ e105 hown (y := (⟨"com/example/heaplens/heaplens/sharing/VarSet", "size", "()I"⟩ : MethodName)) (z := (⟨"com/example/heaplens/heaplens/sharing/VarSet", "size", "()I"⟩ : MethodName)) (hw _ (List.mem_of_getElem? (i := 21) rfl)) (hw _ (List.mem_of_getElem? (i := 22) rfl)) (notFace_of_selects (args := #[]) (mvT hZ (hw _ (List.mem_of_getElem? (i := 24) rfl)))) (hw _ (List.mem_of_getElem? (i := 24) rfl)) (hw _ (List.mem_of_getElem? (i := 23) rfl)) (hw _ (List.mem_of_getElem? (i := 3) rfl)) (hw _ (List.mem_of_getElem? (i := 25) rfl)) (by decide) (f75) (rm4 l Z a0 hw [] b71 b70 k72 (0 : Int32) (0 : Int64) (0 : Int64) (0 : Int64) (0 : Int64) T69.heap n0 Z78 (f76) ((by decide : (¬ ((0 : Int32) < (0 : Int32))))) ((by decide : (¬ ((4 : Int32) < (0 : Int32))))) (f73) (iv174)) (by decide) (by decide) (by decide) (by decide) (g := (mkF m 319 A83 [(.ref b71)])) rfl (by rw [hml]; rfl) (argsL := []) (rest := []) rfl (lenOf pd_3 rfl) rfl (by show 2 * 0 + _ ≤ _; exact Nat.le_of_eq rfl) (hb hby at_319)
    obtain ⟨r176, hp177, rfl, N175, e175⟩ := hQ175
    have N175_ := Fr.app N105_ N175
    refine Go.st (S' := T175.setTop (mkF m 322 A83 [(.int r176)])) st175 ?_
    refine Go.st (S' := T175.setTop (mkF m 324 A83 [(.int (0 : Int32)), (.int r176)])) (fun t k => XS.iload X175.here hx rfl (hb hby at_322) rfl k) ?_
    have hu178 : r176 = (0 : Int32) := by
      exact hp177.trans (by decide +kernel)
    obtain rfl : (0 : Int32) = r176 := hu178.symm
    refine Go.st (S' := T175.setTop (mkF m 327 A83 [])) (fun t k => XS.icmpNo X175.here hx rfl (hb hby at_324) rfl (teq (by decide : ((0 : Int32) = (0 : Int32)))).2 k) ?_
    refine Go.st (S' := T175.setTop (mkF m 329 A83 [(.ref b71)])) (fun t k => XS.aload X175.here hx rfl (hb hby at_327) rfl rfl k) ?_
    have iv286 : ((0 : Int32) < (0 : Int32) ∨ (0 : Int64) = (0 : Int64)) ∧ ((1 : Int32) < (0 : Int32) ∨ (0 : Int64) = (0 : Int64)) ∧ ((2 : Int32) < (0 : Int32) ∨ (0 : Int64) = (0 : Int64)) ∧ ((3 : Int32) < (0 : Int32) ∨ (0 : Int64) = (0 : Int64)) := ⟨(Or.inr rfl), (Or.inr rfl), (Or.inr rfl), (Or.inr rfl)⟩
    obtain ⟨r287, T287, L287, X287, hQ287, st287⟩ := own_callV (W := 0) (a := b71) (C := "com/example/heaplens/heaplens/sharing/VarSet") X175 hx hZ e175 hown (y := (⟨"com/example/heaplens/heaplens/sharing/VarSet", "first", "()I"⟩ : MethodName)) (z := (⟨"com/example/heaplens/heaplens/sharing/VarSet", "first", "()I"⟩ : MethodName)) (hw _ (List.mem_of_getElem? (i := 26) rfl)) (hw _ (List.mem_of_getElem? (i := 27) rfl)) (notFace_of_selects (args := #[]) (mvT hZ (hw _ (List.mem_of_getElem? (i := 29) rfl)))) (hw _ (List.mem_of_getElem? (i := 29) rfl)) (hw _ (List.mem_of_getElem? (i := 28) rfl)) (hw _ (List.mem_of_getElem? (i := 3) rfl)) (hw _ (List.mem_of_getElem? (i := 30) rfl)) (by decide) (f75) (rm6 l Z a0 hw [] b71 b70 k72 (0 : Int32) (0 : Int64) (0 : Int64) (0 : Int64) (0 : Int64) T69.heap n0 Z78 (f75) (f76) ((by decide : (¬ ((0 : Int32) < (0 : Int32))))) ((by decide : (¬ ((4 : Int32) < (0 : Int32))))) (f73) (iv286)) (by decide) (by decide) (by decide) (by decide) (g := (mkF m 329 A83 [(.ref b71)])) rfl (by rw [hml]; rfl) (argsL := []) (rest := []) rfl (lenOf pd_3 rfl) rfl (by show 2 * 0 + _ ≤ _; exact Nat.le_of_eq rfl) (hb hby at_329)
    obtain ⟨r288, hp289, rfl, N287, e287⟩ := hQ287
    have N287_ := Fr.app N175_ N287
    refine Go.st (S' := T287.setTop (mkF m 332 A83 [(.int r288)])) st287 ?_
    refine Go.st (S' := T287.setTop (mkF m 334 A83 [(.int (-1 : Int32)), (.int r288)])) (fun t k => XS.iload X287.here hx rfl (hb hby at_332) rfl k) ?_
    have hu290 : r288 = (-1 : Int32) := by
      exact hp289.trans (by decide +kernel)
    obtain rfl : (-1 : Int32) = r288 := hu290.symm
    refine Go.st (S' := T287.setTop (mkF m 337 A83 [])) (fun t k => XS.icmpNo X287.here hx rfl (hb hby at_334) rfl (teq (by decide : ((-1 : Int32) = (-1 : Int32)))).2 k) ?_
    refine Go.st (S' := T287.setTop (mkF m 339 A83 [(.ref b71)])) (fun t k => XS.aload X287.here hx rfl (hb hby at_337) rfl rfl k) ?_
    obtain ⟨r316, T316, L316, X316, hQ316, st316⟩ := own_callV (W := 0) (a := b71) (C := "com/example/heaplens/heaplens/sharing/VarSet") X287 hx hZ e287 hown (y := (⟨"com/example/heaplens/heaplens/sharing/VarSet", "last", "()I"⟩ : MethodName)) (z := (⟨"com/example/heaplens/heaplens/sharing/VarSet", "last", "()I"⟩ : MethodName)) (hw _ (List.mem_of_getElem? (i := 36) rfl)) (hw _ (List.mem_of_getElem? (i := 37) rfl)) (notFace_of_selects (args := #[]) (mvT hZ (hw _ (List.mem_of_getElem? (i := 39) rfl)))) (hw _ (List.mem_of_getElem? (i := 39) rfl)) (hw _ (List.mem_of_getElem? (i := 38) rfl)) (hw _ (List.mem_of_getElem? (i := 3) rfl)) (hw _ (List.mem_of_getElem? (i := 40) rfl)) (by decide) (f75) (rm7 l Z a0 hw [] b71 b70 k72 (0 : Int32) (0 : Int64) (0 : Int64) (0 : Int64) (0 : Int64) T69.heap n0 Z78 (f76) ((by decide : (¬ ((0 : Int32) < (0 : Int32))))) ((by decide : (¬ ((4 : Int32) < (0 : Int32))))) (f73)) (by decide) (by decide) (by decide) (by decide) (g := (mkF m 339 A83 [(.ref b71)])) rfl (by rw [hml]; rfl) (argsL := []) (rest := []) rfl (lenOf pd_3 rfl) rfl (by show 2 * 0 + _ ≤ _; exact Nat.le_of_eq rfl) (hb hby at_339)
    obtain ⟨r323, v317, v318, v319, v320, v321, v322, hv317, hv318, hv319, hv320, hv321, hv322, hc324, rfl, N316, e316⟩ := hQ316
    have N316_ := Fr.app N287_ N316
    refine Go.st (S' := T316.setTop (mkF m 342 A83 [(.int r323)])) st316 ?_
    refine Go.st (S' := T316.setTop (mkF m 344 A83 [(.int (-1 : Int32)), (.int r323)])) (fun t k => XS.iload X316.here hx rfl (hb hby at_342) rfl k) ?_
    have hu325 : r323 = (-1 : Int32) := by
      rcases hc324 with ⟨-, x1⟩ | ⟨x1, -⟩
      · exact x1
      · exact absurd rfl x1
    obtain rfl : (-1 : Int32) = r323 := hu325.symm
    refine Go.st (S' := T316.setTop (mkF m 347 A83 [])) (fun t k => XS.icmpNo X316.here hx rfl (hb hby at_344) rfl (teq (by decide : ((-1 : Int32) = (-1 : Int32)))).2 k) ?_
    refine Go.st (S' := T316.setTop (mkF m 349 A83 [(.ref b71)])) (fun t k => XS.aload X316.here hx rfl (hb hby at_347) rfl rfl k) ?_
    obtain ⟨r330, T330, L330, X330, hQ330, st330⟩ := own_callV (W := 0) (a := b71) (C := "com/example/heaplens/heaplens/sharing/VarSet") X316 hx hZ e316 hown (y := (⟨"com/example/heaplens/heaplens/sharing/VarSet", "isEmpty", "()Z"⟩ : MethodName)) (z := (⟨"com/example/heaplens/heaplens/sharing/VarSet", "isEmpty", "()Z"⟩ : MethodName)) (hw _ (List.mem_of_getElem? (i := 41) rfl)) (hw _ (List.mem_of_getElem? (i := 42) rfl)) (notFace_of_selects (args := #[]) (mvT hZ (hw _ (List.mem_of_getElem? (i := 44) rfl)))) (hw _ (List.mem_of_getElem? (i := 44) rfl)) (hw _ (List.mem_of_getElem? (i := 43) rfl)) (hw _ (List.mem_of_getElem? (i := 3) rfl)) (hw _ (List.mem_of_getElem? (i := 45) rfl)) (by decide) (f75) (rm8 l Z a0 hw [] b71 b70 k72 (0 : Int32) (0 : Int64) (0 : Int64) (0 : Int64) (0 : Int64) T69.heap n0 Z78 (f76) ((by decide : (¬ ((0 : Int32) < (0 : Int32))))) ((by decide : (¬ ((4 : Int32) < (0 : Int32))))) (f73)) (by decide) (by decide) (by decide) (by decide) (g := (mkF m 349 A83 [(.ref b71)])) rfl (by rw [hml]; rfl) (argsL := []) (rest := []) rfl (lenOf pd_5 rfl) rfl (by show 2 * 0 + _ ≤ _; exact Nat.le_of_eq rfl) (hb hby at_349)
    obtain ⟨r331, hc332, rfl, N330, e330⟩ := hQ330
    have N330_ := Fr.app N316_ N330
    refine Go.st (S' := T330.setTop (mkF m 352 A83 [(.int r331)])) st330 ?_
    refine Go.st (S' := T330.setTop (mkF m 354 A83 [(.int (0 : Int32)), (.int r331)])) (fun t k => XS.iload X330.here hx rfl (hb hby at_352) rfl k) ?_
    refine Go.st (S' := T330.setTop (mkF m 357 A83 [(.int r331)])) (fun t k => XS.ifNo X330.here hx rfl (hb hby at_354) rfl ((if0 _ _).trans (teq (by decide : ((0 : Int32) = (0 : Int32)))).2) k) ?_
    refine Go.st (S' := T330.setTop (mkF m 358 A83 [(.int (1 : Int32)), (.int r331)])) (fun t k => XS.iconst X330.here hx rfl (hb hby at_357) k) ?_
    refine Go.st (S' := T330.setTop (mkF m 362 A83 [(.int (1 : Int32)), (.int r331)])) (fun t k => XS.goto X330.here hx rfl (pc0 := 358) (pc' := 362) rfl (hb hby at_358) (by decide) (by decide) k) ?_
    have hu333 : r331 = (1 : Int32) := by
      rcases hc332 with ⟨-, x1⟩ | ⟨x1, -⟩
      · exact x1
      · exact absurd rfl x1
    obtain rfl : (1 : Int32) = r331 := hu333.symm
    refine Go.st (S' := T330.setTop (mkF m 365 A83 [])) (fun t k => XS.icmpNo X330.here hx rfl (hb hby at_362) rfl (teq (by decide : ((1 : Int32) = (1 : Int32)))).2 k) ?_
    refine Go.st (S' := T330.setTop (mkF m 366 A83 [(.int (1 : Int32))])) (fun t k => XS.iconst X330.here hx rfl (hb hby at_365) k) ?_
    refine Go.st (S' := T330.setTop (mkF m 370 A83 [(.int (1 : Int32))])) (fun t k => XS.goto X330.here hx rfl (pc0 := 366) (pc' := 370) rfl (hb hby at_366) (by decide) (by decide) k) ?_
    exact Go.ret X330 (v := some (.int (1 : Int32))) (fun h => by rw [Bd.returns] at h; cases h) Bd.notSynchronized (fun fs hr => retN X330 hx (t := .boolean) Bd.returns (by simp) (hb hby at_370) hr) (by decide) (by decide) ⟨rfl, N330_⟩
  · refine Go.st (S' := s₁.setTop (mkF m 47 A11 [])) (fun t k => XS.ifYes X0.here hx rfl (pc0 := 36) (pc' := 47) rfl (hb hby at_36) rfl ((if0 _ _).trans (feq hc39).2) (by decide) (by decide) k) ?_
    refine Go.st (S' := s₁.setTop (mkF m 49 A11 [(.int v2)])) (fun t k => XS.iload X0.here hx rfl (hb hby at_47) rfl k) ?_
    refine Go.st (S' := s₁.setTop (mkF m 50 A11 [(.int (1 : Int32)), (.int v2)])) (fun t k => XS.iconst X0.here hx rfl (hb hby at_49) k) ?_
    by_cases hc357 : (v2 = (1 : Int32))
    · refine Go.st (S' := s₁.setTop (mkF m 53 A11 [])) (fun t k => XS.icmpNo X0.here hx rfl (hb hby at_50) rfl (teq hc357).2 k) ?_
      refine Go.st (S' := s₁.setTop (mkF m 54 A11 [(.int (1 : Int32))])) (fun t k => XS.iconst X0.here hx rfl (hb hby at_53) k) ?_
      obtain ⟨T358, h358, k358, X358, e358, E358, A358, B358, st358⟩ := newPE X0 hx hZ (hw _ (List.mem_of_getElem? (i := 0) rfl)) e0 (g := (mkF m 54 A11 [(.int (1 : Int32))])) rfl (hb hby at_54) rfl (by decide) (cap := 1) (by decide) (by decide) (by decide) (by decide) (ad := "[I") (by decide)
      obtain ⟨b358, gg358⟩ : ∃ z, z = h0.size := ⟨_, rfl⟩
      rw [← gg358] at A358 B358 st358
      have g_b358 : n0 ≤ b358 := Nat.le_trans Z0 (Nat.le_of_eq gg358.symm)
      have sz_b358 : h0.size ≤ b358 := Nat.le_trans (Keep.refl h0 []).1 (Nat.le_of_eq gg358.symm)
      have Z359 : n0 ≤ h358.size := Nat.le_trans Z0 E358.1
      have K359 : Keep h0 h358 [] := (Keep.refl h0 []).ext E358
      have V358 : Arv Z h358 b358 k358 .int (1 : Int32) [(.int (0 : Int32))] (.int (0 : Int32)) := (Arv.new A358 (by decide)).pad (pad_rep [] (.int (0 : Int32)) 1)
      refine Go.st (S' := T358.setTop (mkF m 56 A11 [(.ref b358)])) st358 ?_
      refine Go.st (S' := T358.setTop (mkF m 57 A11 [(.ref b358), (.ref b358)])) (fun t k => XS.dup X358.here hx rfl (hb hby at_56) rfl rfl k) ?_
      refine Go.st (S' := T358.setTop (mkF m 58 A11 [(.int (0 : Int32)), (.ref b358), (.ref b358)])) (fun t k => XS.iconst X358.here hx rfl (hb hby at_57) k) ?_
      refine Go.st (S' := T358.setTop (mkF m 60 A11 [(.int v4), (.int (0 : Int32)), (.ref b358), (.ref b358)])) (fun t k => XS.iload X358.here hx rfl (hb hby at_58) rfl k) ?_
      obtain ⟨cl360, Ar360, q360, S360, N360_, H360, G360⟩ := id V358
      have hin360 : ¬ ((0 : Int32) < 0 ∨ cl360.slots.size ≤ ((0 : Int32)).toNatClampNeg) := inb_of S360 ⟨by decide, by decide⟩
      obtain ⟨T360, h360, X360, e360, W360, st360⟩ := stI X358 hx hZ e358 Ar360 (j := (0 : Int32)) hin360 (g := (mkF m 60 A11 [(.int v4), (.int (0 : Int32)), (.ref b358), (.ref b358)])) rfl rfl (hb hby at_60)
      have V360 : Arv Z h360 b358 k358 .int (1 : Int32) [(.int v4)] (.int (0 : Int32)) := Arv.set Ar360 q360 S360 N360_ H360 G360 rfl W360 0 rfl (Nat.le_of_ble_eq_true rfl)
      have N360 := Fr.snoc X360 N0 g_b358
      have Z361 : n0 ≤ h360.size := Nat.le_trans Z359 (Keep.of_wr W360).1
      have K361 : Keep h0 h360 [] := K359.wr W360 (Or.inr sz_b358)
      refine Go.st (S' := T360.setTop (mkF m 61 A11 [(.ref b358)])) st360 ?_
      let A362 : Array Slot := #[.val (.int p0), .val (.int p1), .val (.int p2), .val (.int p3), .val (.int p4), .val (.int v2), .val (.int v4), .val (.int v6), .val (.int v8), .val (.int v10), .val (.ref b358), .unset, .unset, .unset, .unset, .unset]
      refine Go.st (S' := T360.setTop (mkF m 63 A362 [])) (fun t k => XS.astore X360.here hx rfl (hb hby at_61) rfl rfl (l' := A362) rfl k) ?_
      refine Go.st (S' := T360.setTop (mkF m 110 A362 [])) (fun t k => XS.goto X360.here hx rfl (pc0 := 63) (pc' := 110) rfl (hb hby at_63) (by decide) (by decide) k) ?_
      have hu363 : v2 = (1 : Int32) := by
        refine Decidable.byContradiction fun hc364 => ?_
        exact ar_24 p0 v2 hv2 hc39 hc357 hc364
      obtain rfl : (1 : Int32) = v2 := hu363.symm
      obtain ⟨v365, hv365⟩ : ∃ z, z = (p0 &&& (3 : Int32)) := ⟨_, rfl⟩
      have hc366 : v365 = (1 : Int32) := hv365.trans hv2.symm
      let A367 : Array Slot := #[.val (.int p0), .val (.int p1), .val (.int p2), .val (.int p3), .val (.int p4), .val (.int (1 : Int32)), .val (.int v4), .val (.int v6), .val (.int v8), .val (.int v10), .val (.ref b358), .unset, .unset, .unset, .unset, .unset]
      refine Go.st (S' := T360.setTop (mkF m 112 A367 [(.ref b358)])) (fun t k => XS.aload X360.here hx rfl (hb hby at_110) rfl rfl k) ?_
      have hi452 : (¬ (v4 < (0 : Int32))) := by
        intro hc453
        exact ar_35 p1 v4 hv4 hc453
      have hi454 : (¬ ((255 : Int32) < v4)) := by
        intro hc455
        exact ar_36 p1 v4 hv4 hi452 hc455
      obtain ⟨r456, T456, L456, X456, hQ456, st456⟩ := own_callS (W := 0) X360 hx hZ e360 hown (y := (⟨"com/example/heaplens/heaplens/sharing/VarSet", "of", "([I)Lcom/example/heaplens/heaplens/sharing/VarSet;"⟩ : MethodName)) (hw _ (List.mem_of_getElem? (i := 1) rfl)) (hw _ (List.mem_of_getElem? (i := 2) rfl)) (hw _ (List.mem_of_getElem? (i := 3) rfl)) (hw _ (List.mem_of_getElem? (i := 4) rfl)) (by decide) (rm11 l Z a0 hw [] b358 k358 v4 h360 n0 Z361 (hi452) (hi454) (V360)) (by decide) (by decide) (by decide) (by decide) (g := (mkF m 112 A367 [(.ref b358)])) rfl (by rw [hml]; rfl) (argsL := [(.ref b358)]) (rest := []) rfl (lenOf pd_1 rfl) rfl (by show 2 * 0 + _ ≤ _; exact Nat.le_of_eq rfl) (hb hby at_112)
      obtain ⟨v457, v458, v459, v460, v461, v462, v463, b464, b465, b466, k467, k468, hv457, hv458, hv459, hv460, hv461, hv462, hv463, hc469, hc470, hc471, hc472, hc473, hc474, hc475, hc476, hc477, rfl, N456, K456_, sz_b464_, sz_b465_, sz_b466_, f478, f479, f480, f481, f482, f483, hlt484, hlt485, hlt486⟩ := hQ456
      have N456_ := Fr.app N360 N456
      have g_b464 : n0 ≤ b464 := Nat.le_trans Z361 sz_b464_
      have sz_b464 : h0.size ≤ b464 := Nat.le_trans K361.1 sz_b464_
      have f487 := ((B358).wr W360)
      have lt_b358_b464 : b358 < b464 := Nat.lt_of_lt_of_le (f487).lt sz_b464_
      have g_b465 : n0 ≤ b465 := Nat.le_trans Z361 sz_b465_
      have sz_b465 : h0.size ≤ b465 := Nat.le_trans K361.1 sz_b465_
      have lt_b358_b465 : b358 < b465 := Nat.lt_of_lt_of_le (f487).lt sz_b465_
      have g_b466 : n0 ≤ b466 := Nat.le_trans Z361 sz_b466_
      have sz_b466 : h0.size ≤ b466 := Nat.le_trans K361.1 sz_b466_
      have lt_b358_b466 : b358 < b466 := Nat.lt_of_lt_of_le (f487).lt sz_b466_
      have Z488 : n0 ≤ T456.heap.size := Nat.le_trans Z361 K456_.1
      have K488 : Keep h0 T456.heap [] := K361.trans K456_ all0
      refine Go.st (S' := T456.setTop (mkF m 115 A367 [(.ref b466)])) st456 ?_
      have hR490 : own_R v4 := by rw [hv4]; exact own_R255 _
      have hR491 : own_R v4 := by rw [hv4]; exact own_R255 _
      have hR492 : own_R v4 := by rw [hv4]; exact own_R255 _
      have hW489 : own_W v4 v4 v4 v460 v461 v462 v463 v458 := ⟨⟨hR490, hR491, hR492⟩, ⟨(by rw [hv460, hv457, hv459]; exact own_w1 _ _), (by rw [hv461, hv457, hv459]; exact own_w1 _ _), (by rw [hv462, hv457, hv459]; exact own_w1 _ _), (by rw [hv463, hv457, hv459]; exact own_w1 _ _)⟩, ⟨(by rw [← hv457]; exact hc477), (by rw [← hv457]; exact hc477), (by rw [← hv457]; exact hc477)⟩, (Or.inl (by rw [← hv457]; exact hv458))⟩
      let A493 : Array Slot := #[.val (.int p0), .val (.int p1), .val (.int p2), .val (.int p3), .val (.int p4), .val (.int (1 : Int32)), .val (.int v4), .val (.int v6), .val (.int v8), .val (.int v10), .val (.ref b358), .val (.ref b466), .unset, .unset, .unset, .unset]
      refine Go.st (S' := T456.setTop (mkF m 117 A493 [])) (fun t k => XS.astore X456.here hx rfl (hb hby at_115) rfl rfl (l' := A493) rfl k) ?_
      refine Go.st (S' := T456.setTop (mkF m 119 A493 [(.int (1 : Int32))])) (fun t k => XS.iload X456.here hx rfl (hb hby at_117) rfl k) ?_
      refine Go.st (S' := T456.setTop (mkF m 120 A493 [(.int (1 : Int32)), (.int (1 : Int32))])) (fun t k => XS.iconst X456.here hx rfl (hb hby at_119) k) ?_
      refine Go.st (S' := T456.setTop (mkF m 123 A493 [])) (fun t k => XS.icmpNo X456.here hx rfl (hb hby at_120) rfl (flt (by decide : (¬ ((1 : Int32) < (1 : Int32))))).1 k) ?_
      refine Go.st (S' := T456.setTop (mkF m 125 A493 [(.int v10)])) (fun t k => XS.iload X456.here hx rfl (hb hby at_123) rfl k) ?_
      refine Go.st (S' := T456.setTop (mkF m 127 A493 [(.int v4), (.int v10)])) (fun t k => XS.iload X456.here hx rfl (hb hby at_125) rfl k) ?_
      refine Go.join (α := Int32) (fun r => (((v10 = v4) ∧ (r = (1 : Int32))) ∨ ((¬ (v10 = v4)) ∧ (r = (0 : Int32))))) (fun r => T456.setTop (mkF m 161 A493 [(.int r)])) ?_ ?_
      · intro r496 hc497
        let A498 : Array Slot := #[.val (.int p0), .val (.int p1), .val (.int p2), .val (.int p3), .val (.int p4), .val (.int (1 : Int32)), .val (.int v4), .val (.int v6), .val (.int v8), .val (.int v10), .val (.ref b358), .val (.ref b466), .val (.int r496), .unset, .unset, .unset]
        refine Go.st (S' := T456.setTop (mkF m 163 A498 [])) (fun t k => XS.istore X456.here hx rfl (hb hby at_161) rfl (l' := A498) rfl k) ?_
        refine Go.st (S' := T456.setTop (mkF m 165 A498 [(.int (1 : Int32))])) (fun t k => XS.iload X456.here hx rfl (hb hby at_163) rfl k) ?_
        refine Go.st (S' := T456.setTop (mkF m 180 A498 [])) (fun t k => XS.ifYes X456.here hx rfl (pc0 := 165) (pc' := 180) rfl (hb hby at_165) rfl ((if0 _ _).trans (feq (by decide : (¬ ((1 : Int32) = (0 : Int32))))).2) (by decide) (by decide) k) ?_
        refine Go.st (S' := T456.setTop (mkF m 182 A498 [(.int (1 : Int32))])) (fun t k => XS.iload X456.here hx rfl (hb hby at_180) rfl k) ?_
        refine Go.st (S' := T456.setTop (mkF m 183 A498 [(.int (1 : Int32)), (.int (1 : Int32))])) (fun t k => XS.iconst X456.here hx rfl (hb hby at_182) k) ?_
        refine Go.st (S' := T456.setTop (mkF m 186 A498 [])) (fun t k => XS.icmpNo X456.here hx rfl (hb hby at_183) rfl (teq (by decide : ((1 : Int32) = (1 : Int32)))).2 k) ?_
        refine Go.st (S' := T456.setTop (mkF m 187 A498 [(.int (1 : Int32))])) (fun t k => XS.iconst X456.here hx rfl (hb hby at_186) k) ?_
        let A499 : Array Slot := #[.val (.int p0), .val (.int p1), .val (.int p2), .val (.int p3), .val (.int p4), .val (.int (1 : Int32)), .val (.int v4), .val (.int v6), .val (.int v8), .val (.int v10), .val (.ref b358), .val (.ref b466), .val (.int r496), .val (.int (1 : Int32)), .unset, .unset]
        refine Go.st (S' := T456.setTop (mkF m 189 A499 [])) (fun t k => XS.istore X456.here hx rfl (hb hby at_187) rfl (l' := A499) rfl k) ?_
        refine Go.st (S' := T456.setTop (mkF m 191 A499 [(.int v4)])) (fun t k => XS.iload X456.here hx rfl (hb hby at_189) rfl k) ?_
        let A500 : Array Slot := #[.val (.int p0), .val (.int p1), .val (.int p2), .val (.int p3), .val (.int p4), .val (.int (1 : Int32)), .val (.int v4), .val (.int v6), .val (.int v8), .val (.int v10), .val (.ref b358), .val (.ref b466), .val (.int r496), .val (.int (1 : Int32)), .val (.int v4), .unset]
        refine Go.st (S' := T456.setTop (mkF m 193 A500 [])) (fun t k => XS.istore X456.here hx rfl (hb hby at_191) rfl (l' := A500) rfl k) ?_
        refine Go.st (S' := T456.setTop (mkF m 195 A500 [(.int v4)])) (fun t k => XS.iload X456.here hx rfl (hb hby at_193) rfl k) ?_
        let A501 : Array Slot := #[.val (.int p0), .val (.int p1), .val (.int p2), .val (.int p3), .val (.int p4), .val (.int (1 : Int32)), .val (.int v4), .val (.int v6), .val (.int v8), .val (.int v10), .val (.ref b358), .val (.ref b466), .val (.int r496), .val (.int (1 : Int32)), .val (.int v4), .val (.int v4)]
        refine Go.st (S' := T456.setTop (mkF m 197 A501 [])) (fun t k => XS.istore X456.here hx rfl (hb hby at_195) rfl (l' := A501) rfl k) ?_
        refine Go.st (S' := T456.setTop (mkF m 305 A501 [])) (fun t k => XS.goto X456.here hx rfl (pc0 := 197) (pc' := 305) rfl (hb hby at_197) (by decide) (by decide) k) ?_
        refine Go.st (S' := T456.setTop (mkF m 307 A501 [(.ref b466)])) (fun t k => XS.aload X456.here hx rfl (hb hby at_305) rfl rfl k) ?_
        refine Go.st (S' := T456.setTop (mkF m 309 A501 [(.int v10), (.ref b466)])) (fun t k => XS.iload X456.here hx rfl (hb hby at_307) rfl k) ?_
        have hi502 : (¬ (v10 < (0 : Int32))) := by
          intro hc503
          exact ar_37 p4 v10 p1 v4 r496 hv10 hv4 hc497 hc503
        have hi504 : (¬ ((511 : Int32) < v10)) := by
          intro hc505
          exact ar_38 p4 v10 p1 v4 r496 hv10 hv4 hc497 hi502 hc505
        have hi506 : (¬ (v458 < (0 : Int32))) := by
          intro hc507
          exact ar_39 p1 v4 v457 v458 hv4 hv457 hv458 hi452 hi454 hc469 hc470 hc471 hc472 hc474 hc475 hc476 hc477 hc507
        obtain ⟨r508, T508, L508, X508, hQ508, st508⟩ := own_callV (W := 0) (a := b466) (C := "com/example/heaplens/heaplens/sharing/VarSet") X456 hx hZ rfl hown (y := (⟨"com/example/heaplens/heaplens/sharing/VarSet", "contains", "(I)Z"⟩ : MethodName)) (z := (⟨"com/example/heaplens/heaplens/sharing/VarSet", "contains", "(I)Z"⟩ : MethodName)) (hw _ (List.mem_of_getElem? (i := 16) rfl)) (hw _ (List.mem_of_getElem? (i := 17) rfl)) (notFace_of_selects (args := #[]) (mvT hZ (hw _ (List.mem_of_getElem? (i := 19) rfl)))) (hw _ (List.mem_of_getElem? (i := 19) rfl)) (hw _ (List.mem_of_getElem? (i := 18) rfl)) (hw _ (List.mem_of_getElem? (i := 3) rfl)) (hw _ (List.mem_of_getElem? (i := 20) rfl)) (by decide) (f482) (rm3 l Z a0 hw [] b466 v10 b465 k468 v458 v460 v461 v462 v463 T456.heap n0 Z488 (hi502) (hi504) (f483) (hi506) (hc471) (f480)) (by decide) (by decide) (by decide) (by decide) (g := (mkF m 309 A501 [(.int v10), (.ref b466)])) rfl (by rw [hml]; rfl) (argsL := [(.int v10)]) (rest := []) rfl (lenOf pd_2 rfl) rfl (by show 2 * 0 + _ ≤ _; exact Nat.le_of_eq rfl) (hb hby at_309)
        obtain ⟨r513, v509, v510, v511, v512, hv509, hv510, hv511, hv512, hc514, rfl, N508, e508⟩ := hQ508
        have N508_ := Fr.app N456_ N508
        refine Go.st (S' := T508.setTop (mkF m 312 A501 [(.int r513)])) st508 ?_
        refine Go.st (S' := T508.setTop (mkF m 314 A501 [(.int r496), (.int r513)])) (fun t k => XS.iload X508.here hx rfl (hb hby at_312) rfl k) ?_
        have hu515 : r513 = r496 := by
          rw [own_ct hW489 (by rw [hv10]; exact (own_P511 _).1) (by rw [hv10]; exact (own_P511 _).2) hv509 hv510 hv511 hv512 hc514]
          rcases hc497 with ⟨y0, y1⟩ | ⟨y0, y1⟩
          · rw [if_pos (Or.inl y0)]; exact y1.symm
          · rw [if_neg (fun o => o.elim y0 (fun o => o.elim y0 y0))]; exact y1.symm
        obtain rfl : r513 = r496 := hu515
        let A516 : Array Slot := #[.val (.int p0), .val (.int p1), .val (.int p2), .val (.int p3), .val (.int p4), .val (.int (1 : Int32)), .val (.int v4), .val (.int v6), .val (.int v8), .val (.int v10), .val (.ref b358), .val (.ref b466), .val (.int r513), .val (.int (1 : Int32)), .val (.int v4), .val (.int v4)]
        refine Go.st (S' := T508.setTop (mkF m 317 A516 [])) (fun t k => XS.icmpNo X508.here hx rfl (hb hby at_314) rfl (teq (rfl : r513 = r513)).2 k) ?_
        refine Go.st (S' := T508.setTop (mkF m 319 A516 [(.ref b466)])) (fun t k => XS.aload X508.here hx rfl (hb hby at_317) rfl rfl k) ?_
        have iv517 : ((0 : Int32) < v458 ∨ v460 = (0 : Int64)) ∧ ((1 : Int32) < v458 ∨ v461 = (0 : Int64)) ∧ ((2 : Int32) < v458 ∨ v462 = (0 : Int64)) ∧ ((3 : Int32) < v458 ∨ v463 = (0 : Int64)) := ⟨(own_inv hc477 (Or.inr rfl) hv460), (own_inv hc477 (Or.inr rfl) hv461), (own_inv hc477 (Or.inr rfl) hv462), (own_inv hc477 (Or.inr rfl) hv463)⟩
        obtain ⟨r518, T518, L518, X518, hQ518, st518⟩ := own_callV (W := 0) (a := b466) (C := "com/example/heaplens/heaplens/sharing/VarSet") X508 hx hZ e508 hown (y := (⟨"com/example/heaplens/heaplens/sharing/VarSet", "size", "()I"⟩ : MethodName)) (z := (⟨"com/example/heaplens/heaplens/sharing/VarSet", "size", "()I"⟩ : MethodName)) (hw _ (List.mem_of_getElem? (i := 21) rfl)) (hw _ (List.mem_of_getElem? (i := 22) rfl)) (notFace_of_selects (args := #[]) (mvT hZ (hw _ (List.mem_of_getElem? (i := 24) rfl)))) (hw _ (List.mem_of_getElem? (i := 24) rfl)) (hw _ (List.mem_of_getElem? (i := 23) rfl)) (hw _ (List.mem_of_getElem? (i := 3) rfl)) (hw _ (List.mem_of_getElem? (i := 25) rfl)) (by decide) (f482) (rm4 l Z a0 hw [] b466 b465 k468 v458 v460 v461 v462 v463 T456.heap n0 Z488 (f483) (hi506) (hc471) (f480) (iv517)) (by decide) (by decide) (by decide) (by decide) (g := (mkF m 319 A516 [(.ref b466)])) rfl (by rw [hml]; rfl) (argsL := []) (rest := []) rfl (lenOf pd_3 rfl) rfl (by show 2 * 0 + _ ≤ _; exact Nat.le_of_eq rfl) (hb hby at_319)
        obtain ⟨r519, hp520, rfl, N518, e518⟩ := hQ518
        have N518_ := Fr.app N508_ N518
        refine Go.st (S' := T518.setTop (mkF m 322 A516 [(.int r519)])) st518 ?_
        refine Go.st (S' := T518.setTop (mkF m 324 A516 [(.int (1 : Int32)), (.int r519)])) (fun t k => XS.iload X518.here hx rfl (hb hby at_322) rfl k) ?_
        have hu521 : r519 = (1 : Int32) := by
          rw [hp520, own_szL hW489]
          rw [if_pos rfl, if_pos (Or.inl rfl)]
          rfl
        obtain rfl : (1 : Int32) = r519 := hu521.symm
        refine Go.st (S' := T518.setTop (mkF m 327 A516 [])) (fun t k => XS.icmpNo X518.here hx rfl (hb hby at_324) rfl (teq (by decide : ((1 : Int32) = (1 : Int32)))).2 k) ?_
        refine Go.st (S' := T518.setTop (mkF m 329 A516 [(.ref b466)])) (fun t k => XS.aload X518.here hx rfl (hb hby at_327) rfl rfl k) ?_
        have iv522 : ((0 : Int32) < v458 ∨ v460 = (0 : Int64)) ∧ ((1 : Int32) < v458 ∨ v461 = (0 : Int64)) ∧ ((2 : Int32) < v458 ∨ v462 = (0 : Int64)) ∧ ((3 : Int32) < v458 ∨ v463 = (0 : Int64)) := ⟨(own_inv hc477 (Or.inr rfl) hv460), (own_inv hc477 (Or.inr rfl) hv461), (own_inv hc477 (Or.inr rfl) hv462), (own_inv hc477 (Or.inr rfl) hv463)⟩
        obtain ⟨r523, T523, L523, X523, hQ523, st523⟩ := own_callV (W := 0) (a := b466) (C := "com/example/heaplens/heaplens/sharing/VarSet") X518 hx hZ e518 hown (y := (⟨"com/example/heaplens/heaplens/sharing/VarSet", "first", "()I"⟩ : MethodName)) (z := (⟨"com/example/heaplens/heaplens/sharing/VarSet", "first", "()I"⟩ : MethodName)) (hw _ (List.mem_of_getElem? (i := 26) rfl)) (hw _ (List.mem_of_getElem? (i := 27) rfl)) (notFace_of_selects (args := #[]) (mvT hZ (hw _ (List.mem_of_getElem? (i := 29) rfl)))) (hw _ (List.mem_of_getElem? (i := 29) rfl)) (hw _ (List.mem_of_getElem? (i := 28) rfl)) (hw _ (List.mem_of_getElem? (i := 3) rfl)) (hw _ (List.mem_of_getElem? (i := 30) rfl)) (by decide) (f482) (rm6 l Z a0 hw [] b466 b465 k468 v458 v460 v461 v462 v463 T456.heap n0 Z488 (f482) (f483) (hi506) (hc471) (f480) (iv522)) (by decide) (by decide) (by decide) (by decide) (g := (mkF m 329 A516 [(.ref b466)])) rfl (by rw [hml]; rfl) (argsL := []) (rest := []) rfl (lenOf pd_3 rfl) rfl (by show 2 * 0 + _ ≤ _; exact Nat.le_of_eq rfl) (hb hby at_329)
        obtain ⟨r524, hp525, rfl, N523, e523⟩ := hQ523
        have N523_ := Fr.app N518_ N523
        refine Go.st (S' := T523.setTop (mkF m 332 A516 [(.int r524)])) st523 ?_
        refine Go.st (S' := T523.setTop (mkF m 334 A516 [(.int v4), (.int r524)])) (fun t k => XS.iload X523.here hx rfl (hb hby at_332) rfl k) ?_
        have hu526 : r524 = v4 := by
          rw [hp525, own_fiL hW489]
          rw [own_min_self, own_min_self]
        obtain rfl : v4 = r524 := hu526.symm
        refine Go.st (S' := T523.setTop (mkF m 337 A516 [])) (fun t k => XS.icmpNo X523.here hx rfl (hb hby at_334) rfl (teq (rfl : v4 = v4)).2 k) ?_
        refine Go.st (S' := T523.setTop (mkF m 339 A516 [(.ref b466)])) (fun t k => XS.aload X523.here hx rfl (hb hby at_337) rfl rfl k) ?_
        obtain ⟨r527, T527, L527, X527, hQ527, st527⟩ := own_callV (W := 0) (a := b466) (C := "com/example/heaplens/heaplens/sharing/VarSet") X523 hx hZ e523 hown (y := (⟨"com/example/heaplens/heaplens/sharing/VarSet", "last", "()I"⟩ : MethodName)) (z := (⟨"com/example/heaplens/heaplens/sharing/VarSet", "last", "()I"⟩ : MethodName)) (hw _ (List.mem_of_getElem? (i := 36) rfl)) (hw _ (List.mem_of_getElem? (i := 37) rfl)) (notFace_of_selects (args := #[]) (mvT hZ (hw _ (List.mem_of_getElem? (i := 39) rfl)))) (hw _ (List.mem_of_getElem? (i := 39) rfl)) (hw _ (List.mem_of_getElem? (i := 38) rfl)) (hw _ (List.mem_of_getElem? (i := 3) rfl)) (hw _ (List.mem_of_getElem? (i := 40) rfl)) (by decide) (f482) (rm7 l Z a0 hw [] b466 b465 k468 v458 v460 v461 v462 v463 T456.heap n0 Z488 (f483) (hi506) (hc471) (f480)) (by decide) (by decide) (by decide) (by decide) (g := (mkF m 339 A516 [(.ref b466)])) rfl (by rw [hml]; rfl) (argsL := []) (rest := []) rfl (lenOf pd_3 rfl) rfl (by show 2 * 0 + _ ≤ _; exact Nat.le_of_eq rfl) (hb hby at_339)
        obtain ⟨r534, v528, v529, v530, v531, v532, v533, hv528, hv529, hv530, hv531, hv532, hv533, hc535, rfl, N527, e527⟩ := hQ527
        have N527_ := Fr.app N523_ N527
        refine Go.st (S' := T527.setTop (mkF m 342 A516 [(.int r534)])) st527 ?_
        refine Go.st (S' := T527.setTop (mkF m 344 A516 [(.int v4), (.int r534)])) (fun t k => XS.iload X527.here hx rfl (hb hby at_342) rfl k) ?_
        have hu536 : r534 = v4 := by
          rw [own_laL hW489 hv528 hv529 hv530 hv531 hv532 hv533 hc535]
          rw [own_max_self, own_max_self]
        obtain rfl : v4 = r534 := hu536.symm
        refine Go.st (S' := T527.setTop (mkF m 347 A516 [])) (fun t k => XS.icmpNo X527.here hx rfl (hb hby at_344) rfl (teq (rfl : v4 = v4)).2 k) ?_
        refine Go.st (S' := T527.setTop (mkF m 349 A516 [(.ref b466)])) (fun t k => XS.aload X527.here hx rfl (hb hby at_347) rfl rfl k) ?_
        obtain ⟨r537, T537, L537, X537, hQ537, st537⟩ := own_callV (W := 0) (a := b466) (C := "com/example/heaplens/heaplens/sharing/VarSet") X527 hx hZ e527 hown (y := (⟨"com/example/heaplens/heaplens/sharing/VarSet", "isEmpty", "()Z"⟩ : MethodName)) (z := (⟨"com/example/heaplens/heaplens/sharing/VarSet", "isEmpty", "()Z"⟩ : MethodName)) (hw _ (List.mem_of_getElem? (i := 41) rfl)) (hw _ (List.mem_of_getElem? (i := 42) rfl)) (notFace_of_selects (args := #[]) (mvT hZ (hw _ (List.mem_of_getElem? (i := 44) rfl)))) (hw _ (List.mem_of_getElem? (i := 44) rfl)) (hw _ (List.mem_of_getElem? (i := 43) rfl)) (hw _ (List.mem_of_getElem? (i := 3) rfl)) (hw _ (List.mem_of_getElem? (i := 45) rfl)) (by decide) (f482) (rm8 l Z a0 hw [] b466 b465 k468 v458 v460 v461 v462 v463 T456.heap n0 Z488 (f483) (hi506) (hc471) (f480)) (by decide) (by decide) (by decide) (by decide) (g := (mkF m 349 A516 [(.ref b466)])) rfl (by rw [hml]; rfl) (argsL := []) (rest := []) rfl (lenOf pd_5 rfl) rfl (by show 2 * 0 + _ ≤ _; exact Nat.le_of_eq rfl) (hb hby at_349)
        obtain ⟨r538, hc539, rfl, N537, e537⟩ := hQ537
        have N537_ := Fr.app N527_ N537
        refine Go.st (S' := T537.setTop (mkF m 352 A516 [(.int r538)])) st537 ?_
        refine Go.st (S' := T537.setTop (mkF m 354 A516 [(.int (1 : Int32)), (.int r538)])) (fun t k => XS.iload X537.here hx rfl (hb hby at_352) rfl k) ?_
        refine Go.st (S' := T537.setTop (mkF m 361 A516 [(.int r538)])) (fun t k => XS.ifYes X537.here hx rfl (pc0 := 354) (pc' := 361) rfl (hb hby at_354) rfl ((if0 _ _).trans (feq (by decide : (¬ ((1 : Int32) = (0 : Int32))))).2) (by decide) (by decide) k) ?_
        refine Go.st (S' := T537.setTop (mkF m 362 A516 [(.int (0 : Int32)), (.int r538)])) (fun t k => XS.iconst X537.here hx rfl (hb hby at_361) k) ?_
        have hu540 : r538 = (0 : Int32) := by
          rcases hc539 with ⟨x1, -⟩ | ⟨-, x1⟩
          · exact absurd x1 (own_zne hW489)
          · exact x1
        obtain rfl : (0 : Int32) = r538 := hu540.symm
        refine Go.st (S' := T537.setTop (mkF m 365 A516 [])) (fun t k => XS.icmpNo X537.here hx rfl (hb hby at_362) rfl (teq (by decide : ((0 : Int32) = (0 : Int32)))).2 k) ?_
        refine Go.st (S' := T537.setTop (mkF m 366 A516 [(.int (1 : Int32))])) (fun t k => XS.iconst X537.here hx rfl (hb hby at_365) k) ?_
        refine Go.st (S' := T537.setTop (mkF m 370 A516 [(.int (1 : Int32))])) (fun t k => XS.goto X537.here hx rfl (pc0 := 366) (pc' := 370) rfl (hb hby at_366) (by decide) (by decide) k) ?_
        exact Go.ret X537 (v := some (.int (1 : Int32))) (fun h => by rw [Bd.returns] at h; cases h) Bd.notSynchronized (fun fs hr => retN X537 hx (t := .boolean) Bd.returns (by simp) (hb hby at_370) hr) (by decide) (by decide) ⟨rfl, N537_⟩
      · intro J541
        by_cases hc542 : (v10 = v4)
        · refine Go.st (S' := T456.setTop (mkF m 156 A493 [])) (fun t k => XS.icmpYes X456.here hx rfl (pc0 := 127) (pc' := 156) rfl (hb hby at_127) rfl (teq hc542).1 (by decide) (by decide) k) ?_
          refine Go.st (S' := T456.setTop (mkF m 157 A493 [(.int (1 : Int32))])) (fun t k => XS.iconst X456.here hx rfl (hb hby at_156) k) ?_
          refine Go.st (S' := T456.setTop (mkF m 161 A493 [(.int (1 : Int32))])) (fun t k => XS.goto X456.here hx rfl (pc0 := 157) (pc' := 161) rfl (hb hby at_157) (by decide) (by decide) k) ?_
          exact J541 ((1 : Int32)) (Or.inl ⟨hc542, rfl⟩)
        · refine Go.st (S' := T456.setTop (mkF m 130 A493 [])) (fun t k => XS.icmpNo X456.here hx rfl (hb hby at_127) rfl (feq hc542).1 k) ?_
          refine Go.st (S' := T456.setTop (mkF m 132 A493 [(.int (1 : Int32))])) (fun t k => XS.iload X456.here hx rfl (hb hby at_130) rfl k) ?_
          refine Go.st (S' := T456.setTop (mkF m 133 A493 [(.int (2 : Int32)), (.int (1 : Int32))])) (fun t k => XS.iconst X456.here hx rfl (hb hby at_132) k) ?_
          refine Go.st (S' := T456.setTop (mkF m 143 A493 [])) (fun t k => XS.icmpYes X456.here hx rfl (pc0 := 133) (pc' := 143) rfl (hb hby at_133) rfl (tlt (by decide : ((1 : Int32) < (2 : Int32)))).1 (by decide) (by decide) k) ?_
          refine Go.st (S' := T456.setTop (mkF m 145 A493 [(.int (1 : Int32))])) (fun t k => XS.iload X456.here hx rfl (hb hby at_143) rfl k) ?_
          refine Go.st (S' := T456.setTop (mkF m 146 A493 [(.int (3 : Int32)), (.int (1 : Int32))])) (fun t k => XS.iconst X456.here hx rfl (hb hby at_145) k) ?_
          refine Go.st (S' := T456.setTop (mkF m 160 A493 [])) (fun t k => XS.icmpYes X456.here hx rfl (pc0 := 146) (pc' := 160) rfl (hb hby at_146) rfl (tlt (by decide : ((1 : Int32) < (3 : Int32)))).1 (by decide) (by decide) k) ?_
          refine Go.st (S' := T456.setTop (mkF m 161 A493 [(.int (0 : Int32))])) (fun t k => XS.iconst X456.here hx rfl (hb hby at_160) k) ?_
          exact J541 ((0 : Int32)) (Or.inr ⟨hc542, rfl⟩)
    · refine Go.st (S' := s₁.setTop (mkF m 66 A11 [])) (fun t k => XS.icmpYes X0.here hx rfl (pc0 := 50) (pc' := 66) rfl (hb hby at_50) rfl (feq hc357).2 (by decide) (by decide) k) ?_
      refine Go.st (S' := s₁.setTop (mkF m 68 A11 [(.int v2)])) (fun t k => XS.iload X0.here hx rfl (hb hby at_66) rfl k) ?_
      refine Go.st (S' := s₁.setTop (mkF m 69 A11 [(.int (2 : Int32)), (.int v2)])) (fun t k => XS.iconst X0.here hx rfl (hb hby at_68) k) ?_
      by_cases hc560 : (v2 = (2 : Int32))
      · refine Go.st (S' := s₁.setTop (mkF m 72 A11 [])) (fun t k => XS.icmpNo X0.here hx rfl (hb hby at_69) rfl (teq hc560).2 k) ?_
        refine Go.st (S' := s₁.setTop (mkF m 73 A11 [(.int (2 : Int32))])) (fun t k => XS.iconst X0.here hx rfl (hb hby at_72) k) ?_
        obtain ⟨T561, h561, k561, X561, e561, E561, A561, B561, st561⟩ := newPE X0 hx hZ (hw _ (List.mem_of_getElem? (i := 0) rfl)) e0 (g := (mkF m 73 A11 [(.int (2 : Int32))])) rfl (hb hby at_73) rfl (by decide) (cap := 2) (by decide) (by decide) (by decide) (by decide) (ad := "[I") (by decide)
        obtain ⟨b561, gg561⟩ : ∃ z, z = h0.size := ⟨_, rfl⟩
        rw [← gg561] at A561 B561 st561
        have g_b561 : n0 ≤ b561 := Nat.le_trans Z0 (Nat.le_of_eq gg561.symm)
        have sz_b561 : h0.size ≤ b561 := Nat.le_trans (Keep.refl h0 []).1 (Nat.le_of_eq gg561.symm)
        have Z562 : n0 ≤ h561.size := Nat.le_trans Z0 E561.1
        have K562 : Keep h0 h561 [] := (Keep.refl h0 []).ext E561
        have V561 : Arv Z h561 b561 k561 .int (2 : Int32) [(.int (0 : Int32)), (.int (0 : Int32))] (.int (0 : Int32)) := (Arv.new A561 (by decide)).pad (pad_rep [] (.int (0 : Int32)) 2)
        refine Go.st (S' := T561.setTop (mkF m 75 A11 [(.ref b561)])) st561 ?_
        refine Go.st (S' := T561.setTop (mkF m 76 A11 [(.ref b561), (.ref b561)])) (fun t k => XS.dup X561.here hx rfl (hb hby at_75) rfl rfl k) ?_
        refine Go.st (S' := T561.setTop (mkF m 77 A11 [(.int (0 : Int32)), (.ref b561), (.ref b561)])) (fun t k => XS.iconst X561.here hx rfl (hb hby at_76) k) ?_
        refine Go.st (S' := T561.setTop (mkF m 79 A11 [(.int v4), (.int (0 : Int32)), (.ref b561), (.ref b561)])) (fun t k => XS.iload X561.here hx rfl (hb hby at_77) rfl k) ?_
        obtain ⟨cl563, Ar563, q563, S563, N563_, H563, G563⟩ := id V561
        have hin563 : ¬ ((0 : Int32) < 0 ∨ cl563.slots.size ≤ ((0 : Int32)).toNatClampNeg) := inb_of S563 ⟨by decide, by decide⟩
        obtain ⟨T563, h563, X563, e563, W563, st563⟩ := stI X561 hx hZ e561 Ar563 (j := (0 : Int32)) hin563 (g := (mkF m 79 A11 [(.int v4), (.int (0 : Int32)), (.ref b561), (.ref b561)])) rfl rfl (hb hby at_79)
        have V563 : Arv Z h563 b561 k561 .int (2 : Int32) [(.int v4), (.int (0 : Int32))] (.int (0 : Int32)) := Arv.set Ar563 q563 S563 N563_ H563 G563 rfl W563 0 rfl (Nat.le_of_ble_eq_true rfl)
        have N563 := Fr.snoc X563 N0 g_b561
        have Z564 : n0 ≤ h563.size := Nat.le_trans Z562 (Keep.of_wr W563).1
        have K564 : Keep h0 h563 [] := K562.wr W563 (Or.inr sz_b561)
        refine Go.st (S' := T563.setTop (mkF m 80 A11 [(.ref b561)])) st563 ?_
        refine Go.st (S' := T563.setTop (mkF m 81 A11 [(.ref b561), (.ref b561)])) (fun t k => XS.dup X563.here hx rfl (hb hby at_80) rfl rfl k) ?_
        refine Go.st (S' := T563.setTop (mkF m 82 A11 [(.int (1 : Int32)), (.ref b561), (.ref b561)])) (fun t k => XS.iconst X563.here hx rfl (hb hby at_81) k) ?_
        refine Go.st (S' := T563.setTop (mkF m 84 A11 [(.int v6), (.int (1 : Int32)), (.ref b561), (.ref b561)])) (fun t k => XS.iload X563.here hx rfl (hb hby at_82) rfl k) ?_
        obtain ⟨cl565, Ar565, q565, S565, N565_, H565, G565⟩ := id V563
        have hin565 : ¬ ((1 : Int32) < 0 ∨ cl565.slots.size ≤ ((1 : Int32)).toNatClampNeg) := inb_of S565 ⟨by decide, by decide⟩
        obtain ⟨T565, h565, X565, e565, W565, st565⟩ := stI X563 hx hZ e563 Ar565 (j := (1 : Int32)) hin565 (g := (mkF m 84 A11 [(.int v6), (.int (1 : Int32)), (.ref b561), (.ref b561)])) rfl rfl (hb hby at_84)
        have V565 : Arv Z h565 b561 k561 .int (2 : Int32) [(.int v4), (.int v6)] (.int (0 : Int32)) := Arv.set Ar565 q565 S565 N565_ H565 G565 rfl W565 1 rfl (Nat.le_of_ble_eq_true rfl)
        have N565 := Fr.snoc X565 N563 g_b561
        have Z566 : n0 ≤ h565.size := Nat.le_trans Z564 (Keep.of_wr W565).1
        have K566 : Keep h0 h565 [] := K564.wr W565 (Or.inr sz_b561)
        refine Go.st (S' := T565.setTop (mkF m 85 A11 [(.ref b561)])) st565 ?_
        let A567 : Array Slot := #[.val (.int p0), .val (.int p1), .val (.int p2), .val (.int p3), .val (.int p4), .val (.int v2), .val (.int v4), .val (.int v6), .val (.int v8), .val (.int v10), .val (.ref b561), .unset, .unset, .unset, .unset, .unset]
        refine Go.st (S' := T565.setTop (mkF m 87 A567 [])) (fun t k => XS.astore X565.here hx rfl (hb hby at_85) rfl rfl (l' := A567) rfl k) ?_
        refine Go.st (S' := T565.setTop (mkF m 110 A567 [])) (fun t k => XS.goto X565.here hx rfl (pc0 := 87) (pc' := 110) rfl (hb hby at_87) (by decide) (by decide) k) ?_
        have hu568 : v2 = (2 : Int32) := by
          refine Decidable.byContradiction fun hc569 => ?_
          exact ar_40 p0 v2 hv2 hc39 hc357 hc560 hc569
        obtain rfl : (2 : Int32) = v2 := hu568.symm
        obtain ⟨v570, hv570⟩ : ∃ z, z = (p0 &&& (3 : Int32)) := ⟨_, rfl⟩
        have hc571 : v570 = (2 : Int32) := hv570.trans hv2.symm
        let A572 : Array Slot := #[.val (.int p0), .val (.int p1), .val (.int p2), .val (.int p3), .val (.int p4), .val (.int (2 : Int32)), .val (.int v4), .val (.int v6), .val (.int v8), .val (.int v10), .val (.ref b561), .unset, .unset, .unset, .unset, .unset]
        refine Go.st (S' := T565.setTop (mkF m 112 A572 [(.ref b561)])) (fun t k => XS.aload X565.here hx rfl (hb hby at_110) rfl rfl k) ?_
        have hi717 : (¬ (v4 < (0 : Int32))) := by
          intro hc718
          exact ar_35 p1 v4 hv4 hc718
        have hi719 : (¬ ((255 : Int32) < v4)) := by
          intro hc720
          exact ar_36 p1 v4 hv4 hi717 hc720
        have hi721 : (¬ (v6 < (0 : Int32))) := by
          intro hc722
          exact ar_35 p2 v6 hv6 hc722
        have hi723 : (¬ ((255 : Int32) < v6)) := by
          intro hc724
          exact ar_36 p2 v6 hv6 hi721 hc724
        obtain ⟨r725, T725, L725, X725, hQ725, st725⟩ := own_callS (W := 0) X565 hx hZ e565 hown (y := (⟨"com/example/heaplens/heaplens/sharing/VarSet", "of", "([I)Lcom/example/heaplens/heaplens/sharing/VarSet;"⟩ : MethodName)) (hw _ (List.mem_of_getElem? (i := 1) rfl)) (hw _ (List.mem_of_getElem? (i := 2) rfl)) (hw _ (List.mem_of_getElem? (i := 3) rfl)) (hw _ (List.mem_of_getElem? (i := 4) rfl)) (by decide) (rm12 l Z a0 hw [] b561 k561 v4 v6 h565 n0 Z566 (hi717) (hi719) (hi721) (hi723) (V565)) (by decide) (by decide) (by decide) (by decide) (g := (mkF m 112 A572 [(.ref b561)])) rfl (by rw [hml]; rfl) (argsL := [(.ref b561)]) (rest := []) rfl (lenOf pd_1 rfl) rfl (by show 2 * 0 + _ ≤ _; exact Nat.le_of_eq rfl) (hb hby at_112)
        rcases hQ725 with hQ725 | hQ725
        · obtain ⟨v726, v727, v728, v729, v730, v731, v732, v733, v734, v735, v736, v737, v738, b739, b740, b741, k742, k743, hv726, hv727, hv728, hv729, hv730, hv731, hv732, hv733, hv734, hv735, hv736, hv737, hv738, hc744, hc745, hc746, hc747, hc748, hc749, hc750, hc751, hc752, hc753, hc754, hc755, rfl, N725, K725_, sz_b739_, sz_b740_, sz_b741_, f756, f757, f758, f759, f760, f761, hlt762, hlt763, hlt764⟩ := hQ725
          have N725_ := Fr.app N565 N725
          have g_b739 : n0 ≤ b739 := Nat.le_trans Z566 sz_b739_
          have sz_b739 : h0.size ≤ b739 := Nat.le_trans K566.1 sz_b739_
          have f765 := ((((B561).wr W563)).wr W565)
          have lt_b561_b739 : b561 < b739 := Nat.lt_of_lt_of_le (f765).lt sz_b739_
          have g_b740 : n0 ≤ b740 := Nat.le_trans Z566 sz_b740_
          have sz_b740 : h0.size ≤ b740 := Nat.le_trans K566.1 sz_b740_
          have lt_b561_b740 : b561 < b740 := Nat.lt_of_lt_of_le (f765).lt sz_b740_
          have g_b741 : n0 ≤ b741 := Nat.le_trans Z566 sz_b741_
          have sz_b741 : h0.size ≤ b741 := Nat.le_trans K566.1 sz_b741_
          have lt_b561_b741 : b561 < b741 := Nat.lt_of_lt_of_le (f765).lt sz_b741_
          have Z766 : n0 ≤ T725.heap.size := Nat.le_trans Z566 K725_.1
          have K766 : Keep h0 T725.heap [] := K566.trans K725_ all0
          refine Go.st (S' := T725.setTop (mkF m 115 A572 [(.ref b741)])) st725 ?_
          have hR768 : own_R v4 := by rw [hv4]; exact own_R255 _
          have hR769 : own_R v6 := by rw [hv6]; exact own_R255 _
          have hR770 : own_R v6 := by rw [hv6]; exact own_R255 _
          have hW767 : own_W v4 v6 v6 v732 v734 v736 v738 v727 := ⟨⟨hR768, hR769, hR770⟩, ⟨(by rw [hv732, hv730, hv726, hv729, hv728, hv731]; exact own_w2 _ _ _), (by rw [hv734, hv733, hv726, hv729, hv728, hv731]; exact own_w2 _ _ _), (by rw [hv736, hv735, hv726, hv729, hv728, hv731]; exact own_w2 _ _ _), (by rw [hv738, hv737, hv726, hv729, hv728, hv731]; exact own_w2 _ _ _)⟩, ⟨(by rw [← hv726]; exact hc752), (by rw [← hv728]; exact hc753), (by rw [← hv728]; exact hc753)⟩, (Or.inl (by rw [← hv726]; exact hv727))⟩
          let A771 : Array Slot := #[.val (.int p0), .val (.int p1), .val (.int p2), .val (.int p3), .val (.int p4), .val (.int (2 : Int32)), .val (.int v4), .val (.int v6), .val (.int v8), .val (.int v10), .val (.ref b561), .val (.ref b741), .unset, .unset, .unset, .unset]
          refine Go.st (S' := T725.setTop (mkF m 117 A771 [])) (fun t k => XS.astore X725.here hx rfl (hb hby at_115) rfl rfl (l' := A771) rfl k) ?_
          refine Go.st (S' := T725.setTop (mkF m 119 A771 [(.int (2 : Int32))])) (fun t k => XS.iload X725.here hx rfl (hb hby at_117) rfl k) ?_
          refine Go.st (S' := T725.setTop (mkF m 120 A771 [(.int (1 : Int32)), (.int (2 : Int32))])) (fun t k => XS.iconst X725.here hx rfl (hb hby at_119) k) ?_
          refine Go.st (S' := T725.setTop (mkF m 123 A771 [])) (fun t k => XS.icmpNo X725.here hx rfl (hb hby at_120) rfl (flt (by decide : (¬ ((2 : Int32) < (1 : Int32))))).1 k) ?_
          refine Go.st (S' := T725.setTop (mkF m 125 A771 [(.int v10)])) (fun t k => XS.iload X725.here hx rfl (hb hby at_123) rfl k) ?_
          refine Go.st (S' := T725.setTop (mkF m 127 A771 [(.int v4), (.int v10)])) (fun t k => XS.iload X725.here hx rfl (hb hby at_125) rfl k) ?_
          refine Go.join (α := Int32) (fun r => (((v10 = v4) ∧ (r = (1 : Int32))) ∨ ((¬ (v10 = v4)) ∧ (v10 = v6) ∧ (r = (1 : Int32))) ∨ ((¬ (v10 = v4)) ∧ (¬ (v10 = v6)) ∧ (r = (0 : Int32))))) (fun r => T725.setTop (mkF m 161 A771 [(.int r)])) ?_ ?_
          · intro r776 hc777
            let A778 : Array Slot := #[.val (.int p0), .val (.int p1), .val (.int p2), .val (.int p3), .val (.int p4), .val (.int (2 : Int32)), .val (.int v4), .val (.int v6), .val (.int v8), .val (.int v10), .val (.ref b561), .val (.ref b741), .val (.int r776), .unset, .unset, .unset]
            refine Go.st (S' := T725.setTop (mkF m 163 A778 [])) (fun t k => XS.istore X725.here hx rfl (hb hby at_161) rfl (l' := A778) rfl k) ?_
            refine Go.st (S' := T725.setTop (mkF m 165 A778 [(.int (2 : Int32))])) (fun t k => XS.iload X725.here hx rfl (hb hby at_163) rfl k) ?_
            refine Go.st (S' := T725.setTop (mkF m 180 A778 [])) (fun t k => XS.ifYes X725.here hx rfl (pc0 := 165) (pc' := 180) rfl (hb hby at_165) rfl ((if0 _ _).trans (feq (by decide : (¬ ((2 : Int32) = (0 : Int32))))).2) (by decide) (by decide) k) ?_
            refine Go.st (S' := T725.setTop (mkF m 182 A778 [(.int (2 : Int32))])) (fun t k => XS.iload X725.here hx rfl (hb hby at_180) rfl k) ?_
            refine Go.st (S' := T725.setTop (mkF m 183 A778 [(.int (1 : Int32)), (.int (2 : Int32))])) (fun t k => XS.iconst X725.here hx rfl (hb hby at_182) k) ?_
            refine Go.st (S' := T725.setTop (mkF m 200 A778 [])) (fun t k => XS.icmpYes X725.here hx rfl (pc0 := 183) (pc' := 200) rfl (hb hby at_183) rfl (feq (by decide : (¬ ((2 : Int32) = (1 : Int32))))).2 (by decide) (by decide) k) ?_
            refine Go.st (S' := T725.setTop (mkF m 202 A778 [(.int (2 : Int32))])) (fun t k => XS.iload X725.here hx rfl (hb hby at_200) rfl k) ?_
            refine Go.st (S' := T725.setTop (mkF m 203 A778 [(.int (2 : Int32)), (.int (2 : Int32))])) (fun t k => XS.iconst X725.here hx rfl (hb hby at_202) k) ?_
            refine Go.st (S' := T725.setTop (mkF m 206 A778 [])) (fun t k => XS.icmpNo X725.here hx rfl (hb hby at_203) rfl (teq (by decide : ((2 : Int32) = (2 : Int32)))).2 k) ?_
            refine Go.st (S' := T725.setTop (mkF m 208 A778 [(.int v4)])) (fun t k => XS.iload X725.here hx rfl (hb hby at_206) rfl k) ?_
            refine Go.st (S' := T725.setTop (mkF m 210 A778 [(.int v6), (.int v4)])) (fun t k => XS.iload X725.here hx rfl (hb hby at_208) rfl k) ?_
            refine Go.join (α := Int32) (fun r => (((v4 = v6) ∧ (r = (1 : Int32))) ∨ ((¬ (v4 = v6)) ∧ (r = (2 : Int32))))) (fun r => T725.setTop (mkF m 218 A778 [(.int r)])) ?_ ?_
            · intro r781 hc782
              let A783 : Array Slot := #[.val (.int p0), .val (.int p1), .val (.int p2), .val (.int p3), .val (.int p4), .val (.int (2 : Int32)), .val (.int v4), .val (.int v6), .val (.int v8), .val (.int v10), .val (.ref b561), .val (.ref b741), .val (.int r776), .val (.int r781), .unset, .unset]
              refine Go.st (S' := T725.setTop (mkF m 220 A783 [])) (fun t k => XS.istore X725.here hx rfl (hb hby at_218) rfl (l' := A783) rfl k) ?_
              refine Go.st (S' := T725.setTop (mkF m 222 A783 [(.int v4)])) (fun t k => XS.iload X725.here hx rfl (hb hby at_220) rfl k) ?_
              refine Go.st (S' := T725.setTop (mkF m 224 A783 [(.int v6), (.int v4)])) (fun t k => XS.iload X725.here hx rfl (hb hby at_222) rfl k) ?_
              obtain ⟨r784, T784, L784, X784, hQ784, st784⟩ := own_callS (W := 0) X725 hx hZ rfl hown (y := (⟨"java/lang/Math", "min", "(II)I"⟩ : MethodName)) (hw _ (List.mem_of_getElem? (i := 58) rfl)) (hw _ (List.mem_of_getElem? (i := 51) rfl)) (hw _ (List.mem_of_getElem? (i := 52) rfl)) (hw _ (List.mem_of_getElem? (i := 53) rfl)) (by decide) (rm9 l Z a0 hw [] v4 v6 T725.heap n0 Z766 ) (by decide) (by decide) (by decide) (by decide) (g := (mkF m 224 A783 [(.int v6), (.int v4)])) rfl (by rw [hml]; rfl) (argsL := [(.int v4), (.int v6)]) (rest := []) rfl (lenOf pd_6 rfl) rfl (by show 2 * 0 + _ ≤ _; exact Nat.le_of_eq rfl) (hb hby at_224)
              obtain ⟨r785, hc786, rfl, N784, e784⟩ := hQ784
              have N784_ := Fr.app N725_ N784
              refine Go.st (S' := T784.setTop (mkF m 227 A783 [(.int r785)])) st784 ?_
              let A787 : Array Slot := #[.val (.int p0), .val (.int p1), .val (.int p2), .val (.int p3), .val (.int p4), .val (.int (2 : Int32)), .val (.int v4), .val (.int v6), .val (.int v8), .val (.int v10), .val (.ref b561), .val (.ref b741), .val (.int r776), .val (.int r781), .val (.int r785), .unset]
              refine Go.st (S' := T784.setTop (mkF m 229 A787 [])) (fun t k => XS.istore X784.here hx rfl (hb hby at_227) rfl (l' := A787) rfl k) ?_
              refine Go.st (S' := T784.setTop (mkF m 231 A787 [(.int v4)])) (fun t k => XS.iload X784.here hx rfl (hb hby at_229) rfl k) ?_
              refine Go.st (S' := T784.setTop (mkF m 233 A787 [(.int v6), (.int v4)])) (fun t k => XS.iload X784.here hx rfl (hb hby at_231) rfl k) ?_
              obtain ⟨r789, T789, L789, X789, hQ789, st789⟩ := own_callS (W := 0) X784 hx hZ e784 hown (y := (⟨"java/lang/Math", "max", "(II)I"⟩ : MethodName)) (hw _ (List.mem_of_getElem? (i := 59) rfl)) (hw _ (List.mem_of_getElem? (i := 60) rfl)) (hw _ (List.mem_of_getElem? (i := 52) rfl)) (hw _ (List.mem_of_getElem? (i := 61) rfl)) (by decide) (rm13 l Z a0 hw [] v4 v6 T725.heap n0 Z766 ) (by decide) (by decide) (by decide) (by decide) (g := (mkF m 233 A787 [(.int v6), (.int v4)])) rfl (by rw [hml]; rfl) (argsL := [(.int v4), (.int v6)]) (rest := []) rfl (lenOf pd_6 rfl) rfl (by show 2 * 0 + _ ≤ _; exact Nat.le_of_eq rfl) (hb hby at_233)
              obtain ⟨r790, hc791, rfl, N789, e789⟩ := hQ789
              have N789_ := Fr.app N784_ N789
              refine Go.st (S' := T789.setTop (mkF m 236 A787 [(.int r790)])) st789 ?_
              let A792 : Array Slot := #[.val (.int p0), .val (.int p1), .val (.int p2), .val (.int p3), .val (.int p4), .val (.int (2 : Int32)), .val (.int v4), .val (.int v6), .val (.int v8), .val (.int v10), .val (.ref b561), .val (.ref b741), .val (.int r776), .val (.int r781), .val (.int r785), .val (.int r790)]
              refine Go.st (S' := T789.setTop (mkF m 238 A792 [])) (fun t k => XS.istore X789.here hx rfl (hb hby at_236) rfl (l' := A792) rfl k) ?_
              refine Go.st (S' := T789.setTop (mkF m 305 A792 [])) (fun t k => XS.goto X789.here hx rfl (pc0 := 238) (pc' := 305) rfl (hb hby at_238) (by decide) (by decide) k) ?_
              refine Go.st (S' := T789.setTop (mkF m 307 A792 [(.ref b741)])) (fun t k => XS.aload X789.here hx rfl (hb hby at_305) rfl rfl k) ?_
              refine Go.st (S' := T789.setTop (mkF m 309 A792 [(.int v10), (.ref b741)])) (fun t k => XS.iload X789.here hx rfl (hb hby at_307) rfl k) ?_
              have hi793 : (¬ (v10 < (0 : Int32))) := by
                intro hc794
                exact ar_50 p4 v10 p1 v4 p2 v6 r776 hv10 hv4 hv6 hc777 hc794
              have hi795 : (¬ ((511 : Int32) < v10)) := by
                intro hc796
                exact ar_51 p4 v10 p1 v4 p2 v6 r776 hv10 hv4 hv6 hc777 hi793 hc796
              have hi797 : (¬ (v727 < (0 : Int32))) := by
                intro hc798
                exact ar_52 p1 v4 p2 v6 v726 v727 v728 hv4 hv6 hv726 hv727 hv728 hi717 hi719 hi721 hi723 hc744 hc745 hc746 hc747 hc749 hc750 hc751 hc752 hc753 hc754 hc755 hc798
              obtain ⟨r799, T799, L799, X799, hQ799, st799⟩ := own_callV (W := 0) (a := b741) (C := "com/example/heaplens/heaplens/sharing/VarSet") X789 hx hZ e789 hown (y := (⟨"com/example/heaplens/heaplens/sharing/VarSet", "contains", "(I)Z"⟩ : MethodName)) (z := (⟨"com/example/heaplens/heaplens/sharing/VarSet", "contains", "(I)Z"⟩ : MethodName)) (hw _ (List.mem_of_getElem? (i := 16) rfl)) (hw _ (List.mem_of_getElem? (i := 17) rfl)) (notFace_of_selects (args := #[]) (mvT hZ (hw _ (List.mem_of_getElem? (i := 19) rfl)))) (hw _ (List.mem_of_getElem? (i := 19) rfl)) (hw _ (List.mem_of_getElem? (i := 18) rfl)) (hw _ (List.mem_of_getElem? (i := 3) rfl)) (hw _ (List.mem_of_getElem? (i := 20) rfl)) (by decide) (f760) (rm3 l Z a0 hw [] b741 v10 b740 k743 v727 v732 v734 v736 v738 T725.heap n0 Z766 (hi793) (hi795) (f761) (hi797) (hc746) (f758)) (by decide) (by decide) (by decide) (by decide) (g := (mkF m 309 A792 [(.int v10), (.ref b741)])) rfl (by rw [hml]; rfl) (argsL := [(.int v10)]) (rest := []) rfl (lenOf pd_2 rfl) rfl (by show 2 * 0 + _ ≤ _; exact Nat.le_of_eq rfl) (hb hby at_309)
              obtain ⟨r804, v800, v801, v802, v803, hv800, hv801, hv802, hv803, hc805, rfl, N799, e799⟩ := hQ799
              have N799_ := Fr.app N789_ N799
              refine Go.st (S' := T799.setTop (mkF m 312 A792 [(.int r804)])) st799 ?_
              refine Go.st (S' := T799.setTop (mkF m 314 A792 [(.int r776), (.int r804)])) (fun t k => XS.iload X799.here hx rfl (hb hby at_312) rfl k) ?_
              have hu806 : r804 = r776 := by
                rw [own_ct hW767 (by rw [hv10]; exact (own_P511 _).1) (by rw [hv10]; exact (own_P511 _).2) hv800 hv801 hv802 hv803 hc805]
                rcases hc777 with ⟨y0, y1⟩ | ⟨y0, y1, y2⟩ | ⟨y0, y1, y2⟩
                · rw [if_pos (Or.inl y0)]; exact y1.symm
                · rw [if_pos (Or.inr (Or.inl y1))]; exact y2.symm
                · rw [if_neg (fun o => o.elim y0 (fun o => o.elim y1 y1))]; exact y2.symm
              obtain rfl : r804 = r776 := hu806
              let A807 : Array Slot := #[.val (.int p0), .val (.int p1), .val (.int p2), .val (.int p3), .val (.int p4), .val (.int (2 : Int32)), .val (.int v4), .val (.int v6), .val (.int v8), .val (.int v10), .val (.ref b561), .val (.ref b741), .val (.int r804), .val (.int r781), .val (.int r785), .val (.int r790)]
              refine Go.st (S' := T799.setTop (mkF m 317 A807 [])) (fun t k => XS.icmpNo X799.here hx rfl (hb hby at_314) rfl (teq (rfl : r804 = r804)).2 k) ?_
              refine Go.st (S' := T799.setTop (mkF m 319 A807 [(.ref b741)])) (fun t k => XS.aload X799.here hx rfl (hb hby at_317) rfl rfl k) ?_
              have iv808 : ((0 : Int32) < v727 ∨ v732 = (0 : Int64)) ∧ ((1 : Int32) < v727 ∨ v734 = (0 : Int64)) ∧ ((2 : Int32) < v727 ∨ v736 = (0 : Int64)) ∧ ((3 : Int32) < v727 ∨ v738 = (0 : Int64)) := ⟨(own_inv hc753 (own_inv hc752 (Or.inr rfl) hv730) hv732), (own_inv hc753 (own_inv hc752 (Or.inr rfl) hv733) hv734), (own_inv hc753 (own_inv hc752 (Or.inr rfl) hv735) hv736), (own_inv hc753 (own_inv hc752 (Or.inr rfl) hv737) hv738)⟩
              obtain ⟨r809, T809, L809, X809, hQ809, st809⟩ := own_callV (W := 0) (a := b741) (C := "com/example/heaplens/heaplens/sharing/VarSet") X799 hx hZ e799 hown (y := (⟨"com/example/heaplens/heaplens/sharing/VarSet", "size", "()I"⟩ : MethodName)) (z := (⟨"com/example/heaplens/heaplens/sharing/VarSet", "size", "()I"⟩ : MethodName)) (hw _ (List.mem_of_getElem? (i := 21) rfl)) (hw _ (List.mem_of_getElem? (i := 22) rfl)) (notFace_of_selects (args := #[]) (mvT hZ (hw _ (List.mem_of_getElem? (i := 24) rfl)))) (hw _ (List.mem_of_getElem? (i := 24) rfl)) (hw _ (List.mem_of_getElem? (i := 23) rfl)) (hw _ (List.mem_of_getElem? (i := 3) rfl)) (hw _ (List.mem_of_getElem? (i := 25) rfl)) (by decide) (f760) (rm4 l Z a0 hw [] b741 b740 k743 v727 v732 v734 v736 v738 T725.heap n0 Z766 (f761) (hi797) (hc746) (f758) (iv808)) (by decide) (by decide) (by decide) (by decide) (g := (mkF m 319 A807 [(.ref b741)])) rfl (by rw [hml]; rfl) (argsL := []) (rest := []) rfl (lenOf pd_3 rfl) rfl (by show 2 * 0 + _ ≤ _; exact Nat.le_of_eq rfl) (hb hby at_319)
              obtain ⟨r810, hp811, rfl, N809, e809⟩ := hQ809
              have N809_ := Fr.app N799_ N809
              refine Go.st (S' := T809.setTop (mkF m 322 A807 [(.int r810)])) st809 ?_
              refine Go.st (S' := T809.setTop (mkF m 324 A807 [(.int r781), (.int r810)])) (fun t k => XS.iload X809.here hx rfl (hb hby at_322) rfl k) ?_
              have hu812 : r810 = r781 := by
                rw [hp811, own_szL hW767]
                rcases hc782 with ⟨x1, x2⟩ | ⟨x1, x2⟩
                · rw [if_pos x1.symm, if_pos (Or.inr rfl), x2]; rfl
                · rw [if_neg (fun e => x1 e.symm), if_pos (Or.inr rfl), x2]; rfl
              obtain rfl : r810 = r781 := hu812
              let A813 : Array Slot := #[.val (.int p0), .val (.int p1), .val (.int p2), .val (.int p3), .val (.int p4), .val (.int (2 : Int32)), .val (.int v4), .val (.int v6), .val (.int v8), .val (.int v10), .val (.ref b561), .val (.ref b741), .val (.int r804), .val (.int r810), .val (.int r785), .val (.int r790)]
              refine Go.st (S' := T809.setTop (mkF m 327 A813 [])) (fun t k => XS.icmpNo X809.here hx rfl (hb hby at_324) rfl (teq (rfl : r810 = r810)).2 k) ?_
              refine Go.st (S' := T809.setTop (mkF m 329 A813 [(.ref b741)])) (fun t k => XS.aload X809.here hx rfl (hb hby at_327) rfl rfl k) ?_
              have iv814 : ((0 : Int32) < v727 ∨ v732 = (0 : Int64)) ∧ ((1 : Int32) < v727 ∨ v734 = (0 : Int64)) ∧ ((2 : Int32) < v727 ∨ v736 = (0 : Int64)) ∧ ((3 : Int32) < v727 ∨ v738 = (0 : Int64)) := ⟨(own_inv hc753 (own_inv hc752 (Or.inr rfl) hv730) hv732), (own_inv hc753 (own_inv hc752 (Or.inr rfl) hv733) hv734), (own_inv hc753 (own_inv hc752 (Or.inr rfl) hv735) hv736), (own_inv hc753 (own_inv hc752 (Or.inr rfl) hv737) hv738)⟩
              obtain ⟨r815, T815, L815, X815, hQ815, st815⟩ := own_callV (W := 0) (a := b741) (C := "com/example/heaplens/heaplens/sharing/VarSet") X809 hx hZ e809 hown (y := (⟨"com/example/heaplens/heaplens/sharing/VarSet", "first", "()I"⟩ : MethodName)) (z := (⟨"com/example/heaplens/heaplens/sharing/VarSet", "first", "()I"⟩ : MethodName)) (hw _ (List.mem_of_getElem? (i := 26) rfl)) (hw _ (List.mem_of_getElem? (i := 27) rfl)) (notFace_of_selects (args := #[]) (mvT hZ (hw _ (List.mem_of_getElem? (i := 29) rfl)))) (hw _ (List.mem_of_getElem? (i := 29) rfl)) (hw _ (List.mem_of_getElem? (i := 28) rfl)) (hw _ (List.mem_of_getElem? (i := 3) rfl)) (hw _ (List.mem_of_getElem? (i := 30) rfl)) (by decide) (f760) (rm6 l Z a0 hw [] b741 b740 k743 v727 v732 v734 v736 v738 T725.heap n0 Z766 (f760) (f761) (hi797) (hc746) (f758) (iv814)) (by decide) (by decide) (by decide) (by decide) (g := (mkF m 329 A813 [(.ref b741)])) rfl (by rw [hml]; rfl) (argsL := []) (rest := []) rfl (lenOf pd_3 rfl) rfl (by show 2 * 0 + _ ≤ _; exact Nat.le_of_eq rfl) (hb hby at_329)
              obtain ⟨r816, hp817, rfl, N815, e815⟩ := hQ815
              have N815_ := Fr.app N809_ N815
              refine Go.st (S' := T815.setTop (mkF m 332 A813 [(.int r816)])) st815 ?_
              refine Go.st (S' := T815.setTop (mkF m 334 A813 [(.int r785), (.int r816)])) (fun t k => XS.iload X815.here hx rfl (hb hby at_332) rfl k) ?_
              have hu818 : r816 = r785 := by
                rw [hp817, own_fiL hW767]
                rw [own_min_self, ← own_min_of hc786]
              obtain rfl : r816 = r785 := hu818
              let A819 : Array Slot := #[.val (.int p0), .val (.int p1), .val (.int p2), .val (.int p3), .val (.int p4), .val (.int (2 : Int32)), .val (.int v4), .val (.int v6), .val (.int v8), .val (.int v10), .val (.ref b561), .val (.ref b741), .val (.int r804), .val (.int r810), .val (.int r816), .val (.int r790)]
              refine Go.st (S' := T815.setTop (mkF m 337 A819 [])) (fun t k => XS.icmpNo X815.here hx rfl (hb hby at_334) rfl (teq (rfl : r816 = r816)).2 k) ?_
              refine Go.st (S' := T815.setTop (mkF m 339 A819 [(.ref b741)])) (fun t k => XS.aload X815.here hx rfl (hb hby at_337) rfl rfl k) ?_
              obtain ⟨r820, T820, L820, X820, hQ820, st820⟩ := own_callV (W := 0) (a := b741) (C := "com/example/heaplens/heaplens/sharing/VarSet") X815 hx hZ e815 hown (y := (⟨"com/example/heaplens/heaplens/sharing/VarSet", "last", "()I"⟩ : MethodName)) (z := (⟨"com/example/heaplens/heaplens/sharing/VarSet", "last", "()I"⟩ : MethodName)) (hw _ (List.mem_of_getElem? (i := 36) rfl)) (hw _ (List.mem_of_getElem? (i := 37) rfl)) (notFace_of_selects (args := #[]) (mvT hZ (hw _ (List.mem_of_getElem? (i := 39) rfl)))) (hw _ (List.mem_of_getElem? (i := 39) rfl)) (hw _ (List.mem_of_getElem? (i := 38) rfl)) (hw _ (List.mem_of_getElem? (i := 3) rfl)) (hw _ (List.mem_of_getElem? (i := 40) rfl)) (by decide) (f760) (rm7 l Z a0 hw [] b741 b740 k743 v727 v732 v734 v736 v738 T725.heap n0 Z766 (f761) (hi797) (hc746) (f758)) (by decide) (by decide) (by decide) (by decide) (g := (mkF m 339 A819 [(.ref b741)])) rfl (by rw [hml]; rfl) (argsL := []) (rest := []) rfl (lenOf pd_3 rfl) rfl (by show 2 * 0 + _ ≤ _; exact Nat.le_of_eq rfl) (hb hby at_339)
              obtain ⟨r827, v821, v822, v823, v824, v825, v826, hv821, hv822, hv823, hv824, hv825, hv826, hc828, rfl, N820, e820⟩ := hQ820
              have N820_ := Fr.app N815_ N820
              refine Go.st (S' := T820.setTop (mkF m 342 A819 [(.int r827)])) st820 ?_
              refine Go.st (S' := T820.setTop (mkF m 344 A819 [(.int r790), (.int r827)])) (fun t k => XS.iload X820.here hx rfl (hb hby at_342) rfl k) ?_
              have hu829 : r827 = r790 := by
                rw [own_laL hW767 hv821 hv822 hv823 hv824 hv825 hv826 hc828]
                rw [own_max_self, ← own_max_of hc791]
              obtain rfl : r827 = r790 := hu829
              let A830 : Array Slot := #[.val (.int p0), .val (.int p1), .val (.int p2), .val (.int p3), .val (.int p4), .val (.int (2 : Int32)), .val (.int v4), .val (.int v6), .val (.int v8), .val (.int v10), .val (.ref b561), .val (.ref b741), .val (.int r804), .val (.int r810), .val (.int r816), .val (.int r827)]
              refine Go.st (S' := T820.setTop (mkF m 347 A830 [])) (fun t k => XS.icmpNo X820.here hx rfl (hb hby at_344) rfl (teq (rfl : r827 = r827)).2 k) ?_
              refine Go.st (S' := T820.setTop (mkF m 349 A830 [(.ref b741)])) (fun t k => XS.aload X820.here hx rfl (hb hby at_347) rfl rfl k) ?_
              obtain ⟨r831, T831, L831, X831, hQ831, st831⟩ := own_callV (W := 0) (a := b741) (C := "com/example/heaplens/heaplens/sharing/VarSet") X820 hx hZ e820 hown (y := (⟨"com/example/heaplens/heaplens/sharing/VarSet", "isEmpty", "()Z"⟩ : MethodName)) (z := (⟨"com/example/heaplens/heaplens/sharing/VarSet", "isEmpty", "()Z"⟩ : MethodName)) (hw _ (List.mem_of_getElem? (i := 41) rfl)) (hw _ (List.mem_of_getElem? (i := 42) rfl)) (notFace_of_selects (args := #[]) (mvT hZ (hw _ (List.mem_of_getElem? (i := 44) rfl)))) (hw _ (List.mem_of_getElem? (i := 44) rfl)) (hw _ (List.mem_of_getElem? (i := 43) rfl)) (hw _ (List.mem_of_getElem? (i := 3) rfl)) (hw _ (List.mem_of_getElem? (i := 45) rfl)) (by decide) (f760) (rm8 l Z a0 hw [] b741 b740 k743 v727 v732 v734 v736 v738 T725.heap n0 Z766 (f761) (hi797) (hc746) (f758)) (by decide) (by decide) (by decide) (by decide) (g := (mkF m 349 A830 [(.ref b741)])) rfl (by rw [hml]; rfl) (argsL := []) (rest := []) rfl (lenOf pd_5 rfl) rfl (by show 2 * 0 + _ ≤ _; exact Nat.le_of_eq rfl) (hb hby at_349)
              obtain ⟨r832, hc833, rfl, N831, e831⟩ := hQ831
              have N831_ := Fr.app N820_ N831
              refine Go.st (S' := T831.setTop (mkF m 352 A830 [(.int r832)])) st831 ?_
              refine Go.st (S' := T831.setTop (mkF m 354 A830 [(.int (2 : Int32)), (.int r832)])) (fun t k => XS.iload X831.here hx rfl (hb hby at_352) rfl k) ?_
              refine Go.st (S' := T831.setTop (mkF m 361 A830 [(.int r832)])) (fun t k => XS.ifYes X831.here hx rfl (pc0 := 354) (pc' := 361) rfl (hb hby at_354) rfl ((if0 _ _).trans (feq (by decide : (¬ ((2 : Int32) = (0 : Int32))))).2) (by decide) (by decide) k) ?_
              refine Go.st (S' := T831.setTop (mkF m 362 A830 [(.int (0 : Int32)), (.int r832)])) (fun t k => XS.iconst X831.here hx rfl (hb hby at_361) k) ?_
              have hu834 : r832 = (0 : Int32) := by
                rcases hc833 with ⟨x1, -⟩ | ⟨-, x1⟩
                · exact absurd x1 (own_zne hW767)
                · exact x1
              obtain rfl : (0 : Int32) = r832 := hu834.symm
              refine Go.st (S' := T831.setTop (mkF m 365 A830 [])) (fun t k => XS.icmpNo X831.here hx rfl (hb hby at_362) rfl (teq (by decide : ((0 : Int32) = (0 : Int32)))).2 k) ?_
              refine Go.st (S' := T831.setTop (mkF m 366 A830 [(.int (1 : Int32))])) (fun t k => XS.iconst X831.here hx rfl (hb hby at_365) k) ?_
              refine Go.st (S' := T831.setTop (mkF m 370 A830 [(.int (1 : Int32))])) (fun t k => XS.goto X831.here hx rfl (pc0 := 366) (pc' := 370) rfl (hb hby at_366) (by decide) (by decide) k) ?_
              exact Go.ret X831 (v := some (.int (1 : Int32))) (fun h => by rw [Bd.returns] at h; cases h) Bd.notSynchronized (fun fs hr => retN X831 hx (t := .boolean) Bd.returns (by simp) (hb hby at_370) hr) (by decide) (by decide) ⟨rfl, N831_⟩
            · intro J835
              by_cases hc836 : (v4 = v6)
              · refine Go.st (S' := T725.setTop (mkF m 213 A778 [])) (fun t k => XS.icmpNo X725.here hx rfl (hb hby at_210) rfl (teq hc836).2 k) ?_
                refine Go.st (S' := T725.setTop (mkF m 214 A778 [(.int (1 : Int32))])) (fun t k => XS.iconst X725.here hx rfl (hb hby at_213) k) ?_
                refine Go.st (S' := T725.setTop (mkF m 218 A778 [(.int (1 : Int32))])) (fun t k => XS.goto X725.here hx rfl (pc0 := 214) (pc' := 218) rfl (hb hby at_214) (by decide) (by decide) k) ?_
                exact J835 ((1 : Int32)) (Or.inl ⟨hc836, rfl⟩)
              · refine Go.st (S' := T725.setTop (mkF m 217 A778 [])) (fun t k => XS.icmpYes X725.here hx rfl (pc0 := 210) (pc' := 217) rfl (hb hby at_210) rfl (feq hc836).2 (by decide) (by decide) k) ?_
                refine Go.st (S' := T725.setTop (mkF m 218 A778 [(.int (2 : Int32))])) (fun t k => XS.iconst X725.here hx rfl (hb hby at_217) k) ?_
                exact J835 ((2 : Int32)) (Or.inr ⟨hc836, rfl⟩)
          · intro J837
            by_cases hc838 : (v10 = v4)
            · refine Go.st (S' := T725.setTop (mkF m 156 A771 [])) (fun t k => XS.icmpYes X725.here hx rfl (pc0 := 127) (pc' := 156) rfl (hb hby at_127) rfl (teq hc838).1 (by decide) (by decide) k) ?_
              refine Go.st (S' := T725.setTop (mkF m 157 A771 [(.int (1 : Int32))])) (fun t k => XS.iconst X725.here hx rfl (hb hby at_156) k) ?_
              refine Go.st (S' := T725.setTop (mkF m 161 A771 [(.int (1 : Int32))])) (fun t k => XS.goto X725.here hx rfl (pc0 := 157) (pc' := 161) rfl (hb hby at_157) (by decide) (by decide) k) ?_
              exact J837 ((1 : Int32)) (Or.inl ⟨hc838, rfl⟩)
            · refine Go.st (S' := T725.setTop (mkF m 130 A771 [])) (fun t k => XS.icmpNo X725.here hx rfl (hb hby at_127) rfl (feq hc838).1 k) ?_
              refine Go.st (S' := T725.setTop (mkF m 132 A771 [(.int (2 : Int32))])) (fun t k => XS.iload X725.here hx rfl (hb hby at_130) rfl k) ?_
              refine Go.st (S' := T725.setTop (mkF m 133 A771 [(.int (2 : Int32)), (.int (2 : Int32))])) (fun t k => XS.iconst X725.here hx rfl (hb hby at_132) k) ?_
              refine Go.st (S' := T725.setTop (mkF m 136 A771 [])) (fun t k => XS.icmpNo X725.here hx rfl (hb hby at_133) rfl (flt (by decide : (¬ ((2 : Int32) < (2 : Int32))))).1 k) ?_
              refine Go.st (S' := T725.setTop (mkF m 138 A771 [(.int v10)])) (fun t k => XS.iload X725.here hx rfl (hb hby at_136) rfl k) ?_
              refine Go.st (S' := T725.setTop (mkF m 140 A771 [(.int v6), (.int v10)])) (fun t k => XS.iload X725.here hx rfl (hb hby at_138) rfl k) ?_
              by_cases hc839 : (v10 = v6)
              · refine Go.st (S' := T725.setTop (mkF m 156 A771 [])) (fun t k => XS.icmpYes X725.here hx rfl (pc0 := 140) (pc' := 156) rfl (hb hby at_140) rfl (teq hc839).1 (by decide) (by decide) k) ?_
                refine Go.st (S' := T725.setTop (mkF m 157 A771 [(.int (1 : Int32))])) (fun t k => XS.iconst X725.here hx rfl (hb hby at_156) k) ?_
                refine Go.st (S' := T725.setTop (mkF m 161 A771 [(.int (1 : Int32))])) (fun t k => XS.goto X725.here hx rfl (pc0 := 157) (pc' := 161) rfl (hb hby at_157) (by decide) (by decide) k) ?_
                exact J837 ((1 : Int32)) (Or.inr (Or.inl ⟨hc838, hc839, rfl⟩))
              · refine Go.st (S' := T725.setTop (mkF m 143 A771 [])) (fun t k => XS.icmpNo X725.here hx rfl (hb hby at_140) rfl (feq hc839).1 k) ?_
                refine Go.st (S' := T725.setTop (mkF m 145 A771 [(.int (2 : Int32))])) (fun t k => XS.iload X725.here hx rfl (hb hby at_143) rfl k) ?_
                refine Go.st (S' := T725.setTop (mkF m 146 A771 [(.int (3 : Int32)), (.int (2 : Int32))])) (fun t k => XS.iconst X725.here hx rfl (hb hby at_145) k) ?_
                refine Go.st (S' := T725.setTop (mkF m 160 A771 [])) (fun t k => XS.icmpYes X725.here hx rfl (pc0 := 146) (pc' := 160) rfl (hb hby at_146) rfl (tlt (by decide : ((2 : Int32) < (3 : Int32)))).1 (by decide) (by decide) k) ?_
                refine Go.st (S' := T725.setTop (mkF m 161 A771 [(.int (0 : Int32))])) (fun t k => XS.iconst X725.here hx rfl (hb hby at_160) k) ?_
                exact J837 ((0 : Int32)) (Or.inr (Or.inr ⟨hc838, hc839, rfl⟩))
        · obtain ⟨v840, v841, v842, v843, v844, v845, v846, v847, v848, v849, v850, v851, v852, v853, b854, b855, b856, b857, k858, k859, k860, hv840, hv841, hv842, hv843, hv844, hv845, hv846, hv847, hv848, hv849, hv850, hv851, hv852, hv853, hc861, hc862, hc863, hc864, hc865, hc866, hc867, hc868, hc869, hc870, hc871, hc872, hc873, hc874, hc875, hc876, hc877, hc878, hc879, hc880, rfl, N725, K725_, sz_b854_, sz_b855_, sz_b856_, sz_b857_, f881, f882, f883, f884, f885, f886, f887, f888, hlt889, hlt890, hlt891, hlt892, hlt893, hlt894⟩ := hQ725
          have N725_ := Fr.app N565 N725
          have g_b854 : n0 ≤ b854 := Nat.le_trans Z566 sz_b854_
          have sz_b854 : h0.size ≤ b854 := Nat.le_trans K566.1 sz_b854_
          have f895 := ((((B561).wr W563)).wr W565)
          have lt_b561_b854 : b561 < b854 := Nat.lt_of_lt_of_le (f895).lt sz_b854_
          have g_b855 : n0 ≤ b855 := Nat.le_trans Z566 sz_b855_
          have sz_b855 : h0.size ≤ b855 := Nat.le_trans K566.1 sz_b855_
          have lt_b561_b855 : b561 < b855 := Nat.lt_of_lt_of_le (f895).lt sz_b855_
          have g_b856 : n0 ≤ b856 := Nat.le_trans Z566 sz_b856_
          have sz_b856 : h0.size ≤ b856 := Nat.le_trans K566.1 sz_b856_
          have lt_b561_b856 : b561 < b856 := Nat.lt_of_lt_of_le (f895).lt sz_b856_
          have g_b857 : n0 ≤ b857 := Nat.le_trans Z566 sz_b857_
          have sz_b857 : h0.size ≤ b857 := Nat.le_trans K566.1 sz_b857_
          have lt_b561_b857 : b561 < b857 := Nat.lt_of_lt_of_le (f895).lt sz_b857_
          have Z896 : n0 ≤ T725.heap.size := Nat.le_trans Z566 K725_.1
          have K896 : Keep h0 T725.heap [] := K566.trans K725_ all0
          refine Go.st (S' := T725.setTop (mkF m 115 A572 [(.ref b857)])) st725 ?_
          have hi898 : (v840 < v843) := by
            refine Decidable.byContradiction fun hc899 => ?_
            exact ar_53 p1 v4 p2 v6 v840 v841 v842 v843 hv4 hv6 hv840 hv841 hv842 hv843 hi717 hi719 hi721 hi723 hc861 hc862 hc863 hc864 hc866 hc868 hc869 hc870 hc871 hc872 hc873 hc874 hc876 hc877 hc878 hc879 hc880 hc899
          have hR900 : own_R v4 := by rw [hv4]; exact own_R255 _
          have hR901 : own_R v6 := by rw [hv6]; exact own_R255 _
          have hR902 : own_R v6 := by rw [hv6]; exact own_R255 _
          have hW897 : own_W v4 v6 v6 v850 v851 v852 v853 v843 := ⟨⟨hR900, hR901, hR902⟩, ⟨(by rw [hv850, hv845, hv840, hv844, hv842, hv849]; exact own_w2 _ _ _), (by rw [hv851, hv846, hv840, hv844, hv842, hv849]; exact own_w2 _ _ _), (by rw [hv852, hv847, hv840, hv844, hv842, hv849]; exact own_w2 _ _ _), (by rw [hv853, hv848, hv840, hv844, hv842, hv849]; exact own_w2 _ _ _)⟩, ⟨(by rw [← hv840]; exact hi898), (by rw [← hv842]; exact hc880), (by rw [← hv842]; exact hc880)⟩, (Or.inr (Or.inl (by rw [← hv842]; exact hv843)))⟩
          let A903 : Array Slot := #[.val (.int p0), .val (.int p1), .val (.int p2), .val (.int p3), .val (.int p4), .val (.int (2 : Int32)), .val (.int v4), .val (.int v6), .val (.int v8), .val (.int v10), .val (.ref b561), .val (.ref b857), .unset, .unset, .unset, .unset]
          refine Go.st (S' := T725.setTop (mkF m 117 A903 [])) (fun t k => XS.astore X725.here hx rfl (hb hby at_115) rfl rfl (l' := A903) rfl k) ?_
          refine Go.st (S' := T725.setTop (mkF m 119 A903 [(.int (2 : Int32))])) (fun t k => XS.iload X725.here hx rfl (hb hby at_117) rfl k) ?_
          refine Go.st (S' := T725.setTop (mkF m 120 A903 [(.int (1 : Int32)), (.int (2 : Int32))])) (fun t k => XS.iconst X725.here hx rfl (hb hby at_119) k) ?_
          refine Go.st (S' := T725.setTop (mkF m 123 A903 [])) (fun t k => XS.icmpNo X725.here hx rfl (hb hby at_120) rfl (flt (by decide : (¬ ((2 : Int32) < (1 : Int32))))).1 k) ?_
          refine Go.st (S' := T725.setTop (mkF m 125 A903 [(.int v10)])) (fun t k => XS.iload X725.here hx rfl (hb hby at_123) rfl k) ?_
          refine Go.st (S' := T725.setTop (mkF m 127 A903 [(.int v4), (.int v10)])) (fun t k => XS.iload X725.here hx rfl (hb hby at_125) rfl k) ?_
          refine Go.join (α := Int32) (fun r => (((v10 = v4) ∧ (r = (1 : Int32))) ∨ ((¬ (v10 = v4)) ∧ (v10 = v6) ∧ (r = (1 : Int32))) ∨ ((¬ (v10 = v4)) ∧ (¬ (v10 = v6)) ∧ (r = (0 : Int32))))) (fun r => T725.setTop (mkF m 161 A903 [(.int r)])) ?_ ?_
          · intro r908 hc909
            let A910 : Array Slot := #[.val (.int p0), .val (.int p1), .val (.int p2), .val (.int p3), .val (.int p4), .val (.int (2 : Int32)), .val (.int v4), .val (.int v6), .val (.int v8), .val (.int v10), .val (.ref b561), .val (.ref b857), .val (.int r908), .unset, .unset, .unset]
            refine Go.st (S' := T725.setTop (mkF m 163 A910 [])) (fun t k => XS.istore X725.here hx rfl (hb hby at_161) rfl (l' := A910) rfl k) ?_
            refine Go.st (S' := T725.setTop (mkF m 165 A910 [(.int (2 : Int32))])) (fun t k => XS.iload X725.here hx rfl (hb hby at_163) rfl k) ?_
            refine Go.st (S' := T725.setTop (mkF m 180 A910 [])) (fun t k => XS.ifYes X725.here hx rfl (pc0 := 165) (pc' := 180) rfl (hb hby at_165) rfl ((if0 _ _).trans (feq (by decide : (¬ ((2 : Int32) = (0 : Int32))))).2) (by decide) (by decide) k) ?_
            refine Go.st (S' := T725.setTop (mkF m 182 A910 [(.int (2 : Int32))])) (fun t k => XS.iload X725.here hx rfl (hb hby at_180) rfl k) ?_
            refine Go.st (S' := T725.setTop (mkF m 183 A910 [(.int (1 : Int32)), (.int (2 : Int32))])) (fun t k => XS.iconst X725.here hx rfl (hb hby at_182) k) ?_
            refine Go.st (S' := T725.setTop (mkF m 200 A910 [])) (fun t k => XS.icmpYes X725.here hx rfl (pc0 := 183) (pc' := 200) rfl (hb hby at_183) rfl (feq (by decide : (¬ ((2 : Int32) = (1 : Int32))))).2 (by decide) (by decide) k) ?_
            refine Go.st (S' := T725.setTop (mkF m 202 A910 [(.int (2 : Int32))])) (fun t k => XS.iload X725.here hx rfl (hb hby at_200) rfl k) ?_
            refine Go.st (S' := T725.setTop (mkF m 203 A910 [(.int (2 : Int32)), (.int (2 : Int32))])) (fun t k => XS.iconst X725.here hx rfl (hb hby at_202) k) ?_
            refine Go.st (S' := T725.setTop (mkF m 206 A910 [])) (fun t k => XS.icmpNo X725.here hx rfl (hb hby at_203) rfl (teq (by decide : ((2 : Int32) = (2 : Int32)))).2 k) ?_
            refine Go.st (S' := T725.setTop (mkF m 208 A910 [(.int v4)])) (fun t k => XS.iload X725.here hx rfl (hb hby at_206) rfl k) ?_
            refine Go.st (S' := T725.setTop (mkF m 210 A910 [(.int v6), (.int v4)])) (fun t k => XS.iload X725.here hx rfl (hb hby at_208) rfl k) ?_
            refine Go.join (α := Int32) (fun r => (((v4 = v6) ∧ (r = (1 : Int32))) ∨ ((¬ (v4 = v6)) ∧ (r = (2 : Int32))))) (fun r => T725.setTop (mkF m 218 A910 [(.int r)])) ?_ ?_
            · intro r913 hc914
              let A915 : Array Slot := #[.val (.int p0), .val (.int p1), .val (.int p2), .val (.int p3), .val (.int p4), .val (.int (2 : Int32)), .val (.int v4), .val (.int v6), .val (.int v8), .val (.int v10), .val (.ref b561), .val (.ref b857), .val (.int r908), .val (.int r913), .unset, .unset]
              refine Go.st (S' := T725.setTop (mkF m 220 A915 [])) (fun t k => XS.istore X725.here hx rfl (hb hby at_218) rfl (l' := A915) rfl k) ?_
              refine Go.st (S' := T725.setTop (mkF m 222 A915 [(.int v4)])) (fun t k => XS.iload X725.here hx rfl (hb hby at_220) rfl k) ?_
              refine Go.st (S' := T725.setTop (mkF m 224 A915 [(.int v6), (.int v4)])) (fun t k => XS.iload X725.here hx rfl (hb hby at_222) rfl k) ?_
              obtain ⟨r916, T916, L916, X916, hQ916, st916⟩ := own_callS (W := 0) X725 hx hZ rfl hown (y := (⟨"java/lang/Math", "min", "(II)I"⟩ : MethodName)) (hw _ (List.mem_of_getElem? (i := 58) rfl)) (hw _ (List.mem_of_getElem? (i := 51) rfl)) (hw _ (List.mem_of_getElem? (i := 52) rfl)) (hw _ (List.mem_of_getElem? (i := 53) rfl)) (by decide) (rm9 l Z a0 hw [] v4 v6 T725.heap n0 Z896 ) (by decide) (by decide) (by decide) (by decide) (g := (mkF m 224 A915 [(.int v6), (.int v4)])) rfl (by rw [hml]; rfl) (argsL := [(.int v4), (.int v6)]) (rest := []) rfl (lenOf pd_6 rfl) rfl (by show 2 * 0 + _ ≤ _; exact Nat.le_of_eq rfl) (hb hby at_224)
              obtain ⟨r917, hc918, rfl, N916, e916⟩ := hQ916
              have N916_ := Fr.app N725_ N916
              refine Go.st (S' := T916.setTop (mkF m 227 A915 [(.int r917)])) st916 ?_
              let A919 : Array Slot := #[.val (.int p0), .val (.int p1), .val (.int p2), .val (.int p3), .val (.int p4), .val (.int (2 : Int32)), .val (.int v4), .val (.int v6), .val (.int v8), .val (.int v10), .val (.ref b561), .val (.ref b857), .val (.int r908), .val (.int r913), .val (.int r917), .unset]
              refine Go.st (S' := T916.setTop (mkF m 229 A919 [])) (fun t k => XS.istore X916.here hx rfl (hb hby at_227) rfl (l' := A919) rfl k) ?_
              refine Go.st (S' := T916.setTop (mkF m 231 A919 [(.int v4)])) (fun t k => XS.iload X916.here hx rfl (hb hby at_229) rfl k) ?_
              refine Go.st (S' := T916.setTop (mkF m 233 A919 [(.int v6), (.int v4)])) (fun t k => XS.iload X916.here hx rfl (hb hby at_231) rfl k) ?_
              obtain ⟨r920, T920, L920, X920, hQ920, st920⟩ := own_callS (W := 0) X916 hx hZ e916 hown (y := (⟨"java/lang/Math", "max", "(II)I"⟩ : MethodName)) (hw _ (List.mem_of_getElem? (i := 59) rfl)) (hw _ (List.mem_of_getElem? (i := 60) rfl)) (hw _ (List.mem_of_getElem? (i := 52) rfl)) (hw _ (List.mem_of_getElem? (i := 61) rfl)) (by decide) (rm13 l Z a0 hw [] v4 v6 T725.heap n0 Z896 ) (by decide) (by decide) (by decide) (by decide) (g := (mkF m 233 A919 [(.int v6), (.int v4)])) rfl (by rw [hml]; rfl) (argsL := [(.int v4), (.int v6)]) (rest := []) rfl (lenOf pd_6 rfl) rfl (by show 2 * 0 + _ ≤ _; exact Nat.le_of_eq rfl) (hb hby at_233)
              obtain ⟨r921, hc922, rfl, N920, e920⟩ := hQ920
              have N920_ := Fr.app N916_ N920
              refine Go.st (S' := T920.setTop (mkF m 236 A919 [(.int r921)])) st920 ?_
              let A923 : Array Slot := #[.val (.int p0), .val (.int p1), .val (.int p2), .val (.int p3), .val (.int p4), .val (.int (2 : Int32)), .val (.int v4), .val (.int v6), .val (.int v8), .val (.int v10), .val (.ref b561), .val (.ref b857), .val (.int r908), .val (.int r913), .val (.int r917), .val (.int r921)]
              refine Go.st (S' := T920.setTop (mkF m 238 A923 [])) (fun t k => XS.istore X920.here hx rfl (hb hby at_236) rfl (l' := A923) rfl k) ?_
              refine Go.st (S' := T920.setTop (mkF m 305 A923 [])) (fun t k => XS.goto X920.here hx rfl (pc0 := 238) (pc' := 305) rfl (hb hby at_238) (by decide) (by decide) k) ?_
              refine Go.st (S' := T920.setTop (mkF m 307 A923 [(.ref b857)])) (fun t k => XS.aload X920.here hx rfl (hb hby at_305) rfl rfl k) ?_
              refine Go.st (S' := T920.setTop (mkF m 309 A923 [(.int v10), (.ref b857)])) (fun t k => XS.iload X920.here hx rfl (hb hby at_307) rfl k) ?_
              have hi924 : (¬ (v10 < (0 : Int32))) := by
                intro hc925
                exact ar_50 p4 v10 p1 v4 p2 v6 r908 hv10 hv4 hv6 hc909 hc925
              have hi926 : (¬ ((511 : Int32) < v10)) := by
                intro hc927
                exact ar_51 p4 v10 p1 v4 p2 v6 r908 hv10 hv4 hv6 hc909 hi924 hc927
              have hi928 : (¬ (v843 < (0 : Int32))) := by
                intro hc929
                exact ar_54 p1 v4 p2 v6 v840 v841 v842 v843 hv4 hv6 hv840 hv841 hv842 hv843 hi717 hi719 hi721 hi723 hc861 hc862 hc863 hc864 hc866 hc868 hc869 hc870 hc871 hc872 hc873 hc874 hc876 hc877 hc878 hc879 hc880 hi898 hc929
              obtain ⟨r930, T930, L930, X930, hQ930, st930⟩ := own_callV (W := 0) (a := b857) (C := "com/example/heaplens/heaplens/sharing/VarSet") X920 hx hZ e920 hown (y := (⟨"com/example/heaplens/heaplens/sharing/VarSet", "contains", "(I)Z"⟩ : MethodName)) (z := (⟨"com/example/heaplens/heaplens/sharing/VarSet", "contains", "(I)Z"⟩ : MethodName)) (hw _ (List.mem_of_getElem? (i := 16) rfl)) (hw _ (List.mem_of_getElem? (i := 17) rfl)) (notFace_of_selects (args := #[]) (mvT hZ (hw _ (List.mem_of_getElem? (i := 19) rfl)))) (hw _ (List.mem_of_getElem? (i := 19) rfl)) (hw _ (List.mem_of_getElem? (i := 18) rfl)) (hw _ (List.mem_of_getElem? (i := 3) rfl)) (hw _ (List.mem_of_getElem? (i := 20) rfl)) (by decide) (f887) (rm3 l Z a0 hw [] b857 v10 b856 k860 v843 v850 v851 v852 v853 T725.heap n0 Z896 (hi924) (hi926) (f888) (hi928) (hc872) (f885)) (by decide) (by decide) (by decide) (by decide) (g := (mkF m 309 A923 [(.int v10), (.ref b857)])) rfl (by rw [hml]; rfl) (argsL := [(.int v10)]) (rest := []) rfl (lenOf pd_2 rfl) rfl (by show 2 * 0 + _ ≤ _; exact Nat.le_of_eq rfl) (hb hby at_309)
              obtain ⟨r935, v931, v932, v933, v934, hv931, hv932, hv933, hv934, hc936, rfl, N930, e930⟩ := hQ930
              have N930_ := Fr.app N920_ N930
              refine Go.st (S' := T930.setTop (mkF m 312 A923 [(.int r935)])) st930 ?_
              refine Go.st (S' := T930.setTop (mkF m 314 A923 [(.int r908), (.int r935)])) (fun t k => XS.iload X930.here hx rfl (hb hby at_312) rfl k) ?_
              have hu937 : r935 = r908 := by
                rw [own_ct hW897 (by rw [hv10]; exact (own_P511 _).1) (by rw [hv10]; exact (own_P511 _).2) hv931 hv932 hv933 hv934 hc936]
                rcases hc909 with ⟨y0, y1⟩ | ⟨y0, y1, y2⟩ | ⟨y0, y1, y2⟩
                · rw [if_pos (Or.inl y0)]; exact y1.symm
                · rw [if_pos (Or.inr (Or.inl y1))]; exact y2.symm
                · rw [if_neg (fun o => o.elim y0 (fun o => o.elim y1 y1))]; exact y2.symm
              obtain rfl : r935 = r908 := hu937
              let A938 : Array Slot := #[.val (.int p0), .val (.int p1), .val (.int p2), .val (.int p3), .val (.int p4), .val (.int (2 : Int32)), .val (.int v4), .val (.int v6), .val (.int v8), .val (.int v10), .val (.ref b561), .val (.ref b857), .val (.int r935), .val (.int r913), .val (.int r917), .val (.int r921)]
              refine Go.st (S' := T930.setTop (mkF m 317 A938 [])) (fun t k => XS.icmpNo X930.here hx rfl (hb hby at_314) rfl (teq (rfl : r935 = r935)).2 k) ?_
              refine Go.st (S' := T930.setTop (mkF m 319 A938 [(.ref b857)])) (fun t k => XS.aload X930.here hx rfl (hb hby at_317) rfl rfl k) ?_
              have iv939 : ((0 : Int32) < v843 ∨ v850 = (0 : Int64)) ∧ ((1 : Int32) < v843 ∨ v851 = (0 : Int64)) ∧ ((2 : Int32) < v843 ∨ v852 = (0 : Int64)) ∧ ((3 : Int32) < v843 ∨ v853 = (0 : Int64)) := ⟨(own_inv hc880 (own_inv hi898 (Or.inr rfl) hv845) hv850), (own_inv hc880 (own_inv hi898 (Or.inr rfl) hv846) hv851), (own_inv hc880 (own_inv hi898 (Or.inr rfl) hv847) hv852), (own_inv hc880 (own_inv hi898 (Or.inr rfl) hv848) hv853)⟩
              obtain ⟨r940, T940, L940, X940, hQ940, st940⟩ := own_callV (W := 0) (a := b857) (C := "com/example/heaplens/heaplens/sharing/VarSet") X930 hx hZ e930 hown (y := (⟨"com/example/heaplens/heaplens/sharing/VarSet", "size", "()I"⟩ : MethodName)) (z := (⟨"com/example/heaplens/heaplens/sharing/VarSet", "size", "()I"⟩ : MethodName)) (hw _ (List.mem_of_getElem? (i := 21) rfl)) (hw _ (List.mem_of_getElem? (i := 22) rfl)) (notFace_of_selects (args := #[]) (mvT hZ (hw _ (List.mem_of_getElem? (i := 24) rfl)))) (hw _ (List.mem_of_getElem? (i := 24) rfl)) (hw _ (List.mem_of_getElem? (i := 23) rfl)) (hw _ (List.mem_of_getElem? (i := 3) rfl)) (hw _ (List.mem_of_getElem? (i := 25) rfl)) (by decide) (f887) (rm4 l Z a0 hw [] b857 b856 k860 v843 v850 v851 v852 v853 T725.heap n0 Z896 (f888) (hi928) (hc872) (f885) (iv939)) (by decide) (by decide) (by decide) (by decide) (g := (mkF m 319 A938 [(.ref b857)])) rfl (by rw [hml]; rfl) (argsL := []) (rest := []) rfl (lenOf pd_3 rfl) rfl (by show 2 * 0 + _ ≤ _; exact Nat.le_of_eq rfl) (hb hby at_319)
              obtain ⟨r941, hp942, rfl, N940, e940⟩ := hQ940
              have N940_ := Fr.app N930_ N940
              refine Go.st (S' := T940.setTop (mkF m 322 A938 [(.int r941)])) st940 ?_
              refine Go.st (S' := T940.setTop (mkF m 324 A938 [(.int r913), (.int r941)])) (fun t k => XS.iload X940.here hx rfl (hb hby at_322) rfl k) ?_
              have hu943 : r941 = r913 := by
                rw [hp942, own_szL hW897]
                rcases hc914 with ⟨x1, x2⟩ | ⟨x1, x2⟩
                · rw [if_pos x1.symm, if_pos (Or.inr rfl), x2]; rfl
                · rw [if_neg (fun e => x1 e.symm), if_pos (Or.inr rfl), x2]; rfl
              obtain rfl : r941 = r913 := hu943
              let A944 : Array Slot := #[.val (.int p0), .val (.int p1), .val (.int p2), .val (.int p3), .val (.int p4), .val (.int (2 : Int32)), .val (.int v4), .val (.int v6), .val (.int v8), .val (.int v10), .val (.ref b561), .val (.ref b857), .val (.int r935), .val (.int r941), .val (.int r917), .val (.int r921)]
              refine Go.st (S' := T940.setTop (mkF m 327 A944 [])) (fun t k => XS.icmpNo X940.here hx rfl (hb hby at_324) rfl (teq (rfl : r941 = r941)).2 k) ?_
              refine Go.st (S' := T940.setTop (mkF m 329 A944 [(.ref b857)])) (fun t k => XS.aload X940.here hx rfl (hb hby at_327) rfl rfl k) ?_
              have iv945 : ((0 : Int32) < v843 ∨ v850 = (0 : Int64)) ∧ ((1 : Int32) < v843 ∨ v851 = (0 : Int64)) ∧ ((2 : Int32) < v843 ∨ v852 = (0 : Int64)) ∧ ((3 : Int32) < v843 ∨ v853 = (0 : Int64)) := ⟨(own_inv hc880 (own_inv hi898 (Or.inr rfl) hv845) hv850), (own_inv hc880 (own_inv hi898 (Or.inr rfl) hv846) hv851), (own_inv hc880 (own_inv hi898 (Or.inr rfl) hv847) hv852), (own_inv hc880 (own_inv hi898 (Or.inr rfl) hv848) hv853)⟩
              obtain ⟨r946, T946, L946, X946, hQ946, st946⟩ := own_callV (W := 0) (a := b857) (C := "com/example/heaplens/heaplens/sharing/VarSet") X940 hx hZ e940 hown (y := (⟨"com/example/heaplens/heaplens/sharing/VarSet", "first", "()I"⟩ : MethodName)) (z := (⟨"com/example/heaplens/heaplens/sharing/VarSet", "first", "()I"⟩ : MethodName)) (hw _ (List.mem_of_getElem? (i := 26) rfl)) (hw _ (List.mem_of_getElem? (i := 27) rfl)) (notFace_of_selects (args := #[]) (mvT hZ (hw _ (List.mem_of_getElem? (i := 29) rfl)))) (hw _ (List.mem_of_getElem? (i := 29) rfl)) (hw _ (List.mem_of_getElem? (i := 28) rfl)) (hw _ (List.mem_of_getElem? (i := 3) rfl)) (hw _ (List.mem_of_getElem? (i := 30) rfl)) (by decide) (f887) (rm6 l Z a0 hw [] b857 b856 k860 v843 v850 v851 v852 v853 T725.heap n0 Z896 (f887) (f888) (hi928) (hc872) (f885) (iv945)) (by decide) (by decide) (by decide) (by decide) (g := (mkF m 329 A944 [(.ref b857)])) rfl (by rw [hml]; rfl) (argsL := []) (rest := []) rfl (lenOf pd_3 rfl) rfl (by show 2 * 0 + _ ≤ _; exact Nat.le_of_eq rfl) (hb hby at_329)
              obtain ⟨r947, hp948, rfl, N946, e946⟩ := hQ946
              have N946_ := Fr.app N940_ N946
              refine Go.st (S' := T946.setTop (mkF m 332 A944 [(.int r947)])) st946 ?_
              refine Go.st (S' := T946.setTop (mkF m 334 A944 [(.int r917), (.int r947)])) (fun t k => XS.iload X946.here hx rfl (hb hby at_332) rfl k) ?_
              have hu949 : r947 = r917 := by
                rw [hp948, own_fiL hW897]
                rw [own_min_self, ← own_min_of hc918]
              obtain rfl : r947 = r917 := hu949
              let A950 : Array Slot := #[.val (.int p0), .val (.int p1), .val (.int p2), .val (.int p3), .val (.int p4), .val (.int (2 : Int32)), .val (.int v4), .val (.int v6), .val (.int v8), .val (.int v10), .val (.ref b561), .val (.ref b857), .val (.int r935), .val (.int r941), .val (.int r947), .val (.int r921)]
              refine Go.st (S' := T946.setTop (mkF m 337 A950 [])) (fun t k => XS.icmpNo X946.here hx rfl (hb hby at_334) rfl (teq (rfl : r947 = r947)).2 k) ?_
              refine Go.st (S' := T946.setTop (mkF m 339 A950 [(.ref b857)])) (fun t k => XS.aload X946.here hx rfl (hb hby at_337) rfl rfl k) ?_
              obtain ⟨r951, T951, L951, X951, hQ951, st951⟩ := own_callV (W := 0) (a := b857) (C := "com/example/heaplens/heaplens/sharing/VarSet") X946 hx hZ e946 hown (y := (⟨"com/example/heaplens/heaplens/sharing/VarSet", "last", "()I"⟩ : MethodName)) (z := (⟨"com/example/heaplens/heaplens/sharing/VarSet", "last", "()I"⟩ : MethodName)) (hw _ (List.mem_of_getElem? (i := 36) rfl)) (hw _ (List.mem_of_getElem? (i := 37) rfl)) (notFace_of_selects (args := #[]) (mvT hZ (hw _ (List.mem_of_getElem? (i := 39) rfl)))) (hw _ (List.mem_of_getElem? (i := 39) rfl)) (hw _ (List.mem_of_getElem? (i := 38) rfl)) (hw _ (List.mem_of_getElem? (i := 3) rfl)) (hw _ (List.mem_of_getElem? (i := 40) rfl)) (by decide) (f887) (rm7 l Z a0 hw [] b857 b856 k860 v843 v850 v851 v852 v853 T725.heap n0 Z896 (f888) (hi928) (hc872) (f885)) (by decide) (by decide) (by decide) (by decide) (g := (mkF m 339 A950 [(.ref b857)])) rfl (by rw [hml]; rfl) (argsL := []) (rest := []) rfl (lenOf pd_3 rfl) rfl (by show 2 * 0 + _ ≤ _; exact Nat.le_of_eq rfl) (hb hby at_339)
              obtain ⟨r958, v952, v953, v954, v955, v956, v957, hv952, hv953, hv954, hv955, hv956, hv957, hc959, rfl, N951, e951⟩ := hQ951
              have N951_ := Fr.app N946_ N951
              refine Go.st (S' := T951.setTop (mkF m 342 A950 [(.int r958)])) st951 ?_
              refine Go.st (S' := T951.setTop (mkF m 344 A950 [(.int r921), (.int r958)])) (fun t k => XS.iload X951.here hx rfl (hb hby at_342) rfl k) ?_
              have hu960 : r958 = r921 := by
                rw [own_laL hW897 hv952 hv953 hv954 hv955 hv956 hv957 hc959]
                rw [own_max_self, ← own_max_of hc922]
              obtain rfl : r958 = r921 := hu960
              let A961 : Array Slot := #[.val (.int p0), .val (.int p1), .val (.int p2), .val (.int p3), .val (.int p4), .val (.int (2 : Int32)), .val (.int v4), .val (.int v6), .val (.int v8), .val (.int v10), .val (.ref b561), .val (.ref b857), .val (.int r935), .val (.int r941), .val (.int r947), .val (.int r958)]
              refine Go.st (S' := T951.setTop (mkF m 347 A961 [])) (fun t k => XS.icmpNo X951.here hx rfl (hb hby at_344) rfl (teq (rfl : r958 = r958)).2 k) ?_
              refine Go.st (S' := T951.setTop (mkF m 349 A961 [(.ref b857)])) (fun t k => XS.aload X951.here hx rfl (hb hby at_347) rfl rfl k) ?_
              obtain ⟨r962, T962, L962, X962, hQ962, st962⟩ := own_callV (W := 0) (a := b857) (C := "com/example/heaplens/heaplens/sharing/VarSet") X951 hx hZ e951 hown (y := (⟨"com/example/heaplens/heaplens/sharing/VarSet", "isEmpty", "()Z"⟩ : MethodName)) (z := (⟨"com/example/heaplens/heaplens/sharing/VarSet", "isEmpty", "()Z"⟩ : MethodName)) (hw _ (List.mem_of_getElem? (i := 41) rfl)) (hw _ (List.mem_of_getElem? (i := 42) rfl)) (notFace_of_selects (args := #[]) (mvT hZ (hw _ (List.mem_of_getElem? (i := 44) rfl)))) (hw _ (List.mem_of_getElem? (i := 44) rfl)) (hw _ (List.mem_of_getElem? (i := 43) rfl)) (hw _ (List.mem_of_getElem? (i := 3) rfl)) (hw _ (List.mem_of_getElem? (i := 45) rfl)) (by decide) (f887) (rm8 l Z a0 hw [] b857 b856 k860 v843 v850 v851 v852 v853 T725.heap n0 Z896 (f888) (hi928) (hc872) (f885)) (by decide) (by decide) (by decide) (by decide) (g := (mkF m 349 A961 [(.ref b857)])) rfl (by rw [hml]; rfl) (argsL := []) (rest := []) rfl (lenOf pd_5 rfl) rfl (by show 2 * 0 + _ ≤ _; exact Nat.le_of_eq rfl) (hb hby at_349)
              obtain ⟨r963, hc964, rfl, N962, e962⟩ := hQ962
              have N962_ := Fr.app N951_ N962
              refine Go.st (S' := T962.setTop (mkF m 352 A961 [(.int r963)])) st962 ?_
              refine Go.st (S' := T962.setTop (mkF m 354 A961 [(.int (2 : Int32)), (.int r963)])) (fun t k => XS.iload X962.here hx rfl (hb hby at_352) rfl k) ?_
              refine Go.st (S' := T962.setTop (mkF m 361 A961 [(.int r963)])) (fun t k => XS.ifYes X962.here hx rfl (pc0 := 354) (pc' := 361) rfl (hb hby at_354) rfl ((if0 _ _).trans (feq (by decide : (¬ ((2 : Int32) = (0 : Int32))))).2) (by decide) (by decide) k) ?_
              refine Go.st (S' := T962.setTop (mkF m 362 A961 [(.int (0 : Int32)), (.int r963)])) (fun t k => XS.iconst X962.here hx rfl (hb hby at_361) k) ?_
              have hu965 : r963 = (0 : Int32) := by
                rcases hc964 with ⟨x1, -⟩ | ⟨-, x1⟩
                · exact absurd x1 (own_zne hW897)
                · exact x1
              obtain rfl : (0 : Int32) = r963 := hu965.symm
              refine Go.st (S' := T962.setTop (mkF m 365 A961 [])) (fun t k => XS.icmpNo X962.here hx rfl (hb hby at_362) rfl (teq (by decide : ((0 : Int32) = (0 : Int32)))).2 k) ?_
              refine Go.st (S' := T962.setTop (mkF m 366 A961 [(.int (1 : Int32))])) (fun t k => XS.iconst X962.here hx rfl (hb hby at_365) k) ?_
              refine Go.st (S' := T962.setTop (mkF m 370 A961 [(.int (1 : Int32))])) (fun t k => XS.goto X962.here hx rfl (pc0 := 366) (pc' := 370) rfl (hb hby at_366) (by decide) (by decide) k) ?_
              exact Go.ret X962 (v := some (.int (1 : Int32))) (fun h => by rw [Bd.returns] at h; cases h) Bd.notSynchronized (fun fs hr => retN X962 hx (t := .boolean) Bd.returns (by simp) (hb hby at_370) hr) (by decide) (by decide) ⟨rfl, N962_⟩
            · intro J966
              by_cases hc967 : (v4 = v6)
              · refine Go.st (S' := T725.setTop (mkF m 213 A910 [])) (fun t k => XS.icmpNo X725.here hx rfl (hb hby at_210) rfl (teq hc967).2 k) ?_
                refine Go.st (S' := T725.setTop (mkF m 214 A910 [(.int (1 : Int32))])) (fun t k => XS.iconst X725.here hx rfl (hb hby at_213) k) ?_
                refine Go.st (S' := T725.setTop (mkF m 218 A910 [(.int (1 : Int32))])) (fun t k => XS.goto X725.here hx rfl (pc0 := 214) (pc' := 218) rfl (hb hby at_214) (by decide) (by decide) k) ?_
                exact J966 ((1 : Int32)) (Or.inl ⟨hc967, rfl⟩)
              · refine Go.st (S' := T725.setTop (mkF m 217 A910 [])) (fun t k => XS.icmpYes X725.here hx rfl (pc0 := 210) (pc' := 217) rfl (hb hby at_210) rfl (feq hc967).2 (by decide) (by decide) k) ?_
                refine Go.st (S' := T725.setTop (mkF m 218 A910 [(.int (2 : Int32))])) (fun t k => XS.iconst X725.here hx rfl (hb hby at_217) k) ?_
                exact J966 ((2 : Int32)) (Or.inr ⟨hc967, rfl⟩)
          · intro J968
            by_cases hc969 : (v10 = v4)
            · refine Go.st (S' := T725.setTop (mkF m 156 A903 [])) (fun t k => XS.icmpYes X725.here hx rfl (pc0 := 127) (pc' := 156) rfl (hb hby at_127) rfl (teq hc969).1 (by decide) (by decide) k) ?_
              refine Go.st (S' := T725.setTop (mkF m 157 A903 [(.int (1 : Int32))])) (fun t k => XS.iconst X725.here hx rfl (hb hby at_156) k) ?_
              refine Go.st (S' := T725.setTop (mkF m 161 A903 [(.int (1 : Int32))])) (fun t k => XS.goto X725.here hx rfl (pc0 := 157) (pc' := 161) rfl (hb hby at_157) (by decide) (by decide) k) ?_
              exact J968 ((1 : Int32)) (Or.inl ⟨hc969, rfl⟩)
            · refine Go.st (S' := T725.setTop (mkF m 130 A903 [])) (fun t k => XS.icmpNo X725.here hx rfl (hb hby at_127) rfl (feq hc969).1 k) ?_
              refine Go.st (S' := T725.setTop (mkF m 132 A903 [(.int (2 : Int32))])) (fun t k => XS.iload X725.here hx rfl (hb hby at_130) rfl k) ?_
              refine Go.st (S' := T725.setTop (mkF m 133 A903 [(.int (2 : Int32)), (.int (2 : Int32))])) (fun t k => XS.iconst X725.here hx rfl (hb hby at_132) k) ?_
              refine Go.st (S' := T725.setTop (mkF m 136 A903 [])) (fun t k => XS.icmpNo X725.here hx rfl (hb hby at_133) rfl (flt (by decide : (¬ ((2 : Int32) < (2 : Int32))))).1 k) ?_
              refine Go.st (S' := T725.setTop (mkF m 138 A903 [(.int v10)])) (fun t k => XS.iload X725.here hx rfl (hb hby at_136) rfl k) ?_
              refine Go.st (S' := T725.setTop (mkF m 140 A903 [(.int v6), (.int v10)])) (fun t k => XS.iload X725.here hx rfl (hb hby at_138) rfl k) ?_
              by_cases hc970 : (v10 = v6)
              · refine Go.st (S' := T725.setTop (mkF m 156 A903 [])) (fun t k => XS.icmpYes X725.here hx rfl (pc0 := 140) (pc' := 156) rfl (hb hby at_140) rfl (teq hc970).1 (by decide) (by decide) k) ?_
                refine Go.st (S' := T725.setTop (mkF m 157 A903 [(.int (1 : Int32))])) (fun t k => XS.iconst X725.here hx rfl (hb hby at_156) k) ?_
                refine Go.st (S' := T725.setTop (mkF m 161 A903 [(.int (1 : Int32))])) (fun t k => XS.goto X725.here hx rfl (pc0 := 157) (pc' := 161) rfl (hb hby at_157) (by decide) (by decide) k) ?_
                exact J968 ((1 : Int32)) (Or.inr (Or.inl ⟨hc969, hc970, rfl⟩))
              · refine Go.st (S' := T725.setTop (mkF m 143 A903 [])) (fun t k => XS.icmpNo X725.here hx rfl (hb hby at_140) rfl (feq hc970).1 k) ?_
                refine Go.st (S' := T725.setTop (mkF m 145 A903 [(.int (2 : Int32))])) (fun t k => XS.iload X725.here hx rfl (hb hby at_143) rfl k) ?_
                refine Go.st (S' := T725.setTop (mkF m 146 A903 [(.int (3 : Int32)), (.int (2 : Int32))])) (fun t k => XS.iconst X725.here hx rfl (hb hby at_145) k) ?_
                refine Go.st (S' := T725.setTop (mkF m 160 A903 [])) (fun t k => XS.icmpYes X725.here hx rfl (pc0 := 146) (pc' := 160) rfl (hb hby at_146) rfl (tlt (by decide : ((2 : Int32) < (3 : Int32)))).1 (by decide) (by decide) k) ?_
                refine Go.st (S' := T725.setTop (mkF m 161 A903 [(.int (0 : Int32))])) (fun t k => XS.iconst X725.here hx rfl (hb hby at_160) k) ?_
                exact J968 ((0 : Int32)) (Or.inr (Or.inr ⟨hc969, hc970, rfl⟩))
      · refine Go.st (S' := s₁.setTop (mkF m 90 A11 [])) (fun t k => XS.icmpYes X0.here hx rfl (pc0 := 69) (pc' := 90) rfl (hb hby at_69) rfl (feq hc560).2 (by decide) (by decide) k) ?_
        refine Go.st (S' := s₁.setTop (mkF m 91 A11 [(.int (3 : Int32))])) (fun t k => XS.iconst X0.here hx rfl (hb hby at_90) k) ?_
        obtain ⟨T971, h971, k971, X971, e971, E971, A971, B971, st971⟩ := newPE X0 hx hZ (hw _ (List.mem_of_getElem? (i := 0) rfl)) e0 (g := (mkF m 91 A11 [(.int (3 : Int32))])) rfl (hb hby at_91) rfl (by decide) (cap := 3) (by decide) (by decide) (by decide) (by decide) (ad := "[I") (by decide)
        obtain ⟨b971, gg971⟩ : ∃ z, z = h0.size := ⟨_, rfl⟩
        rw [← gg971] at A971 B971 st971
        have g_b971 : n0 ≤ b971 := Nat.le_trans Z0 (Nat.le_of_eq gg971.symm)
        have sz_b971 : h0.size ≤ b971 := Nat.le_trans (Keep.refl h0 []).1 (Nat.le_of_eq gg971.symm)
        have Z972 : n0 ≤ h971.size := Nat.le_trans Z0 E971.1
        have K972 : Keep h0 h971 [] := (Keep.refl h0 []).ext E971
        have V971 : Arv Z h971 b971 k971 .int (3 : Int32) [(.int (0 : Int32)), (.int (0 : Int32)), (.int (0 : Int32))] (.int (0 : Int32)) := (Arv.new A971 (by decide)).pad (pad_rep [] (.int (0 : Int32)) 3)
        refine Go.st (S' := T971.setTop (mkF m 93 A11 [(.ref b971)])) st971 ?_
        refine Go.st (S' := T971.setTop (mkF m 94 A11 [(.ref b971), (.ref b971)])) (fun t k => XS.dup X971.here hx rfl (hb hby at_93) rfl rfl k) ?_
        refine Go.st (S' := T971.setTop (mkF m 95 A11 [(.int (0 : Int32)), (.ref b971), (.ref b971)])) (fun t k => XS.iconst X971.here hx rfl (hb hby at_94) k) ?_
        refine Go.st (S' := T971.setTop (mkF m 97 A11 [(.int v4), (.int (0 : Int32)), (.ref b971), (.ref b971)])) (fun t k => XS.iload X971.here hx rfl (hb hby at_95) rfl k) ?_
        obtain ⟨cl973, Ar973, q973, S973, N973_, H973, G973⟩ := id V971
        have hin973 : ¬ ((0 : Int32) < 0 ∨ cl973.slots.size ≤ ((0 : Int32)).toNatClampNeg) := inb_of S973 ⟨by decide, by decide⟩
        obtain ⟨T973, h973, X973, e973, W973, st973⟩ := stI X971 hx hZ e971 Ar973 (j := (0 : Int32)) hin973 (g := (mkF m 97 A11 [(.int v4), (.int (0 : Int32)), (.ref b971), (.ref b971)])) rfl rfl (hb hby at_97)
        have V973 : Arv Z h973 b971 k971 .int (3 : Int32) [(.int v4), (.int (0 : Int32)), (.int (0 : Int32))] (.int (0 : Int32)) := Arv.set Ar973 q973 S973 N973_ H973 G973 rfl W973 0 rfl (Nat.le_of_ble_eq_true rfl)
        have N973 := Fr.snoc X973 N0 g_b971
        have Z974 : n0 ≤ h973.size := Nat.le_trans Z972 (Keep.of_wr W973).1
        have K974 : Keep h0 h973 [] := K972.wr W973 (Or.inr sz_b971)
        refine Go.st (S' := T973.setTop (mkF m 98 A11 [(.ref b971)])) st973 ?_
        refine Go.st (S' := T973.setTop (mkF m 99 A11 [(.ref b971), (.ref b971)])) (fun t k => XS.dup X973.here hx rfl (hb hby at_98) rfl rfl k) ?_
        refine Go.st (S' := T973.setTop (mkF m 100 A11 [(.int (1 : Int32)), (.ref b971), (.ref b971)])) (fun t k => XS.iconst X973.here hx rfl (hb hby at_99) k) ?_
        refine Go.st (S' := T973.setTop (mkF m 102 A11 [(.int v6), (.int (1 : Int32)), (.ref b971), (.ref b971)])) (fun t k => XS.iload X973.here hx rfl (hb hby at_100) rfl k) ?_
        obtain ⟨cl975, Ar975, q975, S975, N975_, H975, G975⟩ := id V973
        have hin975 : ¬ ((1 : Int32) < 0 ∨ cl975.slots.size ≤ ((1 : Int32)).toNatClampNeg) := inb_of S975 ⟨by decide, by decide⟩
        obtain ⟨T975, h975, X975, e975, W975, st975⟩ := stI X973 hx hZ e973 Ar975 (j := (1 : Int32)) hin975 (g := (mkF m 102 A11 [(.int v6), (.int (1 : Int32)), (.ref b971), (.ref b971)])) rfl rfl (hb hby at_102)
        have V975 : Arv Z h975 b971 k971 .int (3 : Int32) [(.int v4), (.int v6), (.int (0 : Int32))] (.int (0 : Int32)) := Arv.set Ar975 q975 S975 N975_ H975 G975 rfl W975 1 rfl (Nat.le_of_ble_eq_true rfl)
        have N975 := Fr.snoc X975 N973 g_b971
        have Z976 : n0 ≤ h975.size := Nat.le_trans Z974 (Keep.of_wr W975).1
        have K976 : Keep h0 h975 [] := K974.wr W975 (Or.inr sz_b971)
        refine Go.st (S' := T975.setTop (mkF m 103 A11 [(.ref b971)])) st975 ?_
        refine Go.st (S' := T975.setTop (mkF m 104 A11 [(.ref b971), (.ref b971)])) (fun t k => XS.dup X975.here hx rfl (hb hby at_103) rfl rfl k) ?_
        refine Go.st (S' := T975.setTop (mkF m 105 A11 [(.int (2 : Int32)), (.ref b971), (.ref b971)])) (fun t k => XS.iconst X975.here hx rfl (hb hby at_104) k) ?_
        refine Go.st (S' := T975.setTop (mkF m 107 A11 [(.int v8), (.int (2 : Int32)), (.ref b971), (.ref b971)])) (fun t k => XS.iload X975.here hx rfl (hb hby at_105) rfl k) ?_
        obtain ⟨cl977, Ar977, q977, S977, N977_, H977, G977⟩ := id V975
        have hin977 : ¬ ((2 : Int32) < 0 ∨ cl977.slots.size ≤ ((2 : Int32)).toNatClampNeg) := inb_of S977 ⟨by decide, by decide⟩
        obtain ⟨T977, h977, X977, e977, W977, st977⟩ := stI X975 hx hZ e975 Ar977 (j := (2 : Int32)) hin977 (g := (mkF m 107 A11 [(.int v8), (.int (2 : Int32)), (.ref b971), (.ref b971)])) rfl rfl (hb hby at_107)
        have V977 : Arv Z h977 b971 k971 .int (3 : Int32) [(.int v4), (.int v6), (.int v8)] (.int (0 : Int32)) := Arv.set Ar977 q977 S977 N977_ H977 G977 rfl W977 2 rfl (Nat.le_of_ble_eq_true rfl)
        have N977 := Fr.snoc X977 N975 g_b971
        have Z978 : n0 ≤ h977.size := Nat.le_trans Z976 (Keep.of_wr W977).1
        have K978 : Keep h0 h977 [] := K976.wr W977 (Or.inr sz_b971)
        refine Go.st (S' := T977.setTop (mkF m 108 A11 [(.ref b971)])) st977 ?_
        let A979 : Array Slot := #[.val (.int p0), .val (.int p1), .val (.int p2), .val (.int p3), .val (.int p4), .val (.int v2), .val (.int v4), .val (.int v6), .val (.int v8), .val (.int v10), .val (.ref b971), .unset, .unset, .unset, .unset, .unset]
        refine Go.st (S' := T977.setTop (mkF m 110 A979 [])) (fun t k => XS.astore X977.here hx rfl (hb hby at_108) rfl rfl (l' := A979) rfl k) ?_
        have hu980 : v2 = (3 : Int32) := by
          refine Decidable.byContradiction fun hc981 => ?_
          exact ar_55 p0 v2 hv2 hc39 hc357 hc560 hc981
        obtain rfl : (3 : Int32) = v2 := hu980.symm
        obtain ⟨v982, hv982⟩ : ∃ z, z = (p0 &&& (3 : Int32)) := ⟨_, rfl⟩
        have hc983 : v982 = (3 : Int32) := hv982.trans hv2.symm
        let A984 : Array Slot := #[.val (.int p0), .val (.int p1), .val (.int p2), .val (.int p3), .val (.int p4), .val (.int (3 : Int32)), .val (.int v4), .val (.int v6), .val (.int v8), .val (.int v10), .val (.ref b971), .unset, .unset, .unset, .unset, .unset]
        refine Go.st (S' := T977.setTop (mkF m 112 A984 [(.ref b971)])) (fun t k => XS.aload X977.here hx rfl (hb hby at_110) rfl rfl k) ?_
        have hi1297 : (¬ (v4 < (0 : Int32))) := by
          intro hc1298
          exact ar_35 p1 v4 hv4 hc1298
        have hi1299 : (¬ ((255 : Int32) < v4)) := by
          intro hc1300
          exact ar_36 p1 v4 hv4 hi1297 hc1300
        have hi1301 : (¬ (v6 < (0 : Int32))) := by
          intro hc1302
          exact ar_35 p2 v6 hv6 hc1302
        have hi1303 : (¬ ((255 : Int32) < v6)) := by
          intro hc1304
          exact ar_36 p2 v6 hv6 hi1301 hc1304
        have hi1305 : (¬ (v8 < (0 : Int32))) := by
          intro hc1306
          exact ar_35 p3 v8 hv8 hc1306
        have hi1307 : (¬ ((255 : Int32) < v8)) := by
          intro hc1308
          exact ar_36 p3 v8 hv8 hi1305 hc1308
        obtain ⟨r1309, T1309, L1309, X1309, hQ1309, st1309⟩ := own_callS (W := 0) X977 hx hZ e977 hown (y := (⟨"com/example/heaplens/heaplens/sharing/VarSet", "of", "([I)Lcom/example/heaplens/heaplens/sharing/VarSet;"⟩ : MethodName)) (hw _ (List.mem_of_getElem? (i := 1) rfl)) (hw _ (List.mem_of_getElem? (i := 2) rfl)) (hw _ (List.mem_of_getElem? (i := 3) rfl)) (hw _ (List.mem_of_getElem? (i := 4) rfl)) (by decide) (rm14 l Z a0 hw [] b971 k971 v4 v6 v8 h977 n0 Z978 (hi1297) (hi1299) (hi1301) (hi1303) (hi1305) (hi1307) (V977)) (by decide) (by decide) (by decide) (by decide) (g := (mkF m 112 A984 [(.ref b971)])) rfl (by rw [hml]; rfl) (argsL := [(.ref b971)]) (rest := []) rfl (lenOf pd_1 rfl) rfl (by show 2 * 0 + _ ≤ _; exact Nat.le_of_eq rfl) (hb hby at_112)
        rcases hQ1309 with hQ1309 | hQ1309 | hQ1309 | hQ1309
        · obtain ⟨v1310, v1311, v1312, v1313, v1314, v1315, v1316, v1317, v1318, v1319, v1320, v1321, v1322, v1323, v1324, v1325, v1326, v1327, v1328, b1329, b1330, b1331, k1332, k1333, hv1310, hv1311, hv1312, hv1313, hv1314, hv1315, hv1316, hv1317, hv1318, hv1319, hv1320, hv1321, hv1322, hv1323, hv1324, hv1325, hv1326, hv1327, hv1328, hc1334, hc1335, hc1336, hc1337, hc1338, hc1339, hc1340, hc1341, hc1342, hc1343, hc1344, hc1345, hc1346, hc1347, hc1348, rfl, N1309, K1309_, sz_b1329_, sz_b1330_, sz_b1331_, f1349, f1350, f1351, f1352, f1353, f1354, hlt1355, hlt1356, hlt1357⟩ := hQ1309
          have N1309_ := Fr.app N977 N1309
          have g_b1329 : n0 ≤ b1329 := Nat.le_trans Z978 sz_b1329_
          have sz_b1329 : h0.size ≤ b1329 := Nat.le_trans K978.1 sz_b1329_
          have f1358 := ((((((B971).wr W973)).wr W975)).wr W977)
          have lt_b971_b1329 : b971 < b1329 := Nat.lt_of_lt_of_le (f1358).lt sz_b1329_
          have g_b1330 : n0 ≤ b1330 := Nat.le_trans Z978 sz_b1330_
          have sz_b1330 : h0.size ≤ b1330 := Nat.le_trans K978.1 sz_b1330_
          have lt_b971_b1330 : b971 < b1330 := Nat.lt_of_lt_of_le (f1358).lt sz_b1330_
          have g_b1331 : n0 ≤ b1331 := Nat.le_trans Z978 sz_b1331_
          have sz_b1331 : h0.size ≤ b1331 := Nat.le_trans K978.1 sz_b1331_
          have lt_b971_b1331 : b971 < b1331 := Nat.lt_of_lt_of_le (f1358).lt sz_b1331_
          have Z1359 : n0 ≤ T1309.heap.size := Nat.le_trans Z978 K1309_.1
          have K1359 : Keep h0 T1309.heap [] := K978.trans K1309_ all0
          refine Go.st (S' := T1309.setTop (mkF m 115 A984 [(.ref b1331)])) st1309 ?_
          have hR1361 : own_R v4 := by rw [hv4]; exact own_R255 _
          have hR1362 : own_R v6 := by rw [hv6]; exact own_R255 _
          have hR1363 : own_R v8 := by rw [hv8]; exact own_R255 _
          have hW1360 : own_W v4 v6 v8 v1319 v1322 v1325 v1328 v1311 := ⟨⟨hR1361, hR1362, hR1363⟩, ⟨(by rw [hv1319, hv1317, hv1315, hv1310, hv1314, hv1312, hv1316, hv1313, hv1318]; exact rfl), (by rw [hv1322, hv1321, hv1320, hv1310, hv1314, hv1312, hv1316, hv1313, hv1318]; exact rfl), (by rw [hv1325, hv1324, hv1323, hv1310, hv1314, hv1312, hv1316, hv1313, hv1318]; exact rfl), (by rw [hv1328, hv1327, hv1326, hv1310, hv1314, hv1312, hv1316, hv1313, hv1318]; exact rfl)⟩, ⟨(by rw [← hv1310]; exact hc1342), (by rw [← hv1312]; exact hc1343), (by rw [← hv1313]; exact hc1346)⟩, (Or.inl (by rw [← hv1310]; exact hv1311))⟩
          let A1364 : Array Slot := #[.val (.int p0), .val (.int p1), .val (.int p2), .val (.int p3), .val (.int p4), .val (.int (3 : Int32)), .val (.int v4), .val (.int v6), .val (.int v8), .val (.int v10), .val (.ref b971), .val (.ref b1331), .unset, .unset, .unset, .unset]
          refine Go.st (S' := T1309.setTop (mkF m 117 A1364 [])) (fun t k => XS.astore X1309.here hx rfl (hb hby at_115) rfl rfl (l' := A1364) rfl k) ?_
          refine Go.st (S' := T1309.setTop (mkF m 119 A1364 [(.int (3 : Int32))])) (fun t k => XS.iload X1309.here hx rfl (hb hby at_117) rfl k) ?_
          refine Go.st (S' := T1309.setTop (mkF m 120 A1364 [(.int (1 : Int32)), (.int (3 : Int32))])) (fun t k => XS.iconst X1309.here hx rfl (hb hby at_119) k) ?_
          refine Go.st (S' := T1309.setTop (mkF m 123 A1364 [])) (fun t k => XS.icmpNo X1309.here hx rfl (hb hby at_120) rfl (flt (by decide : (¬ ((3 : Int32) < (1 : Int32))))).1 k) ?_
          refine Go.st (S' := T1309.setTop (mkF m 125 A1364 [(.int v10)])) (fun t k => XS.iload X1309.here hx rfl (hb hby at_123) rfl k) ?_
          refine Go.st (S' := T1309.setTop (mkF m 127 A1364 [(.int v4), (.int v10)])) (fun t k => XS.iload X1309.here hx rfl (hb hby at_125) rfl k) ?_
          refine Go.join (α := Int32) (fun r => (((v10 = v4) ∧ (r = (1 : Int32))) ∨ ((¬ (v10 = v4)) ∧ (v10 = v6) ∧ (r = (1 : Int32))) ∨ ((¬ (v10 = v4)) ∧ (¬ (v10 = v6)) ∧ (v10 = v8) ∧ (r = (1 : Int32))) ∨ ((¬ (v10 = v4)) ∧ (¬ (v10 = v6)) ∧ (¬ (v10 = v8)) ∧ (r = (0 : Int32))))) (fun r => T1309.setTop (mkF m 161 A1364 [(.int r)])) ?_ ?_
          · intro r1371 hc1372
            let A1373 : Array Slot := #[.val (.int p0), .val (.int p1), .val (.int p2), .val (.int p3), .val (.int p4), .val (.int (3 : Int32)), .val (.int v4), .val (.int v6), .val (.int v8), .val (.int v10), .val (.ref b971), .val (.ref b1331), .val (.int r1371), .unset, .unset, .unset]
            refine Go.st (S' := T1309.setTop (mkF m 163 A1373 [])) (fun t k => XS.istore X1309.here hx rfl (hb hby at_161) rfl (l' := A1373) rfl k) ?_
            refine Go.st (S' := T1309.setTop (mkF m 165 A1373 [(.int (3 : Int32))])) (fun t k => XS.iload X1309.here hx rfl (hb hby at_163) rfl k) ?_
            refine Go.st (S' := T1309.setTop (mkF m 180 A1373 [])) (fun t k => XS.ifYes X1309.here hx rfl (pc0 := 165) (pc' := 180) rfl (hb hby at_165) rfl ((if0 _ _).trans (feq (by decide : (¬ ((3 : Int32) = (0 : Int32))))).2) (by decide) (by decide) k) ?_
            refine Go.st (S' := T1309.setTop (mkF m 182 A1373 [(.int (3 : Int32))])) (fun t k => XS.iload X1309.here hx rfl (hb hby at_180) rfl k) ?_
            refine Go.st (S' := T1309.setTop (mkF m 183 A1373 [(.int (1 : Int32)), (.int (3 : Int32))])) (fun t k => XS.iconst X1309.here hx rfl (hb hby at_182) k) ?_
            refine Go.st (S' := T1309.setTop (mkF m 200 A1373 [])) (fun t k => XS.icmpYes X1309.here hx rfl (pc0 := 183) (pc' := 200) rfl (hb hby at_183) rfl (feq (by decide : (¬ ((3 : Int32) = (1 : Int32))))).2 (by decide) (by decide) k) ?_
            refine Go.st (S' := T1309.setTop (mkF m 202 A1373 [(.int (3 : Int32))])) (fun t k => XS.iload X1309.here hx rfl (hb hby at_200) rfl k) ?_
            refine Go.st (S' := T1309.setTop (mkF m 203 A1373 [(.int (2 : Int32)), (.int (3 : Int32))])) (fun t k => XS.iconst X1309.here hx rfl (hb hby at_202) k) ?_
            refine Go.st (S' := T1309.setTop (mkF m 241 A1373 [])) (fun t k => XS.icmpYes X1309.here hx rfl (pc0 := 203) (pc' := 241) rfl (hb hby at_203) rfl (feq (by decide : (¬ ((3 : Int32) = (2 : Int32))))).2 (by decide) (by decide) k) ?_
            refine Go.st (S' := T1309.setTop (mkF m 242 A1373 [(.int (1 : Int32))])) (fun t k => XS.iconst X1309.here hx rfl (hb hby at_241) k) ?_
            refine Go.st (S' := T1309.setTop (mkF m 244 A1373 [(.int v6), (.int (1 : Int32))])) (fun t k => XS.iload X1309.here hx rfl (hb hby at_242) rfl k) ?_
            refine Go.st (S' := T1309.setTop (mkF m 246 A1373 [(.int v4), (.int v6), (.int (1 : Int32))])) (fun t k => XS.iload X1309.here hx rfl (hb hby at_244) rfl k) ?_
            refine Go.join (α := Int32) (fun r => (((v6 = v4) ∧ (r = (0 : Int32))) ∨ ((¬ (v6 = v4)) ∧ (r = (1 : Int32))))) (fun r => T1309.setTop (mkF m 254 A1373 [(.int r), (.int (1 : Int32))])) ?_ ?_
            · intro r1376 hc1377
              refine Go.op (F := fun z => T1309.setTop (mkF m 255 A1373 [(.int z)])) (x := ((1 : Int32) + r1376)) (fun t k => XS.iadd X1309.here hx rfl (hb hby at_254) rfl k) ?_
              intro v1378 hv1378
              refine Go.st (S' := T1309.setTop (mkF m 257 A1373 [(.int v8), (.int v1378)])) (fun t k => XS.iload X1309.here hx rfl (hb hby at_255) rfl k) ?_
              refine Go.st (S' := T1309.setTop (mkF m 259 A1373 [(.int v4), (.int v8), (.int v1378)])) (fun t k => XS.iload X1309.here hx rfl (hb hby at_257) rfl k) ?_
              refine Go.join (α := Int32) (fun r => (((v8 = v4) ∧ (r = (0 : Int32))) ∨ ((¬ (v8 = v4)) ∧ (v8 = v6) ∧ (r = (0 : Int32))) ∨ ((¬ (v8 = v4)) ∧ (¬ (v8 = v6)) ∧ (r = (1 : Int32))))) (fun r => T1309.setTop (mkF m 274 A1373 [(.int r), (.int v1378)])) ?_ ?_
              · intro r1383 hc1384
                refine Go.op (F := fun z => T1309.setTop (mkF m 275 A1373 [(.int z)])) (x := (v1378 + r1383)) (fun t k => XS.iadd X1309.here hx rfl (hb hby at_274) rfl k) ?_
                intro v1385 hv1385
                let A1386 : Array Slot := #[.val (.int p0), .val (.int p1), .val (.int p2), .val (.int p3), .val (.int p4), .val (.int (3 : Int32)), .val (.int v4), .val (.int v6), .val (.int v8), .val (.int v10), .val (.ref b971), .val (.ref b1331), .val (.int r1371), .val (.int v1385), .unset, .unset]
                refine Go.st (S' := T1309.setTop (mkF m 277 A1386 [])) (fun t k => XS.istore X1309.here hx rfl (hb hby at_275) rfl (l' := A1386) rfl k) ?_
                refine Go.st (S' := T1309.setTop (mkF m 279 A1386 [(.int v4)])) (fun t k => XS.iload X1309.here hx rfl (hb hby at_277) rfl k) ?_
                refine Go.st (S' := T1309.setTop (mkF m 281 A1386 [(.int v6), (.int v4)])) (fun t k => XS.iload X1309.here hx rfl (hb hby at_279) rfl k) ?_
                refine Go.st (S' := T1309.setTop (mkF m 283 A1386 [(.int v8), (.int v6), (.int v4)])) (fun t k => XS.iload X1309.here hx rfl (hb hby at_281) rfl k) ?_
                obtain ⟨r1387, T1387, L1387, X1387, hQ1387, st1387⟩ := own_callS (W := 1) X1309 hx hZ rfl hown (y := (⟨"java/lang/Math", "min", "(II)I"⟩ : MethodName)) (hw _ (List.mem_of_getElem? (i := 58) rfl)) (hw _ (List.mem_of_getElem? (i := 51) rfl)) (hw _ (List.mem_of_getElem? (i := 52) rfl)) (hw _ (List.mem_of_getElem? (i := 53) rfl)) (by decide) (rm9 l Z a0 hw [] v6 v8 T1309.heap n0 Z1359 ) (by decide) (by decide) (by decide) (by decide) (g := (mkF m 283 A1386 [(.int v8), (.int v6), (.int v4)])) rfl (by rw [hml]; rfl) (argsL := [(.int v6), (.int v8)]) (rest := [(.int v4)]) rfl (lenOf pd_6 rfl) rfl (by show 2 * 0 + _ ≤ _; exact Nat.le_of_eq rfl) (hb hby at_283)
                obtain ⟨r1388, hc1389, rfl, N1387, e1387⟩ := hQ1387
                have N1387_ := Fr.app N1309_ N1387
                refine Go.st (S' := T1387.setTop (mkF m 286 A1386 [(.int r1388), (.int v4)])) st1387 ?_
                obtain ⟨r1390, T1390, L1390, X1390, hQ1390, st1390⟩ := own_callS (W := 0) X1387 hx hZ e1387 hown (y := (⟨"java/lang/Math", "min", "(II)I"⟩ : MethodName)) (hw _ (List.mem_of_getElem? (i := 58) rfl)) (hw _ (List.mem_of_getElem? (i := 51) rfl)) (hw _ (List.mem_of_getElem? (i := 52) rfl)) (hw _ (List.mem_of_getElem? (i := 53) rfl)) (by decide) (rm9 l Z a0 hw [] v4 r1388 T1309.heap n0 Z1359 ) (by decide) (by decide) (by decide) (by decide) (g := (mkF m 286 A1386 [(.int r1388), (.int v4)])) rfl (by rw [hml]; rfl) (argsL := [(.int v4), (.int r1388)]) (rest := []) rfl (lenOf pd_6 rfl) rfl (by show 2 * 0 + _ ≤ _; exact Nat.le_of_eq rfl) (hb hby at_286)
                obtain ⟨r1391, hc1392, rfl, N1390, e1390⟩ := hQ1390
                have N1390_ := Fr.app N1387_ N1390
                refine Go.st (S' := T1390.setTop (mkF m 289 A1386 [(.int r1391)])) st1390 ?_
                let A1393 : Array Slot := #[.val (.int p0), .val (.int p1), .val (.int p2), .val (.int p3), .val (.int p4), .val (.int (3 : Int32)), .val (.int v4), .val (.int v6), .val (.int v8), .val (.int v10), .val (.ref b971), .val (.ref b1331), .val (.int r1371), .val (.int v1385), .val (.int r1391), .unset]
                refine Go.st (S' := T1390.setTop (mkF m 291 A1393 [])) (fun t k => XS.istore X1390.here hx rfl (hb hby at_289) rfl (l' := A1393) rfl k) ?_
                refine Go.st (S' := T1390.setTop (mkF m 293 A1393 [(.int v4)])) (fun t k => XS.iload X1390.here hx rfl (hb hby at_291) rfl k) ?_
                refine Go.st (S' := T1390.setTop (mkF m 295 A1393 [(.int v6), (.int v4)])) (fun t k => XS.iload X1390.here hx rfl (hb hby at_293) rfl k) ?_
                refine Go.st (S' := T1390.setTop (mkF m 297 A1393 [(.int v8), (.int v6), (.int v4)])) (fun t k => XS.iload X1390.here hx rfl (hb hby at_295) rfl k) ?_
                obtain ⟨r1394, T1394, L1394, X1394, hQ1394, st1394⟩ := own_callS (W := 1) X1390 hx hZ e1390 hown (y := (⟨"java/lang/Math", "max", "(II)I"⟩ : MethodName)) (hw _ (List.mem_of_getElem? (i := 59) rfl)) (hw _ (List.mem_of_getElem? (i := 60) rfl)) (hw _ (List.mem_of_getElem? (i := 52) rfl)) (hw _ (List.mem_of_getElem? (i := 61) rfl)) (by decide) (rm13 l Z a0 hw [] v6 v8 T1309.heap n0 Z1359 ) (by decide) (by decide) (by decide) (by decide) (g := (mkF m 297 A1393 [(.int v8), (.int v6), (.int v4)])) rfl (by rw [hml]; rfl) (argsL := [(.int v6), (.int v8)]) (rest := [(.int v4)]) rfl (lenOf pd_6 rfl) rfl (by show 2 * 0 + _ ≤ _; exact Nat.le_of_eq rfl) (hb hby at_297)
                obtain ⟨r1395, hc1396, rfl, N1394, e1394⟩ := hQ1394
                have N1394_ := Fr.app N1390_ N1394
                refine Go.st (S' := T1394.setTop (mkF m 300 A1393 [(.int r1395), (.int v4)])) st1394 ?_
                obtain ⟨r1397, T1397, L1397, X1397, hQ1397, st1397⟩ := own_callS (W := 0) X1394 hx hZ e1394 hown (y := (⟨"java/lang/Math", "max", "(II)I"⟩ : MethodName)) (hw _ (List.mem_of_getElem? (i := 59) rfl)) (hw _ (List.mem_of_getElem? (i := 60) rfl)) (hw _ (List.mem_of_getElem? (i := 52) rfl)) (hw _ (List.mem_of_getElem? (i := 61) rfl)) (by decide) (rm13 l Z a0 hw [] v4 r1395 T1309.heap n0 Z1359 ) (by decide) (by decide) (by decide) (by decide) (g := (mkF m 300 A1393 [(.int r1395), (.int v4)])) rfl (by rw [hml]; rfl) (argsL := [(.int v4), (.int r1395)]) (rest := []) rfl (lenOf pd_6 rfl) rfl (by show 2 * 0 + _ ≤ _; exact Nat.le_of_eq rfl) (hb hby at_300)
                obtain ⟨r1398, hc1399, rfl, N1397, e1397⟩ := hQ1397
                have N1397_ := Fr.app N1394_ N1397
                refine Go.st (S' := T1397.setTop (mkF m 303 A1393 [(.int r1398)])) st1397 ?_
                let A1400 : Array Slot := #[.val (.int p0), .val (.int p1), .val (.int p2), .val (.int p3), .val (.int p4), .val (.int (3 : Int32)), .val (.int v4), .val (.int v6), .val (.int v8), .val (.int v10), .val (.ref b971), .val (.ref b1331), .val (.int r1371), .val (.int v1385), .val (.int r1391), .val (.int r1398)]
                refine Go.st (S' := T1397.setTop (mkF m 305 A1400 [])) (fun t k => XS.istore X1397.here hx rfl (hb hby at_303) rfl (l' := A1400) rfl k) ?_
                refine Go.st (S' := T1397.setTop (mkF m 307 A1400 [(.ref b1331)])) (fun t k => XS.aload X1397.here hx rfl (hb hby at_305) rfl rfl k) ?_
                refine Go.st (S' := T1397.setTop (mkF m 309 A1400 [(.int v10), (.ref b1331)])) (fun t k => XS.iload X1397.here hx rfl (hb hby at_307) rfl k) ?_
                have hi1401 : (¬ (v10 < (0 : Int32))) := by
                  intro hc1402
                  exact ar_75 p4 v10 p1 v4 p2 v6 p3 v8 r1371 hv10 hv4 hv6 hv8 hc1372 hc1402
                have hi1403 : (¬ ((511 : Int32) < v10)) := by
                  intro hc1404
                  exact ar_76 p4 v10 p1 v4 p2 v6 p3 v8 r1371 hv10 hv4 hv6 hv8 hc1372 hi1401 hc1404
                have hi1405 : (¬ (v1311 < (0 : Int32))) := by
                  intro hc1406
                  exact ar_77 p1 v4 p2 v6 p3 v8 v1310 v1311 v1312 v1313 hv4 hv6 hv8 hv1310 hv1311 hv1312 hv1313 hi1297 hi1299 hi1301 hi1303 hi1305 hi1307 hc1334 hc1335 hc1336 hc1337 hc1339 hc1340 hc1341 hc1342 hc1343 hc1344 hc1345 hc1346 hc1347 hc1348 hc1406
                obtain ⟨r1407, T1407, L1407, X1407, hQ1407, st1407⟩ := own_callV (W := 0) (a := b1331) (C := "com/example/heaplens/heaplens/sharing/VarSet") X1397 hx hZ e1397 hown (y := (⟨"com/example/heaplens/heaplens/sharing/VarSet", "contains", "(I)Z"⟩ : MethodName)) (z := (⟨"com/example/heaplens/heaplens/sharing/VarSet", "contains", "(I)Z"⟩ : MethodName)) (hw _ (List.mem_of_getElem? (i := 16) rfl)) (hw _ (List.mem_of_getElem? (i := 17) rfl)) (notFace_of_selects (args := #[]) (mvT hZ (hw _ (List.mem_of_getElem? (i := 19) rfl)))) (hw _ (List.mem_of_getElem? (i := 19) rfl)) (hw _ (List.mem_of_getElem? (i := 18) rfl)) (hw _ (List.mem_of_getElem? (i := 3) rfl)) (hw _ (List.mem_of_getElem? (i := 20) rfl)) (by decide) (f1353) (rm3 l Z a0 hw [] b1331 v10 b1330 k1333 v1311 v1319 v1322 v1325 v1328 T1309.heap n0 Z1359 (hi1401) (hi1403) (f1354) (hi1405) (hc1336) (f1351)) (by decide) (by decide) (by decide) (by decide) (g := (mkF m 309 A1400 [(.int v10), (.ref b1331)])) rfl (by rw [hml]; rfl) (argsL := [(.int v10)]) (rest := []) rfl (lenOf pd_2 rfl) rfl (by show 2 * 0 + _ ≤ _; exact Nat.le_of_eq rfl) (hb hby at_309)
                obtain ⟨r1412, v1408, v1409, v1410, v1411, hv1408, hv1409, hv1410, hv1411, hc1413, rfl, N1407, e1407⟩ := hQ1407
                have N1407_ := Fr.app N1397_ N1407
                refine Go.st (S' := T1407.setTop (mkF m 312 A1400 [(.int r1412)])) st1407 ?_
                refine Go.st (S' := T1407.setTop (mkF m 314 A1400 [(.int r1371), (.int r1412)])) (fun t k => XS.iload X1407.here hx rfl (hb hby at_312) rfl k) ?_
                have hu1414 : r1412 = r1371 := by
                  rw [own_ct hW1360 (by rw [hv10]; exact (own_P511 _).1) (by rw [hv10]; exact (own_P511 _).2) hv1408 hv1409 hv1410 hv1411 hc1413]
                  rcases hc1372 with ⟨y0, y1⟩ | ⟨y0, y1, y2⟩ | ⟨y0, y1, y2, y3⟩ | ⟨y0, y1, y2, y3⟩
                  · rw [if_pos (Or.inl y0)]; exact y1.symm
                  · rw [if_pos (Or.inr (Or.inl y1))]; exact y2.symm
                  · rw [if_pos (Or.inr (Or.inr y2))]; exact y3.symm
                  · rw [if_neg (fun o => o.elim y0 (fun o => o.elim y1 y2))]; exact y3.symm
                obtain rfl : r1412 = r1371 := hu1414
                let A1415 : Array Slot := #[.val (.int p0), .val (.int p1), .val (.int p2), .val (.int p3), .val (.int p4), .val (.int (3 : Int32)), .val (.int v4), .val (.int v6), .val (.int v8), .val (.int v10), .val (.ref b971), .val (.ref b1331), .val (.int r1412), .val (.int v1385), .val (.int r1391), .val (.int r1398)]
                refine Go.st (S' := T1407.setTop (mkF m 317 A1415 [])) (fun t k => XS.icmpNo X1407.here hx rfl (hb hby at_314) rfl (teq (rfl : r1412 = r1412)).2 k) ?_
                refine Go.st (S' := T1407.setTop (mkF m 319 A1415 [(.ref b1331)])) (fun t k => XS.aload X1407.here hx rfl (hb hby at_317) rfl rfl k) ?_
                have iv1416 : ((0 : Int32) < v1311 ∨ v1319 = (0 : Int64)) ∧ ((1 : Int32) < v1311 ∨ v1322 = (0 : Int64)) ∧ ((2 : Int32) < v1311 ∨ v1325 = (0 : Int64)) ∧ ((3 : Int32) < v1311 ∨ v1328 = (0 : Int64)) := ⟨(own_inv hc1346 (own_inv hc1343 (own_inv hc1342 (Or.inr rfl) hv1315) hv1317) hv1319), (own_inv hc1346 (own_inv hc1343 (own_inv hc1342 (Or.inr rfl) hv1320) hv1321) hv1322), (own_inv hc1346 (own_inv hc1343 (own_inv hc1342 (Or.inr rfl) hv1323) hv1324) hv1325), (own_inv hc1346 (own_inv hc1343 (own_inv hc1342 (Or.inr rfl) hv1326) hv1327) hv1328)⟩
                obtain ⟨r1417, T1417, L1417, X1417, hQ1417, st1417⟩ := own_callV (W := 0) (a := b1331) (C := "com/example/heaplens/heaplens/sharing/VarSet") X1407 hx hZ e1407 hown (y := (⟨"com/example/heaplens/heaplens/sharing/VarSet", "size", "()I"⟩ : MethodName)) (z := (⟨"com/example/heaplens/heaplens/sharing/VarSet", "size", "()I"⟩ : MethodName)) (hw _ (List.mem_of_getElem? (i := 21) rfl)) (hw _ (List.mem_of_getElem? (i := 22) rfl)) (notFace_of_selects (args := #[]) (mvT hZ (hw _ (List.mem_of_getElem? (i := 24) rfl)))) (hw _ (List.mem_of_getElem? (i := 24) rfl)) (hw _ (List.mem_of_getElem? (i := 23) rfl)) (hw _ (List.mem_of_getElem? (i := 3) rfl)) (hw _ (List.mem_of_getElem? (i := 25) rfl)) (by decide) (f1353) (rm4 l Z a0 hw [] b1331 b1330 k1333 v1311 v1319 v1322 v1325 v1328 T1309.heap n0 Z1359 (f1354) (hi1405) (hc1336) (f1351) (iv1416)) (by decide) (by decide) (by decide) (by decide) (g := (mkF m 319 A1415 [(.ref b1331)])) rfl (by rw [hml]; rfl) (argsL := []) (rest := []) rfl (lenOf pd_3 rfl) rfl (by show 2 * 0 + _ ≤ _; exact Nat.le_of_eq rfl) (hb hby at_319)
                obtain ⟨r1418, hp1419, rfl, N1417, e1417⟩ := hQ1417
                have N1417_ := Fr.app N1407_ N1417
                refine Go.st (S' := T1417.setTop (mkF m 322 A1415 [(.int r1418)])) st1417 ?_
                refine Go.st (S' := T1417.setTop (mkF m 324 A1415 [(.int v1385), (.int r1418)])) (fun t k => XS.iload X1417.here hx rfl (hb hby at_322) rfl k) ?_
                have hu1420 : r1418 = v1385 := by
                  rw [hp1419, own_szL hW1360]
                  rw [hv1385, hv1378]
                  rcases hc1377 with ⟨x1, x2⟩ | ⟨x1, x2⟩
                  · rcases hc1384 with ⟨y1, y2⟩ | ⟨y0, y1, y2⟩ | ⟨y0, y1, y2⟩
                    · rw [if_pos x1, if_pos (Or.inl y1), x2, y2]
                    · rw [if_pos x1, if_pos (Or.inr y1), x2, y2]
                    · rw [if_pos x1, if_neg (fun o => o.elim y0 y1), x2, y2]
                  · rcases hc1384 with ⟨y1, y2⟩ | ⟨y0, y1, y2⟩ | ⟨y0, y1, y2⟩
                    · rw [if_neg x1, if_pos (Or.inl y1), x2, y2]
                    · rw [if_neg x1, if_pos (Or.inr y1), x2, y2]
                    · rw [if_neg x1, if_neg (fun o => o.elim y0 y1), x2, y2]
                obtain rfl : v1385 = r1418 := hu1420.symm
                refine Go.st (S' := T1417.setTop (mkF m 327 A1415 [])) (fun t k => XS.icmpNo X1417.here hx rfl (hb hby at_324) rfl (teq (rfl : v1385 = v1385)).2 k) ?_
                refine Go.st (S' := T1417.setTop (mkF m 329 A1415 [(.ref b1331)])) (fun t k => XS.aload X1417.here hx rfl (hb hby at_327) rfl rfl k) ?_
                have iv1421 : ((0 : Int32) < v1311 ∨ v1319 = (0 : Int64)) ∧ ((1 : Int32) < v1311 ∨ v1322 = (0 : Int64)) ∧ ((2 : Int32) < v1311 ∨ v1325 = (0 : Int64)) ∧ ((3 : Int32) < v1311 ∨ v1328 = (0 : Int64)) := ⟨(own_inv hc1346 (own_inv hc1343 (own_inv hc1342 (Or.inr rfl) hv1315) hv1317) hv1319), (own_inv hc1346 (own_inv hc1343 (own_inv hc1342 (Or.inr rfl) hv1320) hv1321) hv1322), (own_inv hc1346 (own_inv hc1343 (own_inv hc1342 (Or.inr rfl) hv1323) hv1324) hv1325), (own_inv hc1346 (own_inv hc1343 (own_inv hc1342 (Or.inr rfl) hv1326) hv1327) hv1328)⟩
                obtain ⟨r1422, T1422, L1422, X1422, hQ1422, st1422⟩ := own_callV (W := 0) (a := b1331) (C := "com/example/heaplens/heaplens/sharing/VarSet") X1417 hx hZ e1417 hown (y := (⟨"com/example/heaplens/heaplens/sharing/VarSet", "first", "()I"⟩ : MethodName)) (z := (⟨"com/example/heaplens/heaplens/sharing/VarSet", "first", "()I"⟩ : MethodName)) (hw _ (List.mem_of_getElem? (i := 26) rfl)) (hw _ (List.mem_of_getElem? (i := 27) rfl)) (notFace_of_selects (args := #[]) (mvT hZ (hw _ (List.mem_of_getElem? (i := 29) rfl)))) (hw _ (List.mem_of_getElem? (i := 29) rfl)) (hw _ (List.mem_of_getElem? (i := 28) rfl)) (hw _ (List.mem_of_getElem? (i := 3) rfl)) (hw _ (List.mem_of_getElem? (i := 30) rfl)) (by decide) (f1353) (rm6 l Z a0 hw [] b1331 b1330 k1333 v1311 v1319 v1322 v1325 v1328 T1309.heap n0 Z1359 (f1353) (f1354) (hi1405) (hc1336) (f1351) (iv1421)) (by decide) (by decide) (by decide) (by decide) (g := (mkF m 329 A1415 [(.ref b1331)])) rfl (by rw [hml]; rfl) (argsL := []) (rest := []) rfl (lenOf pd_3 rfl) rfl (by show 2 * 0 + _ ≤ _; exact Nat.le_of_eq rfl) (hb hby at_329)
                obtain ⟨r1423, hp1424, rfl, N1422, e1422⟩ := hQ1422
                have N1422_ := Fr.app N1417_ N1422
                refine Go.st (S' := T1422.setTop (mkF m 332 A1415 [(.int r1423)])) st1422 ?_
                refine Go.st (S' := T1422.setTop (mkF m 334 A1415 [(.int r1391), (.int r1423)])) (fun t k => XS.iload X1422.here hx rfl (hb hby at_332) rfl k) ?_
                have hu1425 : r1423 = r1391 := by
                  rw [hp1424, own_fiL hW1360]
                  rw [← own_min_of hc1389, ← own_min_of hc1392]
                obtain rfl : r1423 = r1391 := hu1425
                let A1426 : Array Slot := #[.val (.int p0), .val (.int p1), .val (.int p2), .val (.int p3), .val (.int p4), .val (.int (3 : Int32)), .val (.int v4), .val (.int v6), .val (.int v8), .val (.int v10), .val (.ref b971), .val (.ref b1331), .val (.int r1412), .val (.int v1385), .val (.int r1423), .val (.int r1398)]
                refine Go.st (S' := T1422.setTop (mkF m 337 A1426 [])) (fun t k => XS.icmpNo X1422.here hx rfl (hb hby at_334) rfl (teq (rfl : r1423 = r1423)).2 k) ?_
                refine Go.st (S' := T1422.setTop (mkF m 339 A1426 [(.ref b1331)])) (fun t k => XS.aload X1422.here hx rfl (hb hby at_337) rfl rfl k) ?_
                obtain ⟨r1427, T1427, L1427, X1427, hQ1427, st1427⟩ := own_callV (W := 0) (a := b1331) (C := "com/example/heaplens/heaplens/sharing/VarSet") X1422 hx hZ e1422 hown (y := (⟨"com/example/heaplens/heaplens/sharing/VarSet", "last", "()I"⟩ : MethodName)) (z := (⟨"com/example/heaplens/heaplens/sharing/VarSet", "last", "()I"⟩ : MethodName)) (hw _ (List.mem_of_getElem? (i := 36) rfl)) (hw _ (List.mem_of_getElem? (i := 37) rfl)) (notFace_of_selects (args := #[]) (mvT hZ (hw _ (List.mem_of_getElem? (i := 39) rfl)))) (hw _ (List.mem_of_getElem? (i := 39) rfl)) (hw _ (List.mem_of_getElem? (i := 38) rfl)) (hw _ (List.mem_of_getElem? (i := 3) rfl)) (hw _ (List.mem_of_getElem? (i := 40) rfl)) (by decide) (f1353) (rm7 l Z a0 hw [] b1331 b1330 k1333 v1311 v1319 v1322 v1325 v1328 T1309.heap n0 Z1359 (f1354) (hi1405) (hc1336) (f1351)) (by decide) (by decide) (by decide) (by decide) (g := (mkF m 339 A1426 [(.ref b1331)])) rfl (by rw [hml]; rfl) (argsL := []) (rest := []) rfl (lenOf pd_3 rfl) rfl (by show 2 * 0 + _ ≤ _; exact Nat.le_of_eq rfl) (hb hby at_339)
                obtain ⟨r1434, v1428, v1429, v1430, v1431, v1432, v1433, hv1428, hv1429, hv1430, hv1431, hv1432, hv1433, hc1435, rfl, N1427, e1427⟩ := hQ1427
                have N1427_ := Fr.app N1422_ N1427
                refine Go.st (S' := T1427.setTop (mkF m 342 A1426 [(.int r1434)])) st1427 ?_
                refine Go.st (S' := T1427.setTop (mkF m 344 A1426 [(.int r1398), (.int r1434)])) (fun t k => XS.iload X1427.here hx rfl (hb hby at_342) rfl k) ?_
                have hu1436 : r1434 = r1398 := by
                  rw [own_laL hW1360 hv1428 hv1429 hv1430 hv1431 hv1432 hv1433 hc1435]
                  rw [← own_max_of hc1396, ← own_max_of hc1399]
                obtain rfl : r1434 = r1398 := hu1436
                let A1437 : Array Slot := #[.val (.int p0), .val (.int p1), .val (.int p2), .val (.int p3), .val (.int p4), .val (.int (3 : Int32)), .val (.int v4), .val (.int v6), .val (.int v8), .val (.int v10), .val (.ref b971), .val (.ref b1331), .val (.int r1412), .val (.int v1385), .val (.int r1423), .val (.int r1434)]
                refine Go.st (S' := T1427.setTop (mkF m 347 A1437 [])) (fun t k => XS.icmpNo X1427.here hx rfl (hb hby at_344) rfl (teq (rfl : r1434 = r1434)).2 k) ?_
                refine Go.st (S' := T1427.setTop (mkF m 349 A1437 [(.ref b1331)])) (fun t k => XS.aload X1427.here hx rfl (hb hby at_347) rfl rfl k) ?_
                obtain ⟨r1438, T1438, L1438, X1438, hQ1438, st1438⟩ := own_callV (W := 0) (a := b1331) (C := "com/example/heaplens/heaplens/sharing/VarSet") X1427 hx hZ e1427 hown (y := (⟨"com/example/heaplens/heaplens/sharing/VarSet", "isEmpty", "()Z"⟩ : MethodName)) (z := (⟨"com/example/heaplens/heaplens/sharing/VarSet", "isEmpty", "()Z"⟩ : MethodName)) (hw _ (List.mem_of_getElem? (i := 41) rfl)) (hw _ (List.mem_of_getElem? (i := 42) rfl)) (notFace_of_selects (args := #[]) (mvT hZ (hw _ (List.mem_of_getElem? (i := 44) rfl)))) (hw _ (List.mem_of_getElem? (i := 44) rfl)) (hw _ (List.mem_of_getElem? (i := 43) rfl)) (hw _ (List.mem_of_getElem? (i := 3) rfl)) (hw _ (List.mem_of_getElem? (i := 45) rfl)) (by decide) (f1353) (rm8 l Z a0 hw [] b1331 b1330 k1333 v1311 v1319 v1322 v1325 v1328 T1309.heap n0 Z1359 (f1354) (hi1405) (hc1336) (f1351)) (by decide) (by decide) (by decide) (by decide) (g := (mkF m 349 A1437 [(.ref b1331)])) rfl (by rw [hml]; rfl) (argsL := []) (rest := []) rfl (lenOf pd_5 rfl) rfl (by show 2 * 0 + _ ≤ _; exact Nat.le_of_eq rfl) (hb hby at_349)
                obtain ⟨r1439, hc1440, rfl, N1438, e1438⟩ := hQ1438
                have N1438_ := Fr.app N1427_ N1438
                refine Go.st (S' := T1438.setTop (mkF m 352 A1437 [(.int r1439)])) st1438 ?_
                refine Go.st (S' := T1438.setTop (mkF m 354 A1437 [(.int (3 : Int32)), (.int r1439)])) (fun t k => XS.iload X1438.here hx rfl (hb hby at_352) rfl k) ?_
                refine Go.st (S' := T1438.setTop (mkF m 361 A1437 [(.int r1439)])) (fun t k => XS.ifYes X1438.here hx rfl (pc0 := 354) (pc' := 361) rfl (hb hby at_354) rfl ((if0 _ _).trans (feq (by decide : (¬ ((3 : Int32) = (0 : Int32))))).2) (by decide) (by decide) k) ?_
                refine Go.st (S' := T1438.setTop (mkF m 362 A1437 [(.int (0 : Int32)), (.int r1439)])) (fun t k => XS.iconst X1438.here hx rfl (hb hby at_361) k) ?_
                have hu1441 : r1439 = (0 : Int32) := by
                  rcases hc1440 with ⟨x1, -⟩ | ⟨-, x1⟩
                  · exact absurd x1 (own_zne hW1360)
                  · exact x1
                obtain rfl : (0 : Int32) = r1439 := hu1441.symm
                refine Go.st (S' := T1438.setTop (mkF m 365 A1437 [])) (fun t k => XS.icmpNo X1438.here hx rfl (hb hby at_362) rfl (teq (by decide : ((0 : Int32) = (0 : Int32)))).2 k) ?_
                refine Go.st (S' := T1438.setTop (mkF m 366 A1437 [(.int (1 : Int32))])) (fun t k => XS.iconst X1438.here hx rfl (hb hby at_365) k) ?_
                refine Go.st (S' := T1438.setTop (mkF m 370 A1437 [(.int (1 : Int32))])) (fun t k => XS.goto X1438.here hx rfl (pc0 := 366) (pc' := 370) rfl (hb hby at_366) (by decide) (by decide) k) ?_
                exact Go.ret X1438 (v := some (.int (1 : Int32))) (fun h => by rw [Bd.returns] at h; cases h) Bd.notSynchronized (fun fs hr => retN X1438 hx (t := .boolean) Bd.returns (by simp) (hb hby at_370) hr) (by decide) (by decide) ⟨rfl, N1438_⟩
              · intro J1442
                by_cases hc1443 : (v8 = v4)
                · refine Go.st (S' := T1309.setTop (mkF m 273 A1373 [(.int v1378)])) (fun t k => XS.icmpYes X1309.here hx rfl (pc0 := 259) (pc' := 273) rfl (hb hby at_259) rfl (teq hc1443).1 (by decide) (by decide) k) ?_
                  refine Go.st (S' := T1309.setTop (mkF m 274 A1373 [(.int (0 : Int32)), (.int v1378)])) (fun t k => XS.iconst X1309.here hx rfl (hb hby at_273) k) ?_
                  exact J1442 ((0 : Int32)) (Or.inl ⟨hc1443, rfl⟩)
                · refine Go.st (S' := T1309.setTop (mkF m 262 A1373 [(.int v1378)])) (fun t k => XS.icmpNo X1309.here hx rfl (hb hby at_259) rfl (feq hc1443).1 k) ?_
                  refine Go.st (S' := T1309.setTop (mkF m 264 A1373 [(.int v8), (.int v1378)])) (fun t k => XS.iload X1309.here hx rfl (hb hby at_262) rfl k) ?_
                  refine Go.st (S' := T1309.setTop (mkF m 266 A1373 [(.int v6), (.int v8), (.int v1378)])) (fun t k => XS.iload X1309.here hx rfl (hb hby at_264) rfl k) ?_
                  by_cases hc1444 : (v8 = v6)
                  · refine Go.st (S' := T1309.setTop (mkF m 273 A1373 [(.int v1378)])) (fun t k => XS.icmpYes X1309.here hx rfl (pc0 := 266) (pc' := 273) rfl (hb hby at_266) rfl (teq hc1444).1 (by decide) (by decide) k) ?_
                    refine Go.st (S' := T1309.setTop (mkF m 274 A1373 [(.int (0 : Int32)), (.int v1378)])) (fun t k => XS.iconst X1309.here hx rfl (hb hby at_273) k) ?_
                    exact J1442 ((0 : Int32)) (Or.inr (Or.inl ⟨hc1443, hc1444, rfl⟩))
                  · refine Go.st (S' := T1309.setTop (mkF m 269 A1373 [(.int v1378)])) (fun t k => XS.icmpNo X1309.here hx rfl (hb hby at_266) rfl (feq hc1444).1 k) ?_
                    refine Go.st (S' := T1309.setTop (mkF m 270 A1373 [(.int (1 : Int32)), (.int v1378)])) (fun t k => XS.iconst X1309.here hx rfl (hb hby at_269) k) ?_
                    refine Go.st (S' := T1309.setTop (mkF m 274 A1373 [(.int (1 : Int32)), (.int v1378)])) (fun t k => XS.goto X1309.here hx rfl (pc0 := 270) (pc' := 274) rfl (hb hby at_270) (by decide) (by decide) k) ?_
                    exact J1442 ((1 : Int32)) (Or.inr (Or.inr ⟨hc1443, hc1444, rfl⟩))
            · intro J1445
              by_cases hc1446 : (v6 = v4)
              · refine Go.st (S' := T1309.setTop (mkF m 253 A1373 [(.int (1 : Int32))])) (fun t k => XS.icmpYes X1309.here hx rfl (pc0 := 246) (pc' := 253) rfl (hb hby at_246) rfl (teq hc1446).1 (by decide) (by decide) k) ?_
                refine Go.st (S' := T1309.setTop (mkF m 254 A1373 [(.int (0 : Int32)), (.int (1 : Int32))])) (fun t k => XS.iconst X1309.here hx rfl (hb hby at_253) k) ?_
                exact J1445 ((0 : Int32)) (Or.inl ⟨hc1446, rfl⟩)
              · refine Go.st (S' := T1309.setTop (mkF m 249 A1373 [(.int (1 : Int32))])) (fun t k => XS.icmpNo X1309.here hx rfl (hb hby at_246) rfl (feq hc1446).1 k) ?_
                refine Go.st (S' := T1309.setTop (mkF m 250 A1373 [(.int (1 : Int32)), (.int (1 : Int32))])) (fun t k => XS.iconst X1309.here hx rfl (hb hby at_249) k) ?_
                refine Go.st (S' := T1309.setTop (mkF m 254 A1373 [(.int (1 : Int32)), (.int (1 : Int32))])) (fun t k => XS.goto X1309.here hx rfl (pc0 := 250) (pc' := 254) rfl (hb hby at_250) (by decide) (by decide) k) ?_
                exact J1445 ((1 : Int32)) (Or.inr ⟨hc1446, rfl⟩)
          · intro J1447
            by_cases hc1448 : (v10 = v4)
            · refine Go.st (S' := T1309.setTop (mkF m 156 A1364 [])) (fun t k => XS.icmpYes X1309.here hx rfl (pc0 := 127) (pc' := 156) rfl (hb hby at_127) rfl (teq hc1448).1 (by decide) (by decide) k) ?_
              refine Go.st (S' := T1309.setTop (mkF m 157 A1364 [(.int (1 : Int32))])) (fun t k => XS.iconst X1309.here hx rfl (hb hby at_156) k) ?_
              refine Go.st (S' := T1309.setTop (mkF m 161 A1364 [(.int (1 : Int32))])) (fun t k => XS.goto X1309.here hx rfl (pc0 := 157) (pc' := 161) rfl (hb hby at_157) (by decide) (by decide) k) ?_
              exact J1447 ((1 : Int32)) (Or.inl ⟨hc1448, rfl⟩)
            · refine Go.st (S' := T1309.setTop (mkF m 130 A1364 [])) (fun t k => XS.icmpNo X1309.here hx rfl (hb hby at_127) rfl (feq hc1448).1 k) ?_
              refine Go.st (S' := T1309.setTop (mkF m 132 A1364 [(.int (3 : Int32))])) (fun t k => XS.iload X1309.here hx rfl (hb hby at_130) rfl k) ?_
              refine Go.st (S' := T1309.setTop (mkF m 133 A1364 [(.int (2 : Int32)), (.int (3 : Int32))])) (fun t k => XS.iconst X1309.here hx rfl (hb hby at_132) k) ?_
              refine Go.st (S' := T1309.setTop (mkF m 136 A1364 [])) (fun t k => XS.icmpNo X1309.here hx rfl (hb hby at_133) rfl (flt (by decide : (¬ ((3 : Int32) < (2 : Int32))))).1 k) ?_
              refine Go.st (S' := T1309.setTop (mkF m 138 A1364 [(.int v10)])) (fun t k => XS.iload X1309.here hx rfl (hb hby at_136) rfl k) ?_
              refine Go.st (S' := T1309.setTop (mkF m 140 A1364 [(.int v6), (.int v10)])) (fun t k => XS.iload X1309.here hx rfl (hb hby at_138) rfl k) ?_
              by_cases hc1449 : (v10 = v6)
              · refine Go.st (S' := T1309.setTop (mkF m 156 A1364 [])) (fun t k => XS.icmpYes X1309.here hx rfl (pc0 := 140) (pc' := 156) rfl (hb hby at_140) rfl (teq hc1449).1 (by decide) (by decide) k) ?_
                refine Go.st (S' := T1309.setTop (mkF m 157 A1364 [(.int (1 : Int32))])) (fun t k => XS.iconst X1309.here hx rfl (hb hby at_156) k) ?_
                refine Go.st (S' := T1309.setTop (mkF m 161 A1364 [(.int (1 : Int32))])) (fun t k => XS.goto X1309.here hx rfl (pc0 := 157) (pc' := 161) rfl (hb hby at_157) (by decide) (by decide) k) ?_
                exact J1447 ((1 : Int32)) (Or.inr (Or.inl ⟨hc1448, hc1449, rfl⟩))
              · refine Go.st (S' := T1309.setTop (mkF m 143 A1364 [])) (fun t k => XS.icmpNo X1309.here hx rfl (hb hby at_140) rfl (feq hc1449).1 k) ?_
                refine Go.st (S' := T1309.setTop (mkF m 145 A1364 [(.int (3 : Int32))])) (fun t k => XS.iload X1309.here hx rfl (hb hby at_143) rfl k) ?_
                refine Go.st (S' := T1309.setTop (mkF m 146 A1364 [(.int (3 : Int32)), (.int (3 : Int32))])) (fun t k => XS.iconst X1309.here hx rfl (hb hby at_145) k) ?_
                refine Go.st (S' := T1309.setTop (mkF m 149 A1364 [])) (fun t k => XS.icmpNo X1309.here hx rfl (hb hby at_146) rfl (flt (by decide : (¬ ((3 : Int32) < (3 : Int32))))).1 k) ?_
                refine Go.st (S' := T1309.setTop (mkF m 151 A1364 [(.int v10)])) (fun t k => XS.iload X1309.here hx rfl (hb hby at_149) rfl k) ?_
                refine Go.st (S' := T1309.setTop (mkF m 153 A1364 [(.int v8), (.int v10)])) (fun t k => XS.iload X1309.here hx rfl (hb hby at_151) rfl k) ?_
                by_cases hc1450 : (v10 = v8)
                · refine Go.st (S' := T1309.setTop (mkF m 156 A1364 [])) (fun t k => XS.icmpNo X1309.here hx rfl (hb hby at_153) rfl (teq hc1450).2 k) ?_
                  refine Go.st (S' := T1309.setTop (mkF m 157 A1364 [(.int (1 : Int32))])) (fun t k => XS.iconst X1309.here hx rfl (hb hby at_156) k) ?_
                  refine Go.st (S' := T1309.setTop (mkF m 161 A1364 [(.int (1 : Int32))])) (fun t k => XS.goto X1309.here hx rfl (pc0 := 157) (pc' := 161) rfl (hb hby at_157) (by decide) (by decide) k) ?_
                  exact J1447 ((1 : Int32)) (Or.inr (Or.inr (Or.inl ⟨hc1448, hc1449, hc1450, rfl⟩)))
                · refine Go.st (S' := T1309.setTop (mkF m 160 A1364 [])) (fun t k => XS.icmpYes X1309.here hx rfl (pc0 := 153) (pc' := 160) rfl (hb hby at_153) rfl (feq hc1450).2 (by decide) (by decide) k) ?_
                  refine Go.st (S' := T1309.setTop (mkF m 161 A1364 [(.int (0 : Int32))])) (fun t k => XS.iconst X1309.here hx rfl (hb hby at_160) k) ?_
                  exact J1447 ((0 : Int32)) (Or.inr (Or.inr (Or.inr ⟨hc1448, hc1449, hc1450, rfl⟩)))
        · obtain ⟨v1451, v1452, v1453, v1454, v1455, v1456, v1457, v1458, v1459, v1460, v1461, v1462, v1463, v1464, v1465, v1466, v1467, v1468, v1469, v1470, b1471, b1472, b1473, b1474, k1475, k1476, k1477, hv1451, hv1452, hv1453, hv1454, hv1455, hv1456, hv1457, hv1458, hv1459, hv1460, hv1461, hv1462, hv1463, hv1464, hv1465, hv1466, hv1467, hv1468, hv1469, hv1470, hc1478, hc1479, hc1480, hc1481, hc1482, hc1483, hc1484, hc1485, hc1486, hc1487, hc1488, hc1489, hc1490, hc1491, hc1492, hc1493, hc1494, hc1495, hc1496, hc1497, hc1498, hc1499, hc1500, rfl, N1309, K1309_, sz_b1471_, sz_b1472_, sz_b1473_, sz_b1474_, f1501, f1502, f1503, f1504, f1505, f1506, f1507, f1508, hlt1509, hlt1510, hlt1511, hlt1512, hlt1513, hlt1514⟩ := hQ1309
          have N1309_ := Fr.app N977 N1309
          have g_b1471 : n0 ≤ b1471 := Nat.le_trans Z978 sz_b1471_
          have sz_b1471 : h0.size ≤ b1471 := Nat.le_trans K978.1 sz_b1471_
          have f1515 := ((((((B971).wr W973)).wr W975)).wr W977)
          have lt_b971_b1471 : b971 < b1471 := Nat.lt_of_lt_of_le (f1515).lt sz_b1471_
          have g_b1472 : n0 ≤ b1472 := Nat.le_trans Z978 sz_b1472_
          have sz_b1472 : h0.size ≤ b1472 := Nat.le_trans K978.1 sz_b1472_
          have lt_b971_b1472 : b971 < b1472 := Nat.lt_of_lt_of_le (f1515).lt sz_b1472_
          have g_b1473 : n0 ≤ b1473 := Nat.le_trans Z978 sz_b1473_
          have sz_b1473 : h0.size ≤ b1473 := Nat.le_trans K978.1 sz_b1473_
          have lt_b971_b1473 : b971 < b1473 := Nat.lt_of_lt_of_le (f1515).lt sz_b1473_
          have g_b1474 : n0 ≤ b1474 := Nat.le_trans Z978 sz_b1474_
          have sz_b1474 : h0.size ≤ b1474 := Nat.le_trans K978.1 sz_b1474_
          have lt_b971_b1474 : b971 < b1474 := Nat.lt_of_lt_of_le (f1515).lt sz_b1474_
          have Z1516 : n0 ≤ T1309.heap.size := Nat.le_trans Z978 K1309_.1
          have K1516 : Keep h0 T1309.heap [] := K978.trans K1309_ all0
          refine Go.st (S' := T1309.setTop (mkF m 115 A984 [(.ref b1474)])) st1309 ?_
          have hi1518 : (v1451 < v1455) := by
            refine Decidable.byContradiction fun hc1519 => ?_
            exact ar_78 p1 v4 p2 v6 p3 v8 v1451 v1452 v1453 v1454 v1455 hv4 hv6 hv8 hv1451 hv1452 hv1453 hv1454 hv1455 hi1297 hi1299 hi1301 hi1303 hi1305 hi1307 hc1478 hc1479 hc1480 hc1481 hc1483 hc1485 hc1486 hc1487 hc1488 hc1489 hc1490 hc1491 hc1492 hc1493 hc1494 hc1496 hc1497 hc1498 hc1499 hc1500 hc1519
          have hi1520 : (v1453 < v1455) := by
            refine Decidable.byContradiction fun hc1521 => ?_
            exact ar_79 p1 v4 p2 v6 p3 v8 v1451 v1452 v1453 v1454 v1455 hv4 hv6 hv8 hv1451 hv1452 hv1453 hv1454 hv1455 hi1297 hi1299 hi1301 hi1303 hi1305 hi1307 hc1478 hc1479 hc1480 hc1481 hc1483 hc1485 hc1486 hc1487 hc1488 hc1489 hc1490 hc1491 hc1492 hc1493 hc1494 hc1496 hc1497 hc1498 hc1499 hc1500 hi1518 hc1521
          have hR1522 : own_R v4 := by rw [hv4]; exact own_R255 _
          have hR1523 : own_R v6 := by rw [hv6]; exact own_R255 _
          have hR1524 : own_R v8 := by rw [hv8]; exact own_R255 _
          have hW1517 : own_W v4 v6 v8 v1467 v1468 v1469 v1470 v1455 := ⟨⟨hR1522, hR1523, hR1524⟩, ⟨(by rw [hv1467, hv1459, hv1457, hv1451, hv1456, hv1453, hv1458, hv1454, hv1466]; exact rfl), (by rw [hv1468, hv1461, hv1460, hv1451, hv1456, hv1453, hv1458, hv1454, hv1466]; exact rfl), (by rw [hv1469, hv1463, hv1462, hv1451, hv1456, hv1453, hv1458, hv1454, hv1466]; exact rfl), (by rw [hv1470, hv1465, hv1464, hv1451, hv1456, hv1453, hv1458, hv1454, hv1466]; exact rfl)⟩, ⟨(by rw [← hv1451]; exact hi1518), (by rw [← hv1453]; exact hi1520), (by rw [← hv1454]; exact hc1500)⟩, (Or.inr (Or.inr (by rw [← hv1454]; exact hv1455)))⟩
          let A1525 : Array Slot := #[.val (.int p0), .val (.int p1), .val (.int p2), .val (.int p3), .val (.int p4), .val (.int (3 : Int32)), .val (.int v4), .val (.int v6), .val (.int v8), .val (.int v10), .val (.ref b971), .val (.ref b1474), .unset, .unset, .unset, .unset]
          refine Go.st (S' := T1309.setTop (mkF m 117 A1525 [])) (fun t k => XS.astore X1309.here hx rfl (hb hby at_115) rfl rfl (l' := A1525) rfl k) ?_
          refine Go.st (S' := T1309.setTop (mkF m 119 A1525 [(.int (3 : Int32))])) (fun t k => XS.iload X1309.here hx rfl (hb hby at_117) rfl k) ?_
          refine Go.st (S' := T1309.setTop (mkF m 120 A1525 [(.int (1 : Int32)), (.int (3 : Int32))])) (fun t k => XS.iconst X1309.here hx rfl (hb hby at_119) k) ?_
          refine Go.st (S' := T1309.setTop (mkF m 123 A1525 [])) (fun t k => XS.icmpNo X1309.here hx rfl (hb hby at_120) rfl (flt (by decide : (¬ ((3 : Int32) < (1 : Int32))))).1 k) ?_
          refine Go.st (S' := T1309.setTop (mkF m 125 A1525 [(.int v10)])) (fun t k => XS.iload X1309.here hx rfl (hb hby at_123) rfl k) ?_
          refine Go.st (S' := T1309.setTop (mkF m 127 A1525 [(.int v4), (.int v10)])) (fun t k => XS.iload X1309.here hx rfl (hb hby at_125) rfl k) ?_
          refine Go.join (α := Int32) (fun r => (((v10 = v4) ∧ (r = (1 : Int32))) ∨ ((¬ (v10 = v4)) ∧ (v10 = v6) ∧ (r = (1 : Int32))) ∨ ((¬ (v10 = v4)) ∧ (¬ (v10 = v6)) ∧ (v10 = v8) ∧ (r = (1 : Int32))) ∨ ((¬ (v10 = v4)) ∧ (¬ (v10 = v6)) ∧ (¬ (v10 = v8)) ∧ (r = (0 : Int32))))) (fun r => T1309.setTop (mkF m 161 A1525 [(.int r)])) ?_ ?_
          · intro r1532 hc1533
            let A1534 : Array Slot := #[.val (.int p0), .val (.int p1), .val (.int p2), .val (.int p3), .val (.int p4), .val (.int (3 : Int32)), .val (.int v4), .val (.int v6), .val (.int v8), .val (.int v10), .val (.ref b971), .val (.ref b1474), .val (.int r1532), .unset, .unset, .unset]
            refine Go.st (S' := T1309.setTop (mkF m 163 A1534 [])) (fun t k => XS.istore X1309.here hx rfl (hb hby at_161) rfl (l' := A1534) rfl k) ?_
            refine Go.st (S' := T1309.setTop (mkF m 165 A1534 [(.int (3 : Int32))])) (fun t k => XS.iload X1309.here hx rfl (hb hby at_163) rfl k) ?_
            refine Go.st (S' := T1309.setTop (mkF m 180 A1534 [])) (fun t k => XS.ifYes X1309.here hx rfl (pc0 := 165) (pc' := 180) rfl (hb hby at_165) rfl ((if0 _ _).trans (feq (by decide : (¬ ((3 : Int32) = (0 : Int32))))).2) (by decide) (by decide) k) ?_
            refine Go.st (S' := T1309.setTop (mkF m 182 A1534 [(.int (3 : Int32))])) (fun t k => XS.iload X1309.here hx rfl (hb hby at_180) rfl k) ?_
            refine Go.st (S' := T1309.setTop (mkF m 183 A1534 [(.int (1 : Int32)), (.int (3 : Int32))])) (fun t k => XS.iconst X1309.here hx rfl (hb hby at_182) k) ?_
            refine Go.st (S' := T1309.setTop (mkF m 200 A1534 [])) (fun t k => XS.icmpYes X1309.here hx rfl (pc0 := 183) (pc' := 200) rfl (hb hby at_183) rfl (feq (by decide : (¬ ((3 : Int32) = (1 : Int32))))).2 (by decide) (by decide) k) ?_
            refine Go.st (S' := T1309.setTop (mkF m 202 A1534 [(.int (3 : Int32))])) (fun t k => XS.iload X1309.here hx rfl (hb hby at_200) rfl k) ?_
            refine Go.st (S' := T1309.setTop (mkF m 203 A1534 [(.int (2 : Int32)), (.int (3 : Int32))])) (fun t k => XS.iconst X1309.here hx rfl (hb hby at_202) k) ?_
            refine Go.st (S' := T1309.setTop (mkF m 241 A1534 [])) (fun t k => XS.icmpYes X1309.here hx rfl (pc0 := 203) (pc' := 241) rfl (hb hby at_203) rfl (feq (by decide : (¬ ((3 : Int32) = (2 : Int32))))).2 (by decide) (by decide) k) ?_
            refine Go.st (S' := T1309.setTop (mkF m 242 A1534 [(.int (1 : Int32))])) (fun t k => XS.iconst X1309.here hx rfl (hb hby at_241) k) ?_
            refine Go.st (S' := T1309.setTop (mkF m 244 A1534 [(.int v6), (.int (1 : Int32))])) (fun t k => XS.iload X1309.here hx rfl (hb hby at_242) rfl k) ?_
            refine Go.st (S' := T1309.setTop (mkF m 246 A1534 [(.int v4), (.int v6), (.int (1 : Int32))])) (fun t k => XS.iload X1309.here hx rfl (hb hby at_244) rfl k) ?_
            refine Go.join (α := Int32) (fun r => (((v6 = v4) ∧ (r = (0 : Int32))) ∨ ((¬ (v6 = v4)) ∧ (r = (1 : Int32))))) (fun r => T1309.setTop (mkF m 254 A1534 [(.int r), (.int (1 : Int32))])) ?_ ?_
            · intro r1537 hc1538
              refine Go.op (F := fun z => T1309.setTop (mkF m 255 A1534 [(.int z)])) (x := ((1 : Int32) + r1537)) (fun t k => XS.iadd X1309.here hx rfl (hb hby at_254) rfl k) ?_
              intro v1539 hv1539
              refine Go.st (S' := T1309.setTop (mkF m 257 A1534 [(.int v8), (.int v1539)])) (fun t k => XS.iload X1309.here hx rfl (hb hby at_255) rfl k) ?_
              refine Go.st (S' := T1309.setTop (mkF m 259 A1534 [(.int v4), (.int v8), (.int v1539)])) (fun t k => XS.iload X1309.here hx rfl (hb hby at_257) rfl k) ?_
              refine Go.join (α := Int32) (fun r => (((v8 = v4) ∧ (r = (0 : Int32))) ∨ ((¬ (v8 = v4)) ∧ (v8 = v6) ∧ (r = (0 : Int32))) ∨ ((¬ (v8 = v4)) ∧ (¬ (v8 = v6)) ∧ (r = (1 : Int32))))) (fun r => T1309.setTop (mkF m 274 A1534 [(.int r), (.int v1539)])) ?_ ?_
              · intro r1544 hc1545
                refine Go.op (F := fun z => T1309.setTop (mkF m 275 A1534 [(.int z)])) (x := (v1539 + r1544)) (fun t k => XS.iadd X1309.here hx rfl (hb hby at_274) rfl k) ?_
                intro v1546 hv1546
                let A1547 : Array Slot := #[.val (.int p0), .val (.int p1), .val (.int p2), .val (.int p3), .val (.int p4), .val (.int (3 : Int32)), .val (.int v4), .val (.int v6), .val (.int v8), .val (.int v10), .val (.ref b971), .val (.ref b1474), .val (.int r1532), .val (.int v1546), .unset, .unset]
                refine Go.st (S' := T1309.setTop (mkF m 277 A1547 [])) (fun t k => XS.istore X1309.here hx rfl (hb hby at_275) rfl (l' := A1547) rfl k) ?_
                refine Go.st (S' := T1309.setTop (mkF m 279 A1547 [(.int v4)])) (fun t k => XS.iload X1309.here hx rfl (hb hby at_277) rfl k) ?_
                refine Go.st (S' := T1309.setTop (mkF m 281 A1547 [(.int v6), (.int v4)])) (fun t k => XS.iload X1309.here hx rfl (hb hby at_279) rfl k) ?_
                refine Go.st (S' := T1309.setTop (mkF m 283 A1547 [(.int v8), (.int v6), (.int v4)])) (fun t k => XS.iload X1309.here hx rfl (hb hby at_281) rfl k) ?_
                obtain ⟨r1548, T1548, L1548, X1548, hQ1548, st1548⟩ := own_callS (W := 1) X1309 hx hZ rfl hown (y := (⟨"java/lang/Math", "min", "(II)I"⟩ : MethodName)) (hw _ (List.mem_of_getElem? (i := 58) rfl)) (hw _ (List.mem_of_getElem? (i := 51) rfl)) (hw _ (List.mem_of_getElem? (i := 52) rfl)) (hw _ (List.mem_of_getElem? (i := 53) rfl)) (by decide) (rm9 l Z a0 hw [] v6 v8 T1309.heap n0 Z1516 ) (by decide) (by decide) (by decide) (by decide) (g := (mkF m 283 A1547 [(.int v8), (.int v6), (.int v4)])) rfl (by rw [hml]; rfl) (argsL := [(.int v6), (.int v8)]) (rest := [(.int v4)]) rfl (lenOf pd_6 rfl) rfl (by show 2 * 0 + _ ≤ _; exact Nat.le_of_eq rfl) (hb hby at_283)
                obtain ⟨r1549, hc1550, rfl, N1548, e1548⟩ := hQ1548
                have N1548_ := Fr.app N1309_ N1548
                refine Go.st (S' := T1548.setTop (mkF m 286 A1547 [(.int r1549), (.int v4)])) st1548 ?_
                obtain ⟨r1551, T1551, L1551, X1551, hQ1551, st1551⟩ := own_callS (W := 0) X1548 hx hZ e1548 hown (y := (⟨"java/lang/Math", "min", "(II)I"⟩ : MethodName)) (hw _ (List.mem_of_getElem? (i := 58) rfl)) (hw _ (List.mem_of_getElem? (i := 51) rfl)) (hw _ (List.mem_of_getElem? (i := 52) rfl)) (hw _ (List.mem_of_getElem? (i := 53) rfl)) (by decide) (rm9 l Z a0 hw [] v4 r1549 T1309.heap n0 Z1516 ) (by decide) (by decide) (by decide) (by decide) (g := (mkF m 286 A1547 [(.int r1549), (.int v4)])) rfl (by rw [hml]; rfl) (argsL := [(.int v4), (.int r1549)]) (rest := []) rfl (lenOf pd_6 rfl) rfl (by show 2 * 0 + _ ≤ _; exact Nat.le_of_eq rfl) (hb hby at_286)
                obtain ⟨r1552, hc1553, rfl, N1551, e1551⟩ := hQ1551
                have N1551_ := Fr.app N1548_ N1551
                refine Go.st (S' := T1551.setTop (mkF m 289 A1547 [(.int r1552)])) st1551 ?_
                let A1554 : Array Slot := #[.val (.int p0), .val (.int p1), .val (.int p2), .val (.int p3), .val (.int p4), .val (.int (3 : Int32)), .val (.int v4), .val (.int v6), .val (.int v8), .val (.int v10), .val (.ref b971), .val (.ref b1474), .val (.int r1532), .val (.int v1546), .val (.int r1552), .unset]
                refine Go.st (S' := T1551.setTop (mkF m 291 A1554 [])) (fun t k => XS.istore X1551.here hx rfl (hb hby at_289) rfl (l' := A1554) rfl k) ?_
                refine Go.st (S' := T1551.setTop (mkF m 293 A1554 [(.int v4)])) (fun t k => XS.iload X1551.here hx rfl (hb hby at_291) rfl k) ?_
                refine Go.st (S' := T1551.setTop (mkF m 295 A1554 [(.int v6), (.int v4)])) (fun t k => XS.iload X1551.here hx rfl (hb hby at_293) rfl k) ?_
                refine Go.st (S' := T1551.setTop (mkF m 297 A1554 [(.int v8), (.int v6), (.int v4)])) (fun t k => XS.iload X1551.here hx rfl (hb hby at_295) rfl k) ?_
                obtain ⟨r1555, T1555, L1555, X1555, hQ1555, st1555⟩ := own_callS (W := 1) X1551 hx hZ e1551 hown (y := (⟨"java/lang/Math", "max", "(II)I"⟩ : MethodName)) (hw _ (List.mem_of_getElem? (i := 59) rfl)) (hw _ (List.mem_of_getElem? (i := 60) rfl)) (hw _ (List.mem_of_getElem? (i := 52) rfl)) (hw _ (List.mem_of_getElem? (i := 61) rfl)) (by decide) (rm13 l Z a0 hw [] v6 v8 T1309.heap n0 Z1516 ) (by decide) (by decide) (by decide) (by decide) (g := (mkF m 297 A1554 [(.int v8), (.int v6), (.int v4)])) rfl (by rw [hml]; rfl) (argsL := [(.int v6), (.int v8)]) (rest := [(.int v4)]) rfl (lenOf pd_6 rfl) rfl (by show 2 * 0 + _ ≤ _; exact Nat.le_of_eq rfl) (hb hby at_297)
                obtain ⟨r1556, hc1557, rfl, N1555, e1555⟩ := hQ1555
                have N1555_ := Fr.app N1551_ N1555
                refine Go.st (S' := T1555.setTop (mkF m 300 A1554 [(.int r1556), (.int v4)])) st1555 ?_
                obtain ⟨r1558, T1558, L1558, X1558, hQ1558, st1558⟩ := own_callS (W := 0) X1555 hx hZ e1555 hown (y := (⟨"java/lang/Math", "max", "(II)I"⟩ : MethodName)) (hw _ (List.mem_of_getElem? (i := 59) rfl)) (hw _ (List.mem_of_getElem? (i := 60) rfl)) (hw _ (List.mem_of_getElem? (i := 52) rfl)) (hw _ (List.mem_of_getElem? (i := 61) rfl)) (by decide) (rm13 l Z a0 hw [] v4 r1556 T1309.heap n0 Z1516 ) (by decide) (by decide) (by decide) (by decide) (g := (mkF m 300 A1554 [(.int r1556), (.int v4)])) rfl (by rw [hml]; rfl) (argsL := [(.int v4), (.int r1556)]) (rest := []) rfl (lenOf pd_6 rfl) rfl (by show 2 * 0 + _ ≤ _; exact Nat.le_of_eq rfl) (hb hby at_300)
                obtain ⟨r1559, hc1560, rfl, N1558, e1558⟩ := hQ1558
                have N1558_ := Fr.app N1555_ N1558
                refine Go.st (S' := T1558.setTop (mkF m 303 A1554 [(.int r1559)])) st1558 ?_
                let A1561 : Array Slot := #[.val (.int p0), .val (.int p1), .val (.int p2), .val (.int p3), .val (.int p4), .val (.int (3 : Int32)), .val (.int v4), .val (.int v6), .val (.int v8), .val (.int v10), .val (.ref b971), .val (.ref b1474), .val (.int r1532), .val (.int v1546), .val (.int r1552), .val (.int r1559)]
                refine Go.st (S' := T1558.setTop (mkF m 305 A1561 [])) (fun t k => XS.istore X1558.here hx rfl (hb hby at_303) rfl (l' := A1561) rfl k) ?_
                refine Go.st (S' := T1558.setTop (mkF m 307 A1561 [(.ref b1474)])) (fun t k => XS.aload X1558.here hx rfl (hb hby at_305) rfl rfl k) ?_
                refine Go.st (S' := T1558.setTop (mkF m 309 A1561 [(.int v10), (.ref b1474)])) (fun t k => XS.iload X1558.here hx rfl (hb hby at_307) rfl k) ?_
                have hi1562 : (¬ (v10 < (0 : Int32))) := by
                  intro hc1563
                  exact ar_75 p4 v10 p1 v4 p2 v6 p3 v8 r1532 hv10 hv4 hv6 hv8 hc1533 hc1563
                have hi1564 : (¬ ((511 : Int32) < v10)) := by
                  intro hc1565
                  exact ar_76 p4 v10 p1 v4 p2 v6 p3 v8 r1532 hv10 hv4 hv6 hv8 hc1533 hi1562 hc1565
                have hi1566 : (¬ (v1455 < (0 : Int32))) := by
                  intro hc1567
                  exact ar_80 p1 v4 p2 v6 p3 v8 v1451 v1452 v1453 v1454 v1455 hv4 hv6 hv8 hv1451 hv1452 hv1453 hv1454 hv1455 hi1297 hi1299 hi1301 hi1303 hi1305 hi1307 hc1478 hc1479 hc1480 hc1481 hc1483 hc1485 hc1486 hc1487 hc1488 hc1489 hc1490 hc1491 hc1492 hc1493 hc1494 hc1496 hc1497 hc1498 hc1499 hc1500 hi1518 hi1520 hc1567
                obtain ⟨r1568, T1568, L1568, X1568, hQ1568, st1568⟩ := own_callV (W := 0) (a := b1474) (C := "com/example/heaplens/heaplens/sharing/VarSet") X1558 hx hZ e1558 hown (y := (⟨"com/example/heaplens/heaplens/sharing/VarSet", "contains", "(I)Z"⟩ : MethodName)) (z := (⟨"com/example/heaplens/heaplens/sharing/VarSet", "contains", "(I)Z"⟩ : MethodName)) (hw _ (List.mem_of_getElem? (i := 16) rfl)) (hw _ (List.mem_of_getElem? (i := 17) rfl)) (notFace_of_selects (args := #[]) (mvT hZ (hw _ (List.mem_of_getElem? (i := 19) rfl)))) (hw _ (List.mem_of_getElem? (i := 19) rfl)) (hw _ (List.mem_of_getElem? (i := 18) rfl)) (hw _ (List.mem_of_getElem? (i := 3) rfl)) (hw _ (List.mem_of_getElem? (i := 20) rfl)) (by decide) (f1507) (rm3 l Z a0 hw [] b1474 v10 b1473 k1477 v1455 v1467 v1468 v1469 v1470 T1309.heap n0 Z1516 (hi1562) (hi1564) (f1508) (hi1566) (hc1492) (f1505)) (by decide) (by decide) (by decide) (by decide) (g := (mkF m 309 A1561 [(.int v10), (.ref b1474)])) rfl (by rw [hml]; rfl) (argsL := [(.int v10)]) (rest := []) rfl (lenOf pd_2 rfl) rfl (by show 2 * 0 + _ ≤ _; exact Nat.le_of_eq rfl) (hb hby at_309)
                obtain ⟨r1573, v1569, v1570, v1571, v1572, hv1569, hv1570, hv1571, hv1572, hc1574, rfl, N1568, e1568⟩ := hQ1568
                have N1568_ := Fr.app N1558_ N1568
                refine Go.st (S' := T1568.setTop (mkF m 312 A1561 [(.int r1573)])) st1568 ?_
                refine Go.st (S' := T1568.setTop (mkF m 314 A1561 [(.int r1532), (.int r1573)])) (fun t k => XS.iload X1568.here hx rfl (hb hby at_312) rfl k) ?_
                have hu1575 : r1573 = r1532 := by
                  rw [own_ct hW1517 (by rw [hv10]; exact (own_P511 _).1) (by rw [hv10]; exact (own_P511 _).2) hv1569 hv1570 hv1571 hv1572 hc1574]
                  rcases hc1533 with ⟨y0, y1⟩ | ⟨y0, y1, y2⟩ | ⟨y0, y1, y2, y3⟩ | ⟨y0, y1, y2, y3⟩
                  · rw [if_pos (Or.inl y0)]; exact y1.symm
                  · rw [if_pos (Or.inr (Or.inl y1))]; exact y2.symm
                  · rw [if_pos (Or.inr (Or.inr y2))]; exact y3.symm
                  · rw [if_neg (fun o => o.elim y0 (fun o => o.elim y1 y2))]; exact y3.symm
                obtain rfl : r1573 = r1532 := hu1575
                let A1576 : Array Slot := #[.val (.int p0), .val (.int p1), .val (.int p2), .val (.int p3), .val (.int p4), .val (.int (3 : Int32)), .val (.int v4), .val (.int v6), .val (.int v8), .val (.int v10), .val (.ref b971), .val (.ref b1474), .val (.int r1573), .val (.int v1546), .val (.int r1552), .val (.int r1559)]
                refine Go.st (S' := T1568.setTop (mkF m 317 A1576 [])) (fun t k => XS.icmpNo X1568.here hx rfl (hb hby at_314) rfl (teq (rfl : r1573 = r1573)).2 k) ?_
                refine Go.st (S' := T1568.setTop (mkF m 319 A1576 [(.ref b1474)])) (fun t k => XS.aload X1568.here hx rfl (hb hby at_317) rfl rfl k) ?_
                have iv1577 : ((0 : Int32) < v1455 ∨ v1467 = (0 : Int64)) ∧ ((1 : Int32) < v1455 ∨ v1468 = (0 : Int64)) ∧ ((2 : Int32) < v1455 ∨ v1469 = (0 : Int64)) ∧ ((3 : Int32) < v1455 ∨ v1470 = (0 : Int64)) := ⟨(own_inv hc1500 (own_inv hi1520 (own_inv hi1518 (Or.inr rfl) hv1457) hv1459) hv1467), (own_inv hc1500 (own_inv hi1520 (own_inv hi1518 (Or.inr rfl) hv1460) hv1461) hv1468), (own_inv hc1500 (own_inv hi1520 (own_inv hi1518 (Or.inr rfl) hv1462) hv1463) hv1469), (own_inv hc1500 (own_inv hi1520 (own_inv hi1518 (Or.inr rfl) hv1464) hv1465) hv1470)⟩
                obtain ⟨r1578, T1578, L1578, X1578, hQ1578, st1578⟩ := own_callV (W := 0) (a := b1474) (C := "com/example/heaplens/heaplens/sharing/VarSet") X1568 hx hZ e1568 hown (y := (⟨"com/example/heaplens/heaplens/sharing/VarSet", "size", "()I"⟩ : MethodName)) (z := (⟨"com/example/heaplens/heaplens/sharing/VarSet", "size", "()I"⟩ : MethodName)) (hw _ (List.mem_of_getElem? (i := 21) rfl)) (hw _ (List.mem_of_getElem? (i := 22) rfl)) (notFace_of_selects (args := #[]) (mvT hZ (hw _ (List.mem_of_getElem? (i := 24) rfl)))) (hw _ (List.mem_of_getElem? (i := 24) rfl)) (hw _ (List.mem_of_getElem? (i := 23) rfl)) (hw _ (List.mem_of_getElem? (i := 3) rfl)) (hw _ (List.mem_of_getElem? (i := 25) rfl)) (by decide) (f1507) (rm4 l Z a0 hw [] b1474 b1473 k1477 v1455 v1467 v1468 v1469 v1470 T1309.heap n0 Z1516 (f1508) (hi1566) (hc1492) (f1505) (iv1577)) (by decide) (by decide) (by decide) (by decide) (g := (mkF m 319 A1576 [(.ref b1474)])) rfl (by rw [hml]; rfl) (argsL := []) (rest := []) rfl (lenOf pd_3 rfl) rfl (by show 2 * 0 + _ ≤ _; exact Nat.le_of_eq rfl) (hb hby at_319)
                obtain ⟨r1579, hp1580, rfl, N1578, e1578⟩ := hQ1578
                have N1578_ := Fr.app N1568_ N1578
                refine Go.st (S' := T1578.setTop (mkF m 322 A1576 [(.int r1579)])) st1578 ?_
                refine Go.st (S' := T1578.setTop (mkF m 324 A1576 [(.int v1546), (.int r1579)])) (fun t k => XS.iload X1578.here hx rfl (hb hby at_322) rfl k) ?_
                have hu1581 : r1579 = v1546 := by
                  rw [hp1580, own_szL hW1517]
                  rw [hv1546, hv1539]
                  rcases hc1538 with ⟨x1, x2⟩ | ⟨x1, x2⟩
                  · rcases hc1545 with ⟨y1, y2⟩ | ⟨y0, y1, y2⟩ | ⟨y0, y1, y2⟩
                    · rw [if_pos x1, if_pos (Or.inl y1), x2, y2]
                    · rw [if_pos x1, if_pos (Or.inr y1), x2, y2]
                    · rw [if_pos x1, if_neg (fun o => o.elim y0 y1), x2, y2]
                  · rcases hc1545 with ⟨y1, y2⟩ | ⟨y0, y1, y2⟩ | ⟨y0, y1, y2⟩
                    · rw [if_neg x1, if_pos (Or.inl y1), x2, y2]
                    · rw [if_neg x1, if_pos (Or.inr y1), x2, y2]
                    · rw [if_neg x1, if_neg (fun o => o.elim y0 y1), x2, y2]
                obtain rfl : v1546 = r1579 := hu1581.symm
                refine Go.st (S' := T1578.setTop (mkF m 327 A1576 [])) (fun t k => XS.icmpNo X1578.here hx rfl (hb hby at_324) rfl (teq (rfl : v1546 = v1546)).2 k) ?_
                refine Go.st (S' := T1578.setTop (mkF m 329 A1576 [(.ref b1474)])) (fun t k => XS.aload X1578.here hx rfl (hb hby at_327) rfl rfl k) ?_
                have iv1582 : ((0 : Int32) < v1455 ∨ v1467 = (0 : Int64)) ∧ ((1 : Int32) < v1455 ∨ v1468 = (0 : Int64)) ∧ ((2 : Int32) < v1455 ∨ v1469 = (0 : Int64)) ∧ ((3 : Int32) < v1455 ∨ v1470 = (0 : Int64)) := ⟨(own_inv hc1500 (own_inv hi1520 (own_inv hi1518 (Or.inr rfl) hv1457) hv1459) hv1467), (own_inv hc1500 (own_inv hi1520 (own_inv hi1518 (Or.inr rfl) hv1460) hv1461) hv1468), (own_inv hc1500 (own_inv hi1520 (own_inv hi1518 (Or.inr rfl) hv1462) hv1463) hv1469), (own_inv hc1500 (own_inv hi1520 (own_inv hi1518 (Or.inr rfl) hv1464) hv1465) hv1470)⟩
                obtain ⟨r1583, T1583, L1583, X1583, hQ1583, st1583⟩ := own_callV (W := 0) (a := b1474) (C := "com/example/heaplens/heaplens/sharing/VarSet") X1578 hx hZ e1578 hown (y := (⟨"com/example/heaplens/heaplens/sharing/VarSet", "first", "()I"⟩ : MethodName)) (z := (⟨"com/example/heaplens/heaplens/sharing/VarSet", "first", "()I"⟩ : MethodName)) (hw _ (List.mem_of_getElem? (i := 26) rfl)) (hw _ (List.mem_of_getElem? (i := 27) rfl)) (notFace_of_selects (args := #[]) (mvT hZ (hw _ (List.mem_of_getElem? (i := 29) rfl)))) (hw _ (List.mem_of_getElem? (i := 29) rfl)) (hw _ (List.mem_of_getElem? (i := 28) rfl)) (hw _ (List.mem_of_getElem? (i := 3) rfl)) (hw _ (List.mem_of_getElem? (i := 30) rfl)) (by decide) (f1507) (rm6 l Z a0 hw [] b1474 b1473 k1477 v1455 v1467 v1468 v1469 v1470 T1309.heap n0 Z1516 (f1507) (f1508) (hi1566) (hc1492) (f1505) (iv1582)) (by decide) (by decide) (by decide) (by decide) (g := (mkF m 329 A1576 [(.ref b1474)])) rfl (by rw [hml]; rfl) (argsL := []) (rest := []) rfl (lenOf pd_3 rfl) rfl (by show 2 * 0 + _ ≤ _; exact Nat.le_of_eq rfl) (hb hby at_329)
                obtain ⟨r1584, hp1585, rfl, N1583, e1583⟩ := hQ1583
                have N1583_ := Fr.app N1578_ N1583
                refine Go.st (S' := T1583.setTop (mkF m 332 A1576 [(.int r1584)])) st1583 ?_
                refine Go.st (S' := T1583.setTop (mkF m 334 A1576 [(.int r1552), (.int r1584)])) (fun t k => XS.iload X1583.here hx rfl (hb hby at_332) rfl k) ?_
                have hu1586 : r1584 = r1552 := by
                  rw [hp1585, own_fiL hW1517]
                  rw [← own_min_of hc1550, ← own_min_of hc1553]
                obtain rfl : r1584 = r1552 := hu1586
                let A1587 : Array Slot := #[.val (.int p0), .val (.int p1), .val (.int p2), .val (.int p3), .val (.int p4), .val (.int (3 : Int32)), .val (.int v4), .val (.int v6), .val (.int v8), .val (.int v10), .val (.ref b971), .val (.ref b1474), .val (.int r1573), .val (.int v1546), .val (.int r1584), .val (.int r1559)]
                refine Go.st (S' := T1583.setTop (mkF m 337 A1587 [])) (fun t k => XS.icmpNo X1583.here hx rfl (hb hby at_334) rfl (teq (rfl : r1584 = r1584)).2 k) ?_
                refine Go.st (S' := T1583.setTop (mkF m 339 A1587 [(.ref b1474)])) (fun t k => XS.aload X1583.here hx rfl (hb hby at_337) rfl rfl k) ?_
                obtain ⟨r1588, T1588, L1588, X1588, hQ1588, st1588⟩ := own_callV (W := 0) (a := b1474) (C := "com/example/heaplens/heaplens/sharing/VarSet") X1583 hx hZ e1583 hown (y := (⟨"com/example/heaplens/heaplens/sharing/VarSet", "last", "()I"⟩ : MethodName)) (z := (⟨"com/example/heaplens/heaplens/sharing/VarSet", "last", "()I"⟩ : MethodName)) (hw _ (List.mem_of_getElem? (i := 36) rfl)) (hw _ (List.mem_of_getElem? (i := 37) rfl)) (notFace_of_selects (args := #[]) (mvT hZ (hw _ (List.mem_of_getElem? (i := 39) rfl)))) (hw _ (List.mem_of_getElem? (i := 39) rfl)) (hw _ (List.mem_of_getElem? (i := 38) rfl)) (hw _ (List.mem_of_getElem? (i := 3) rfl)) (hw _ (List.mem_of_getElem? (i := 40) rfl)) (by decide) (f1507) (rm7 l Z a0 hw [] b1474 b1473 k1477 v1455 v1467 v1468 v1469 v1470 T1309.heap n0 Z1516 (f1508) (hi1566) (hc1492) (f1505)) (by decide) (by decide) (by decide) (by decide) (g := (mkF m 339 A1587 [(.ref b1474)])) rfl (by rw [hml]; rfl) (argsL := []) (rest := []) rfl (lenOf pd_3 rfl) rfl (by show 2 * 0 + _ ≤ _; exact Nat.le_of_eq rfl) (hb hby at_339)
                obtain ⟨r1595, v1589, v1590, v1591, v1592, v1593, v1594, hv1589, hv1590, hv1591, hv1592, hv1593, hv1594, hc1596, rfl, N1588, e1588⟩ := hQ1588
                have N1588_ := Fr.app N1583_ N1588
                refine Go.st (S' := T1588.setTop (mkF m 342 A1587 [(.int r1595)])) st1588 ?_
                refine Go.st (S' := T1588.setTop (mkF m 344 A1587 [(.int r1559), (.int r1595)])) (fun t k => XS.iload X1588.here hx rfl (hb hby at_342) rfl k) ?_
                have hu1597 : r1595 = r1559 := by
                  rw [own_laL hW1517 hv1589 hv1590 hv1591 hv1592 hv1593 hv1594 hc1596]
                  rw [← own_max_of hc1557, ← own_max_of hc1560]
                obtain rfl : r1595 = r1559 := hu1597
                let A1598 : Array Slot := #[.val (.int p0), .val (.int p1), .val (.int p2), .val (.int p3), .val (.int p4), .val (.int (3 : Int32)), .val (.int v4), .val (.int v6), .val (.int v8), .val (.int v10), .val (.ref b971), .val (.ref b1474), .val (.int r1573), .val (.int v1546), .val (.int r1584), .val (.int r1595)]
                refine Go.st (S' := T1588.setTop (mkF m 347 A1598 [])) (fun t k => XS.icmpNo X1588.here hx rfl (hb hby at_344) rfl (teq (rfl : r1595 = r1595)).2 k) ?_
                refine Go.st (S' := T1588.setTop (mkF m 349 A1598 [(.ref b1474)])) (fun t k => XS.aload X1588.here hx rfl (hb hby at_347) rfl rfl k) ?_
                obtain ⟨r1599, T1599, L1599, X1599, hQ1599, st1599⟩ := own_callV (W := 0) (a := b1474) (C := "com/example/heaplens/heaplens/sharing/VarSet") X1588 hx hZ e1588 hown (y := (⟨"com/example/heaplens/heaplens/sharing/VarSet", "isEmpty", "()Z"⟩ : MethodName)) (z := (⟨"com/example/heaplens/heaplens/sharing/VarSet", "isEmpty", "()Z"⟩ : MethodName)) (hw _ (List.mem_of_getElem? (i := 41) rfl)) (hw _ (List.mem_of_getElem? (i := 42) rfl)) (notFace_of_selects (args := #[]) (mvT hZ (hw _ (List.mem_of_getElem? (i := 44) rfl)))) (hw _ (List.mem_of_getElem? (i := 44) rfl)) (hw _ (List.mem_of_getElem? (i := 43) rfl)) (hw _ (List.mem_of_getElem? (i := 3) rfl)) (hw _ (List.mem_of_getElem? (i := 45) rfl)) (by decide) (f1507) (rm8 l Z a0 hw [] b1474 b1473 k1477 v1455 v1467 v1468 v1469 v1470 T1309.heap n0 Z1516 (f1508) (hi1566) (hc1492) (f1505)) (by decide) (by decide) (by decide) (by decide) (g := (mkF m 349 A1598 [(.ref b1474)])) rfl (by rw [hml]; rfl) (argsL := []) (rest := []) rfl (lenOf pd_5 rfl) rfl (by show 2 * 0 + _ ≤ _; exact Nat.le_of_eq rfl) (hb hby at_349)
                obtain ⟨r1600, hc1601, rfl, N1599, e1599⟩ := hQ1599
                have N1599_ := Fr.app N1588_ N1599
                refine Go.st (S' := T1599.setTop (mkF m 352 A1598 [(.int r1600)])) st1599 ?_
                refine Go.st (S' := T1599.setTop (mkF m 354 A1598 [(.int (3 : Int32)), (.int r1600)])) (fun t k => XS.iload X1599.here hx rfl (hb hby at_352) rfl k) ?_
                refine Go.st (S' := T1599.setTop (mkF m 361 A1598 [(.int r1600)])) (fun t k => XS.ifYes X1599.here hx rfl (pc0 := 354) (pc' := 361) rfl (hb hby at_354) rfl ((if0 _ _).trans (feq (by decide : (¬ ((3 : Int32) = (0 : Int32))))).2) (by decide) (by decide) k) ?_
                refine Go.st (S' := T1599.setTop (mkF m 362 A1598 [(.int (0 : Int32)), (.int r1600)])) (fun t k => XS.iconst X1599.here hx rfl (hb hby at_361) k) ?_
                have hu1602 : r1600 = (0 : Int32) := by
                  rcases hc1601 with ⟨x1, -⟩ | ⟨-, x1⟩
                  · exact absurd x1 (own_zne hW1517)
                  · exact x1
                obtain rfl : (0 : Int32) = r1600 := hu1602.symm
                refine Go.st (S' := T1599.setTop (mkF m 365 A1598 [])) (fun t k => XS.icmpNo X1599.here hx rfl (hb hby at_362) rfl (teq (by decide : ((0 : Int32) = (0 : Int32)))).2 k) ?_
                refine Go.st (S' := T1599.setTop (mkF m 366 A1598 [(.int (1 : Int32))])) (fun t k => XS.iconst X1599.here hx rfl (hb hby at_365) k) ?_
                refine Go.st (S' := T1599.setTop (mkF m 370 A1598 [(.int (1 : Int32))])) (fun t k => XS.goto X1599.here hx rfl (pc0 := 366) (pc' := 370) rfl (hb hby at_366) (by decide) (by decide) k) ?_
                exact Go.ret X1599 (v := some (.int (1 : Int32))) (fun h => by rw [Bd.returns] at h; cases h) Bd.notSynchronized (fun fs hr => retN X1599 hx (t := .boolean) Bd.returns (by simp) (hb hby at_370) hr) (by decide) (by decide) ⟨rfl, N1599_⟩
              · intro J1603
                by_cases hc1604 : (v8 = v4)
                · refine Go.st (S' := T1309.setTop (mkF m 273 A1534 [(.int v1539)])) (fun t k => XS.icmpYes X1309.here hx rfl (pc0 := 259) (pc' := 273) rfl (hb hby at_259) rfl (teq hc1604).1 (by decide) (by decide) k) ?_
                  refine Go.st (S' := T1309.setTop (mkF m 274 A1534 [(.int (0 : Int32)), (.int v1539)])) (fun t k => XS.iconst X1309.here hx rfl (hb hby at_273) k) ?_
                  exact J1603 ((0 : Int32)) (Or.inl ⟨hc1604, rfl⟩)
                · refine Go.st (S' := T1309.setTop (mkF m 262 A1534 [(.int v1539)])) (fun t k => XS.icmpNo X1309.here hx rfl (hb hby at_259) rfl (feq hc1604).1 k) ?_
                  refine Go.st (S' := T1309.setTop (mkF m 264 A1534 [(.int v8), (.int v1539)])) (fun t k => XS.iload X1309.here hx rfl (hb hby at_262) rfl k) ?_
                  refine Go.st (S' := T1309.setTop (mkF m 266 A1534 [(.int v6), (.int v8), (.int v1539)])) (fun t k => XS.iload X1309.here hx rfl (hb hby at_264) rfl k) ?_
                  by_cases hc1605 : (v8 = v6)
                  · refine Go.st (S' := T1309.setTop (mkF m 273 A1534 [(.int v1539)])) (fun t k => XS.icmpYes X1309.here hx rfl (pc0 := 266) (pc' := 273) rfl (hb hby at_266) rfl (teq hc1605).1 (by decide) (by decide) k) ?_
                    refine Go.st (S' := T1309.setTop (mkF m 274 A1534 [(.int (0 : Int32)), (.int v1539)])) (fun t k => XS.iconst X1309.here hx rfl (hb hby at_273) k) ?_
                    exact J1603 ((0 : Int32)) (Or.inr (Or.inl ⟨hc1604, hc1605, rfl⟩))
                  · refine Go.st (S' := T1309.setTop (mkF m 269 A1534 [(.int v1539)])) (fun t k => XS.icmpNo X1309.here hx rfl (hb hby at_266) rfl (feq hc1605).1 k) ?_
                    refine Go.st (S' := T1309.setTop (mkF m 270 A1534 [(.int (1 : Int32)), (.int v1539)])) (fun t k => XS.iconst X1309.here hx rfl (hb hby at_269) k) ?_
                    refine Go.st (S' := T1309.setTop (mkF m 274 A1534 [(.int (1 : Int32)), (.int v1539)])) (fun t k => XS.goto X1309.here hx rfl (pc0 := 270) (pc' := 274) rfl (hb hby at_270) (by decide) (by decide) k) ?_
                    exact J1603 ((1 : Int32)) (Or.inr (Or.inr ⟨hc1604, hc1605, rfl⟩))
            · intro J1606
              by_cases hc1607 : (v6 = v4)
              · refine Go.st (S' := T1309.setTop (mkF m 253 A1534 [(.int (1 : Int32))])) (fun t k => XS.icmpYes X1309.here hx rfl (pc0 := 246) (pc' := 253) rfl (hb hby at_246) rfl (teq hc1607).1 (by decide) (by decide) k) ?_
                refine Go.st (S' := T1309.setTop (mkF m 254 A1534 [(.int (0 : Int32)), (.int (1 : Int32))])) (fun t k => XS.iconst X1309.here hx rfl (hb hby at_253) k) ?_
                exact J1606 ((0 : Int32)) (Or.inl ⟨hc1607, rfl⟩)
              · refine Go.st (S' := T1309.setTop (mkF m 249 A1534 [(.int (1 : Int32))])) (fun t k => XS.icmpNo X1309.here hx rfl (hb hby at_246) rfl (feq hc1607).1 k) ?_
                refine Go.st (S' := T1309.setTop (mkF m 250 A1534 [(.int (1 : Int32)), (.int (1 : Int32))])) (fun t k => XS.iconst X1309.here hx rfl (hb hby at_249) k) ?_
                refine Go.st (S' := T1309.setTop (mkF m 254 A1534 [(.int (1 : Int32)), (.int (1 : Int32))])) (fun t k => XS.goto X1309.here hx rfl (pc0 := 250) (pc' := 254) rfl (hb hby at_250) (by decide) (by decide) k) ?_
                exact J1606 ((1 : Int32)) (Or.inr ⟨hc1607, rfl⟩)
          · intro J1608
            by_cases hc1609 : (v10 = v4)
            · refine Go.st (S' := T1309.setTop (mkF m 156 A1525 [])) (fun t k => XS.icmpYes X1309.here hx rfl (pc0 := 127) (pc' := 156) rfl (hb hby at_127) rfl (teq hc1609).1 (by decide) (by decide) k) ?_
              refine Go.st (S' := T1309.setTop (mkF m 157 A1525 [(.int (1 : Int32))])) (fun t k => XS.iconst X1309.here hx rfl (hb hby at_156) k) ?_
              refine Go.st (S' := T1309.setTop (mkF m 161 A1525 [(.int (1 : Int32))])) (fun t k => XS.goto X1309.here hx rfl (pc0 := 157) (pc' := 161) rfl (hb hby at_157) (by decide) (by decide) k) ?_
              exact J1608 ((1 : Int32)) (Or.inl ⟨hc1609, rfl⟩)
            · refine Go.st (S' := T1309.setTop (mkF m 130 A1525 [])) (fun t k => XS.icmpNo X1309.here hx rfl (hb hby at_127) rfl (feq hc1609).1 k) ?_
              refine Go.st (S' := T1309.setTop (mkF m 132 A1525 [(.int (3 : Int32))])) (fun t k => XS.iload X1309.here hx rfl (hb hby at_130) rfl k) ?_
              refine Go.st (S' := T1309.setTop (mkF m 133 A1525 [(.int (2 : Int32)), (.int (3 : Int32))])) (fun t k => XS.iconst X1309.here hx rfl (hb hby at_132) k) ?_
              refine Go.st (S' := T1309.setTop (mkF m 136 A1525 [])) (fun t k => XS.icmpNo X1309.here hx rfl (hb hby at_133) rfl (flt (by decide : (¬ ((3 : Int32) < (2 : Int32))))).1 k) ?_
              refine Go.st (S' := T1309.setTop (mkF m 138 A1525 [(.int v10)])) (fun t k => XS.iload X1309.here hx rfl (hb hby at_136) rfl k) ?_
              refine Go.st (S' := T1309.setTop (mkF m 140 A1525 [(.int v6), (.int v10)])) (fun t k => XS.iload X1309.here hx rfl (hb hby at_138) rfl k) ?_
              by_cases hc1610 : (v10 = v6)
              · refine Go.st (S' := T1309.setTop (mkF m 156 A1525 [])) (fun t k => XS.icmpYes X1309.here hx rfl (pc0 := 140) (pc' := 156) rfl (hb hby at_140) rfl (teq hc1610).1 (by decide) (by decide) k) ?_
                refine Go.st (S' := T1309.setTop (mkF m 157 A1525 [(.int (1 : Int32))])) (fun t k => XS.iconst X1309.here hx rfl (hb hby at_156) k) ?_
                refine Go.st (S' := T1309.setTop (mkF m 161 A1525 [(.int (1 : Int32))])) (fun t k => XS.goto X1309.here hx rfl (pc0 := 157) (pc' := 161) rfl (hb hby at_157) (by decide) (by decide) k) ?_
                exact J1608 ((1 : Int32)) (Or.inr (Or.inl ⟨hc1609, hc1610, rfl⟩))
              · refine Go.st (S' := T1309.setTop (mkF m 143 A1525 [])) (fun t k => XS.icmpNo X1309.here hx rfl (hb hby at_140) rfl (feq hc1610).1 k) ?_
                refine Go.st (S' := T1309.setTop (mkF m 145 A1525 [(.int (3 : Int32))])) (fun t k => XS.iload X1309.here hx rfl (hb hby at_143) rfl k) ?_
                refine Go.st (S' := T1309.setTop (mkF m 146 A1525 [(.int (3 : Int32)), (.int (3 : Int32))])) (fun t k => XS.iconst X1309.here hx rfl (hb hby at_145) k) ?_
                refine Go.st (S' := T1309.setTop (mkF m 149 A1525 [])) (fun t k => XS.icmpNo X1309.here hx rfl (hb hby at_146) rfl (flt (by decide : (¬ ((3 : Int32) < (3 : Int32))))).1 k) ?_
                refine Go.st (S' := T1309.setTop (mkF m 151 A1525 [(.int v10)])) (fun t k => XS.iload X1309.here hx rfl (hb hby at_149) rfl k) ?_
                refine Go.st (S' := T1309.setTop (mkF m 153 A1525 [(.int v8), (.int v10)])) (fun t k => XS.iload X1309.here hx rfl (hb hby at_151) rfl k) ?_
                by_cases hc1611 : (v10 = v8)
                · refine Go.st (S' := T1309.setTop (mkF m 156 A1525 [])) (fun t k => XS.icmpNo X1309.here hx rfl (hb hby at_153) rfl (teq hc1611).2 k) ?_
                  refine Go.st (S' := T1309.setTop (mkF m 157 A1525 [(.int (1 : Int32))])) (fun t k => XS.iconst X1309.here hx rfl (hb hby at_156) k) ?_
                  refine Go.st (S' := T1309.setTop (mkF m 161 A1525 [(.int (1 : Int32))])) (fun t k => XS.goto X1309.here hx rfl (pc0 := 157) (pc' := 161) rfl (hb hby at_157) (by decide) (by decide) k) ?_
                  exact J1608 ((1 : Int32)) (Or.inr (Or.inr (Or.inl ⟨hc1609, hc1610, hc1611, rfl⟩)))
                · refine Go.st (S' := T1309.setTop (mkF m 160 A1525 [])) (fun t k => XS.icmpYes X1309.here hx rfl (pc0 := 153) (pc' := 160) rfl (hb hby at_153) rfl (feq hc1611).2 (by decide) (by decide) k) ?_
                  refine Go.st (S' := T1309.setTop (mkF m 161 A1525 [(.int (0 : Int32))])) (fun t k => XS.iconst X1309.here hx rfl (hb hby at_160) k) ?_
                  exact J1608 ((0 : Int32)) (Or.inr (Or.inr (Or.inr ⟨hc1609, hc1610, hc1611, rfl⟩)))
        · obtain ⟨v1612, v1613, v1614, v1615, v1616, v1617, v1618, v1619, v1620, v1621, v1622, v1623, v1624, v1625, v1626, v1627, v1628, v1629, v1630, v1631, b1632, b1633, b1634, b1635, k1636, k1637, k1638, hv1612, hv1613, hv1614, hv1615, hv1616, hv1617, hv1618, hv1619, hv1620, hv1621, hv1622, hv1623, hv1624, hv1625, hv1626, hv1627, hv1628, hv1629, hv1630, hv1631, hc1639, hc1640, hc1641, hc1642, hc1643, hc1644, hc1645, hc1646, hc1647, hc1648, hc1649, hc1650, hc1651, hc1652, hc1653, hc1654, hc1655, hc1656, hc1657, hc1658, hc1659, hc1660, hc1661, rfl, N1309, K1309_, sz_b1632_, sz_b1633_, sz_b1634_, sz_b1635_, f1662, f1663, f1664, f1665, f1666, f1667, f1668, f1669, hlt1670, hlt1671, hlt1672, hlt1673, hlt1674, hlt1675⟩ := hQ1309
          have N1309_ := Fr.app N977 N1309
          have g_b1632 : n0 ≤ b1632 := Nat.le_trans Z978 sz_b1632_
          have sz_b1632 : h0.size ≤ b1632 := Nat.le_trans K978.1 sz_b1632_
          have f1676 := ((((((B971).wr W973)).wr W975)).wr W977)
          have lt_b971_b1632 : b971 < b1632 := Nat.lt_of_lt_of_le (f1676).lt sz_b1632_
          have g_b1633 : n0 ≤ b1633 := Nat.le_trans Z978 sz_b1633_
          have sz_b1633 : h0.size ≤ b1633 := Nat.le_trans K978.1 sz_b1633_
          have lt_b971_b1633 : b971 < b1633 := Nat.lt_of_lt_of_le (f1676).lt sz_b1633_
          have g_b1634 : n0 ≤ b1634 := Nat.le_trans Z978 sz_b1634_
          have sz_b1634 : h0.size ≤ b1634 := Nat.le_trans K978.1 sz_b1634_
          have lt_b971_b1634 : b971 < b1634 := Nat.lt_of_lt_of_le (f1676).lt sz_b1634_
          have g_b1635 : n0 ≤ b1635 := Nat.le_trans Z978 sz_b1635_
          have sz_b1635 : h0.size ≤ b1635 := Nat.le_trans K978.1 sz_b1635_
          have lt_b971_b1635 : b971 < b1635 := Nat.lt_of_lt_of_le (f1676).lt sz_b1635_
          have Z1677 : n0 ≤ T1309.heap.size := Nat.le_trans Z978 K1309_.1
          have K1677 : Keep h0 T1309.heap [] := K978.trans K1309_ all0
          refine Go.st (S' := T1309.setTop (mkF m 115 A984 [(.ref b1635)])) st1309 ?_
          have hi1679 : (v1612 < v1615) := by
            refine Decidable.byContradiction fun hc1680 => ?_
            exact ar_81 p1 v4 p2 v6 p3 v8 v1612 v1613 v1614 v1615 v1616 hv4 hv6 hv8 hv1612 hv1613 hv1614 hv1615 hv1616 hi1297 hi1299 hi1301 hi1303 hi1305 hi1307 hc1639 hc1640 hc1641 hc1642 hc1644 hc1646 hc1647 hc1648 hc1649 hc1650 hc1651 hc1652 hc1654 hc1655 hc1656 hc1657 hc1658 hc1659 hc1660 hc1661 hc1680
          have hR1681 : own_R v4 := by rw [hv4]; exact own_R255 _
          have hR1682 : own_R v6 := by rw [hv6]; exact own_R255 _
          have hR1683 : own_R v8 := by rw [hv8]; exact own_R255 _
          have hW1678 : own_W v4 v6 v8 v1625 v1627 v1629 v1631 v1615 := ⟨⟨hR1681, hR1682, hR1683⟩, ⟨(by rw [hv1625, hv1623, hv1618, hv1612, hv1617, hv1614, hv1622, hv1616, hv1624]; exact rfl), (by rw [hv1627, hv1626, hv1619, hv1612, hv1617, hv1614, hv1622, hv1616, hv1624]; exact rfl), (by rw [hv1629, hv1628, hv1620, hv1612, hv1617, hv1614, hv1622, hv1616, hv1624]; exact rfl), (by rw [hv1631, hv1630, hv1621, hv1612, hv1617, hv1614, hv1622, hv1616, hv1624]; exact rfl)⟩, ⟨(by rw [← hv1612]; exact hi1679), (by rw [← hv1614]; exact hc1658), (by rw [← hv1616]; exact hc1659)⟩, (Or.inr (Or.inl (by rw [← hv1614]; exact hv1615)))⟩
          let A1684 : Array Slot := #[.val (.int p0), .val (.int p1), .val (.int p2), .val (.int p3), .val (.int p4), .val (.int (3 : Int32)), .val (.int v4), .val (.int v6), .val (.int v8), .val (.int v10), .val (.ref b971), .val (.ref b1635), .unset, .unset, .unset, .unset]
          refine Go.st (S' := T1309.setTop (mkF m 117 A1684 [])) (fun t k => XS.astore X1309.here hx rfl (hb hby at_115) rfl rfl (l' := A1684) rfl k) ?_
          refine Go.st (S' := T1309.setTop (mkF m 119 A1684 [(.int (3 : Int32))])) (fun t k => XS.iload X1309.here hx rfl (hb hby at_117) rfl k) ?_
          refine Go.st (S' := T1309.setTop (mkF m 120 A1684 [(.int (1 : Int32)), (.int (3 : Int32))])) (fun t k => XS.iconst X1309.here hx rfl (hb hby at_119) k) ?_
          refine Go.st (S' := T1309.setTop (mkF m 123 A1684 [])) (fun t k => XS.icmpNo X1309.here hx rfl (hb hby at_120) rfl (flt (by decide : (¬ ((3 : Int32) < (1 : Int32))))).1 k) ?_
          refine Go.st (S' := T1309.setTop (mkF m 125 A1684 [(.int v10)])) (fun t k => XS.iload X1309.here hx rfl (hb hby at_123) rfl k) ?_
          refine Go.st (S' := T1309.setTop (mkF m 127 A1684 [(.int v4), (.int v10)])) (fun t k => XS.iload X1309.here hx rfl (hb hby at_125) rfl k) ?_
          refine Go.join (α := Int32) (fun r => (((v10 = v4) ∧ (r = (1 : Int32))) ∨ ((¬ (v10 = v4)) ∧ (v10 = v6) ∧ (r = (1 : Int32))) ∨ ((¬ (v10 = v4)) ∧ (¬ (v10 = v6)) ∧ (v10 = v8) ∧ (r = (1 : Int32))) ∨ ((¬ (v10 = v4)) ∧ (¬ (v10 = v6)) ∧ (¬ (v10 = v8)) ∧ (r = (0 : Int32))))) (fun r => T1309.setTop (mkF m 161 A1684 [(.int r)])) ?_ ?_
          · intro r1691 hc1692
            let A1693 : Array Slot := #[.val (.int p0), .val (.int p1), .val (.int p2), .val (.int p3), .val (.int p4), .val (.int (3 : Int32)), .val (.int v4), .val (.int v6), .val (.int v8), .val (.int v10), .val (.ref b971), .val (.ref b1635), .val (.int r1691), .unset, .unset, .unset]
            refine Go.st (S' := T1309.setTop (mkF m 163 A1693 [])) (fun t k => XS.istore X1309.here hx rfl (hb hby at_161) rfl (l' := A1693) rfl k) ?_
            refine Go.st (S' := T1309.setTop (mkF m 165 A1693 [(.int (3 : Int32))])) (fun t k => XS.iload X1309.here hx rfl (hb hby at_163) rfl k) ?_
            refine Go.st (S' := T1309.setTop (mkF m 180 A1693 [])) (fun t k => XS.ifYes X1309.here hx rfl (pc0 := 165) (pc' := 180) rfl (hb hby at_165) rfl ((if0 _ _).trans (feq (by decide : (¬ ((3 : Int32) = (0 : Int32))))).2) (by decide) (by decide) k) ?_
            refine Go.st (S' := T1309.setTop (mkF m 182 A1693 [(.int (3 : Int32))])) (fun t k => XS.iload X1309.here hx rfl (hb hby at_180) rfl k) ?_
            refine Go.st (S' := T1309.setTop (mkF m 183 A1693 [(.int (1 : Int32)), (.int (3 : Int32))])) (fun t k => XS.iconst X1309.here hx rfl (hb hby at_182) k) ?_
            refine Go.st (S' := T1309.setTop (mkF m 200 A1693 [])) (fun t k => XS.icmpYes X1309.here hx rfl (pc0 := 183) (pc' := 200) rfl (hb hby at_183) rfl (feq (by decide : (¬ ((3 : Int32) = (1 : Int32))))).2 (by decide) (by decide) k) ?_
            refine Go.st (S' := T1309.setTop (mkF m 202 A1693 [(.int (3 : Int32))])) (fun t k => XS.iload X1309.here hx rfl (hb hby at_200) rfl k) ?_
            refine Go.st (S' := T1309.setTop (mkF m 203 A1693 [(.int (2 : Int32)), (.int (3 : Int32))])) (fun t k => XS.iconst X1309.here hx rfl (hb hby at_202) k) ?_
            refine Go.st (S' := T1309.setTop (mkF m 241 A1693 [])) (fun t k => XS.icmpYes X1309.here hx rfl (pc0 := 203) (pc' := 241) rfl (hb hby at_203) rfl (feq (by decide : (¬ ((3 : Int32) = (2 : Int32))))).2 (by decide) (by decide) k) ?_
            refine Go.st (S' := T1309.setTop (mkF m 242 A1693 [(.int (1 : Int32))])) (fun t k => XS.iconst X1309.here hx rfl (hb hby at_241) k) ?_
            refine Go.st (S' := T1309.setTop (mkF m 244 A1693 [(.int v6), (.int (1 : Int32))])) (fun t k => XS.iload X1309.here hx rfl (hb hby at_242) rfl k) ?_
            refine Go.st (S' := T1309.setTop (mkF m 246 A1693 [(.int v4), (.int v6), (.int (1 : Int32))])) (fun t k => XS.iload X1309.here hx rfl (hb hby at_244) rfl k) ?_
            refine Go.join (α := Int32) (fun r => (((v6 = v4) ∧ (r = (0 : Int32))) ∨ ((¬ (v6 = v4)) ∧ (r = (1 : Int32))))) (fun r => T1309.setTop (mkF m 254 A1693 [(.int r), (.int (1 : Int32))])) ?_ ?_
            · intro r1696 hc1697
              refine Go.op (F := fun z => T1309.setTop (mkF m 255 A1693 [(.int z)])) (x := ((1 : Int32) + r1696)) (fun t k => XS.iadd X1309.here hx rfl (hb hby at_254) rfl k) ?_
              intro v1698 hv1698
              refine Go.st (S' := T1309.setTop (mkF m 257 A1693 [(.int v8), (.int v1698)])) (fun t k => XS.iload X1309.here hx rfl (hb hby at_255) rfl k) ?_
              refine Go.st (S' := T1309.setTop (mkF m 259 A1693 [(.int v4), (.int v8), (.int v1698)])) (fun t k => XS.iload X1309.here hx rfl (hb hby at_257) rfl k) ?_
              refine Go.join (α := Int32) (fun r => (((v8 = v4) ∧ (r = (0 : Int32))) ∨ ((¬ (v8 = v4)) ∧ (v8 = v6) ∧ (r = (0 : Int32))) ∨ ((¬ (v8 = v4)) ∧ (¬ (v8 = v6)) ∧ (r = (1 : Int32))))) (fun r => T1309.setTop (mkF m 274 A1693 [(.int r), (.int v1698)])) ?_ ?_
              · intro r1703 hc1704
                refine Go.op (F := fun z => T1309.setTop (mkF m 275 A1693 [(.int z)])) (x := (v1698 + r1703)) (fun t k => XS.iadd X1309.here hx rfl (hb hby at_274) rfl k) ?_
                intro v1705 hv1705
                let A1706 : Array Slot := #[.val (.int p0), .val (.int p1), .val (.int p2), .val (.int p3), .val (.int p4), .val (.int (3 : Int32)), .val (.int v4), .val (.int v6), .val (.int v8), .val (.int v10), .val (.ref b971), .val (.ref b1635), .val (.int r1691), .val (.int v1705), .unset, .unset]
                refine Go.st (S' := T1309.setTop (mkF m 277 A1706 [])) (fun t k => XS.istore X1309.here hx rfl (hb hby at_275) rfl (l' := A1706) rfl k) ?_
                refine Go.st (S' := T1309.setTop (mkF m 279 A1706 [(.int v4)])) (fun t k => XS.iload X1309.here hx rfl (hb hby at_277) rfl k) ?_
                refine Go.st (S' := T1309.setTop (mkF m 281 A1706 [(.int v6), (.int v4)])) (fun t k => XS.iload X1309.here hx rfl (hb hby at_279) rfl k) ?_
                refine Go.st (S' := T1309.setTop (mkF m 283 A1706 [(.int v8), (.int v6), (.int v4)])) (fun t k => XS.iload X1309.here hx rfl (hb hby at_281) rfl k) ?_
                obtain ⟨r1707, T1707, L1707, X1707, hQ1707, st1707⟩ := own_callS (W := 1) X1309 hx hZ rfl hown (y := (⟨"java/lang/Math", "min", "(II)I"⟩ : MethodName)) (hw _ (List.mem_of_getElem? (i := 58) rfl)) (hw _ (List.mem_of_getElem? (i := 51) rfl)) (hw _ (List.mem_of_getElem? (i := 52) rfl)) (hw _ (List.mem_of_getElem? (i := 53) rfl)) (by decide) (rm9 l Z a0 hw [] v6 v8 T1309.heap n0 Z1677 ) (by decide) (by decide) (by decide) (by decide) (g := (mkF m 283 A1706 [(.int v8), (.int v6), (.int v4)])) rfl (by rw [hml]; rfl) (argsL := [(.int v6), (.int v8)]) (rest := [(.int v4)]) rfl (lenOf pd_6 rfl) rfl (by show 2 * 0 + _ ≤ _; exact Nat.le_of_eq rfl) (hb hby at_283)
                obtain ⟨r1708, hc1709, rfl, N1707, e1707⟩ := hQ1707
                have N1707_ := Fr.app N1309_ N1707
                refine Go.st (S' := T1707.setTop (mkF m 286 A1706 [(.int r1708), (.int v4)])) st1707 ?_
                obtain ⟨r1710, T1710, L1710, X1710, hQ1710, st1710⟩ := own_callS (W := 0) X1707 hx hZ e1707 hown (y := (⟨"java/lang/Math", "min", "(II)I"⟩ : MethodName)) (hw _ (List.mem_of_getElem? (i := 58) rfl)) (hw _ (List.mem_of_getElem? (i := 51) rfl)) (hw _ (List.mem_of_getElem? (i := 52) rfl)) (hw _ (List.mem_of_getElem? (i := 53) rfl)) (by decide) (rm9 l Z a0 hw [] v4 r1708 T1309.heap n0 Z1677 ) (by decide) (by decide) (by decide) (by decide) (g := (mkF m 286 A1706 [(.int r1708), (.int v4)])) rfl (by rw [hml]; rfl) (argsL := [(.int v4), (.int r1708)]) (rest := []) rfl (lenOf pd_6 rfl) rfl (by show 2 * 0 + _ ≤ _; exact Nat.le_of_eq rfl) (hb hby at_286)
                obtain ⟨r1711, hc1712, rfl, N1710, e1710⟩ := hQ1710
                have N1710_ := Fr.app N1707_ N1710
                refine Go.st (S' := T1710.setTop (mkF m 289 A1706 [(.int r1711)])) st1710 ?_
                let A1713 : Array Slot := #[.val (.int p0), .val (.int p1), .val (.int p2), .val (.int p3), .val (.int p4), .val (.int (3 : Int32)), .val (.int v4), .val (.int v6), .val (.int v8), .val (.int v10), .val (.ref b971), .val (.ref b1635), .val (.int r1691), .val (.int v1705), .val (.int r1711), .unset]
                refine Go.st (S' := T1710.setTop (mkF m 291 A1713 [])) (fun t k => XS.istore X1710.here hx rfl (hb hby at_289) rfl (l' := A1713) rfl k) ?_
                refine Go.st (S' := T1710.setTop (mkF m 293 A1713 [(.int v4)])) (fun t k => XS.iload X1710.here hx rfl (hb hby at_291) rfl k) ?_
                refine Go.st (S' := T1710.setTop (mkF m 295 A1713 [(.int v6), (.int v4)])) (fun t k => XS.iload X1710.here hx rfl (hb hby at_293) rfl k) ?_
                refine Go.st (S' := T1710.setTop (mkF m 297 A1713 [(.int v8), (.int v6), (.int v4)])) (fun t k => XS.iload X1710.here hx rfl (hb hby at_295) rfl k) ?_
                obtain ⟨r1714, T1714, L1714, X1714, hQ1714, st1714⟩ := own_callS (W := 1) X1710 hx hZ e1710 hown (y := (⟨"java/lang/Math", "max", "(II)I"⟩ : MethodName)) (hw _ (List.mem_of_getElem? (i := 59) rfl)) (hw _ (List.mem_of_getElem? (i := 60) rfl)) (hw _ (List.mem_of_getElem? (i := 52) rfl)) (hw _ (List.mem_of_getElem? (i := 61) rfl)) (by decide) (rm13 l Z a0 hw [] v6 v8 T1309.heap n0 Z1677 ) (by decide) (by decide) (by decide) (by decide) (g := (mkF m 297 A1713 [(.int v8), (.int v6), (.int v4)])) rfl (by rw [hml]; rfl) (argsL := [(.int v6), (.int v8)]) (rest := [(.int v4)]) rfl (lenOf pd_6 rfl) rfl (by show 2 * 0 + _ ≤ _; exact Nat.le_of_eq rfl) (hb hby at_297)
                obtain ⟨r1715, hc1716, rfl, N1714, e1714⟩ := hQ1714
                have N1714_ := Fr.app N1710_ N1714
                refine Go.st (S' := T1714.setTop (mkF m 300 A1713 [(.int r1715), (.int v4)])) st1714 ?_
                obtain ⟨r1717, T1717, L1717, X1717, hQ1717, st1717⟩ := own_callS (W := 0) X1714 hx hZ e1714 hown (y := (⟨"java/lang/Math", "max", "(II)I"⟩ : MethodName)) (hw _ (List.mem_of_getElem? (i := 59) rfl)) (hw _ (List.mem_of_getElem? (i := 60) rfl)) (hw _ (List.mem_of_getElem? (i := 52) rfl)) (hw _ (List.mem_of_getElem? (i := 61) rfl)) (by decide) (rm13 l Z a0 hw [] v4 r1715 T1309.heap n0 Z1677 ) (by decide) (by decide) (by decide) (by decide) (g := (mkF m 300 A1713 [(.int r1715), (.int v4)])) rfl (by rw [hml]; rfl) (argsL := [(.int v4), (.int r1715)]) (rest := []) rfl (lenOf pd_6 rfl) rfl (by show 2 * 0 + _ ≤ _; exact Nat.le_of_eq rfl) (hb hby at_300)
                obtain ⟨r1718, hc1719, rfl, N1717, e1717⟩ := hQ1717
                have N1717_ := Fr.app N1714_ N1717
                refine Go.st (S' := T1717.setTop (mkF m 303 A1713 [(.int r1718)])) st1717 ?_
                let A1720 : Array Slot := #[.val (.int p0), .val (.int p1), .val (.int p2), .val (.int p3), .val (.int p4), .val (.int (3 : Int32)), .val (.int v4), .val (.int v6), .val (.int v8), .val (.int v10), .val (.ref b971), .val (.ref b1635), .val (.int r1691), .val (.int v1705), .val (.int r1711), .val (.int r1718)]
                refine Go.st (S' := T1717.setTop (mkF m 305 A1720 [])) (fun t k => XS.istore X1717.here hx rfl (hb hby at_303) rfl (l' := A1720) rfl k) ?_
                refine Go.st (S' := T1717.setTop (mkF m 307 A1720 [(.ref b1635)])) (fun t k => XS.aload X1717.here hx rfl (hb hby at_305) rfl rfl k) ?_
                refine Go.st (S' := T1717.setTop (mkF m 309 A1720 [(.int v10), (.ref b1635)])) (fun t k => XS.iload X1717.here hx rfl (hb hby at_307) rfl k) ?_
                have hi1721 : (¬ (v10 < (0 : Int32))) := by
                  intro hc1722
                  exact ar_75 p4 v10 p1 v4 p2 v6 p3 v8 r1691 hv10 hv4 hv6 hv8 hc1692 hc1722
                have hi1723 : (¬ ((511 : Int32) < v10)) := by
                  intro hc1724
                  exact ar_76 p4 v10 p1 v4 p2 v6 p3 v8 r1691 hv10 hv4 hv6 hv8 hc1692 hi1721 hc1724
                have hi1725 : (¬ (v1615 < (0 : Int32))) := by
                  intro hc1726
                  exact ar_82 p1 v4 p2 v6 p3 v8 v1612 v1613 v1614 v1615 v1616 hv4 hv6 hv8 hv1612 hv1613 hv1614 hv1615 hv1616 hi1297 hi1299 hi1301 hi1303 hi1305 hi1307 hc1639 hc1640 hc1641 hc1642 hc1644 hc1646 hc1647 hc1648 hc1649 hc1650 hc1651 hc1652 hc1654 hc1655 hc1656 hc1657 hc1658 hc1659 hc1660 hc1661 hi1679 hc1726
                obtain ⟨r1727, T1727, L1727, X1727, hQ1727, st1727⟩ := own_callV (W := 0) (a := b1635) (C := "com/example/heaplens/heaplens/sharing/VarSet") X1717 hx hZ e1717 hown (y := (⟨"com/example/heaplens/heaplens/sharing/VarSet", "contains", "(I)Z"⟩ : MethodName)) (z := (⟨"com/example/heaplens/heaplens/sharing/VarSet", "contains", "(I)Z"⟩ : MethodName)) (hw _ (List.mem_of_getElem? (i := 16) rfl)) (hw _ (List.mem_of_getElem? (i := 17) rfl)) (notFace_of_selects (args := #[]) (mvT hZ (hw _ (List.mem_of_getElem? (i := 19) rfl)))) (hw _ (List.mem_of_getElem? (i := 19) rfl)) (hw _ (List.mem_of_getElem? (i := 18) rfl)) (hw _ (List.mem_of_getElem? (i := 3) rfl)) (hw _ (List.mem_of_getElem? (i := 20) rfl)) (by decide) (f1668) (rm3 l Z a0 hw [] b1635 v10 b1634 k1638 v1615 v1625 v1627 v1629 v1631 T1309.heap n0 Z1677 (hi1721) (hi1723) (f1669) (hi1725) (hc1650) (f1666)) (by decide) (by decide) (by decide) (by decide) (g := (mkF m 309 A1720 [(.int v10), (.ref b1635)])) rfl (by rw [hml]; rfl) (argsL := [(.int v10)]) (rest := []) rfl (lenOf pd_2 rfl) rfl (by show 2 * 0 + _ ≤ _; exact Nat.le_of_eq rfl) (hb hby at_309)
                obtain ⟨r1732, v1728, v1729, v1730, v1731, hv1728, hv1729, hv1730, hv1731, hc1733, rfl, N1727, e1727⟩ := hQ1727
                have N1727_ := Fr.app N1717_ N1727
                refine Go.st (S' := T1727.setTop (mkF m 312 A1720 [(.int r1732)])) st1727 ?_
                refine Go.st (S' := T1727.setTop (mkF m 314 A1720 [(.int r1691), (.int r1732)])) (fun t k => XS.iload X1727.here hx rfl (hb hby at_312) rfl k) ?_
                have hu1734 : r1732 = r1691 := by
                  rw [own_ct hW1678 (by rw [hv10]; exact (own_P511 _).1) (by rw [hv10]; exact (own_P511 _).2) hv1728 hv1729 hv1730 hv1731 hc1733]
                  rcases hc1692 with ⟨y0, y1⟩ | ⟨y0, y1, y2⟩ | ⟨y0, y1, y2, y3⟩ | ⟨y0, y1, y2, y3⟩
                  · rw [if_pos (Or.inl y0)]; exact y1.symm
                  · rw [if_pos (Or.inr (Or.inl y1))]; exact y2.symm
                  · rw [if_pos (Or.inr (Or.inr y2))]; exact y3.symm
                  · rw [if_neg (fun o => o.elim y0 (fun o => o.elim y1 y2))]; exact y3.symm
                obtain rfl : r1732 = r1691 := hu1734
                let A1735 : Array Slot := #[.val (.int p0), .val (.int p1), .val (.int p2), .val (.int p3), .val (.int p4), .val (.int (3 : Int32)), .val (.int v4), .val (.int v6), .val (.int v8), .val (.int v10), .val (.ref b971), .val (.ref b1635), .val (.int r1732), .val (.int v1705), .val (.int r1711), .val (.int r1718)]
                refine Go.st (S' := T1727.setTop (mkF m 317 A1735 [])) (fun t k => XS.icmpNo X1727.here hx rfl (hb hby at_314) rfl (teq (rfl : r1732 = r1732)).2 k) ?_
                refine Go.st (S' := T1727.setTop (mkF m 319 A1735 [(.ref b1635)])) (fun t k => XS.aload X1727.here hx rfl (hb hby at_317) rfl rfl k) ?_
                have iv1736 : ((0 : Int32) < v1615 ∨ v1625 = (0 : Int64)) ∧ ((1 : Int32) < v1615 ∨ v1627 = (0 : Int64)) ∧ ((2 : Int32) < v1615 ∨ v1629 = (0 : Int64)) ∧ ((3 : Int32) < v1615 ∨ v1631 = (0 : Int64)) := ⟨(own_inv hc1659 (own_inv hc1658 (own_inv hi1679 (Or.inr rfl) hv1618) hv1623) hv1625), (own_inv hc1659 (own_inv hc1658 (own_inv hi1679 (Or.inr rfl) hv1619) hv1626) hv1627), (own_inv hc1659 (own_inv hc1658 (own_inv hi1679 (Or.inr rfl) hv1620) hv1628) hv1629), (own_inv hc1659 (own_inv hc1658 (own_inv hi1679 (Or.inr rfl) hv1621) hv1630) hv1631)⟩
                obtain ⟨r1737, T1737, L1737, X1737, hQ1737, st1737⟩ := own_callV (W := 0) (a := b1635) (C := "com/example/heaplens/heaplens/sharing/VarSet") X1727 hx hZ e1727 hown (y := (⟨"com/example/heaplens/heaplens/sharing/VarSet", "size", "()I"⟩ : MethodName)) (z := (⟨"com/example/heaplens/heaplens/sharing/VarSet", "size", "()I"⟩ : MethodName)) (hw _ (List.mem_of_getElem? (i := 21) rfl)) (hw _ (List.mem_of_getElem? (i := 22) rfl)) (notFace_of_selects (args := #[]) (mvT hZ (hw _ (List.mem_of_getElem? (i := 24) rfl)))) (hw _ (List.mem_of_getElem? (i := 24) rfl)) (hw _ (List.mem_of_getElem? (i := 23) rfl)) (hw _ (List.mem_of_getElem? (i := 3) rfl)) (hw _ (List.mem_of_getElem? (i := 25) rfl)) (by decide) (f1668) (rm4 l Z a0 hw [] b1635 b1634 k1638 v1615 v1625 v1627 v1629 v1631 T1309.heap n0 Z1677 (f1669) (hi1725) (hc1650) (f1666) (iv1736)) (by decide) (by decide) (by decide) (by decide) (g := (mkF m 319 A1735 [(.ref b1635)])) rfl (by rw [hml]; rfl) (argsL := []) (rest := []) rfl (lenOf pd_3 rfl) rfl (by show 2 * 0 + _ ≤ _; exact Nat.le_of_eq rfl) (hb hby at_319)
                obtain ⟨r1738, hp1739, rfl, N1737, e1737⟩ := hQ1737
                have N1737_ := Fr.app N1727_ N1737
                refine Go.st (S' := T1737.setTop (mkF m 322 A1735 [(.int r1738)])) st1737 ?_
                refine Go.st (S' := T1737.setTop (mkF m 324 A1735 [(.int v1705), (.int r1738)])) (fun t k => XS.iload X1737.here hx rfl (hb hby at_322) rfl k) ?_
                have hu1740 : r1738 = v1705 := by
                  rw [hp1739, own_szL hW1678]
                  rw [hv1705, hv1698]
                  rcases hc1697 with ⟨x1, x2⟩ | ⟨x1, x2⟩
                  · rcases hc1704 with ⟨y1, y2⟩ | ⟨y0, y1, y2⟩ | ⟨y0, y1, y2⟩
                    · rw [if_pos x1, if_pos (Or.inl y1), x2, y2]
                    · rw [if_pos x1, if_pos (Or.inr y1), x2, y2]
                    · rw [if_pos x1, if_neg (fun o => o.elim y0 y1), x2, y2]
                  · rcases hc1704 with ⟨y1, y2⟩ | ⟨y0, y1, y2⟩ | ⟨y0, y1, y2⟩
                    · rw [if_neg x1, if_pos (Or.inl y1), x2, y2]
                    · rw [if_neg x1, if_pos (Or.inr y1), x2, y2]
                    · rw [if_neg x1, if_neg (fun o => o.elim y0 y1), x2, y2]
                obtain rfl : v1705 = r1738 := hu1740.symm
                refine Go.st (S' := T1737.setTop (mkF m 327 A1735 [])) (fun t k => XS.icmpNo X1737.here hx rfl (hb hby at_324) rfl (teq (rfl : v1705 = v1705)).2 k) ?_
                refine Go.st (S' := T1737.setTop (mkF m 329 A1735 [(.ref b1635)])) (fun t k => XS.aload X1737.here hx rfl (hb hby at_327) rfl rfl k) ?_
                have iv1741 : ((0 : Int32) < v1615 ∨ v1625 = (0 : Int64)) ∧ ((1 : Int32) < v1615 ∨ v1627 = (0 : Int64)) ∧ ((2 : Int32) < v1615 ∨ v1629 = (0 : Int64)) ∧ ((3 : Int32) < v1615 ∨ v1631 = (0 : Int64)) := ⟨(own_inv hc1659 (own_inv hc1658 (own_inv hi1679 (Or.inr rfl) hv1618) hv1623) hv1625), (own_inv hc1659 (own_inv hc1658 (own_inv hi1679 (Or.inr rfl) hv1619) hv1626) hv1627), (own_inv hc1659 (own_inv hc1658 (own_inv hi1679 (Or.inr rfl) hv1620) hv1628) hv1629), (own_inv hc1659 (own_inv hc1658 (own_inv hi1679 (Or.inr rfl) hv1621) hv1630) hv1631)⟩
                obtain ⟨r1742, T1742, L1742, X1742, hQ1742, st1742⟩ := own_callV (W := 0) (a := b1635) (C := "com/example/heaplens/heaplens/sharing/VarSet") X1737 hx hZ e1737 hown (y := (⟨"com/example/heaplens/heaplens/sharing/VarSet", "first", "()I"⟩ : MethodName)) (z := (⟨"com/example/heaplens/heaplens/sharing/VarSet", "first", "()I"⟩ : MethodName)) (hw _ (List.mem_of_getElem? (i := 26) rfl)) (hw _ (List.mem_of_getElem? (i := 27) rfl)) (notFace_of_selects (args := #[]) (mvT hZ (hw _ (List.mem_of_getElem? (i := 29) rfl)))) (hw _ (List.mem_of_getElem? (i := 29) rfl)) (hw _ (List.mem_of_getElem? (i := 28) rfl)) (hw _ (List.mem_of_getElem? (i := 3) rfl)) (hw _ (List.mem_of_getElem? (i := 30) rfl)) (by decide) (f1668) (rm6 l Z a0 hw [] b1635 b1634 k1638 v1615 v1625 v1627 v1629 v1631 T1309.heap n0 Z1677 (f1668) (f1669) (hi1725) (hc1650) (f1666) (iv1741)) (by decide) (by decide) (by decide) (by decide) (g := (mkF m 329 A1735 [(.ref b1635)])) rfl (by rw [hml]; rfl) (argsL := []) (rest := []) rfl (lenOf pd_3 rfl) rfl (by show 2 * 0 + _ ≤ _; exact Nat.le_of_eq rfl) (hb hby at_329)
                obtain ⟨r1743, hp1744, rfl, N1742, e1742⟩ := hQ1742
                have N1742_ := Fr.app N1737_ N1742
                refine Go.st (S' := T1742.setTop (mkF m 332 A1735 [(.int r1743)])) st1742 ?_
                refine Go.st (S' := T1742.setTop (mkF m 334 A1735 [(.int r1711), (.int r1743)])) (fun t k => XS.iload X1742.here hx rfl (hb hby at_332) rfl k) ?_
                have hu1745 : r1743 = r1711 := by
                  rw [hp1744, own_fiL hW1678]
                  rw [← own_min_of hc1709, ← own_min_of hc1712]
                obtain rfl : r1743 = r1711 := hu1745
                let A1746 : Array Slot := #[.val (.int p0), .val (.int p1), .val (.int p2), .val (.int p3), .val (.int p4), .val (.int (3 : Int32)), .val (.int v4), .val (.int v6), .val (.int v8), .val (.int v10), .val (.ref b971), .val (.ref b1635), .val (.int r1732), .val (.int v1705), .val (.int r1743), .val (.int r1718)]
                refine Go.st (S' := T1742.setTop (mkF m 337 A1746 [])) (fun t k => XS.icmpNo X1742.here hx rfl (hb hby at_334) rfl (teq (rfl : r1743 = r1743)).2 k) ?_
                refine Go.st (S' := T1742.setTop (mkF m 339 A1746 [(.ref b1635)])) (fun t k => XS.aload X1742.here hx rfl (hb hby at_337) rfl rfl k) ?_
                obtain ⟨r1747, T1747, L1747, X1747, hQ1747, st1747⟩ := own_callV (W := 0) (a := b1635) (C := "com/example/heaplens/heaplens/sharing/VarSet") X1742 hx hZ e1742 hown (y := (⟨"com/example/heaplens/heaplens/sharing/VarSet", "last", "()I"⟩ : MethodName)) (z := (⟨"com/example/heaplens/heaplens/sharing/VarSet", "last", "()I"⟩ : MethodName)) (hw _ (List.mem_of_getElem? (i := 36) rfl)) (hw _ (List.mem_of_getElem? (i := 37) rfl)) (notFace_of_selects (args := #[]) (mvT hZ (hw _ (List.mem_of_getElem? (i := 39) rfl)))) (hw _ (List.mem_of_getElem? (i := 39) rfl)) (hw _ (List.mem_of_getElem? (i := 38) rfl)) (hw _ (List.mem_of_getElem? (i := 3) rfl)) (hw _ (List.mem_of_getElem? (i := 40) rfl)) (by decide) (f1668) (rm7 l Z a0 hw [] b1635 b1634 k1638 v1615 v1625 v1627 v1629 v1631 T1309.heap n0 Z1677 (f1669) (hi1725) (hc1650) (f1666)) (by decide) (by decide) (by decide) (by decide) (g := (mkF m 339 A1746 [(.ref b1635)])) rfl (by rw [hml]; rfl) (argsL := []) (rest := []) rfl (lenOf pd_3 rfl) rfl (by show 2 * 0 + _ ≤ _; exact Nat.le_of_eq rfl) (hb hby at_339)
                obtain ⟨r1754, v1748, v1749, v1750, v1751, v1752, v1753, hv1748, hv1749, hv1750, hv1751, hv1752, hv1753, hc1755, rfl, N1747, e1747⟩ := hQ1747
                have N1747_ := Fr.app N1742_ N1747
                refine Go.st (S' := T1747.setTop (mkF m 342 A1746 [(.int r1754)])) st1747 ?_
                refine Go.st (S' := T1747.setTop (mkF m 344 A1746 [(.int r1718), (.int r1754)])) (fun t k => XS.iload X1747.here hx rfl (hb hby at_342) rfl k) ?_
                have hu1756 : r1754 = r1718 := by
                  rw [own_laL hW1678 hv1748 hv1749 hv1750 hv1751 hv1752 hv1753 hc1755]
                  rw [← own_max_of hc1716, ← own_max_of hc1719]
                obtain rfl : r1754 = r1718 := hu1756
                let A1757 : Array Slot := #[.val (.int p0), .val (.int p1), .val (.int p2), .val (.int p3), .val (.int p4), .val (.int (3 : Int32)), .val (.int v4), .val (.int v6), .val (.int v8), .val (.int v10), .val (.ref b971), .val (.ref b1635), .val (.int r1732), .val (.int v1705), .val (.int r1743), .val (.int r1754)]
                refine Go.st (S' := T1747.setTop (mkF m 347 A1757 [])) (fun t k => XS.icmpNo X1747.here hx rfl (hb hby at_344) rfl (teq (rfl : r1754 = r1754)).2 k) ?_
                refine Go.st (S' := T1747.setTop (mkF m 349 A1757 [(.ref b1635)])) (fun t k => XS.aload X1747.here hx rfl (hb hby at_347) rfl rfl k) ?_
                obtain ⟨r1758, T1758, L1758, X1758, hQ1758, st1758⟩ := own_callV (W := 0) (a := b1635) (C := "com/example/heaplens/heaplens/sharing/VarSet") X1747 hx hZ e1747 hown (y := (⟨"com/example/heaplens/heaplens/sharing/VarSet", "isEmpty", "()Z"⟩ : MethodName)) (z := (⟨"com/example/heaplens/heaplens/sharing/VarSet", "isEmpty", "()Z"⟩ : MethodName)) (hw _ (List.mem_of_getElem? (i := 41) rfl)) (hw _ (List.mem_of_getElem? (i := 42) rfl)) (notFace_of_selects (args := #[]) (mvT hZ (hw _ (List.mem_of_getElem? (i := 44) rfl)))) (hw _ (List.mem_of_getElem? (i := 44) rfl)) (hw _ (List.mem_of_getElem? (i := 43) rfl)) (hw _ (List.mem_of_getElem? (i := 3) rfl)) (hw _ (List.mem_of_getElem? (i := 45) rfl)) (by decide) (f1668) (rm8 l Z a0 hw [] b1635 b1634 k1638 v1615 v1625 v1627 v1629 v1631 T1309.heap n0 Z1677 (f1669) (hi1725) (hc1650) (f1666)) (by decide) (by decide) (by decide) (by decide) (g := (mkF m 349 A1757 [(.ref b1635)])) rfl (by rw [hml]; rfl) (argsL := []) (rest := []) rfl (lenOf pd_5 rfl) rfl (by show 2 * 0 + _ ≤ _; exact Nat.le_of_eq rfl) (hb hby at_349)
                obtain ⟨r1759, hc1760, rfl, N1758, e1758⟩ := hQ1758
                have N1758_ := Fr.app N1747_ N1758
                refine Go.st (S' := T1758.setTop (mkF m 352 A1757 [(.int r1759)])) st1758 ?_
                refine Go.st (S' := T1758.setTop (mkF m 354 A1757 [(.int (3 : Int32)), (.int r1759)])) (fun t k => XS.iload X1758.here hx rfl (hb hby at_352) rfl k) ?_
                refine Go.st (S' := T1758.setTop (mkF m 361 A1757 [(.int r1759)])) (fun t k => XS.ifYes X1758.here hx rfl (pc0 := 354) (pc' := 361) rfl (hb hby at_354) rfl ((if0 _ _).trans (feq (by decide : (¬ ((3 : Int32) = (0 : Int32))))).2) (by decide) (by decide) k) ?_
                refine Go.st (S' := T1758.setTop (mkF m 362 A1757 [(.int (0 : Int32)), (.int r1759)])) (fun t k => XS.iconst X1758.here hx rfl (hb hby at_361) k) ?_
                have hu1761 : r1759 = (0 : Int32) := by
                  rcases hc1760 with ⟨x1, -⟩ | ⟨-, x1⟩
                  · exact absurd x1 (own_zne hW1678)
                  · exact x1
                obtain rfl : (0 : Int32) = r1759 := hu1761.symm
                refine Go.st (S' := T1758.setTop (mkF m 365 A1757 [])) (fun t k => XS.icmpNo X1758.here hx rfl (hb hby at_362) rfl (teq (by decide : ((0 : Int32) = (0 : Int32)))).2 k) ?_
                refine Go.st (S' := T1758.setTop (mkF m 366 A1757 [(.int (1 : Int32))])) (fun t k => XS.iconst X1758.here hx rfl (hb hby at_365) k) ?_
                refine Go.st (S' := T1758.setTop (mkF m 370 A1757 [(.int (1 : Int32))])) (fun t k => XS.goto X1758.here hx rfl (pc0 := 366) (pc' := 370) rfl (hb hby at_366) (by decide) (by decide) k) ?_
                exact Go.ret X1758 (v := some (.int (1 : Int32))) (fun h => by rw [Bd.returns] at h; cases h) Bd.notSynchronized (fun fs hr => retN X1758 hx (t := .boolean) Bd.returns (by simp) (hb hby at_370) hr) (by decide) (by decide) ⟨rfl, N1758_⟩
              · intro J1762
                by_cases hc1763 : (v8 = v4)
                · refine Go.st (S' := T1309.setTop (mkF m 273 A1693 [(.int v1698)])) (fun t k => XS.icmpYes X1309.here hx rfl (pc0 := 259) (pc' := 273) rfl (hb hby at_259) rfl (teq hc1763).1 (by decide) (by decide) k) ?_
                  refine Go.st (S' := T1309.setTop (mkF m 274 A1693 [(.int (0 : Int32)), (.int v1698)])) (fun t k => XS.iconst X1309.here hx rfl (hb hby at_273) k) ?_
                  exact J1762 ((0 : Int32)) (Or.inl ⟨hc1763, rfl⟩)
                · refine Go.st (S' := T1309.setTop (mkF m 262 A1693 [(.int v1698)])) (fun t k => XS.icmpNo X1309.here hx rfl (hb hby at_259) rfl (feq hc1763).1 k) ?_
                  refine Go.st (S' := T1309.setTop (mkF m 264 A1693 [(.int v8), (.int v1698)])) (fun t k => XS.iload X1309.here hx rfl (hb hby at_262) rfl k) ?_
                  refine Go.st (S' := T1309.setTop (mkF m 266 A1693 [(.int v6), (.int v8), (.int v1698)])) (fun t k => XS.iload X1309.here hx rfl (hb hby at_264) rfl k) ?_
                  by_cases hc1764 : (v8 = v6)
                  · refine Go.st (S' := T1309.setTop (mkF m 273 A1693 [(.int v1698)])) (fun t k => XS.icmpYes X1309.here hx rfl (pc0 := 266) (pc' := 273) rfl (hb hby at_266) rfl (teq hc1764).1 (by decide) (by decide) k) ?_
                    refine Go.st (S' := T1309.setTop (mkF m 274 A1693 [(.int (0 : Int32)), (.int v1698)])) (fun t k => XS.iconst X1309.here hx rfl (hb hby at_273) k) ?_
                    exact J1762 ((0 : Int32)) (Or.inr (Or.inl ⟨hc1763, hc1764, rfl⟩))
                  · refine Go.st (S' := T1309.setTop (mkF m 269 A1693 [(.int v1698)])) (fun t k => XS.icmpNo X1309.here hx rfl (hb hby at_266) rfl (feq hc1764).1 k) ?_
                    refine Go.st (S' := T1309.setTop (mkF m 270 A1693 [(.int (1 : Int32)), (.int v1698)])) (fun t k => XS.iconst X1309.here hx rfl (hb hby at_269) k) ?_
                    refine Go.st (S' := T1309.setTop (mkF m 274 A1693 [(.int (1 : Int32)), (.int v1698)])) (fun t k => XS.goto X1309.here hx rfl (pc0 := 270) (pc' := 274) rfl (hb hby at_270) (by decide) (by decide) k) ?_
                    exact J1762 ((1 : Int32)) (Or.inr (Or.inr ⟨hc1763, hc1764, rfl⟩))
            · intro J1765
              by_cases hc1766 : (v6 = v4)
              · refine Go.st (S' := T1309.setTop (mkF m 253 A1693 [(.int (1 : Int32))])) (fun t k => XS.icmpYes X1309.here hx rfl (pc0 := 246) (pc' := 253) rfl (hb hby at_246) rfl (teq hc1766).1 (by decide) (by decide) k) ?_
                refine Go.st (S' := T1309.setTop (mkF m 254 A1693 [(.int (0 : Int32)), (.int (1 : Int32))])) (fun t k => XS.iconst X1309.here hx rfl (hb hby at_253) k) ?_
                exact J1765 ((0 : Int32)) (Or.inl ⟨hc1766, rfl⟩)
              · refine Go.st (S' := T1309.setTop (mkF m 249 A1693 [(.int (1 : Int32))])) (fun t k => XS.icmpNo X1309.here hx rfl (hb hby at_246) rfl (feq hc1766).1 k) ?_
                refine Go.st (S' := T1309.setTop (mkF m 250 A1693 [(.int (1 : Int32)), (.int (1 : Int32))])) (fun t k => XS.iconst X1309.here hx rfl (hb hby at_249) k) ?_
                refine Go.st (S' := T1309.setTop (mkF m 254 A1693 [(.int (1 : Int32)), (.int (1 : Int32))])) (fun t k => XS.goto X1309.here hx rfl (pc0 := 250) (pc' := 254) rfl (hb hby at_250) (by decide) (by decide) k) ?_
                exact J1765 ((1 : Int32)) (Or.inr ⟨hc1766, rfl⟩)
          · intro J1767
            by_cases hc1768 : (v10 = v4)
            · refine Go.st (S' := T1309.setTop (mkF m 156 A1684 [])) (fun t k => XS.icmpYes X1309.here hx rfl (pc0 := 127) (pc' := 156) rfl (hb hby at_127) rfl (teq hc1768).1 (by decide) (by decide) k) ?_
              refine Go.st (S' := T1309.setTop (mkF m 157 A1684 [(.int (1 : Int32))])) (fun t k => XS.iconst X1309.here hx rfl (hb hby at_156) k) ?_
              refine Go.st (S' := T1309.setTop (mkF m 161 A1684 [(.int (1 : Int32))])) (fun t k => XS.goto X1309.here hx rfl (pc0 := 157) (pc' := 161) rfl (hb hby at_157) (by decide) (by decide) k) ?_
              exact J1767 ((1 : Int32)) (Or.inl ⟨hc1768, rfl⟩)
            · refine Go.st (S' := T1309.setTop (mkF m 130 A1684 [])) (fun t k => XS.icmpNo X1309.here hx rfl (hb hby at_127) rfl (feq hc1768).1 k) ?_
              refine Go.st (S' := T1309.setTop (mkF m 132 A1684 [(.int (3 : Int32))])) (fun t k => XS.iload X1309.here hx rfl (hb hby at_130) rfl k) ?_
              refine Go.st (S' := T1309.setTop (mkF m 133 A1684 [(.int (2 : Int32)), (.int (3 : Int32))])) (fun t k => XS.iconst X1309.here hx rfl (hb hby at_132) k) ?_
              refine Go.st (S' := T1309.setTop (mkF m 136 A1684 [])) (fun t k => XS.icmpNo X1309.here hx rfl (hb hby at_133) rfl (flt (by decide : (¬ ((3 : Int32) < (2 : Int32))))).1 k) ?_
              refine Go.st (S' := T1309.setTop (mkF m 138 A1684 [(.int v10)])) (fun t k => XS.iload X1309.here hx rfl (hb hby at_136) rfl k) ?_
              refine Go.st (S' := T1309.setTop (mkF m 140 A1684 [(.int v6), (.int v10)])) (fun t k => XS.iload X1309.here hx rfl (hb hby at_138) rfl k) ?_
              by_cases hc1769 : (v10 = v6)
              · refine Go.st (S' := T1309.setTop (mkF m 156 A1684 [])) (fun t k => XS.icmpYes X1309.here hx rfl (pc0 := 140) (pc' := 156) rfl (hb hby at_140) rfl (teq hc1769).1 (by decide) (by decide) k) ?_
                refine Go.st (S' := T1309.setTop (mkF m 157 A1684 [(.int (1 : Int32))])) (fun t k => XS.iconst X1309.here hx rfl (hb hby at_156) k) ?_
                refine Go.st (S' := T1309.setTop (mkF m 161 A1684 [(.int (1 : Int32))])) (fun t k => XS.goto X1309.here hx rfl (pc0 := 157) (pc' := 161) rfl (hb hby at_157) (by decide) (by decide) k) ?_
                exact J1767 ((1 : Int32)) (Or.inr (Or.inl ⟨hc1768, hc1769, rfl⟩))
              · refine Go.st (S' := T1309.setTop (mkF m 143 A1684 [])) (fun t k => XS.icmpNo X1309.here hx rfl (hb hby at_140) rfl (feq hc1769).1 k) ?_
                refine Go.st (S' := T1309.setTop (mkF m 145 A1684 [(.int (3 : Int32))])) (fun t k => XS.iload X1309.here hx rfl (hb hby at_143) rfl k) ?_
                refine Go.st (S' := T1309.setTop (mkF m 146 A1684 [(.int (3 : Int32)), (.int (3 : Int32))])) (fun t k => XS.iconst X1309.here hx rfl (hb hby at_145) k) ?_
                refine Go.st (S' := T1309.setTop (mkF m 149 A1684 [])) (fun t k => XS.icmpNo X1309.here hx rfl (hb hby at_146) rfl (flt (by decide : (¬ ((3 : Int32) < (3 : Int32))))).1 k) ?_
                refine Go.st (S' := T1309.setTop (mkF m 151 A1684 [(.int v10)])) (fun t k => XS.iload X1309.here hx rfl (hb hby at_149) rfl k) ?_
                refine Go.st (S' := T1309.setTop (mkF m 153 A1684 [(.int v8), (.int v10)])) (fun t k => XS.iload X1309.here hx rfl (hb hby at_151) rfl k) ?_
                by_cases hc1770 : (v10 = v8)
                · refine Go.st (S' := T1309.setTop (mkF m 156 A1684 [])) (fun t k => XS.icmpNo X1309.here hx rfl (hb hby at_153) rfl (teq hc1770).2 k) ?_
                  refine Go.st (S' := T1309.setTop (mkF m 157 A1684 [(.int (1 : Int32))])) (fun t k => XS.iconst X1309.here hx rfl (hb hby at_156) k) ?_
                  refine Go.st (S' := T1309.setTop (mkF m 161 A1684 [(.int (1 : Int32))])) (fun t k => XS.goto X1309.here hx rfl (pc0 := 157) (pc' := 161) rfl (hb hby at_157) (by decide) (by decide) k) ?_
                  exact J1767 ((1 : Int32)) (Or.inr (Or.inr (Or.inl ⟨hc1768, hc1769, hc1770, rfl⟩)))
                · refine Go.st (S' := T1309.setTop (mkF m 160 A1684 [])) (fun t k => XS.icmpYes X1309.here hx rfl (pc0 := 153) (pc' := 160) rfl (hb hby at_153) rfl (feq hc1770).2 (by decide) (by decide) k) ?_
                  refine Go.st (S' := T1309.setTop (mkF m 161 A1684 [(.int (0 : Int32))])) (fun t k => XS.iconst X1309.here hx rfl (hb hby at_160) k) ?_
                  exact J1767 ((0 : Int32)) (Or.inr (Or.inr (Or.inr ⟨hc1768, hc1769, hc1770, rfl⟩)))
        · obtain ⟨v1771, v1772, v1773, v1774, v1775, v1776, v1777, v1778, v1779, v1780, v1781, v1782, v1783, v1784, v1785, v1786, v1787, v1788, v1789, v1790, v1791, b1792, b1793, b1794, b1795, b1796, k1797, k1798, k1799, k1800, hv1771, hv1772, hv1773, hv1774, hv1775, hv1776, hv1777, hv1778, hv1779, hv1780, hv1781, hv1782, hv1783, hv1784, hv1785, hv1786, hv1787, hv1788, hv1789, hv1790, hv1791, hc1801, hc1802, hc1803, hc1804, hc1805, hc1806, hc1807, hc1808, hc1809, hc1810, hc1811, hc1812, hc1813, hc1814, hc1815, hc1816, hc1817, hc1818, hc1819, hc1820, hc1821, hc1822, hc1823, hc1824, hc1825, hc1826, hc1827, hc1828, hc1829, hc1830, hc1831, hc1832, rfl, N1309, K1309_, sz_b1792_, sz_b1793_, sz_b1794_, sz_b1795_, sz_b1796_, f1833, f1834, f1835, f1836, f1837, f1838, f1839, f1840, f1841, f1842, hlt1843, hlt1844, hlt1845, hlt1846, hlt1847, hlt1848, hlt1849, hlt1850, hlt1851, hlt1852⟩ := hQ1309
          have N1309_ := Fr.app N977 N1309
          have g_b1792 : n0 ≤ b1792 := Nat.le_trans Z978 sz_b1792_
          have sz_b1792 : h0.size ≤ b1792 := Nat.le_trans K978.1 sz_b1792_
          have f1853 := ((((((B971).wr W973)).wr W975)).wr W977)
          have lt_b971_b1792 : b971 < b1792 := Nat.lt_of_lt_of_le (f1853).lt sz_b1792_
          have g_b1793 : n0 ≤ b1793 := Nat.le_trans Z978 sz_b1793_
          have sz_b1793 : h0.size ≤ b1793 := Nat.le_trans K978.1 sz_b1793_
          have lt_b971_b1793 : b971 < b1793 := Nat.lt_of_lt_of_le (f1853).lt sz_b1793_
          have g_b1794 : n0 ≤ b1794 := Nat.le_trans Z978 sz_b1794_
          have sz_b1794 : h0.size ≤ b1794 := Nat.le_trans K978.1 sz_b1794_
          have lt_b971_b1794 : b971 < b1794 := Nat.lt_of_lt_of_le (f1853).lt sz_b1794_
          have g_b1795 : n0 ≤ b1795 := Nat.le_trans Z978 sz_b1795_
          have sz_b1795 : h0.size ≤ b1795 := Nat.le_trans K978.1 sz_b1795_
          have lt_b971_b1795 : b971 < b1795 := Nat.lt_of_lt_of_le (f1853).lt sz_b1795_
          have g_b1796 : n0 ≤ b1796 := Nat.le_trans Z978 sz_b1796_
          have sz_b1796 : h0.size ≤ b1796 := Nat.le_trans K978.1 sz_b1796_
          have lt_b971_b1796 : b971 < b1796 := Nat.lt_of_lt_of_le (f1853).lt sz_b1796_
          have Z1854 : n0 ≤ T1309.heap.size := Nat.le_trans Z978 K1309_.1
          have K1854 : Keep h0 T1309.heap [] := K978.trans K1309_ all0
          refine Go.st (S' := T1309.setTop (mkF m 115 A984 [(.ref b1796)])) st1309 ?_
          have hi1856 : (v1771 < v1776) := by
            refine Decidable.byContradiction fun hc1857 => ?_
            exact ar_83 p1 v4 p2 v6 p3 v8 v1771 v1772 v1773 v1774 v1775 v1776 hv4 hv6 hv8 hv1771 hv1772 hv1773 hv1774 hv1775 hv1776 hi1297 hi1299 hi1301 hi1303 hi1305 hi1307 hc1801 hc1802 hc1803 hc1804 hc1806 hc1808 hc1809 hc1810 hc1811 hc1812 hc1813 hc1814 hc1816 hc1818 hc1819 hc1820 hc1821 hc1822 hc1823 hc1824 hc1825 hc1826 hc1828 hc1829 hc1830 hc1831 hc1832 hc1857
          have hi1858 : (v1773 < v1776) := by
            refine Decidable.byContradiction fun hc1859 => ?_
            exact ar_84 p1 v4 p2 v6 p3 v8 v1771 v1772 v1773 v1774 v1775 v1776 hv4 hv6 hv8 hv1771 hv1772 hv1773 hv1774 hv1775 hv1776 hi1297 hi1299 hi1301 hi1303 hi1305 hi1307 hc1801 hc1802 hc1803 hc1804 hc1806 hc1808 hc1809 hc1810 hc1811 hc1812 hc1813 hc1814 hc1816 hc1818 hc1819 hc1820 hc1821 hc1822 hc1823 hc1824 hc1825 hc1826 hc1828 hc1829 hc1830 hc1831 hc1832 hi1856 hc1859
          have hR1860 : own_R v4 := by rw [hv4]; exact own_R255 _
          have hR1861 : own_R v6 := by rw [hv6]; exact own_R255 _
          have hR1862 : own_R v8 := by rw [hv8]; exact own_R255 _
          have hW1855 : own_W v4 v6 v8 v1788 v1789 v1790 v1791 v1776 := ⟨⟨hR1860, hR1861, hR1862⟩, ⟨(by rw [hv1788, hv1783, hv1778, hv1771, hv1777, hv1773, hv1782, hv1775, hv1787]; exact rfl), (by rw [hv1789, hv1784, hv1779, hv1771, hv1777, hv1773, hv1782, hv1775, hv1787]; exact rfl), (by rw [hv1790, hv1785, hv1780, hv1771, hv1777, hv1773, hv1782, hv1775, hv1787]; exact rfl), (by rw [hv1791, hv1786, hv1781, hv1771, hv1777, hv1773, hv1782, hv1775, hv1787]; exact rfl)⟩, ⟨(by rw [← hv1771]; exact hi1856), (by rw [← hv1773]; exact hi1858), (by rw [← hv1775]; exact hc1832)⟩, (Or.inr (Or.inr (by rw [← hv1775]; exact hv1776)))⟩
          let A1863 : Array Slot := #[.val (.int p0), .val (.int p1), .val (.int p2), .val (.int p3), .val (.int p4), .val (.int (3 : Int32)), .val (.int v4), .val (.int v6), .val (.int v8), .val (.int v10), .val (.ref b971), .val (.ref b1796), .unset, .unset, .unset, .unset]
          refine Go.st (S' := T1309.setTop (mkF m 117 A1863 [])) (fun t k => XS.astore X1309.here hx rfl (hb hby at_115) rfl rfl (l' := A1863) rfl k) ?_
          refine Go.st (S' := T1309.setTop (mkF m 119 A1863 [(.int (3 : Int32))])) (fun t k => XS.iload X1309.here hx rfl (hb hby at_117) rfl k) ?_
          refine Go.st (S' := T1309.setTop (mkF m 120 A1863 [(.int (1 : Int32)), (.int (3 : Int32))])) (fun t k => XS.iconst X1309.here hx rfl (hb hby at_119) k) ?_
          refine Go.st (S' := T1309.setTop (mkF m 123 A1863 [])) (fun t k => XS.icmpNo X1309.here hx rfl (hb hby at_120) rfl (flt (by decide : (¬ ((3 : Int32) < (1 : Int32))))).1 k) ?_
          refine Go.st (S' := T1309.setTop (mkF m 125 A1863 [(.int v10)])) (fun t k => XS.iload X1309.here hx rfl (hb hby at_123) rfl k) ?_
          refine Go.st (S' := T1309.setTop (mkF m 127 A1863 [(.int v4), (.int v10)])) (fun t k => XS.iload X1309.here hx rfl (hb hby at_125) rfl k) ?_
          refine Go.join (α := Int32) (fun r => (((v10 = v4) ∧ (r = (1 : Int32))) ∨ ((¬ (v10 = v4)) ∧ (v10 = v6) ∧ (r = (1 : Int32))) ∨ ((¬ (v10 = v4)) ∧ (¬ (v10 = v6)) ∧ (v10 = v8) ∧ (r = (1 : Int32))) ∨ ((¬ (v10 = v4)) ∧ (¬ (v10 = v6)) ∧ (¬ (v10 = v8)) ∧ (r = (0 : Int32))))) (fun r => T1309.setTop (mkF m 161 A1863 [(.int r)])) ?_ ?_
          · intro r1870 hc1871
            let A1872 : Array Slot := #[.val (.int p0), .val (.int p1), .val (.int p2), .val (.int p3), .val (.int p4), .val (.int (3 : Int32)), .val (.int v4), .val (.int v6), .val (.int v8), .val (.int v10), .val (.ref b971), .val (.ref b1796), .val (.int r1870), .unset, .unset, .unset]
            refine Go.st (S' := T1309.setTop (mkF m 163 A1872 [])) (fun t k => XS.istore X1309.here hx rfl (hb hby at_161) rfl (l' := A1872) rfl k) ?_
            refine Go.st (S' := T1309.setTop (mkF m 165 A1872 [(.int (3 : Int32))])) (fun t k => XS.iload X1309.here hx rfl (hb hby at_163) rfl k) ?_
            refine Go.st (S' := T1309.setTop (mkF m 180 A1872 [])) (fun t k => XS.ifYes X1309.here hx rfl (pc0 := 165) (pc' := 180) rfl (hb hby at_165) rfl ((if0 _ _).trans (feq (by decide : (¬ ((3 : Int32) = (0 : Int32))))).2) (by decide) (by decide) k) ?_
            refine Go.st (S' := T1309.setTop (mkF m 182 A1872 [(.int (3 : Int32))])) (fun t k => XS.iload X1309.here hx rfl (hb hby at_180) rfl k) ?_
            refine Go.st (S' := T1309.setTop (mkF m 183 A1872 [(.int (1 : Int32)), (.int (3 : Int32))])) (fun t k => XS.iconst X1309.here hx rfl (hb hby at_182) k) ?_
            refine Go.st (S' := T1309.setTop (mkF m 200 A1872 [])) (fun t k => XS.icmpYes X1309.here hx rfl (pc0 := 183) (pc' := 200) rfl (hb hby at_183) rfl (feq (by decide : (¬ ((3 : Int32) = (1 : Int32))))).2 (by decide) (by decide) k) ?_
            refine Go.st (S' := T1309.setTop (mkF m 202 A1872 [(.int (3 : Int32))])) (fun t k => XS.iload X1309.here hx rfl (hb hby at_200) rfl k) ?_
            refine Go.st (S' := T1309.setTop (mkF m 203 A1872 [(.int (2 : Int32)), (.int (3 : Int32))])) (fun t k => XS.iconst X1309.here hx rfl (hb hby at_202) k) ?_
            refine Go.st (S' := T1309.setTop (mkF m 241 A1872 [])) (fun t k => XS.icmpYes X1309.here hx rfl (pc0 := 203) (pc' := 241) rfl (hb hby at_203) rfl (feq (by decide : (¬ ((3 : Int32) = (2 : Int32))))).2 (by decide) (by decide) k) ?_
            refine Go.st (S' := T1309.setTop (mkF m 242 A1872 [(.int (1 : Int32))])) (fun t k => XS.iconst X1309.here hx rfl (hb hby at_241) k) ?_
            refine Go.st (S' := T1309.setTop (mkF m 244 A1872 [(.int v6), (.int (1 : Int32))])) (fun t k => XS.iload X1309.here hx rfl (hb hby at_242) rfl k) ?_
            refine Go.st (S' := T1309.setTop (mkF m 246 A1872 [(.int v4), (.int v6), (.int (1 : Int32))])) (fun t k => XS.iload X1309.here hx rfl (hb hby at_244) rfl k) ?_
            refine Go.join (α := Int32) (fun r => (((v6 = v4) ∧ (r = (0 : Int32))) ∨ ((¬ (v6 = v4)) ∧ (r = (1 : Int32))))) (fun r => T1309.setTop (mkF m 254 A1872 [(.int r), (.int (1 : Int32))])) ?_ ?_
            · intro r1875 hc1876
              refine Go.op (F := fun z => T1309.setTop (mkF m 255 A1872 [(.int z)])) (x := ((1 : Int32) + r1875)) (fun t k => XS.iadd X1309.here hx rfl (hb hby at_254) rfl k) ?_
              intro v1877 hv1877
              refine Go.st (S' := T1309.setTop (mkF m 257 A1872 [(.int v8), (.int v1877)])) (fun t k => XS.iload X1309.here hx rfl (hb hby at_255) rfl k) ?_
              refine Go.st (S' := T1309.setTop (mkF m 259 A1872 [(.int v4), (.int v8), (.int v1877)])) (fun t k => XS.iload X1309.here hx rfl (hb hby at_257) rfl k) ?_
              refine Go.join (α := Int32) (fun r => (((v8 = v4) ∧ (r = (0 : Int32))) ∨ ((¬ (v8 = v4)) ∧ (v8 = v6) ∧ (r = (0 : Int32))) ∨ ((¬ (v8 = v4)) ∧ (¬ (v8 = v6)) ∧ (r = (1 : Int32))))) (fun r => T1309.setTop (mkF m 274 A1872 [(.int r), (.int v1877)])) ?_ ?_
              · intro r1882 hc1883
                refine Go.op (F := fun z => T1309.setTop (mkF m 275 A1872 [(.int z)])) (x := (v1877 + r1882)) (fun t k => XS.iadd X1309.here hx rfl (hb hby at_274) rfl k) ?_
                intro v1884 hv1884
                let A1885 : Array Slot := #[.val (.int p0), .val (.int p1), .val (.int p2), .val (.int p3), .val (.int p4), .val (.int (3 : Int32)), .val (.int v4), .val (.int v6), .val (.int v8), .val (.int v10), .val (.ref b971), .val (.ref b1796), .val (.int r1870), .val (.int v1884), .unset, .unset]
                refine Go.st (S' := T1309.setTop (mkF m 277 A1885 [])) (fun t k => XS.istore X1309.here hx rfl (hb hby at_275) rfl (l' := A1885) rfl k) ?_
                refine Go.st (S' := T1309.setTop (mkF m 279 A1885 [(.int v4)])) (fun t k => XS.iload X1309.here hx rfl (hb hby at_277) rfl k) ?_
                refine Go.st (S' := T1309.setTop (mkF m 281 A1885 [(.int v6), (.int v4)])) (fun t k => XS.iload X1309.here hx rfl (hb hby at_279) rfl k) ?_
                refine Go.st (S' := T1309.setTop (mkF m 283 A1885 [(.int v8), (.int v6), (.int v4)])) (fun t k => XS.iload X1309.here hx rfl (hb hby at_281) rfl k) ?_
                obtain ⟨r1886, T1886, L1886, X1886, hQ1886, st1886⟩ := own_callS (W := 1) X1309 hx hZ rfl hown (y := (⟨"java/lang/Math", "min", "(II)I"⟩ : MethodName)) (hw _ (List.mem_of_getElem? (i := 58) rfl)) (hw _ (List.mem_of_getElem? (i := 51) rfl)) (hw _ (List.mem_of_getElem? (i := 52) rfl)) (hw _ (List.mem_of_getElem? (i := 53) rfl)) (by decide) (rm9 l Z a0 hw [] v6 v8 T1309.heap n0 Z1854 ) (by decide) (by decide) (by decide) (by decide) (g := (mkF m 283 A1885 [(.int v8), (.int v6), (.int v4)])) rfl (by rw [hml]; rfl) (argsL := [(.int v6), (.int v8)]) (rest := [(.int v4)]) rfl (lenOf pd_6 rfl) rfl (by show 2 * 0 + _ ≤ _; exact Nat.le_of_eq rfl) (hb hby at_283)
                obtain ⟨r1887, hc1888, rfl, N1886, e1886⟩ := hQ1886
                have N1886_ := Fr.app N1309_ N1886
                refine Go.st (S' := T1886.setTop (mkF m 286 A1885 [(.int r1887), (.int v4)])) st1886 ?_
                obtain ⟨r1889, T1889, L1889, X1889, hQ1889, st1889⟩ := own_callS (W := 0) X1886 hx hZ e1886 hown (y := (⟨"java/lang/Math", "min", "(II)I"⟩ : MethodName)) (hw _ (List.mem_of_getElem? (i := 58) rfl)) (hw _ (List.mem_of_getElem? (i := 51) rfl)) (hw _ (List.mem_of_getElem? (i := 52) rfl)) (hw _ (List.mem_of_getElem? (i := 53) rfl)) (by decide) (rm9 l Z a0 hw [] v4 r1887 T1309.heap n0 Z1854 ) (by decide) (by decide) (by decide) (by decide) (g := (mkF m 286 A1885 [(.int r1887), (.int v4)])) rfl (by rw [hml]; rfl) (argsL := [(.int v4), (.int r1887)]) (rest := []) rfl (lenOf pd_6 rfl) rfl (by show 2 * 0 + _ ≤ _; exact Nat.le_of_eq rfl) (hb hby at_286)
                obtain ⟨r1890, hc1891, rfl, N1889, e1889⟩ := hQ1889
                have N1889_ := Fr.app N1886_ N1889
                refine Go.st (S' := T1889.setTop (mkF m 289 A1885 [(.int r1890)])) st1889 ?_
                let A1892 : Array Slot := #[.val (.int p0), .val (.int p1), .val (.int p2), .val (.int p3), .val (.int p4), .val (.int (3 : Int32)), .val (.int v4), .val (.int v6), .val (.int v8), .val (.int v10), .val (.ref b971), .val (.ref b1796), .val (.int r1870), .val (.int v1884), .val (.int r1890), .unset]
                refine Go.st (S' := T1889.setTop (mkF m 291 A1892 [])) (fun t k => XS.istore X1889.here hx rfl (hb hby at_289) rfl (l' := A1892) rfl k) ?_
                refine Go.st (S' := T1889.setTop (mkF m 293 A1892 [(.int v4)])) (fun t k => XS.iload X1889.here hx rfl (hb hby at_291) rfl k) ?_
                refine Go.st (S' := T1889.setTop (mkF m 295 A1892 [(.int v6), (.int v4)])) (fun t k => XS.iload X1889.here hx rfl (hb hby at_293) rfl k) ?_
                refine Go.st (S' := T1889.setTop (mkF m 297 A1892 [(.int v8), (.int v6), (.int v4)])) (fun t k => XS.iload X1889.here hx rfl (hb hby at_295) rfl k) ?_
                obtain ⟨r1893, T1893, L1893, X1893, hQ1893, st1893⟩ := own_callS (W := 1) X1889 hx hZ e1889 hown (y := (⟨"java/lang/Math", "max", "(II)I"⟩ : MethodName)) (hw _ (List.mem_of_getElem? (i := 59) rfl)) (hw _ (List.mem_of_getElem? (i := 60) rfl)) (hw _ (List.mem_of_getElem? (i := 52) rfl)) (hw _ (List.mem_of_getElem? (i := 61) rfl)) (by decide) (rm13 l Z a0 hw [] v6 v8 T1309.heap n0 Z1854 ) (by decide) (by decide) (by decide) (by decide) (g := (mkF m 297 A1892 [(.int v8), (.int v6), (.int v4)])) rfl (by rw [hml]; rfl) (argsL := [(.int v6), (.int v8)]) (rest := [(.int v4)]) rfl (lenOf pd_6 rfl) rfl (by show 2 * 0 + _ ≤ _; exact Nat.le_of_eq rfl) (hb hby at_297)
                obtain ⟨r1894, hc1895, rfl, N1893, e1893⟩ := hQ1893
                have N1893_ := Fr.app N1889_ N1893
                refine Go.st (S' := T1893.setTop (mkF m 300 A1892 [(.int r1894), (.int v4)])) st1893 ?_
                obtain ⟨r1896, T1896, L1896, X1896, hQ1896, st1896⟩ := own_callS (W := 0) X1893 hx hZ e1893 hown (y := (⟨"java/lang/Math", "max", "(II)I"⟩ : MethodName)) (hw _ (List.mem_of_getElem? (i := 59) rfl)) (hw _ (List.mem_of_getElem? (i := 60) rfl)) (hw _ (List.mem_of_getElem? (i := 52) rfl)) (hw _ (List.mem_of_getElem? (i := 61) rfl)) (by decide) (rm13 l Z a0 hw [] v4 r1894 T1309.heap n0 Z1854 ) (by decide) (by decide) (by decide) (by decide) (g := (mkF m 300 A1892 [(.int r1894), (.int v4)])) rfl (by rw [hml]; rfl) (argsL := [(.int v4), (.int r1894)]) (rest := []) rfl (lenOf pd_6 rfl) rfl (by show 2 * 0 + _ ≤ _; exact Nat.le_of_eq rfl) (hb hby at_300)
                obtain ⟨r1897, hc1898, rfl, N1896, e1896⟩ := hQ1896
                have N1896_ := Fr.app N1893_ N1896
                refine Go.st (S' := T1896.setTop (mkF m 303 A1892 [(.int r1897)])) st1896 ?_
                let A1899 : Array Slot := #[.val (.int p0), .val (.int p1), .val (.int p2), .val (.int p3), .val (.int p4), .val (.int (3 : Int32)), .val (.int v4), .val (.int v6), .val (.int v8), .val (.int v10), .val (.ref b971), .val (.ref b1796), .val (.int r1870), .val (.int v1884), .val (.int r1890), .val (.int r1897)]
                refine Go.st (S' := T1896.setTop (mkF m 305 A1899 [])) (fun t k => XS.istore X1896.here hx rfl (hb hby at_303) rfl (l' := A1899) rfl k) ?_
                refine Go.st (S' := T1896.setTop (mkF m 307 A1899 [(.ref b1796)])) (fun t k => XS.aload X1896.here hx rfl (hb hby at_305) rfl rfl k) ?_
                refine Go.st (S' := T1896.setTop (mkF m 309 A1899 [(.int v10), (.ref b1796)])) (fun t k => XS.iload X1896.here hx rfl (hb hby at_307) rfl k) ?_
                have hi1900 : (¬ (v10 < (0 : Int32))) := by
                  intro hc1901
                  exact ar_75 p4 v10 p1 v4 p2 v6 p3 v8 r1870 hv10 hv4 hv6 hv8 hc1871 hc1901
                have hi1902 : (¬ ((511 : Int32) < v10)) := by
                  intro hc1903
                  exact ar_76 p4 v10 p1 v4 p2 v6 p3 v8 r1870 hv10 hv4 hv6 hv8 hc1871 hi1900 hc1903
                have hi1904 : (¬ (v1776 < (0 : Int32))) := by
                  intro hc1905
                  exact ar_85 p1 v4 p2 v6 p3 v8 v1771 v1772 v1773 v1774 v1775 v1776 hv4 hv6 hv8 hv1771 hv1772 hv1773 hv1774 hv1775 hv1776 hi1297 hi1299 hi1301 hi1303 hi1305 hi1307 hc1801 hc1802 hc1803 hc1804 hc1806 hc1808 hc1809 hc1810 hc1811 hc1812 hc1813 hc1814 hc1816 hc1818 hc1819 hc1820 hc1821 hc1822 hc1823 hc1824 hc1825 hc1826 hc1828 hc1829 hc1830 hc1831 hc1832 hi1856 hi1858 hc1905
                obtain ⟨r1906, T1906, L1906, X1906, hQ1906, st1906⟩ := own_callV (W := 0) (a := b1796) (C := "com/example/heaplens/heaplens/sharing/VarSet") X1896 hx hZ e1896 hown (y := (⟨"com/example/heaplens/heaplens/sharing/VarSet", "contains", "(I)Z"⟩ : MethodName)) (z := (⟨"com/example/heaplens/heaplens/sharing/VarSet", "contains", "(I)Z"⟩ : MethodName)) (hw _ (List.mem_of_getElem? (i := 16) rfl)) (hw _ (List.mem_of_getElem? (i := 17) rfl)) (notFace_of_selects (args := #[]) (mvT hZ (hw _ (List.mem_of_getElem? (i := 19) rfl)))) (hw _ (List.mem_of_getElem? (i := 19) rfl)) (hw _ (List.mem_of_getElem? (i := 18) rfl)) (hw _ (List.mem_of_getElem? (i := 3) rfl)) (hw _ (List.mem_of_getElem? (i := 20) rfl)) (by decide) (f1841) (rm3 l Z a0 hw [] b1796 v10 b1795 k1800 v1776 v1788 v1789 v1790 v1791 T1309.heap n0 Z1854 (hi1900) (hi1902) (f1842) (hi1904) (hc1823) (f1839)) (by decide) (by decide) (by decide) (by decide) (g := (mkF m 309 A1899 [(.int v10), (.ref b1796)])) rfl (by rw [hml]; rfl) (argsL := [(.int v10)]) (rest := []) rfl (lenOf pd_2 rfl) rfl (by show 2 * 0 + _ ≤ _; exact Nat.le_of_eq rfl) (hb hby at_309)
                obtain ⟨r1911, v1907, v1908, v1909, v1910, hv1907, hv1908, hv1909, hv1910, hc1912, rfl, N1906, e1906⟩ := hQ1906
                have N1906_ := Fr.app N1896_ N1906
                refine Go.st (S' := T1906.setTop (mkF m 312 A1899 [(.int r1911)])) st1906 ?_
                refine Go.st (S' := T1906.setTop (mkF m 314 A1899 [(.int r1870), (.int r1911)])) (fun t k => XS.iload X1906.here hx rfl (hb hby at_312) rfl k) ?_
                have hu1913 : r1911 = r1870 := by
                  rw [own_ct hW1855 (by rw [hv10]; exact (own_P511 _).1) (by rw [hv10]; exact (own_P511 _).2) hv1907 hv1908 hv1909 hv1910 hc1912]
                  rcases hc1871 with ⟨y0, y1⟩ | ⟨y0, y1, y2⟩ | ⟨y0, y1, y2, y3⟩ | ⟨y0, y1, y2, y3⟩
                  · rw [if_pos (Or.inl y0)]; exact y1.symm
                  · rw [if_pos (Or.inr (Or.inl y1))]; exact y2.symm
                  · rw [if_pos (Or.inr (Or.inr y2))]; exact y3.symm
                  · rw [if_neg (fun o => o.elim y0 (fun o => o.elim y1 y2))]; exact y3.symm
                obtain rfl : r1911 = r1870 := hu1913
                let A1914 : Array Slot := #[.val (.int p0), .val (.int p1), .val (.int p2), .val (.int p3), .val (.int p4), .val (.int (3 : Int32)), .val (.int v4), .val (.int v6), .val (.int v8), .val (.int v10), .val (.ref b971), .val (.ref b1796), .val (.int r1911), .val (.int v1884), .val (.int r1890), .val (.int r1897)]
                refine Go.st (S' := T1906.setTop (mkF m 317 A1914 [])) (fun t k => XS.icmpNo X1906.here hx rfl (hb hby at_314) rfl (teq (rfl : r1911 = r1911)).2 k) ?_
                refine Go.st (S' := T1906.setTop (mkF m 319 A1914 [(.ref b1796)])) (fun t k => XS.aload X1906.here hx rfl (hb hby at_317) rfl rfl k) ?_
                have iv1915 : ((0 : Int32) < v1776 ∨ v1788 = (0 : Int64)) ∧ ((1 : Int32) < v1776 ∨ v1789 = (0 : Int64)) ∧ ((2 : Int32) < v1776 ∨ v1790 = (0 : Int64)) ∧ ((3 : Int32) < v1776 ∨ v1791 = (0 : Int64)) := ⟨(own_inv hc1832 (own_inv hi1858 (own_inv hi1856 (Or.inr rfl) hv1778) hv1783) hv1788), (own_inv hc1832 (own_inv hi1858 (own_inv hi1856 (Or.inr rfl) hv1779) hv1784) hv1789), (own_inv hc1832 (own_inv hi1858 (own_inv hi1856 (Or.inr rfl) hv1780) hv1785) hv1790), (own_inv hc1832 (own_inv hi1858 (own_inv hi1856 (Or.inr rfl) hv1781) hv1786) hv1791)⟩
                obtain ⟨r1916, T1916, L1916, X1916, hQ1916, st1916⟩ := own_callV (W := 0) (a := b1796) (C := "com/example/heaplens/heaplens/sharing/VarSet") X1906 hx hZ e1906 hown (y := (⟨"com/example/heaplens/heaplens/sharing/VarSet", "size", "()I"⟩ : MethodName)) (z := (⟨"com/example/heaplens/heaplens/sharing/VarSet", "size", "()I"⟩ : MethodName)) (hw _ (List.mem_of_getElem? (i := 21) rfl)) (hw _ (List.mem_of_getElem? (i := 22) rfl)) (notFace_of_selects (args := #[]) (mvT hZ (hw _ (List.mem_of_getElem? (i := 24) rfl)))) (hw _ (List.mem_of_getElem? (i := 24) rfl)) (hw _ (List.mem_of_getElem? (i := 23) rfl)) (hw _ (List.mem_of_getElem? (i := 3) rfl)) (hw _ (List.mem_of_getElem? (i := 25) rfl)) (by decide) (f1841) (rm4 l Z a0 hw [] b1796 b1795 k1800 v1776 v1788 v1789 v1790 v1791 T1309.heap n0 Z1854 (f1842) (hi1904) (hc1823) (f1839) (iv1915)) (by decide) (by decide) (by decide) (by decide) (g := (mkF m 319 A1914 [(.ref b1796)])) rfl (by rw [hml]; rfl) (argsL := []) (rest := []) rfl (lenOf pd_3 rfl) rfl (by show 2 * 0 + _ ≤ _; exact Nat.le_of_eq rfl) (hb hby at_319)
                obtain ⟨r1917, hp1918, rfl, N1916, e1916⟩ := hQ1916
                have N1916_ := Fr.app N1906_ N1916
                refine Go.st (S' := T1916.setTop (mkF m 322 A1914 [(.int r1917)])) st1916 ?_
                refine Go.st (S' := T1916.setTop (mkF m 324 A1914 [(.int v1884), (.int r1917)])) (fun t k => XS.iload X1916.here hx rfl (hb hby at_322) rfl k) ?_
                have hu1919 : r1917 = v1884 := by
                  rw [hp1918, own_szL hW1855]
                  rw [hv1884, hv1877]
                  rcases hc1876 with ⟨x1, x2⟩ | ⟨x1, x2⟩
                  · rcases hc1883 with ⟨y1, y2⟩ | ⟨y0, y1, y2⟩ | ⟨y0, y1, y2⟩
                    · rw [if_pos x1, if_pos (Or.inl y1), x2, y2]
                    · rw [if_pos x1, if_pos (Or.inr y1), x2, y2]
                    · rw [if_pos x1, if_neg (fun o => o.elim y0 y1), x2, y2]
                  · rcases hc1883 with ⟨y1, y2⟩ | ⟨y0, y1, y2⟩ | ⟨y0, y1, y2⟩
                    · rw [if_neg x1, if_pos (Or.inl y1), x2, y2]
                    · rw [if_neg x1, if_pos (Or.inr y1), x2, y2]
                    · rw [if_neg x1, if_neg (fun o => o.elim y0 y1), x2, y2]
                obtain rfl : v1884 = r1917 := hu1919.symm
                refine Go.st (S' := T1916.setTop (mkF m 327 A1914 [])) (fun t k => XS.icmpNo X1916.here hx rfl (hb hby at_324) rfl (teq (rfl : v1884 = v1884)).2 k) ?_
                refine Go.st (S' := T1916.setTop (mkF m 329 A1914 [(.ref b1796)])) (fun t k => XS.aload X1916.here hx rfl (hb hby at_327) rfl rfl k) ?_
                have iv1920 : ((0 : Int32) < v1776 ∨ v1788 = (0 : Int64)) ∧ ((1 : Int32) < v1776 ∨ v1789 = (0 : Int64)) ∧ ((2 : Int32) < v1776 ∨ v1790 = (0 : Int64)) ∧ ((3 : Int32) < v1776 ∨ v1791 = (0 : Int64)) := ⟨(own_inv hc1832 (own_inv hi1858 (own_inv hi1856 (Or.inr rfl) hv1778) hv1783) hv1788), (own_inv hc1832 (own_inv hi1858 (own_inv hi1856 (Or.inr rfl) hv1779) hv1784) hv1789), (own_inv hc1832 (own_inv hi1858 (own_inv hi1856 (Or.inr rfl) hv1780) hv1785) hv1790), (own_inv hc1832 (own_inv hi1858 (own_inv hi1856 (Or.inr rfl) hv1781) hv1786) hv1791)⟩
                obtain ⟨r1921, T1921, L1921, X1921, hQ1921, st1921⟩ := own_callV (W := 0) (a := b1796) (C := "com/example/heaplens/heaplens/sharing/VarSet") X1916 hx hZ e1916 hown (y := (⟨"com/example/heaplens/heaplens/sharing/VarSet", "first", "()I"⟩ : MethodName)) (z := (⟨"com/example/heaplens/heaplens/sharing/VarSet", "first", "()I"⟩ : MethodName)) (hw _ (List.mem_of_getElem? (i := 26) rfl)) (hw _ (List.mem_of_getElem? (i := 27) rfl)) (notFace_of_selects (args := #[]) (mvT hZ (hw _ (List.mem_of_getElem? (i := 29) rfl)))) (hw _ (List.mem_of_getElem? (i := 29) rfl)) (hw _ (List.mem_of_getElem? (i := 28) rfl)) (hw _ (List.mem_of_getElem? (i := 3) rfl)) (hw _ (List.mem_of_getElem? (i := 30) rfl)) (by decide) (f1841) (rm6 l Z a0 hw [] b1796 b1795 k1800 v1776 v1788 v1789 v1790 v1791 T1309.heap n0 Z1854 (f1841) (f1842) (hi1904) (hc1823) (f1839) (iv1920)) (by decide) (by decide) (by decide) (by decide) (g := (mkF m 329 A1914 [(.ref b1796)])) rfl (by rw [hml]; rfl) (argsL := []) (rest := []) rfl (lenOf pd_3 rfl) rfl (by show 2 * 0 + _ ≤ _; exact Nat.le_of_eq rfl) (hb hby at_329)
                obtain ⟨r1922, hp1923, rfl, N1921, e1921⟩ := hQ1921
                have N1921_ := Fr.app N1916_ N1921
                refine Go.st (S' := T1921.setTop (mkF m 332 A1914 [(.int r1922)])) st1921 ?_
                refine Go.st (S' := T1921.setTop (mkF m 334 A1914 [(.int r1890), (.int r1922)])) (fun t k => XS.iload X1921.here hx rfl (hb hby at_332) rfl k) ?_
                have hu1924 : r1922 = r1890 := by
                  rw [hp1923, own_fiL hW1855]
                  rw [← own_min_of hc1888, ← own_min_of hc1891]
                obtain rfl : r1922 = r1890 := hu1924
                let A1925 : Array Slot := #[.val (.int p0), .val (.int p1), .val (.int p2), .val (.int p3), .val (.int p4), .val (.int (3 : Int32)), .val (.int v4), .val (.int v6), .val (.int v8), .val (.int v10), .val (.ref b971), .val (.ref b1796), .val (.int r1911), .val (.int v1884), .val (.int r1922), .val (.int r1897)]
                refine Go.st (S' := T1921.setTop (mkF m 337 A1925 [])) (fun t k => XS.icmpNo X1921.here hx rfl (hb hby at_334) rfl (teq (rfl : r1922 = r1922)).2 k) ?_
                refine Go.st (S' := T1921.setTop (mkF m 339 A1925 [(.ref b1796)])) (fun t k => XS.aload X1921.here hx rfl (hb hby at_337) rfl rfl k) ?_
                obtain ⟨r1926, T1926, L1926, X1926, hQ1926, st1926⟩ := own_callV (W := 0) (a := b1796) (C := "com/example/heaplens/heaplens/sharing/VarSet") X1921 hx hZ e1921 hown (y := (⟨"com/example/heaplens/heaplens/sharing/VarSet", "last", "()I"⟩ : MethodName)) (z := (⟨"com/example/heaplens/heaplens/sharing/VarSet", "last", "()I"⟩ : MethodName)) (hw _ (List.mem_of_getElem? (i := 36) rfl)) (hw _ (List.mem_of_getElem? (i := 37) rfl)) (notFace_of_selects (args := #[]) (mvT hZ (hw _ (List.mem_of_getElem? (i := 39) rfl)))) (hw _ (List.mem_of_getElem? (i := 39) rfl)) (hw _ (List.mem_of_getElem? (i := 38) rfl)) (hw _ (List.mem_of_getElem? (i := 3) rfl)) (hw _ (List.mem_of_getElem? (i := 40) rfl)) (by decide) (f1841) (rm7 l Z a0 hw [] b1796 b1795 k1800 v1776 v1788 v1789 v1790 v1791 T1309.heap n0 Z1854 (f1842) (hi1904) (hc1823) (f1839)) (by decide) (by decide) (by decide) (by decide) (g := (mkF m 339 A1925 [(.ref b1796)])) rfl (by rw [hml]; rfl) (argsL := []) (rest := []) rfl (lenOf pd_3 rfl) rfl (by show 2 * 0 + _ ≤ _; exact Nat.le_of_eq rfl) (hb hby at_339)
                obtain ⟨r1933, v1927, v1928, v1929, v1930, v1931, v1932, hv1927, hv1928, hv1929, hv1930, hv1931, hv1932, hc1934, rfl, N1926, e1926⟩ := hQ1926
                have N1926_ := Fr.app N1921_ N1926
                refine Go.st (S' := T1926.setTop (mkF m 342 A1925 [(.int r1933)])) st1926 ?_
                refine Go.st (S' := T1926.setTop (mkF m 344 A1925 [(.int r1897), (.int r1933)])) (fun t k => XS.iload X1926.here hx rfl (hb hby at_342) rfl k) ?_
                have hu1935 : r1933 = r1897 := by
                  rw [own_laL hW1855 hv1927 hv1928 hv1929 hv1930 hv1931 hv1932 hc1934]
                  rw [← own_max_of hc1895, ← own_max_of hc1898]
                obtain rfl : r1933 = r1897 := hu1935
                let A1936 : Array Slot := #[.val (.int p0), .val (.int p1), .val (.int p2), .val (.int p3), .val (.int p4), .val (.int (3 : Int32)), .val (.int v4), .val (.int v6), .val (.int v8), .val (.int v10), .val (.ref b971), .val (.ref b1796), .val (.int r1911), .val (.int v1884), .val (.int r1922), .val (.int r1933)]
                refine Go.st (S' := T1926.setTop (mkF m 347 A1936 [])) (fun t k => XS.icmpNo X1926.here hx rfl (hb hby at_344) rfl (teq (rfl : r1933 = r1933)).2 k) ?_
                refine Go.st (S' := T1926.setTop (mkF m 349 A1936 [(.ref b1796)])) (fun t k => XS.aload X1926.here hx rfl (hb hby at_347) rfl rfl k) ?_
                obtain ⟨r1937, T1937, L1937, X1937, hQ1937, st1937⟩ := own_callV (W := 0) (a := b1796) (C := "com/example/heaplens/heaplens/sharing/VarSet") X1926 hx hZ e1926 hown (y := (⟨"com/example/heaplens/heaplens/sharing/VarSet", "isEmpty", "()Z"⟩ : MethodName)) (z := (⟨"com/example/heaplens/heaplens/sharing/VarSet", "isEmpty", "()Z"⟩ : MethodName)) (hw _ (List.mem_of_getElem? (i := 41) rfl)) (hw _ (List.mem_of_getElem? (i := 42) rfl)) (notFace_of_selects (args := #[]) (mvT hZ (hw _ (List.mem_of_getElem? (i := 44) rfl)))) (hw _ (List.mem_of_getElem? (i := 44) rfl)) (hw _ (List.mem_of_getElem? (i := 43) rfl)) (hw _ (List.mem_of_getElem? (i := 3) rfl)) (hw _ (List.mem_of_getElem? (i := 45) rfl)) (by decide) (f1841) (rm8 l Z a0 hw [] b1796 b1795 k1800 v1776 v1788 v1789 v1790 v1791 T1309.heap n0 Z1854 (f1842) (hi1904) (hc1823) (f1839)) (by decide) (by decide) (by decide) (by decide) (g := (mkF m 349 A1936 [(.ref b1796)])) rfl (by rw [hml]; rfl) (argsL := []) (rest := []) rfl (lenOf pd_5 rfl) rfl (by show 2 * 0 + _ ≤ _; exact Nat.le_of_eq rfl) (hb hby at_349)
                obtain ⟨r1938, hc1939, rfl, N1937, e1937⟩ := hQ1937
                have N1937_ := Fr.app N1926_ N1937
                refine Go.st (S' := T1937.setTop (mkF m 352 A1936 [(.int r1938)])) st1937 ?_
                refine Go.st (S' := T1937.setTop (mkF m 354 A1936 [(.int (3 : Int32)), (.int r1938)])) (fun t k => XS.iload X1937.here hx rfl (hb hby at_352) rfl k) ?_
                refine Go.st (S' := T1937.setTop (mkF m 361 A1936 [(.int r1938)])) (fun t k => XS.ifYes X1937.here hx rfl (pc0 := 354) (pc' := 361) rfl (hb hby at_354) rfl ((if0 _ _).trans (feq (by decide : (¬ ((3 : Int32) = (0 : Int32))))).2) (by decide) (by decide) k) ?_
                refine Go.st (S' := T1937.setTop (mkF m 362 A1936 [(.int (0 : Int32)), (.int r1938)])) (fun t k => XS.iconst X1937.here hx rfl (hb hby at_361) k) ?_
                have hu1940 : r1938 = (0 : Int32) := by
                  rcases hc1939 with ⟨x1, -⟩ | ⟨-, x1⟩
                  · exact absurd x1 (own_zne hW1855)
                  · exact x1
                obtain rfl : (0 : Int32) = r1938 := hu1940.symm
                refine Go.st (S' := T1937.setTop (mkF m 365 A1936 [])) (fun t k => XS.icmpNo X1937.here hx rfl (hb hby at_362) rfl (teq (by decide : ((0 : Int32) = (0 : Int32)))).2 k) ?_
                refine Go.st (S' := T1937.setTop (mkF m 366 A1936 [(.int (1 : Int32))])) (fun t k => XS.iconst X1937.here hx rfl (hb hby at_365) k) ?_
                refine Go.st (S' := T1937.setTop (mkF m 370 A1936 [(.int (1 : Int32))])) (fun t k => XS.goto X1937.here hx rfl (pc0 := 366) (pc' := 370) rfl (hb hby at_366) (by decide) (by decide) k) ?_
                exact Go.ret X1937 (v := some (.int (1 : Int32))) (fun h => by rw [Bd.returns] at h; cases h) Bd.notSynchronized (fun fs hr => retN X1937 hx (t := .boolean) Bd.returns (by simp) (hb hby at_370) hr) (by decide) (by decide) ⟨rfl, N1937_⟩
              · intro J1941
                by_cases hc1942 : (v8 = v4)
                · refine Go.st (S' := T1309.setTop (mkF m 273 A1872 [(.int v1877)])) (fun t k => XS.icmpYes X1309.here hx rfl (pc0 := 259) (pc' := 273) rfl (hb hby at_259) rfl (teq hc1942).1 (by decide) (by decide) k) ?_
                  refine Go.st (S' := T1309.setTop (mkF m 274 A1872 [(.int (0 : Int32)), (.int v1877)])) (fun t k => XS.iconst X1309.here hx rfl (hb hby at_273) k) ?_
                  exact J1941 ((0 : Int32)) (Or.inl ⟨hc1942, rfl⟩)
                · refine Go.st (S' := T1309.setTop (mkF m 262 A1872 [(.int v1877)])) (fun t k => XS.icmpNo X1309.here hx rfl (hb hby at_259) rfl (feq hc1942).1 k) ?_
                  refine Go.st (S' := T1309.setTop (mkF m 264 A1872 [(.int v8), (.int v1877)])) (fun t k => XS.iload X1309.here hx rfl (hb hby at_262) rfl k) ?_
                  refine Go.st (S' := T1309.setTop (mkF m 266 A1872 [(.int v6), (.int v8), (.int v1877)])) (fun t k => XS.iload X1309.here hx rfl (hb hby at_264) rfl k) ?_
                  by_cases hc1943 : (v8 = v6)
                  · refine Go.st (S' := T1309.setTop (mkF m 273 A1872 [(.int v1877)])) (fun t k => XS.icmpYes X1309.here hx rfl (pc0 := 266) (pc' := 273) rfl (hb hby at_266) rfl (teq hc1943).1 (by decide) (by decide) k) ?_
                    refine Go.st (S' := T1309.setTop (mkF m 274 A1872 [(.int (0 : Int32)), (.int v1877)])) (fun t k => XS.iconst X1309.here hx rfl (hb hby at_273) k) ?_
                    exact J1941 ((0 : Int32)) (Or.inr (Or.inl ⟨hc1942, hc1943, rfl⟩))
                  · refine Go.st (S' := T1309.setTop (mkF m 269 A1872 [(.int v1877)])) (fun t k => XS.icmpNo X1309.here hx rfl (hb hby at_266) rfl (feq hc1943).1 k) ?_
                    refine Go.st (S' := T1309.setTop (mkF m 270 A1872 [(.int (1 : Int32)), (.int v1877)])) (fun t k => XS.iconst X1309.here hx rfl (hb hby at_269) k) ?_
                    refine Go.st (S' := T1309.setTop (mkF m 274 A1872 [(.int (1 : Int32)), (.int v1877)])) (fun t k => XS.goto X1309.here hx rfl (pc0 := 270) (pc' := 274) rfl (hb hby at_270) (by decide) (by decide) k) ?_
                    exact J1941 ((1 : Int32)) (Or.inr (Or.inr ⟨hc1942, hc1943, rfl⟩))
            · intro J1944
              by_cases hc1945 : (v6 = v4)
              · refine Go.st (S' := T1309.setTop (mkF m 253 A1872 [(.int (1 : Int32))])) (fun t k => XS.icmpYes X1309.here hx rfl (pc0 := 246) (pc' := 253) rfl (hb hby at_246) rfl (teq hc1945).1 (by decide) (by decide) k) ?_
                refine Go.st (S' := T1309.setTop (mkF m 254 A1872 [(.int (0 : Int32)), (.int (1 : Int32))])) (fun t k => XS.iconst X1309.here hx rfl (hb hby at_253) k) ?_
                exact J1944 ((0 : Int32)) (Or.inl ⟨hc1945, rfl⟩)
              · refine Go.st (S' := T1309.setTop (mkF m 249 A1872 [(.int (1 : Int32))])) (fun t k => XS.icmpNo X1309.here hx rfl (hb hby at_246) rfl (feq hc1945).1 k) ?_
                refine Go.st (S' := T1309.setTop (mkF m 250 A1872 [(.int (1 : Int32)), (.int (1 : Int32))])) (fun t k => XS.iconst X1309.here hx rfl (hb hby at_249) k) ?_
                refine Go.st (S' := T1309.setTop (mkF m 254 A1872 [(.int (1 : Int32)), (.int (1 : Int32))])) (fun t k => XS.goto X1309.here hx rfl (pc0 := 250) (pc' := 254) rfl (hb hby at_250) (by decide) (by decide) k) ?_
                exact J1944 ((1 : Int32)) (Or.inr ⟨hc1945, rfl⟩)
          · intro J1946
            by_cases hc1947 : (v10 = v4)
            · refine Go.st (S' := T1309.setTop (mkF m 156 A1863 [])) (fun t k => XS.icmpYes X1309.here hx rfl (pc0 := 127) (pc' := 156) rfl (hb hby at_127) rfl (teq hc1947).1 (by decide) (by decide) k) ?_
              refine Go.st (S' := T1309.setTop (mkF m 157 A1863 [(.int (1 : Int32))])) (fun t k => XS.iconst X1309.here hx rfl (hb hby at_156) k) ?_
              refine Go.st (S' := T1309.setTop (mkF m 161 A1863 [(.int (1 : Int32))])) (fun t k => XS.goto X1309.here hx rfl (pc0 := 157) (pc' := 161) rfl (hb hby at_157) (by decide) (by decide) k) ?_
              exact J1946 ((1 : Int32)) (Or.inl ⟨hc1947, rfl⟩)
            · refine Go.st (S' := T1309.setTop (mkF m 130 A1863 [])) (fun t k => XS.icmpNo X1309.here hx rfl (hb hby at_127) rfl (feq hc1947).1 k) ?_
              refine Go.st (S' := T1309.setTop (mkF m 132 A1863 [(.int (3 : Int32))])) (fun t k => XS.iload X1309.here hx rfl (hb hby at_130) rfl k) ?_
              refine Go.st (S' := T1309.setTop (mkF m 133 A1863 [(.int (2 : Int32)), (.int (3 : Int32))])) (fun t k => XS.iconst X1309.here hx rfl (hb hby at_132) k) ?_
              refine Go.st (S' := T1309.setTop (mkF m 136 A1863 [])) (fun t k => XS.icmpNo X1309.here hx rfl (hb hby at_133) rfl (flt (by decide : (¬ ((3 : Int32) < (2 : Int32))))).1 k) ?_
              refine Go.st (S' := T1309.setTop (mkF m 138 A1863 [(.int v10)])) (fun t k => XS.iload X1309.here hx rfl (hb hby at_136) rfl k) ?_
              refine Go.st (S' := T1309.setTop (mkF m 140 A1863 [(.int v6), (.int v10)])) (fun t k => XS.iload X1309.here hx rfl (hb hby at_138) rfl k) ?_
              by_cases hc1948 : (v10 = v6)
              · refine Go.st (S' := T1309.setTop (mkF m 156 A1863 [])) (fun t k => XS.icmpYes X1309.here hx rfl (pc0 := 140) (pc' := 156) rfl (hb hby at_140) rfl (teq hc1948).1 (by decide) (by decide) k) ?_
                refine Go.st (S' := T1309.setTop (mkF m 157 A1863 [(.int (1 : Int32))])) (fun t k => XS.iconst X1309.here hx rfl (hb hby at_156) k) ?_
                refine Go.st (S' := T1309.setTop (mkF m 161 A1863 [(.int (1 : Int32))])) (fun t k => XS.goto X1309.here hx rfl (pc0 := 157) (pc' := 161) rfl (hb hby at_157) (by decide) (by decide) k) ?_
                exact J1946 ((1 : Int32)) (Or.inr (Or.inl ⟨hc1947, hc1948, rfl⟩))
              · refine Go.st (S' := T1309.setTop (mkF m 143 A1863 [])) (fun t k => XS.icmpNo X1309.here hx rfl (hb hby at_140) rfl (feq hc1948).1 k) ?_
                refine Go.st (S' := T1309.setTop (mkF m 145 A1863 [(.int (3 : Int32))])) (fun t k => XS.iload X1309.here hx rfl (hb hby at_143) rfl k) ?_
                refine Go.st (S' := T1309.setTop (mkF m 146 A1863 [(.int (3 : Int32)), (.int (3 : Int32))])) (fun t k => XS.iconst X1309.here hx rfl (hb hby at_145) k) ?_
                refine Go.st (S' := T1309.setTop (mkF m 149 A1863 [])) (fun t k => XS.icmpNo X1309.here hx rfl (hb hby at_146) rfl (flt (by decide : (¬ ((3 : Int32) < (3 : Int32))))).1 k) ?_
                refine Go.st (S' := T1309.setTop (mkF m 151 A1863 [(.int v10)])) (fun t k => XS.iload X1309.here hx rfl (hb hby at_149) rfl k) ?_
                refine Go.st (S' := T1309.setTop (mkF m 153 A1863 [(.int v8), (.int v10)])) (fun t k => XS.iload X1309.here hx rfl (hb hby at_151) rfl k) ?_
                by_cases hc1949 : (v10 = v8)
                · refine Go.st (S' := T1309.setTop (mkF m 156 A1863 [])) (fun t k => XS.icmpNo X1309.here hx rfl (hb hby at_153) rfl (teq hc1949).2 k) ?_
                  refine Go.st (S' := T1309.setTop (mkF m 157 A1863 [(.int (1 : Int32))])) (fun t k => XS.iconst X1309.here hx rfl (hb hby at_156) k) ?_
                  refine Go.st (S' := T1309.setTop (mkF m 161 A1863 [(.int (1 : Int32))])) (fun t k => XS.goto X1309.here hx rfl (pc0 := 157) (pc' := 161) rfl (hb hby at_157) (by decide) (by decide) k) ?_
                  exact J1946 ((1 : Int32)) (Or.inr (Or.inr (Or.inl ⟨hc1947, hc1948, hc1949, rfl⟩)))
                · refine Go.st (S' := T1309.setTop (mkF m 160 A1863 [])) (fun t k => XS.icmpYes X1309.here hx rfl (pc0 := 153) (pc' := 160) rfl (hb hby at_153) rfl (feq hc1949).2 (by decide) (by decide) k) ?_
                  refine Go.st (S' := T1309.setTop (mkF m 161 A1863 [(.int (0 : Int32))])) (fun t k => XS.iconst X1309.here hx rfl (hb hby at_160) k) ?_
                  exact J1946 ((0 : Int32)) (Or.inr (Or.inr (Or.inr ⟨hc1947, hc1948, hc1949, rfl⟩)))
set_option maxRecDepth 65536 in
set_option maxHeartbeats 40000000 in
theorem comes_1 {Post : Tables → Env → Array Value → State → Outcome → State → Prop} (hpost : ∀ tb e args s v u, (limb_1_1.after args s (.returned v) u = true ∧ limb_1_2.after args s (.returned v) u = true ∧ True) → FrameEnd s (.returned v) u (Jvm.fieldLocs frame_1_writes args s ++ Jvm.arrayLocs frame_1_arrays args s ++ Jvm.staticLocs frame_1_statics s) 24 128 → Post tb e args s (.returned v) u) :
    ArmFor flags0 classFile x code maxLocals ret World_1 tables_1 room_1 Calls_1 rest_1 Pre_1 Post := by
  intro l hfl _ _ p e ha hc hk s m args below hf hA hF happ hP
  obtain ⟨hcalls, hrest, hpre⟩ := hP
  obtain ⟨-, -, -, hnamed, -, -, -, hat⟩ := (Spec.applies_iff hf).mp happ
  obtain ⟨hg, hn⟩ := and_e (Cond.before_iff.mp (show (Jvm.Cond.and given_1 narrow_1).before args s = true from hpre))
  obtain ⟨h1, h2⟩ := and_e hg
  obtain ⟨w0, w1, w2, w3, w4, rfl⟩ : ∃ w0 w1 w2 w3 w4 : Value, args = #[w0, w1, w2, w3, w4] := by
    have hs : args.size = 5 := by simpa [Cond.value, given_1] using h1
    obtain ⟨L⟩ := args
    match L, hs with
    | [w0, w1, w2, w3, w4], _ => exact ⟨w0, w1, w2, w3, w4, rfl⟩
  have hw := fun d (hd : d ∈ tables_1) => atoms_spec (ws := Jvm.Cond.code x code maxLocals ret :: tables_1) hat d (List.mem_cons_of_mem _ hd)
  have hfit : Fit s := fun {y c} hc i hi => by
    obtain ⟨ha, rfl⟩ := Array.getElem?_eq_some_iff.mp hc
    have q := List.all_eq_true.mp ((Array.all_eq_true_iff_forall_mem.mp hF) _ (Array.getElem_mem ha)) i (List.mem_range.mpr hi)
    simpa [Array.getElem?_eq_getElem hi] using q
  obtain ⟨q0, h2_0⟩ := and_e h2
  obtain ⟨i0, ee0⟩ := is_v q0
  obtain rfl : w0 = (.int i0) := Option.some.inj ee0
  obtain ⟨q1, h2_1⟩ := and_e h2_0
  obtain ⟨i1, ee1⟩ := is_v q1
  obtain rfl : w1 = (.int i1) := Option.some.inj ee1
  obtain ⟨q2, h2_2⟩ := and_e h2_1
  obtain ⟨i2, ee2⟩ := is_v q2
  obtain rfl : w2 = (.int i2) := Option.some.inj ee2
  obtain ⟨q3, h2_3⟩ := and_e h2_2
  obtain ⟨i3, ee3⟩ := is_v q3
  obtain rfl : w3 = (.int i3) := Option.some.inj ee3
  obtain ⟨i4, ee4⟩ := is_v h2_3
  obtain rfl : w4 = (.int i4) := Option.some.inj ee4
  obtain ⟨n, o, h1, h2, h3, _, L, rfl, ⟨rfl, N⟩, hq⟩ := rm15 l s _ hw tables_1 i0 i1 i2 i3 i4 s.heap s.heap.size (Nat.le_refl _)  p e ha hc hk s m _ below hf ((Spec.applies_iff_loose hf).mp happ).1 ⟨rfl, State.Warmed39.refl s, rfl⟩ trivial
  refine ⟨n, _, h1, h2, h3, hpost _ _ _ _ _ _ ⟨Cond.after_iff.mpr rfl, Cond.after_iff.mpr (eq_i res_at (Term.int_eval (1)) rfl), trivial⟩ ⟨hq.1, hq.2.1, (hq.2.2.sift fun y hy => Or.inr (N y hy)).mono (by decide) (by decide)⟩⟩
theorem main_1_1 : Claimed_1_1 := comes_1 fun _ _ _ _ _ _ h hF => ⟨h.1, hF⟩
theorem main_1_2 : Claimed_1_2 := comes_1 fun _ _ _ _ _ _ h hF => ⟨h.2.1, hF⟩
end Jvm.Pilot.@@N@@
namespace Jvm.Pilot.@@N@@
open Jvm Jvm.ClassFile Sem Op Lib Jvm.Free Jvm.Stand Jvm.Pilot.@@N@@.Jvm.D
/-! MADE BY PROGRAM (witnessworld.py) out of the Statement's table words and the real class files: 20 classes; the members and pool entries that the words name. The judged class is class 1, her method 1. -/
namespace start1
open Jvm.ClassFile
def u (s : String) : CpInfo := .utf8 (stringToUtf16 s)
/-- a pool by its gaps: so many unusable entries, then the entry; so many at the end -/
def gap : Nat → List CpInfo → List CpInfo
  | 0, r => r
  | n + 1, r => .unusable :: gap n r
def poolList (es : List (Nat × CpInfo)) (last : Nat) : List CpInfo := es.foldr (fun e r => gap e.1 (e.2 :: r)) (gap last [])
def pool (es : List (Nat × CpInfo)) (last : Nat) : Array CpInfo := ⟨poolList es last⟩
def fileOf (pool : Array CpInfo) (this : Nat) (attrs : Array Attribute := #[]) (ms : Array MethodInfo := #[]) (fl : Nat := 33) (sup : Nat := 0) (ifs : Array Nat := #[]) (fds : Array FieldInfo := #[]) : ClassFile where
  minorVersion := 0
  majorVersion := 65
  constantPool := pool
  accessFlags := fl
  thisClass := this
  superClass := sup
  interfaces := ifs
  fields := fds
  methods := ms
  attributes := attrs
def plain (name : String) (sup : Option ClassId) : Class where
  name := name
  kind := .ordinary
  loader := none
  accessFlags := 33
  super := sup
  interfaces := #[]
  cf := none
  fields := #[]
  methods := #[]
  instanceTypes := #[]
  staticTypes := #[]
  resolved := #[]
  callSites := []
  init := .initialized
  statics := none
  mirror := none

def pool0 : Array CpInfo := pool [(5, u "<init>"), (0, u "()V"), (1, .class_ 10), (1, u "java/lang/Object")] 113

def k0c0 : Code := { maxStack := 0, maxLocals := 1, code := object_method_1_code, exceptionTable := #[], attributes := #[] }
def k0m0 : Method := { name := "<init>", desc := "()V", sig := { parameters := [], returnType := none }, accessFlags := 1, code := some k0c0 }
/-- java/lang/Object -/
def k0 : Class := { plain "java/lang/Object" none with
  accessFlags := 33
  interfaces := #[]
  cf := some (fileOf pool0 8 #[] #[{ accessFlags := 1, nameIndex := 5, descriptorIndex := 6, attributes := #[] }] 33 0 #[] #[])
  fields := #[]
  methods := #[k0m0]
  instanceTypes := #[]
  staticTypes := #[]
  resolved := Array.replicate 124 none
  statics := none }

def pool1 : Array CpInfo := pool [(2, .class_ 4), (1, u "java/lang/Object"), (0, u "<init>"), (0, u "()V"), (0, .methodref 8 9), (0, .class_ 10), (0, .nameAndType 11 12), (0, u "com/example/heaplens/heaplens/sharing/VarSet"), (0, u "of"), (0, u "([I)Lcom/example/heaplens/heaplens/sharing/VarSet;"), (0, .methodref 14 15), (0, .class_ 16), (0, .nameAndType 17 18), (0, u "java/lang/Math"), (0, u "min"), (0, u "(II)I"), (0, .methodref 14 20), (0, .nameAndType 21 18), (0, u "max"), (0, .methodref 8 23), (0, .nameAndType 24 25), (0, u "contains"), (0, u "(I)Z"), (0, .methodref 8 27), (0, .nameAndType 28 29), (0, u "size"), (0, u "()I"), (0, .methodref 8 31), (0, .nameAndType 32 29), (0, u "first"), (0, .methodref 8 34), (0, .nameAndType 35 29), (0, u "last"), (0, .methodref 8 37), (0, .nameAndType 38 39), (0, u "isEmpty"), (0, u "()Z"), (0, .class_ 41), (0, u "com/example/heaplens/heaplens/sharing/VarSetOfPinLaw"), (2, u "law"), (0, u "(IIIII)Z")] 5

def k1m0 : Method := { name := "<init>", desc := "()V", sig := { parameters := [], returnType := none }, accessFlags := 1, code := none }
def k1c1 : Code := { maxStack := 4, maxLocals := 16, code := code, exceptionTable := #[], attributes := #[] }
def k1m1 : Method := { name := "law", desc := "(IIIII)Z", sig := { parameters := [.int, .int, .int, .int, .int], returnType := some .boolean }, accessFlags := 9, code := some k1c1 }
/-- com/example/heaplens/heaplens/sharing/VarSetOfPinLaw -/
def k1 : Class := { plain "com/example/heaplens/heaplens/sharing/VarSetOfPinLaw" (some 0) with
  accessFlags := 49
  interfaces := #[]
  cf := some (fileOf pool1 40 #[] #[{ accessFlags := 1, nameIndex := 5, descriptorIndex := 6, attributes := #[] }, { accessFlags := 9, nameIndex := 44, descriptorIndex := 45, attributes := #[] }] 49 2 #[] #[])
  fields := #[]
  methods := #[k1m0, k1m1]
  instanceTypes := #[]
  staticTypes := #[]
  resolved := Array.replicate 51 none
  statics := none }

def pool2 : Array CpInfo := pool [(1, .methodref 2 3), (0, .class_ 4), (0, .nameAndType 5 6), (0, u "java/lang/Object"), (0, u "<init>"), (0, u "()V"), (0, .fieldref 8 9), (0, .class_ 10), (0, .nameAndType 11 12), (0, u "com/example/heaplens/heaplens/sharing/VarSet"), (0, u "words"), (0, u "[J"), (0, .methodref 14 15), (0, .class_ 16), (0, .nameAndType 17 18), (0, u "java/util/Arrays"), (0, u "copyOf"), (0, u "([JI)[J"), (0, .methodref 8 20), (0, .nameAndType 5 21), (0, u "([J)V"), (6, u "EMPTY"), (0, u "Lcom/example/heaplens/heaplens/sharing/VarSet;"), (0, .methodref 31 32), (0, .class_ 33), (0, .nameAndType 34 35), (0, u "java/lang/Long"), (0, u "bitCount"), (0, u "(J)I"), (0, .methodref 8 37), (0, .nameAndType 38 39), (0, u "next"), (0, u "(I)I"), (0, .methodref 31 41), (0, .nameAndType 42 35), (0, u "numberOfLeadingZeros"), (0, .long 18446744073709551615), (1, .methodref 31 46), (0, .nameAndType 47 35), (0, u "numberOfTrailingZeros"), (2, u "first"), (0, u "()I"), (22, u "contains"), (0, u "(I)Z"), (25, u "hash"), (0, u "I"), (25, u "ORDER"), (0, u "Ljava/util/Comparator;"), (4, u "of"), (0, u "([I)Lcom/example/heaplens/heaplens/sharing/VarSet;"), (4, u "isEmpty"), (0, u "()Z"), (0, u "size"), (0, u "last")] 46

def k2c0 : Code := { maxStack := 2, maxLocals := 2, code := prog_13_method_1_code, exceptionTable := #[], attributes := #[] }
def k2m0 : Method := { name := "<init>", desc := "([J)V", sig := { parameters := [(.array .long)], returnType := none }, accessFlags := 2, code := some k2c0 }
def k2c1 : Code := { maxStack := 7, maxLocals := 6, code := prog_13_method_2_code, exceptionTable := #[], attributes := #[] }
def k2m1 : Method := { name := "of", desc := "([I)Lcom/example/heaplens/heaplens/sharing/VarSet;", sig := { parameters := [(.array .int)], returnType := some (.object "com/example/heaplens/heaplens/sharing/VarSet") }, accessFlags := 136, code := some k2c1 }
def k2c2 : Code := { maxStack := 1, maxLocals := 1, code := prog_13_method_5_code, exceptionTable := #[], attributes := #[] }
def k2m2 : Method := { name := "isEmpty", desc := "()Z", sig := { parameters := [], returnType := some .boolean }, accessFlags := 0, code := some k2c2 }
def k2c3 : Code := { maxStack := 5, maxLocals := 2, code := prog_13_method_6_code, exceptionTable := #[], attributes := #[] }
def k2m3 : Method := { name := "contains", desc := "(I)Z", sig := { parameters := [.int], returnType := some .boolean }, accessFlags := 0, code := some k2c3 }
def k2c4 : Code := { maxStack := 3, maxLocals := 7, code := prog_13_method_7_code, exceptionTable := #[], attributes := #[] }
def k2m4 : Method := { name := "size", desc := "()I", sig := { parameters := [], returnType := some .int }, accessFlags := 0, code := some k2c4 }
def k2c5 : Code := { maxStack := 2, maxLocals := 1, code := prog_13_method_8_code, exceptionTable := #[], attributes := #[] }
def k2m5 : Method := { name := "first", desc := "()I", sig := { parameters := [], returnType := some .int }, accessFlags := 0, code := some k2c5 }
def k2c6 : Code := { maxStack := 4, maxLocals := 1, code := prog_13_method_9_code, exceptionTable := #[], attributes := #[] }
def k2m6 : Method := { name := "last", desc := "()I", sig := { parameters := [], returnType := some .int }, accessFlags := 0, code := some k2c6 }
def k2c7 : Code := { maxStack := 5, maxLocals := 5, code := prog_13_method_10_code, exceptionTable := #[], attributes := #[] }
def k2m7 : Method := { name := "next", desc := "(I)I", sig := { parameters := [.int], returnType := some .int }, accessFlags := 0, code := some k2c7 }
/-- com/example/heaplens/heaplens/sharing/VarSet -/
def k2 : Class := { plain "com/example/heaplens/heaplens/sharing/VarSet" (some 0) with
  accessFlags := 48
  interfaces := #[]
  cf := some (fileOf pool2 8 #[] #[{ accessFlags := 2, nameIndex := 5, descriptorIndex := 21, attributes := #[] }, { accessFlags := 136, nameIndex := 134, descriptorIndex := 135, attributes := #[] }, { accessFlags := 0, nameIndex := 140, descriptorIndex := 141, attributes := #[] }, { accessFlags := 0, nameIndex := 74, descriptorIndex := 75, attributes := #[] }, { accessFlags := 0, nameIndex := 142, descriptorIndex := 51, attributes := #[] }, { accessFlags := 0, nameIndex := 50, descriptorIndex := 51, attributes := #[] }, { accessFlags := 0, nameIndex := 143, descriptorIndex := 51, attributes := #[] }, { accessFlags := 0, nameIndex := 38, descriptorIndex := 39, attributes := #[] }] 48 2 #[] #[{ accessFlags := 24, nameIndex := 28, descriptorIndex := 29, attributes := #[] }, { accessFlags := 24, nameIndex := 128, descriptorIndex := 129, attributes := #[] }, { accessFlags := 18, nameIndex := 11, descriptorIndex := 12, attributes := #[] }, { accessFlags := 2, nameIndex := 101, descriptorIndex := 102, attributes := #[] }])
  fields := #[{ name := "EMPTY", type := (.object "com/example/heaplens/heaplens/sharing/VarSet"), accessFlags := 24, slot := 0, constantValue := 0 }, { name := "ORDER", type := (.object "java/util/Comparator"), accessFlags := 24, slot := 1, constantValue := 0 }, { name := "words", type := (.array .long), accessFlags := 18, slot := 0, constantValue := 0 }, { name := "hash", type := .int, accessFlags := 2, slot := 1, constantValue := 0 }]
  methods := #[k2m0, k2m1, k2m2, k2m3, k2m4, k2m5, k2m6, k2m7]
  instanceTypes := #[(.array .long), .int]
  staticTypes := #[(.object "com/example/heaplens/heaplens/sharing/VarSet"), (.object "java/util/Comparator")]
  resolved := Array.replicate 190 none
  statics := none }

def pool3 : Array CpInfo := pool [(2, .class_ 4), (1, u "java/lang/Object"), (0, u "<init>"), (0, u "()V"), (7, .class_ 16), (1, u "java/util/Arrays"), (57, .class_ 76), (1, u "java/util/Arrays$NaturalOrder"), (36, .class_ 115), (1, u "java/util/Arrays$LegacyMergeSort"), (1, u "Z"), (32, .methodref 151 152), (0, .class_ 153), (0, .nameAndType 154 155), (0, u "java/lang/System"), (0, u "arraycopy"), (0, u "(Ljava/lang/Object;ILjava/lang/Object;II)V"), (146, u "copyOf"), (1, .methodref 305 306), (0, .class_ 307), (0, .nameAndType 308 309), (0, u "java/lang/Math"), (0, u "min"), (0, u "(II)I"), (65, .class_ 376), (0, u "java/util/Arrays$ArrayList"), (68, u "$assertionsDisabled"), (269, u "MIN_ARRAY_SORT_GRAN"), (0, u "I"), (2, u "INSERTIONSORT_THRESHOLD"), (152, u "([JI)[J"), (102, .class_ 976), (0, u "java/util/Arrays$ArrayItr")] 52

def k3m0 : Method := { name := "<init>", desc := "()V", sig := { parameters := [], returnType := none }, accessFlags := 2, code := none }
def k3c1 : Code := { maxStack := 6, maxLocals := 3, code := jdk_65_method_124_code, exceptionTable := #[], attributes := #[] }
def k3m1 : Method := { name := "copyOf", desc := "([JI)[J", sig := { parameters := [(.array .long), .int], returnType := some (.array .long) }, accessFlags := 9, code := some k3c1 }
/-- java/util/Arrays -/
def k3 : Class := { plain "java/util/Arrays" (some 0) with
  accessFlags := 49
  interfaces := #[]
  cf := some (fileOf pool3 14 #[.nestMembers #[975, 375, 113, 74]] #[{ accessFlags := 2, nameIndex := 5, descriptorIndex := 6, attributes := #[] }, { accessFlags := 9, nameIndex := 302, descriptorIndex := 872, attributes := #[] }] 49 2 #[] #[{ accessFlags := 26, nameIndex := 715, descriptorIndex := 716, attributes := #[] }, { accessFlags := 26, nameIndex := 719, descriptorIndex := 716, attributes := #[] }, { accessFlags := 4120, nameIndex := 445, descriptorIndex := 117, attributes := #[] }])
  fields := #[{ name := "MIN_ARRAY_SORT_GRAN", type := .int, accessFlags := 26, slot := 0, constantValue := 0 }, { name := "INSERTIONSORT_THRESHOLD", type := .int, accessFlags := 26, slot := 1, constantValue := 0 }, { name := "$assertionsDisabled", type := .boolean, accessFlags := 4120, slot := 2, constantValue := 0 }]
  methods := #[k3m0, k3m1]
  instanceTypes := #[]
  staticTypes := #[.int, .int, .boolean]
  resolved := Array.replicate 1029 none
  statics := none }

def pool4 : Array CpInfo := pool [(1, .class_ 2), (0, u "java/lang/Math"), (1, .class_ 6), (1, u "java/lang/Object"), (0, u "<init>"), (0, u "()V"), (89, .class_ 100), (1, u "java/lang/Math$RandomNumberGeneratorHolder"), (71, u "negativeZeroFloatBits"), (0, u "J"), (2, u "negativeZeroDoubleBits"), (21, u "max"), (2, u "min"), (43, u "$assertionsDisabled"), (0, u "Z"), (88, u "(II)I"), (2, u "twoToTheDoubleScaleDown"), (0, u "D"), (4, u "twoToTheDoubleScaleUp"), (9, u "E"), (3, u "PI"), (2, u "TAU"), (2, u "DEGREES_TO_RADIANS"), (0, u "RADIANS_TO_DEGREES")] 94

def k4m0 : Method := { name := "<init>", desc := "()V", sig := { parameters := [], returnType := none }, accessFlags := 2, code := none }
def k4c1 : Code := { maxStack := 2, maxLocals := 2, code := jdk_29_method_65_code, exceptionTable := #[], attributes := #[] }
def k4m1 : Method := { name := "max", desc := "(II)I", sig := { parameters := [.int, .int], returnType := some .int }, accessFlags := 9, code := some k4c1 }
def k4c2 : Code := { maxStack := 2, maxLocals := 2, code := jdk_29_method_69_code, exceptionTable := #[], attributes := #[] }
def k4m2 : Method := { name := "min", desc := "(II)I", sig := { parameters := [.int, .int], returnType := some .int }, accessFlags := 9, code := some k4c2 }
/-- java/lang/Math -/
def k4 : Class := { plain "java/lang/Math" (some 0) with
  accessFlags := 49
  interfaces := #[]
  cf := some (fileOf pool4 1 #[.nestMembers #[98]] #[{ accessFlags := 2, nameIndex := 7, descriptorIndex := 8, attributes := #[] }, { accessFlags := 9, nameIndex := 198, descriptorIndex := 335, attributes := #[] }, { accessFlags := 9, nameIndex := 201, descriptorIndex := 335, attributes := #[] }] 49 4 #[] #[{ accessFlags := 25, nameIndex := 354, descriptorIndex := 339, attributes := #[] }, { accessFlags := 25, nameIndex := 358, descriptorIndex := 339, attributes := #[] }, { accessFlags := 25, nameIndex := 361, descriptorIndex := 339, attributes := #[] }, { accessFlags := 26, nameIndex := 364, descriptorIndex := 339, attributes := #[] }, { accessFlags := 26, nameIndex := 365, descriptorIndex := 339, attributes := #[] }, { accessFlags := 26, nameIndex := 172, descriptorIndex := 173, attributes := #[] }, { accessFlags := 26, nameIndex := 176, descriptorIndex := 173, attributes := #[] }, { accessFlags := 8, nameIndex := 344, descriptorIndex := 339, attributes := #[] }, { accessFlags := 8, nameIndex := 338, descriptorIndex := 339, attributes := #[] }, { accessFlags := 4120, nameIndex := 245, descriptorIndex := 246, attributes := #[] }])
  fields := #[{ name := "E", type := .double, accessFlags := 25, slot := 0, constantValue := 0 }, { name := "PI", type := .double, accessFlags := 25, slot := 1, constantValue := 0 }, { name := "TAU", type := .double, accessFlags := 25, slot := 2, constantValue := 0 }, { name := "DEGREES_TO_RADIANS", type := .double, accessFlags := 26, slot := 3, constantValue := 0 }, { name := "RADIANS_TO_DEGREES", type := .double, accessFlags := 26, slot := 4, constantValue := 0 }, { name := "negativeZeroFloatBits", type := .long, accessFlags := 26, slot := 5, constantValue := 0 }, { name := "negativeZeroDoubleBits", type := .long, accessFlags := 26, slot := 6, constantValue := 0 }, { name := "twoToTheDoubleScaleUp", type := .double, accessFlags := 8, slot := 7, constantValue := 0 }, { name := "twoToTheDoubleScaleDown", type := .double, accessFlags := 8, slot := 8, constantValue := 0 }, { name := "$assertionsDisabled", type := .boolean, accessFlags := 4120, slot := 9, constantValue := 0 }]
  methods := #[k4m0, k4m1, k4m2]
  instanceTypes := #[]
  staticTypes := #[.double, .double, .double, .double, .double, .long, .long, .double, .double, .boolean]
  resolved := Array.replicate 460 none
  statics := none }

def pool5 : Array CpInfo := pool [(2, .class_ 4), (1, u "java/lang/Object"), (0, u "<init>"), (0, u "()V"), (1, .class_ 10), (1, u "java/lang/System"), (0, u "allowSecurityManager"), (0, u "I"), (16, u "cons"), (0, u "Ljava/io/Console;"), (77, .class_ 110), (1, u "java/lang/System$CallersHolder"), (43, u "initialErrStream"), (0, u "Ljava/io/PrintStream;"), (19, u "security"), (0, u "Ljava/lang/SecurityManager;"), (31, .class_ 209), (0, u "java/lang/System$1"), (7, u "props"), (0, u "Ljava/util/Properties;"), (2, u "lineSeparator"), (0, u "Ljava/lang/String;"), (96, .class_ 321), (1, u "java/lang/System$LoggerFinder"), (5, .class_ 328), (0, u "java/lang/System$Logger"), (67, u "err"), (2, u "out"), (91, u "notSupportedJnuEncoding"), (15, u "in"), (17, u "initialIn"), (0, u "Ljava/io/InputStream;"), (35, u "bootLayer"), (0, u "Ljava/lang/ModuleLayer;"), (99, .class_ 664), (0, u "java/lang/System$2"), (9, u "NEVER"), (2, u "MAYBE"), (49, u "arraycopy"), (0, u "(Ljava/lang/Object;ILjava/lang/Object;II)V"), (72, .class_ 802), (0, u "java/lang/System$Logger$Level")] 31

def k5m0 : Method := { name := "<init>", desc := "()V", sig := { parameters := [], returnType := none }, accessFlags := 2, code := none }
def k5m1 : Method := { name := "arraycopy", desc := "(Ljava/lang/Object;ILjava/lang/Object;II)V", sig := { parameters := [(.object "java/lang/Object"), .int, (.object "java/lang/Object"), .int, .int], returnType := none }, accessFlags := 265, code := none }
/-- java/lang/System -/
def k5 : Class := { plain "java/lang/System" (some 0) with
  accessFlags := 49
  interfaces := #[]
  cf := some (fileOf pool5 8 #[.nestMembers #[319, 327, 801, 108, 663, 208]] #[{ accessFlags := 2, nameIndex := 5, descriptorIndex := 6, attributes := #[] }, { accessFlags := 265, nameIndex := 727, descriptorIndex := 728, attributes := #[] }] 49 2 #[] #[{ accessFlags := 25, nameIndex := 507, descriptorIndex := 526, attributes := #[] }, { accessFlags := 25, nameIndex := 399, descriptorIndex := 155, attributes := #[] }, { accessFlags := 25, nameIndex := 396, descriptorIndex := 155, attributes := #[] }, { accessFlags := 10, nameIndex := 525, descriptorIndex := 526, attributes := #[] }, { accessFlags := 26, nameIndex := 674, descriptorIndex := 12, attributes := #[] }, { accessFlags := 26, nameIndex := 677, descriptorIndex := 12, attributes := #[] }, { accessFlags := 10, nameIndex := 11, descriptorIndex := 12, attributes := #[] }, { accessFlags := 74, nameIndex := 175, descriptorIndex := 176, attributes := #[] }, { accessFlags := 10, nameIndex := 491, descriptorIndex := 222, attributes := #[] }, { accessFlags := 74, nameIndex := 29, descriptorIndex := 30, attributes := #[] }, { accessFlags := 74, nameIndex := 154, descriptorIndex := 155, attributes := #[] }, { accessFlags := 10, nameIndex := 217, descriptorIndex := 218, attributes := #[] }, { accessFlags := 10, nameIndex := 221, descriptorIndex := 222, attributes := #[] }, { accessFlags := 8, nameIndex := 562, descriptorIndex := 563, attributes := #[] }])
  fields := #[{ name := "in", type := (.object "java/io/InputStream"), accessFlags := 25, slot := 0, constantValue := 0 }, { name := "out", type := (.object "java/io/PrintStream"), accessFlags := 25, slot := 1, constantValue := 0 }, { name := "err", type := (.object "java/io/PrintStream"), accessFlags := 25, slot := 2, constantValue := 0 }, { name := "initialIn", type := (.object "java/io/InputStream"), accessFlags := 10, slot := 3, constantValue := 0 }, { name := "NEVER", type := .int, accessFlags := 26, slot := 4, constantValue := 0 }, { name := "MAYBE", type := .int, accessFlags := 26, slot := 5, constantValue := 0 }, { name := "allowSecurityManager", type := .int, accessFlags := 10, slot := 6, constantValue := 0 }, { name := "security", type := (.object "java/lang/SecurityManager"), accessFlags := 74, slot := 7, constantValue := 0 }, { name := "notSupportedJnuEncoding", type := (.object "java/lang/String"), accessFlags := 10, slot := 8, constantValue := 0 }, { name := "cons", type := (.object "java/io/Console"), accessFlags := 74, slot := 9, constantValue := 0 }, { name := "initialErrStream", type := (.object "java/io/PrintStream"), accessFlags := 74, slot := 10, constantValue := 0 }, { name := "props", type := (.object "java/util/Properties"), accessFlags := 10, slot := 11, constantValue := 0 }, { name := "lineSeparator", type := (.object "java/lang/String"), accessFlags := 10, slot := 12, constantValue := 0 }, { name := "bootLayer", type := (.object "java/lang/ModuleLayer"), accessFlags := 8, slot := 13, constantValue := 0 }]
  methods := #[k5m0, k5m1]
  instanceTypes := #[]
  staticTypes := #[(.object "java/io/InputStream"), (.object "java/io/PrintStream"), (.object "java/io/PrintStream"), (.object "java/io/InputStream"), .int, .int, .int, (.object "java/lang/SecurityManager"), (.object "java/lang/String"), (.object "java/io/Console"), (.object "java/io/PrintStream"), (.object "java/util/Properties"), (.object "java/lang/String"), (.object "java/lang/ModuleLayer")]
  resolved := Array.replicate 834 none
  statics := none }

def pool6 : Array CpInfo := pool [(1, .class_ 2), (0, u "java/io/Serializable"), (0, .class_ 4), (0, u "java/lang/Object")] 2

/-- java/io/Serializable -/
def k6 : Class := { plain "java/io/Serializable" (some 0) with
  accessFlags := 1537
  interfaces := #[]
  cf := some (fileOf pool6 1 #[] #[] 1537 3 #[] #[])
  fields := #[]
  methods := #[]
  instanceTypes := #[]
  staticTypes := #[]
  resolved := Array.replicate 7 none
  statics := none }

def pool7 : Array CpInfo := pool [(2, .class_ 4), (1, u "java/lang/Object"), (0, u "<init>"), (0, u "()V"), (1, .class_ 10), (1, u "java/lang/Number"), (2, .class_ 14), (0, u "java/io/Serializable"), (0, u "serialVersionUID"), (0, u "J")] 20

def k7m0 : Method := { name := "<init>", desc := "()V", sig := { parameters := [], returnType := none }, accessFlags := 1, code := none }
/-- java/lang/Number -/
def k7 : Class := { plain "java/lang/Number" (some 0) with
  accessFlags := 1057
  interfaces := #[6]
  cf := some (fileOf pool7 8 #[] #[{ accessFlags := 1, nameIndex := 5, descriptorIndex := 6, attributes := #[] }] 1057 2 #[13] #[{ accessFlags := 26, nameIndex := 15, descriptorIndex := 16, attributes := #[] }])
  fields := #[{ name := "serialVersionUID", type := .long, accessFlags := 26, slot := 0, constantValue := 0 }]
  methods := #[k7m0]
  instanceTypes := #[]
  staticTypes := #[.long]
  resolved := Array.replicate 37 none
  statics := none }

def pool8 : Array CpInfo := pool [(1, .class_ 2), (0, u "java/lang/Comparable"), (0, .class_ 4), (0, u "java/lang/Object")] 7

/-- java/lang/Comparable -/
def k8 : Class := { plain "java/lang/Comparable" (some 0) with
  accessFlags := 1537
  interfaces := #[]
  cf := some (fileOf pool8 1 #[] #[] 1537 3 #[] #[])
  fields := #[]
  methods := #[]
  instanceTypes := #[]
  staticTypes := #[]
  resolved := Array.replicate 12 none
  statics := none }

def pool9 : Array CpInfo := pool [(1, .class_ 2), (0, u "java/lang/constant/Constable"), (0, .class_ 4), (0, u "java/lang/Object")] 6

/-- java/lang/constant/Constable -/
def k9 : Class := { plain "java/lang/constant/Constable" (some 0) with
  accessFlags := 1537
  interfaces := #[]
  cf := some (fileOf pool9 1 #[] #[] 1537 3 #[] #[])
  fields := #[]
  methods := #[]
  instanceTypes := #[]
  staticTypes := #[]
  resolved := Array.replicate 11 none
  statics := none }

def pool10 : Array CpInfo := pool [(1, .class_ 2), (0, u "java/lang/constant/ConstantDesc"), (0, .class_ 4), (0, u "java/lang/Object")] 32

/-- java/lang/constant/ConstantDesc -/
def k10 : Class := { plain "java/lang/constant/ConstantDesc" (some 0) with
  accessFlags := 1537
  interfaces := #[]
  cf := some (fileOf pool10 1 #[] #[] 1537 3 #[] #[])
  fields := #[]
  methods := #[]
  instanceTypes := #[]
  staticTypes := #[]
  resolved := Array.replicate 37 none
  statics := none }

def pool11 : Array CpInfo := pool [(1, .class_ 2), (0, u "java/lang/Long"), (15, .class_ 20), (1, u "java/lang/Integer"), (79, u "numberOfLeadingZeros"), (0, u "(J)I"), (133, .class_ 237), (1, u "java/lang/Long$LongCache"), (33, .class_ 272), (0, u "java/lang/Number"), (2, u "value"), (0, u "J"), (31, .methodref 18 309), (0, .nameAndType 100 310), (0, u "(I)I"), (0, .methodref 18 312), (0, .nameAndType 313 310), (0, u "numberOfTrailingZeros"), (0, .long 6148914691236517205), (1, .long 3689348814741910323), (1, .long 1085102592571150095), (42, u "TYPE"), (0, u "Ljava/lang/Class;"), (0, .class_ 364), (0, u "java/lang/Comparable"), (0, .class_ 366), (0, u "java/lang/constant/Constable"), (0, .class_ 368), (0, u "java/lang/constant/ConstantDesc"), (0, u "MIN_VALUE"), (1, u "MAX_VALUE"), (4, u "SIZE"), (0, u "I"), (1, u "BYTES"), (1, u "serialVersionUID"), (94, u "bitCount")] 47

def k11c0 : Code := { maxStack := 3, maxLocals := 3, code := jdk_35_method_48_code, exceptionTable := #[], attributes := #[] }
def k11m0 : Method := { name := "numberOfLeadingZeros", desc := "(J)I", sig := { parameters := [.long], returnType := some .int }, accessFlags := 9, code := some k11c0 }
def k11c1 : Code := { maxStack := 4, maxLocals := 3, code := jdk_35_method_49_code, exceptionTable := #[], attributes := #[] }
def k11m1 : Method := { name := "numberOfTrailingZeros", desc := "(J)I", sig := { parameters := [.long], returnType := some .int }, accessFlags := 9, code := some k11c1 }
def k11c2 : Code := { maxStack := 6, maxLocals := 2, code := jdk_35_method_50_code, exceptionTable := #[], attributes := #[] }
def k11m2 : Method := { name := "bitCount", desc := "(J)I", sig := { parameters := [.long], returnType := some .int }, accessFlags := 9, code := some k11c2 }
/-- java/lang/Long -/
def k11 : Class := { plain "java/lang/Long" (some 7) with
  accessFlags := 49
  interfaces := #[8, 9, 10]
  cf := some (fileOf pool11 1 #[.nestMembers #[235]] #[{ accessFlags := 9, nameIndex := 100, descriptorIndex := 101, attributes := #[] }, { accessFlags := 9, nameIndex := 313, descriptorIndex := 101, attributes := #[] }, { accessFlags := 9, nameIndex := 476, descriptorIndex := 101, attributes := #[] }] 49 271 #[363, 365, 367] #[{ accessFlags := 25, nameIndex := 369, descriptorIndex := 276, attributes := #[] }, { accessFlags := 25, nameIndex := 371, descriptorIndex := 276, attributes := #[] }, { accessFlags := 25, nameIndex := 361, descriptorIndex := 362, attributes := #[] }, { accessFlags := 18, nameIndex := 275, descriptorIndex := 276, attributes := #[] }, { accessFlags := 25, nameIndex := 376, descriptorIndex := 377, attributes := #[] }, { accessFlags := 25, nameIndex := 379, descriptorIndex := 377, attributes := #[] }, { accessFlags := 26, nameIndex := 381, descriptorIndex := 276, attributes := #[] }])
  fields := #[{ name := "MIN_VALUE", type := .long, accessFlags := 25, slot := 0, constantValue := 0 }, { name := "MAX_VALUE", type := .long, accessFlags := 25, slot := 1, constantValue := 0 }, { name := "TYPE", type := (.object "java/lang/Class"), accessFlags := 25, slot := 2, constantValue := 0 }, { name := "value", type := .long, accessFlags := 18, slot := 0, constantValue := 0 }, { name := "SIZE", type := .int, accessFlags := 25, slot := 3, constantValue := 0 }, { name := "BYTES", type := .int, accessFlags := 25, slot := 4, constantValue := 0 }, { name := "serialVersionUID", type := .long, accessFlags := 26, slot := 5, constantValue := 0 }]
  methods := #[k11m0, k11m1, k11m2]
  instanceTypes := #[.long]
  staticTypes := #[.long, .long, (.object "java/lang/Class"), .int, .int, .long]
  resolved := Array.replicate 524 none
  statics := none }

def pool12 : Array CpInfo := pool [(1, .class_ 2), (0, u "java/lang/Integer"), (16, u "digits"), (0, u "[C"), (32, u "numberOfLeadingZeros"), (0, u "(I)I"), (30, u "DigitOnes"), (0, u "[B"), (2, u "DigitTens"), (99, .class_ 190), (0, u "java/lang/Integer$IntegerCache"), (3, u "I"), (8, .class_ 204), (0, u "java/lang/Number"), (2, u "value"), (56, .integer 65536), (37, u "TYPE"), (0, u "Ljava/lang/Class;"), (0, .class_ 305), (0, u "java/lang/Comparable"), (0, .class_ 307), (0, u "java/lang/constant/Constable"), (0, .class_ 309), (0, u "java/lang/constant/ConstantDesc"), (0, u "MIN_VALUE"), (1, u "MAX_VALUE"), (3, u "SIZE"), (1, u "BYTES"), (1, u "serialVersionUID"), (0, u "J"), (84, u "numberOfTrailingZeros")] 46

def k12c0 : Code := { maxStack := 3, maxLocals := 2, code := jdk_33_method_47_code, exceptionTable := #[], attributes := #[] }
def k12m0 : Method := { name := "numberOfLeadingZeros", desc := "(I)I", sig := { parameters := [.int], returnType := some .int }, accessFlags := 9, code := some k12c0 }
def k12c1 : Code := { maxStack := 3, maxLocals := 2, code := jdk_33_method_48_code, exceptionTable := #[], attributes := #[] }
def k12m1 : Method := { name := "numberOfTrailingZeros", desc := "(I)I", sig := { parameters := [.int], returnType := some .int }, accessFlags := 9, code := some k12c1 }
/-- java/lang/Integer -/
def k12 : Class := { plain "java/lang/Integer" (some 7) with
  accessFlags := 49
  interfaces := #[8, 9, 10]
  cf := some (fileOf pool12 1 #[.nestMembers #[189]] #[{ accessFlags := 9, nameIndex := 53, descriptorIndex := 54, attributes := #[] }, { accessFlags := 9, nameIndex := 406, descriptorIndex := 54, attributes := #[] }] 49 203 #[304, 306, 308] #[{ accessFlags := 25, nameIndex := 310, descriptorIndex := 194, attributes := #[] }, { accessFlags := 25, nameIndex := 312, descriptorIndex := 194, attributes := #[] }, { accessFlags := 25, nameIndex := 302, descriptorIndex := 303, attributes := #[] }, { accessFlags := 24, nameIndex := 19, descriptorIndex := 20, attributes := #[] }, { accessFlags := 24, nameIndex := 89, descriptorIndex := 86, attributes := #[] }, { accessFlags := 24, nameIndex := 85, descriptorIndex := 86, attributes := #[] }, { accessFlags := 18, nameIndex := 207, descriptorIndex := 194, attributes := #[] }, { accessFlags := 25, nameIndex := 316, descriptorIndex := 194, attributes := #[] }, { accessFlags := 25, nameIndex := 318, descriptorIndex := 194, attributes := #[] }, { accessFlags := 26, nameIndex := 320, descriptorIndex := 321, attributes := #[] }])
  fields := #[{ name := "MIN_VALUE", type := .int, accessFlags := 25, slot := 0, constantValue := 0 }, { name := "MAX_VALUE", type := .int, accessFlags := 25, slot := 1, constantValue := 0 }, { name := "TYPE", type := (.object "java/lang/Class"), accessFlags := 25, slot := 2, constantValue := 0 }, { name := "digits", type := (.array .char), accessFlags := 24, slot := 3, constantValue := 0 }, { name := "DigitTens", type := (.array .byte), accessFlags := 24, slot := 4, constantValue := 0 }, { name := "DigitOnes", type := (.array .byte), accessFlags := 24, slot := 5, constantValue := 0 }, { name := "value", type := .int, accessFlags := 18, slot := 0, constantValue := 0 }, { name := "SIZE", type := .int, accessFlags := 25, slot := 6, constantValue := 0 }, { name := "BYTES", type := .int, accessFlags := 25, slot := 7, constantValue := 0 }, { name := "serialVersionUID", type := .long, accessFlags := 26, slot := 8, constantValue := 0 }]
  methods := #[k12m0, k12m1]
  instanceTypes := #[.int]
  staticTypes := #[.int, .int, (.object "java/lang/Class"), (.array .char), (.array .byte), (.array .byte), .int, .int, .long]
  resolved := Array.replicate 453 none
  statics := none }

def pool13 : Array CpInfo := pool [(1, u "java/lang/Cloneable"), (0, .class_ 1), (0, u "java/lang/Object"), (0, .class_ 3)] 3

/-- java/lang/Cloneable -/
def k13 : Class := { plain "java/lang/Cloneable" (some 0) with
  accessFlags := 1537
  interfaces := #[]
  cf := some (fileOf pool13 2 #[] #[] 1537 4 #[] #[])
  fields := #[]
  methods := #[]
  instanceTypes := #[]
  staticTypes := #[]
  resolved := Array.replicate 8 none
  statics := none }

/-- the primitive byte -/
def k14 : Class := { plain "byte" none with kind := .primitive 'B', accessFlags := 0x411 }
/-- [B -/
def k15 : Class := { plain "[B" (some 0) with kind := .array 14 .byte, interfaces := #[13, 6], accessFlags := 1041 }

/-- the primitive int -/
def k16 : Class := { plain "int" none with kind := .primitive 'I', accessFlags := 0x411 }
/-- [I -/
def k17 : Class := { plain "[I" (some 0) with kind := .array 16 .int, interfaces := #[13, 6], accessFlags := 1041 }

/-- the primitive long -/
def k18 : Class := { plain "long" none with kind := .primitive 'J', accessFlags := 0x411 }
/-- [J -/
def k19 : Class := { plain "[J" (some 0) with kind := .array 18 .long, interfaces := #[13, 6], accessFlags := 1041 }

def heap : Heap := #[]
def classes : Array Class := #[k0, k1, k2, k3, k4, k5, k6, k7, k8, k9, k10, k11, k12, k13, k14, k15, k16, k17, k18, k19]
def interned : List (Array UInt16 × Addr) := []
def slotsUsed : Nat := 0
def theMethod : MethodId := ⟨1, 1⟩
def args0 : Array Value := #[.int 3, .int 5, .int 70, .int 5, .int 70]
def aboutOver (below : List Frame) : State where
  vm := { classes := classes, interned := interned.toArray }
  heap := heap
  slotsUsed := slotsUsed
  threads := #[{ frames := .invoking theMethod args0 :: below }]
def below0 : List Frame := [.native { method := ⟨0, 0⟩, args := #[] }]
def about1 : State := aboutOver below0
def p0 : Program := .bare "" "" ""
def e0 : Env := launch0.env 0 0 0
theorem w_frames : about1.frames = Frame.invoking theMethod args0 :: below0 := rfl
set_option maxRecDepth 65536 in
theorem w_args : argsFit about1.vm theMethod args0 = true := by decide +kernel
set_option maxRecDepth 65536 in
theorem w_heap : heapFits about1 = true := by decide +kernel
set_option maxRecDepth 65536 in
theorem w_runnable : about1.curStatus? = some .runnable := by decide +kernel
set_option maxRecDepth 65536 in
theorem w_alone : about1.alone = true := by decide +kernel
set_option maxRecDepth 65536 in
theorem w_named : about1.methodNamed? x = some theMethod := by decide +kernel
set_option maxRecDepth 65536 in
theorem w_hears : about1.hears theMethod below0 = true := by decide +kernel
set_option maxRecDepth 65536 in
theorem w_ripe : about1.ripe theMethod args0 below0 = true := by decide +kernel
theorem w_running : about1.status = .running := rfl
set_option maxRecDepth 65536 in
theorem w_room : about1.hasRoom e0.platform room_1 = true :=
  launch0.hasRoom_least _ room_1 (by decide +kernel) (by decide +kernel) (by decide +kernel) (by decide +kernel) (by decide +kernel) (by decide +kernel)
theorem allAtoms_all (ts : List Jvm.Cond) (a : Array Jvm.Value) (st : Jvm.State) : (allAtoms ts).before a st = ts.all (fun c => c.before a st) := by
  induction ts with
  | nil => rfl
  | cons c t ih =>
    show (Jvm.Cond.and c (allAtoms t)).before a st = _
    rw [Jvm.Cond.before_and, ih, List.all_cons]
def words1 : List Jvm.Cond := Jvm.Cond.code x code maxLocals ret :: tables_1
/-- a 'code' word, met by the world's own term for the bytes: nothing is compared byte by byte -/
theorem code_word {y : MethodName} {bytes : ByteArray} {mx : Nat} {rt : Option FieldType} {a : Array Value} {s : State} {m : MethodId} {meth : Method} {c : Code} (h1 : s.methodNamed? y = some m) (h2 : s.vm.method? m = some meth) (h3 : meth.code = some c) (h4 : c.code = bytes)
    (h5 : (c.maxLocals == mx && c.exceptionTable.isEmpty && decide (c.maxStack ≤ mostOperands) && decide (meth.sig.returnType = rt) && !meth.locks && decide (parseMethodDescriptor y.desc = some meth.sig)) = true) : (Jvm.Cond.code y bytes mx rt).before a s = true := by
  simp only [Bool.and_eq_true, beq_iff_eq, Bool.not_eq_true', decide_eq_true_eq] at h5
  obtain ⟨⟨⟨⟨⟨g1, g2⟩, g3⟩, g4⟩, g5⟩, g6⟩ := h5
  simp [Cond.before, Cond.holds, Cond.value, h1, h2, h3, h4, g1, g2, g3, g4, g5, g6]
def isCode : Jvm.Cond → Bool
  | .code _ _ _ _ => true
  | _ => false
theorem all_split {L : List Jvm.Cond} {P : Jvm.Cond → Bool} (h1 : L.all (fun c => isCode c || P c) = true) (h2 : ∀ c ∈ L.filter isCode, P c = true) : L.all P = true := by
  refine List.all_eq_true.mpr fun c hc => ?_
  have h := List.all_eq_true.mp h1 c hc
  rcases Bool.eq_false_or_eq_true (isCode c) with hi | hi
  · exact h2 c (List.mem_filter.mpr ⟨hc, hi⟩)
  · simpa [hi] using h
set_option maxRecDepth 65536 in
theorem w_c0 : (Jvm.Cond.code x code maxLocals ret).before args0 about1 = true := code_word (m := ⟨1, 1⟩) (meth := k1m1) (c := k1c1) (by decide +kernel) rfl rfl rfl (by decide +kernel)
set_option maxRecDepth 65536 in
theorem w_c1 : (Jvm.Cond.code ({ cls := "com/example/heaplens/heaplens/sharing/VarSet", name := "of", desc := "([I)Lcom/example/heaplens/heaplens/sharing/VarSet;" } : Jvm.MethodName) prog_13_method_2_code (6 : Nat) (Option.some (Jvm.ClassFile.FieldType.object "com/example/heaplens/heaplens/sharing/VarSet"))).before args0 about1 = true := code_word (m := ⟨2, 1⟩) (meth := k2m1) (c := k2c1) (by decide +kernel) rfl rfl rfl (by decide +kernel)
set_option maxRecDepth 65536 in
theorem w_c2 : (Jvm.Cond.code ({ cls := "com/example/heaplens/heaplens/sharing/VarSet", name := "<init>", desc := "([J)V" } : Jvm.MethodName) prog_13_method_1_code (2 : Nat) (Option.none : Option Jvm.ClassFile.FieldType)).before args0 about1 = true := code_word (m := ⟨2, 0⟩) (meth := k2m0) (c := k2c0) (by decide +kernel) rfl rfl rfl (by decide +kernel)
set_option maxRecDepth 65536 in
theorem w_c3 : (Jvm.Cond.code ({ cls := "java/lang/Object", name := "<init>", desc := "()V" } : Jvm.MethodName) object_method_1_code (1 : Nat) (Option.none : Option Jvm.ClassFile.FieldType)).before args0 about1 = true := code_word (m := ⟨0, 0⟩) (meth := k0m0) (c := k0c0) (by decide +kernel) rfl rfl rfl (by decide +kernel)
set_option maxRecDepth 65536 in
theorem w_c4 : (Jvm.Cond.code ({ cls := "com/example/heaplens/heaplens/sharing/VarSet", name := "contains", desc := "(I)Z" } : Jvm.MethodName) prog_13_method_6_code (2 : Nat) (Option.some Jvm.ClassFile.FieldType.boolean)).before args0 about1 = true := code_word (m := ⟨2, 3⟩) (meth := k2m3) (c := k2c3) (by decide +kernel) rfl rfl rfl (by decide +kernel)
set_option maxRecDepth 65536 in
theorem w_c5 : (Jvm.Cond.code ({ cls := "com/example/heaplens/heaplens/sharing/VarSet", name := "size", desc := "()I" } : Jvm.MethodName) prog_13_method_7_code (7 : Nat) (Option.some Jvm.ClassFile.FieldType.int)).before args0 about1 = true := code_word (m := ⟨2, 4⟩) (meth := k2m4) (c := k2c4) (by decide +kernel) rfl rfl rfl (by decide +kernel)
set_option maxRecDepth 65536 in
theorem w_c6 : (Jvm.Cond.code ({ cls := "com/example/heaplens/heaplens/sharing/VarSet", name := "first", desc := "()I" } : Jvm.MethodName) prog_13_method_8_code (1 : Nat) (Option.some Jvm.ClassFile.FieldType.int)).before args0 about1 = true := code_word (m := ⟨2, 5⟩) (meth := k2m5) (c := k2c5) (by decide +kernel) rfl rfl rfl (by decide +kernel)
set_option maxRecDepth 65536 in
theorem w_c7 : (Jvm.Cond.code ({ cls := "com/example/heaplens/heaplens/sharing/VarSet", name := "next", desc := "(I)I" } : Jvm.MethodName) prog_13_method_10_code (5 : Nat) (Option.some Jvm.ClassFile.FieldType.int)).before args0 about1 = true := code_word (m := ⟨2, 7⟩) (meth := k2m7) (c := k2c7) (by decide +kernel) rfl rfl rfl (by decide +kernel)
set_option maxRecDepth 65536 in
theorem w_c8 : (Jvm.Cond.code ({ cls := "com/example/heaplens/heaplens/sharing/VarSet", name := "last", desc := "()I" } : Jvm.MethodName) prog_13_method_9_code (1 : Nat) (Option.some Jvm.ClassFile.FieldType.int)).before args0 about1 = true := code_word (m := ⟨2, 6⟩) (meth := k2m6) (c := k2c6) (by decide +kernel) rfl rfl rfl (by decide +kernel)
set_option maxRecDepth 65536 in
theorem w_c9 : (Jvm.Cond.code ({ cls := "com/example/heaplens/heaplens/sharing/VarSet", name := "isEmpty", desc := "()Z" } : Jvm.MethodName) prog_13_method_5_code (1 : Nat) (Option.some Jvm.ClassFile.FieldType.boolean)).before args0 about1 = true := code_word (m := ⟨2, 2⟩) (meth := k2m2) (c := k2c2) (by decide +kernel) rfl rfl rfl (by decide +kernel)
set_option maxRecDepth 65536 in
theorem w_c10 : (Jvm.Cond.code ({ cls := "java/util/Arrays", name := "copyOf", desc := "([JI)[J" } : Jvm.MethodName) jdk_65_method_124_code (3 : Nat) (Option.some (Jvm.ClassFile.FieldType.array Jvm.ClassFile.FieldType.long))).before args0 about1 = true := code_word (m := ⟨3, 1⟩) (meth := k3m1) (c := k3c1) (by decide +kernel) rfl rfl rfl (by decide +kernel)
set_option maxRecDepth 65536 in
theorem w_c11 : (Jvm.Cond.code ({ cls := "java/lang/Math", name := "min", desc := "(II)I" } : Jvm.MethodName) jdk_29_method_69_code (2 : Nat) (Option.some Jvm.ClassFile.FieldType.int)).before args0 about1 = true := code_word (m := ⟨4, 2⟩) (meth := k4m2) (c := k4c2) (by decide +kernel) rfl rfl rfl (by decide +kernel)
set_option maxRecDepth 65536 in
theorem w_c12 : (Jvm.Cond.code ({ cls := "java/lang/Math", name := "max", desc := "(II)I" } : Jvm.MethodName) jdk_29_method_65_code (2 : Nat) (Option.some Jvm.ClassFile.FieldType.int)).before args0 about1 = true := code_word (m := ⟨4, 1⟩) (meth := k4m1) (c := k4c1) (by decide +kernel) rfl rfl rfl (by decide +kernel)
set_option maxRecDepth 65536 in
theorem w_c13 : (Jvm.Cond.code ({ cls := "java/lang/Long", name := "bitCount", desc := "(J)I" } : Jvm.MethodName) jdk_35_method_50_code (2 : Nat) (Option.some Jvm.ClassFile.FieldType.int)).before args0 about1 = true := code_word (m := ⟨11, 2⟩) (meth := k11m2) (c := k11c2) (by decide +kernel) rfl rfl rfl (by decide +kernel)
set_option maxRecDepth 65536 in
theorem w_c14 : (Jvm.Cond.code ({ cls := "java/lang/Long", name := "numberOfTrailingZeros", desc := "(J)I" } : Jvm.MethodName) jdk_35_method_49_code (3 : Nat) (Option.some Jvm.ClassFile.FieldType.int)).before args0 about1 = true := code_word (m := ⟨11, 1⟩) (meth := k11m1) (c := k11c1) (by decide +kernel) rfl rfl rfl (by decide +kernel)
set_option maxRecDepth 65536 in
theorem w_c15 : (Jvm.Cond.code ({ cls := "java/lang/Integer", name := "numberOfTrailingZeros", desc := "(I)I" } : Jvm.MethodName) jdk_33_method_48_code (2 : Nat) (Option.some Jvm.ClassFile.FieldType.int)).before args0 about1 = true := code_word (m := ⟨12, 1⟩) (meth := k12m1) (c := k12c1) (by decide +kernel) rfl rfl rfl (by decide +kernel)
set_option maxRecDepth 65536 in
theorem w_c16 : (Jvm.Cond.code ({ cls := "java/lang/Long", name := "numberOfLeadingZeros", desc := "(J)I" } : Jvm.MethodName) jdk_35_method_48_code (3 : Nat) (Option.some Jvm.ClassFile.FieldType.int)).before args0 about1 = true := code_word (m := ⟨11, 0⟩) (meth := k11m0) (c := k11c0) (by decide +kernel) rfl rfl rfl (by decide +kernel)
set_option maxRecDepth 65536 in
theorem w_c17 : (Jvm.Cond.code ({ cls := "java/lang/Integer", name := "numberOfLeadingZeros", desc := "(I)I" } : Jvm.MethodName) jdk_33_method_47_code (2 : Nat) (Option.some Jvm.ClassFile.FieldType.int)).before args0 about1 = true := code_word (m := ⟨12, 0⟩) (meth := k12m0) (c := k12c0) (by decide +kernel) rfl rfl rfl (by decide +kernel)
def codes1 : List Jvm.Cond := [Jvm.Cond.code x code maxLocals ret, Jvm.Cond.code ({ cls := "com/example/heaplens/heaplens/sharing/VarSet", name := "of", desc := "([I)Lcom/example/heaplens/heaplens/sharing/VarSet;" } : Jvm.MethodName) prog_13_method_2_code (6 : Nat) (Option.some (Jvm.ClassFile.FieldType.object "com/example/heaplens/heaplens/sharing/VarSet")), Jvm.Cond.code ({ cls := "com/example/heaplens/heaplens/sharing/VarSet", name := "<init>", desc := "([J)V" } : Jvm.MethodName) prog_13_method_1_code (2 : Nat) (Option.none : Option Jvm.ClassFile.FieldType), Jvm.Cond.code ({ cls := "java/lang/Object", name := "<init>", desc := "()V" } : Jvm.MethodName) object_method_1_code (1 : Nat) (Option.none : Option Jvm.ClassFile.FieldType), Jvm.Cond.code ({ cls := "com/example/heaplens/heaplens/sharing/VarSet", name := "contains", desc := "(I)Z" } : Jvm.MethodName) prog_13_method_6_code (2 : Nat) (Option.some Jvm.ClassFile.FieldType.boolean), Jvm.Cond.code ({ cls := "com/example/heaplens/heaplens/sharing/VarSet", name := "size", desc := "()I" } : Jvm.MethodName) prog_13_method_7_code (7 : Nat) (Option.some Jvm.ClassFile.FieldType.int), Jvm.Cond.code ({ cls := "com/example/heaplens/heaplens/sharing/VarSet", name := "first", desc := "()I" } : Jvm.MethodName) prog_13_method_8_code (1 : Nat) (Option.some Jvm.ClassFile.FieldType.int), Jvm.Cond.code ({ cls := "com/example/heaplens/heaplens/sharing/VarSet", name := "next", desc := "(I)I" } : Jvm.MethodName) prog_13_method_10_code (5 : Nat) (Option.some Jvm.ClassFile.FieldType.int), Jvm.Cond.code ({ cls := "com/example/heaplens/heaplens/sharing/VarSet", name := "last", desc := "()I" } : Jvm.MethodName) prog_13_method_9_code (1 : Nat) (Option.some Jvm.ClassFile.FieldType.int), Jvm.Cond.code ({ cls := "com/example/heaplens/heaplens/sharing/VarSet", name := "isEmpty", desc := "()Z" } : Jvm.MethodName) prog_13_method_5_code (1 : Nat) (Option.some Jvm.ClassFile.FieldType.boolean), Jvm.Cond.code ({ cls := "java/util/Arrays", name := "copyOf", desc := "([JI)[J" } : Jvm.MethodName) jdk_65_method_124_code (3 : Nat) (Option.some (Jvm.ClassFile.FieldType.array Jvm.ClassFile.FieldType.long)), Jvm.Cond.code ({ cls := "java/lang/Math", name := "min", desc := "(II)I" } : Jvm.MethodName) jdk_29_method_69_code (2 : Nat) (Option.some Jvm.ClassFile.FieldType.int), Jvm.Cond.code ({ cls := "java/lang/Math", name := "max", desc := "(II)I" } : Jvm.MethodName) jdk_29_method_65_code (2 : Nat) (Option.some Jvm.ClassFile.FieldType.int), Jvm.Cond.code ({ cls := "java/lang/Long", name := "bitCount", desc := "(J)I" } : Jvm.MethodName) jdk_35_method_50_code (2 : Nat) (Option.some Jvm.ClassFile.FieldType.int), Jvm.Cond.code ({ cls := "java/lang/Long", name := "numberOfTrailingZeros", desc := "(J)I" } : Jvm.MethodName) jdk_35_method_49_code (3 : Nat) (Option.some Jvm.ClassFile.FieldType.int), Jvm.Cond.code ({ cls := "java/lang/Integer", name := "numberOfTrailingZeros", desc := "(I)I" } : Jvm.MethodName) jdk_33_method_48_code (2 : Nat) (Option.some Jvm.ClassFile.FieldType.int), Jvm.Cond.code ({ cls := "java/lang/Long", name := "numberOfLeadingZeros", desc := "(J)I" } : Jvm.MethodName) jdk_35_method_48_code (3 : Nat) (Option.some Jvm.ClassFile.FieldType.int), Jvm.Cond.code ({ cls := "java/lang/Integer", name := "numberOfLeadingZeros", desc := "(I)I" } : Jvm.MethodName) jdk_33_method_47_code (2 : Nat) (Option.some Jvm.ClassFile.FieldType.int)]
set_option maxRecDepth 65536 in
theorem codes_eq : words1.filter isCode = codes1 := rfl
theorem w_codes : ∀ c ∈ words1.filter isCode, c.before args0 about1 = true := by
  rw [codes_eq]
  intro c hc
  simp only [codes1, List.mem_cons, List.not_mem_nil, or_false] at hc
  rcases hc with rfl | rfl | rfl | rfl | rfl | rfl | rfl | rfl | rfl | rfl | rfl | rfl | rfl | rfl | rfl | rfl | rfl | rfl
  · exact w_c0
  · exact w_c1
  · exact w_c2
  · exact w_c3
  · exact w_c4
  · exact w_c5
  · exact w_c6
  · exact w_c7
  · exact w_c8
  · exact w_c9
  · exact w_c10
  · exact w_c11
  · exact w_c12
  · exact w_c13
  · exact w_c14
  · exact w_c15
  · exact w_c16
  · exact w_c17
set_option maxRecDepth 65536 in
theorem w_t1 : (words1.take 24).all (fun c => isCode c || c.before args0 about1) = true := by decide +kernel
set_option maxRecDepth 65536 in
theorem w_t2 : ((words1.drop 24).take 24).all (fun c => isCode c || c.before args0 about1) = true := by decide +kernel
set_option maxRecDepth 65536 in
theorem w_t3 : (((words1.drop 24).drop 24).take 24).all (fun c => isCode c || c.before args0 about1) = true := by decide +kernel
set_option maxRecDepth 65536 in
theorem w_t4 : (((words1.drop 24).drop 24).drop 24).all (fun c => isCode c || c.before args0 about1) = true := by decide +kernel
theorem w_tables : (allAtoms (Jvm.Cond.code x code maxLocals ret :: tables_1)).before args0 about1 = true := by
  rw [allAtoms_all]
  show words1.all (fun c => c.before args0 about1) = true
  refine all_split ?_ w_codes
  rw [← List.take_append_drop 24 words1, List.all_append, w_t1, ← List.take_append_drop 24 (words1.drop 24), List.all_append, w_t2, ← List.take_append_drop 24 ((words1.drop 24).drop 24), List.all_append, w_t3, w_t4]
  rfl
set_option maxRecDepth 65536 in
theorem w_case : (Jvm.Cond.and given_1 narrow_1).before args0 about1 = true := by decide +kernel
theorem w_applies : (headSpec (Jvm.Cond.code x code maxLocals ret :: tables_1) room_1).applies x e0.platform about1 = true :=
  (Spec.applies_iff w_frames).mpr ⟨w_running, w_runnable, w_alone, w_named, w_hears, w_ripe, w_room, w_tables⟩
theorem atStart : AtStart classFile x code maxLocals ret World_1 tables_1 room_1 Calls_1 rest_1 Pre_1 launch0 p0 e0 about1 theMethod args0 below0 :=
  ⟨lists_1, trivial, launch0.admits_env _ _ _, launch0.least_env, fairChoices_fair.cas, fairChoices_fair.clock, w_frames, w_args, w_heap, w_applies, trivial, trivial, w_case⟩
end start1
theorem witness_1 : WitnessClaimed_1 := ⟨start1.p0, start1.e0, start1.about1, start1.theMethod, start1.args0, start1.below0, start1.atStart⟩
end Jvm.Pilot.@@N@@
