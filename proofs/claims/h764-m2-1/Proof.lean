import JvmDerived
import JvmDerived.Pilot.@@N@@Statement
import JvmDerived.Pilot.@@N@@Code
set_option linter.unusedVariables false
set_option linter.unusedSimpArgs false
namespace Jvm.RoadKit
open Sem ClassFile Op Lib Jvm.Stand Jvm.Free Jvm.LawKit
section New
variable {p : Program} {l : Launch} {e : Env} {R : Room} {s : State} {m : MethodId} {args : Array Value} {below : List Frame} {meth : Method} {c : Code} {T : State} {locs : List Loc} {cells slots : Nat}
theorem retI (X : Stand p l e R s m args below meth c T locs cells slots) (hx : p.tables.exec = Jvm.exec) {pc : Nat} {Ls : Array Slot} {z : Int32} {rest : List Value} (hret : meth.sig.returnType = some .int) (hd : decode c.code pc = .ok (.ireturn, 1)) {fs : List Frame}
    (hl : ∀ (f : JFrame) (acts : List Action), f.method = m → f.locked = none → f.entered = [] → (doReturn e (T.setTop f) acts (some (.int z))).1 = T.setFrames fs) : Steps p.tables e below (T.setTop (mkF m pc Ls (.int z :: rest))) (T.setFrames fs) := retOut X hx hret rfl (Or.inl ⟨rfl, Or.inl rfl, _, rfl⟩) hd hl
end New
end Jvm.RoadKit
namespace Jvm.Pilot.@@N@@
open Jvm Jvm.ClassFile Sem Op Lib Jvm.Free Jvm.Stand Jvm.LawKit Jvm.RoadKit Bundle Jvm.Pilot.@@N@@.Jvm.D
section OwnKit
variable {p : Program} {l : Launch} {e : Env} {R : Room} {s : State} {m : MethodId} {args : Array Value} {below : List Frame} {meth : Method} {c : Code} {T : State} {locs : List Loc} {cells slots : Nat} {Z : State} {a0 : Array Value} {h : Heap}
def Go (p : Program) (e : Env) (below : List Frame) (Q : Outcome → State → Prop) (S : State) : Prop := ∃ s₂ o, Steps p.tables e below S s₂ ∧ s₂.status = .running ∧ Ended s₂ below o ∧ Q o s₂
theorem Go.of {Q : Outcome → State → Prop} {S : State} (k : Go p e below Q S) : ∃ s₂ o, Steps p.tables e below S s₂ ∧ s₂.status = .running ∧ Ended s₂ below o ∧ Q o s₂ := k
theorem Go.st {Q : Outcome → State → Prop} {S S' : State} (h : ∀ t, Steps p.tables e below S' t → Steps p.tables e below S t) (k : Go p e below Q S') : Go p e below Q S := by
  obtain ⟨s2, o, h1, h2⟩ := k; exact ⟨s2, o, h _ h1, h2⟩
theorem Go.op {α : Type} {Q : Outcome → State → Prop} {S : State} {F : α → State} {x : α} (h : ∀ t, Steps p.tables e below (F x) t → Steps p.tables e below S t) (k : ∀ z, z = x → Go p e below Q (F z)) : Go p e below Q S := Go.st h (k x rfl)
theorem Go.join {α : Type} {Q : Outcome → State → Prop} {S : State} (C : α → Prop) (F : α → State) (k : ∀ r, C r → Go p e below Q (F r)) (j : (∀ r, C r → Go p e below Q (F r)) → Go p e below Q S) : Go p e below Q S := j k
theorem Go.joinT {α : Type} {Q : Outcome → State → Prop} {S : State} (X : Stand p l e R s m args below meth c T locs cells slots) (eT : T.heap = h) (C : α → Prop) (F : State → α → State) (k : ∀ T', Stand p l e R s m args below meth c T' locs cells slots → T'.heap = h → ∀ r, C r → Go p e below Q (F T' r)) (j : (∀ T', Stand p l e R s m args below meth c T' locs cells slots → T'.heap = h → ∀ r, C r → Go p e below Q (F T' r)) → Go p e below Q S) : Go p e below Q S := j k
theorem Go.loop {α : Type} {Q : Outcome → State → Prop} (I : Nat → α → Prop) (F : α → State) (k0 : Nat) (x0 : α) (h0 : I k0 x0) (step : ∀ k x, I k x → (∀ k' x', k' < k → I k' x' → Go p e below Q (F x')) → Go p e below Q (F x)) : Go p e below Q (F x0) := by
  have H : ∀ k x, I k x → Go p e below Q (F x) := by
    intro k
    induction k using Nat.strongRecOn with
    | _ k ih => intro x hx; exact step k x hx fun k' x' hk hx' => ih k' hk x' hx'
  exact H k0 x0 h0
theorem Go.ret {Qn : Option Value → Heap → List Loc → Prop} {rc rs : Nat} (X : Stand p l e R s m args below meth c T locs cells slots) {v : Option Value} (hv : meth.sig.returnType = none → v = none) (hlk : meth.locks = false) {f : JFrame}
    (st : ∀ fs, (∀ (f : JFrame) (acts : List Action), f.method = m → f.locked = none → f.entered = [] → (doReturn e (T.setTop f) acts v).1 = T.setFrames fs) → Steps p.tables e below (T.setTop f) (T.setFrames fs))
    (hc : cells ≤ rc) (hs : slots ≤ rs) (hQ : Qn v T.heap locs) : Go p e below (fun o U' => ∃ v L, o = .returned v ∧ Qn v U'.heap L ∧ FrameEnd s o U' L rc rs) (T.setTop f) := by
  obtain ⟨fs, hr, hrun, hended, hW, hsame⟩ := X.leave (v := v) hv hlk
  exact ⟨_, _, st fs hr, hrun, hended, v, locs, rfl, hQ, ⟨_, rfl⟩, hW, hsame.mono hc hs⟩
abbrev Con (l : Launch) (Z : State) (y : MethodName) (bytes : ByteArray) (maxL : Nat) (ret : Option FieldType) (ws : List Jvm.Cond) (rm : Room) (as' : Array Value) (h : Heap) (rc rs : Nat) (Q : Option Value → Heap → List Loc → Prop) : Prop :=
  MetFree l y (head1 (Jvm.Cond.code y bytes maxL ret :: ws) rm) (fun a U => a = as' ∧ Z.Warmed39 U.vm ∧ U.heap = h) (fun _ _ _ _ _ => True) (fun _ U o U' => ∃ v L, o = .returned v ∧ Q v U'.heap L ∧ FrameEnd U o U' L rc rs)
theorem own_eh {a : Addr} {cl : Cell} (eT : T.heap = h) (q : h[a]? = some cl) : T.heap[a]? = some cl := by rw [eT]; exact q
theorem own_callS {own : String} {index : Nat} {y : MethodName} {bytes : ByteArray} {maxL : Nat} {ret : Option FieldType} {rm : Room} {as' : Array Value} {Q : Option Value → Heap → List Loc → Prop} {W : Nat} {g : JFrame} {argsL rest : List Value}
    (X : Stand p l e R s m args below meth c T locs cells slots) (hx : p.tables.exec = Jvm.exec) (hZ : Z.Warmed39 s.vm) (eT : T.heap = h) (hown : s.vm.findClass own = some m.cls)
    (w1 : (Jvm.Cond.methodLink own index y).before a0 Z = true) (w2 : (Jvm.Cond.static y).before a0 Z = true) (w3 : (Jvm.Cond.initialized y.cls).before a0 Z = true) (w4 : (Jvm.Cond.code y bytes maxL ret).before a0 Z = true)
    (hy : y.cls ≠ "java/lang/invoke/MethodHandle" ∧ y.cls ≠ "java/lang/invoke/VarHandle")
    (hM : Con l Z y bytes maxL ret [] rm as' h rm.cells rm.slots Q)
    (hf : rm.frames + 1 ≤ R.frames) (hl : W + (maxL + 11) + rm.locals ≤ R.locals) (hc : cells + rm.cells ≤ R.cells) (hs : slots + rm.slots ≤ R.slots)
    (hg : g.method = m) (hsize : g.locals.size = c.maxLocals) (has : argsL.toArray = as') (hlen : ∀ sig, parseMethodDescriptor y.desc = some sig → argsL.length = sig.parameters.length)
    (hstack : g.stack = argsL.reverse ++ rest) (hW : 2 * g.monitorRoom + (rest.map fun v => v.category).sum ≤ W) (hdg : decode c.code g.pc = .ok (.invokestatic index, 3)) :
    ∃ v T' L, Stand p l e R s m args below meth c T' (locs ++ L) (cells + rm.cells) (slots + rm.slots) ∧ Q v T'.heap L ∧ ∀ target, Steps p.tables e below (T'.setTop { g with pc := g.pc + 3, stack := v.toList ++ rest }) target → Steps p.tables e below (T.setTop g) target := by
  obtain ⟨v, _, ⟨T', L', k', n'⟩, -, X', ⟨L, hQ, l', y', z'⟩, st⟩ := Jvm.LawKit.callS X hx (y := y) hown (mvT hZ w1) (mvT hZ w2) (mvT hZ w3) (mvT hZ w4) hy (backOf (W := W) hM hZ w4 w3 hf hl) (g := g) hg hsize (argsL := argsL) (rest := rest) hlen hstack hW hdg (fun _ _ => ⟨has, eT, hc, hs⟩)
  dsimp only [Pt.U, Pt.locs, Pt.cells, Pt.slots] at X' l' y' z' st hQ
  subst l' y' z'
  exact ⟨v, T', L, X', hQ, st⟩
theorem own_callI {own : String} {index : Nat} {y : MethodName} {bytes : ByteArray} {maxL : Nat} {rm : Room} {as' : Array Value} {Q : Option Value → Heap → List Loc → Prop} {W : Nat} {g : JFrame} {a : Addr} {argsL rest : List Value}
    (X : Stand p l e R s m args below meth c T locs cells slots) (hx : p.tables.exec = Jvm.exec) (hZ : Z.Warmed39 s.vm) (eT : T.heap = h) (hown : s.vm.findClass own = some m.cls) (hyn : y.name = "<init>")
    (w1 : (Jvm.Cond.methodLink own index y).before a0 Z = true) (w2 : (Jvm.Cond.instanceMethod y).before a0 Z = true) (w3 : (Jvm.Cond.initialized y.cls).before a0 Z = true) (w4 : (Jvm.Cond.code y bytes maxL none).before a0 Z = true)
    (hy : y.cls ≠ "java/lang/invoke/MethodHandle" ∧ y.cls ≠ "java/lang/invoke/VarHandle")
    (hM : Con l Z y bytes maxL none [] rm as' h rm.cells rm.slots Q)
    (hf : rm.frames + 1 ≤ R.frames) (hl : W + (maxL + 11) + rm.locals ≤ R.locals) (hc : cells + rm.cells ≤ R.cells) (hs : slots + rm.slots ≤ R.slots)
    (hg : g.method = m) (hsize : g.locals.size = c.maxLocals) (has : (Value.ref a :: argsL).toArray = as') (hlen : ∀ sig, parseMethodDescriptor y.desc = some sig → argsL.length = sig.parameters.length)
    (hstack : g.stack = argsL.reverse ++ .ref a :: rest) (hW : 2 * g.monitorRoom + (rest.map fun v => v.category).sum ≤ W) (hdg : decode c.code g.pc = .ok (.invokespecial index, 3)) :
    ∃ v T' L, Stand p l e R s m args below meth c T' (locs ++ L) (cells + rm.cells) (slots + rm.slots) ∧ Q v T'.heap L ∧ ∀ target, Steps p.tables e below (T'.setTop { g with pc := g.pc + 3, stack := v.toList ++ rest }) target → Steps p.tables e below (T.setTop g) target := by
  obtain ⟨v, _, ⟨T', L', k', n'⟩, -, X', ⟨L, hQ, l', y', z'⟩, st⟩ := X.specialBack hx (y := y) hyn hown (mvT hZ w1) (mvT hZ w2) (mvT hZ w4) hy (backOf (W := W) hM hZ w4 w3 hf hl) (g := g) hg hsize (Steps.refl _) (a := a) (argsL := argsL) (rest := rest) hlen hstack hW hdg (fun _ _ => ⟨has, eT, hc, hs⟩)
  dsimp only [Pt.U, Pt.locs, Pt.cells, Pt.slots] at X' l' y' z' st hQ
  subst l' y' z'
  exact ⟨v, T', L, X', hQ, fun _ k => st.trans k⟩
theorem own_mvMN {own host : String} {index : Nat} {y : MethodName} (hZ : Z.Warmed39 s.vm) (w : (Jvm.Cond.methodLinkNest own index y host).before a0 Z = true) : (Jvm.Cond.methodLinkNest own index y host).before args s = true := (Cond.methodLinkNest_wide hZ w :)
theorem own_callN {own host : String} {index : Nat} {y : MethodName} {bytes : ByteArray} {maxL : Nat} {rm : Room} {as' : Array Value} {Q : Option Value → Heap → List Loc → Prop} {W : Nat} {g : JFrame} {a : Addr} {argsL rest : List Value}
    (X : Stand p l e R s m args below meth c T locs cells slots) (hx : p.tables.exec = Jvm.exec) (hZ : Z.Warmed39 s.vm) (eT : T.heap = h) (hown : s.vm.findClass own = some m.cls) (hyn : y.name = "<init>")
    (w1 : (Jvm.Cond.methodLinkNest own index y host).before a0 Z = true) (w2 : (Jvm.Cond.instanceMethod y).before a0 Z = true) (w3 : (Jvm.Cond.initialized y.cls).before a0 Z = true) (w4 : (Jvm.Cond.code y bytes maxL none).before a0 Z = true)
    (hy : y.cls ≠ "java/lang/invoke/MethodHandle" ∧ y.cls ≠ "java/lang/invoke/VarHandle")
    (hM : Con l Z y bytes maxL none [] rm as' h rm.cells rm.slots Q)
    (hf : rm.frames + 1 ≤ R.frames) (hl : W + (maxL + 11) + rm.locals ≤ R.locals) (hc : cells + rm.cells ≤ R.cells) (hs : slots + rm.slots ≤ R.slots)
    (hg : g.method = m) (hsize : g.locals.size = c.maxLocals) (has : (Value.ref a :: argsL).toArray = as') (hlen : ∀ sig, parseMethodDescriptor y.desc = some sig → argsL.length = sig.parameters.length)
    (hstack : g.stack = argsL.reverse ++ .ref a :: rest) (hW : 2 * g.monitorRoom + (rest.map fun v => v.category).sum ≤ W) (hdg : decode c.code g.pc = .ok (.invokespecial index, 3)) :
    ∃ v T' L, Stand p l e R s m args below meth c T' (locs ++ L) (cells + rm.cells) (slots + rm.slots) ∧ Q v T'.heap L ∧ ∀ target, Steps p.tables e below (T'.setTop { g with pc := g.pc + 3, stack := v.toList ++ rest }) target → Steps p.tables e below (T.setTop g) target := by
  obtain ⟨v, _, ⟨T', L', k', n'⟩, -, X', ⟨L, hQ, l', y', z'⟩, st⟩ := X.specialBackNest hx (y := y) hyn hown (own_mvMN hZ w1) (mvT hZ w2) (mvT hZ w4) hy (backOf (W := W) hM hZ w4 w3 hf hl) (g := g) hg hsize (Steps.refl _) (a := a) (argsL := argsL) (rest := rest) hlen hstack hW hdg (fun _ _ => ⟨has, eT, hc, hs⟩)
  dsimp only [Pt.U, Pt.locs, Pt.cells, Pt.slots] at X' l' y' z' st hQ
  subst l' y' z'
  exact ⟨v, T', L, X', hQ, fun _ k => st.trans k⟩
theorem own_callV {own C : String} {index : Nat} {y z : MethodName} {bytes : ByteArray} {maxL : Nat} {ret : Option FieldType} {rm : Room} {as' : Array Value} {Q : Option Value → Heap → List Loc → Prop} {W : Nat} {g : JFrame} {a : Addr} {argsL rest : List Value}
    (X : Stand p l e R s m args below meth c T locs cells slots) (hx : p.tables.exec = Jvm.exec) (hZ : Z.Warmed39 s.vm) (eT : T.heap = h) (hown : s.vm.findClass own = some m.cls)
    (w1 : (Jvm.Cond.methodLink own index y).before a0 Z = true) (w2 : (Jvm.Cond.declares y).before a0 Z = true) (nf : NotFace s y) (w5 : (Jvm.Cond.selects C y z).before a0 Z = true) (w6 : (Jvm.Cond.instanceMethod z).before a0 Z = true) (w3 : (Jvm.Cond.initialized z.cls).before a0 Z = true) (w4 : (Jvm.Cond.code z bytes maxL ret).before a0 Z = true)
    (hy : y.cls ≠ "java/lang/invoke/MethodHandle" ∧ y.cls ≠ "java/lang/invoke/VarHandle") (E : Exa Z h a C)
    (hM : Con l Z z bytes maxL ret [] rm as' h rm.cells rm.slots Q)
    (hf : rm.frames + 1 ≤ R.frames) (hl : W + (maxL + 11) + rm.locals ≤ R.locals) (hc : cells + rm.cells ≤ R.cells) (hs : slots + rm.slots ≤ R.slots)
    (hg : g.method = m) (hsize : g.locals.size = c.maxLocals) (has : (Value.ref a :: argsL).toArray = as') (hlen : ∀ sig, parseMethodDescriptor y.desc = some sig → argsL.length = sig.parameters.length)
    (hstack : g.stack = argsL.reverse ++ .ref a :: rest) (hW : 2 * g.monitorRoom + (rest.map fun v => v.category).sum ≤ W) (hdg : decode c.code g.pc = .ok (.invokevirtual index, 3)) :
    ∃ v T' L, Stand p l e R s m args below meth c T' (locs ++ L) (cells + rm.cells) (slots + rm.slots) ∧ Q v T'.heap L ∧ ∀ target, Steps p.tables e below (T'.setTop { g with pc := g.pc + 3, stack := v.toList ++ rest }) target → Steps p.tables e below (T.setTop g) target := by
  obtain ⟨cq, kq, qa, qb, qc⟩ := isOf hZ eT E
  obtain ⟨v, _, ⟨T', L', k', n'⟩, -, X', ⟨L, hQ, l', y', z'⟩, st⟩ := X.virtualBack hx (y := y) (z := z) hown (mvT hZ w1) (mvT hZ w2) nf (mvT hZ w5) (mvT hZ w6) hy (backOf (W := W) hM hZ w4 w3 hf hl) qa qc (g := g) hg hsize (Steps.refl _) (argsL := argsL) (rest := rest) hlen hstack hW hdg (fun _ _ => ⟨has, eT, hc, hs⟩)
  dsimp only [Pt.U, Pt.locs, Pt.cells, Pt.slots] at X' l' y' z' st hQ
  subst l' y' z'
  exact ⟨v, T', L, X', hQ, fun _ k => st.trans k⟩
theorem own_sta_keep {C n d : String} {w : Value} {h h' : Heap} {ws : List Addr} (F : Sta Z h C n d w) (K : Keep h h' ws) (q : ∀ x ∈ ws, ∃ cl : Cell, h[x]? = some cl ∧ cl.vm.isStatics = false) : Sta Z h' C n d w := by
  obtain ⟨cf, i, k, f, st, cell, h1, h2, h3, h4, h5, h6, h7⟩ := F
  refine ⟨cf, i, k, f, st, cell, h1, h2, h3, h4, K.2.1 st cell h5 fun z => ?_, h6, h7⟩
  obtain ⟨cl, q1, q2⟩ := q st z
  cases h5.symm.trans q1
  rw [h6] at q2; cases q2
theorem own_exa_plain {a : Addr} {C : String} {h : Heap} (F : Exa Z h a C) : ∃ cl : Cell, h[a]? = some cl ∧ cl.vm.isStatics = false := by
  obtain ⟨cell, k, h1, -, -, h4, -⟩ := F; exact ⟨cell, h1, h4⟩
theorem own_arv_plain {a : Addr} {k : ClassId} {ty : FieldType} {z : Int32} {vs : List Value} {dv : Value} {h : Heap} (F : Arv Z h a k ty z vs dv) : ∃ cl : Cell, h[a]? = some cl ∧ cl.vm.isStatics = false := by
  obtain ⟨cell, A, -⟩ := F; exact ⟨cell, A.1, A.plain⟩
theorem own_getR {own O n d : String} {index : Nat} {a : Addr} {v : Value} {g : JFrame} {rest : List Value} (X : Stand p l e R s m args below meth c T locs cells slots) (hx : p.tables.exec = Jvm.exec) (hZ : Z.Warmed39 s.vm) (hown : s.vm.findClass own = some m.cls)
    (w : (Jvm.Cond.fieldRef own index O n d).before a0 Z = true) (eT : T.heap = h) (F : Fld Z h a O n d v) (hg : g.method = m) (hs : g.stack = .ref a :: rest) (hd : decode c.code g.pc = .ok (.getfield index, 3)) :
    ∀ target, Steps p.tables e below (T.setTop { g with pc := g.pc + 3, stack := v :: rest }) target → Steps p.tables e below (T.setTop g) target := by
  have hU : Z.Warmed39 T.vm := wtrans hZ X.warmed
  have w2 := Cond.fieldRef_warmed39 hU w
  have hc : (Z.setVm T.vm).vm.findClass own = some m.cls := by
    show T.vm.findClass own = some m.cls
    rw [X.warmed.alike.findClass]; exact hown
  obtain ⟨c1, k1, i1, f1, hf1, hr⟩ := Cond.fieldRef_spec hc w2
  obtain ⟨cell, cf, k, i, f, h1, h2, h3, h4, -, -, h7⟩ := F
  obtain ⟨k', hi, -⟩ := State.fieldFound?_setVm (s := Z) hU.alike h2
  cases hi.symm.trans hf1
  intro t kk
  exact (X.getfieldR hx hg hr h3 hs (by rw [eT]; exact h1) h4 h7 hd (Steps.refl _)).trans kk
theorem own_callP {own C : String} {index : Nat} {y : MethodName} {bytes : ByteArray} {maxL : Nat} {ret : Option FieldType} {rm : Room} {as' : Array Value} {Q : Option Value → Heap → List Loc → Prop} {W : Nat} {g : JFrame} {a : Addr} {argsL rest : List Value}
    (X : Stand p l e R s m args below meth c T locs cells slots) (hx : p.tables.exec = Jvm.exec) (hZ : Z.Warmed39 s.vm) (eT : T.heap = h) (hown : s.vm.findClass own = some m.cls)
    (w1 : (Jvm.Cond.methodLink own index y).before a0 Z = true) (w2 : (Jvm.Cond.instanceMethod y).before a0 Z = true) (w5 : (Jvm.Cond.selects y.cls y y).before a0 Z = true) (w6 : (Jvm.Cond.privateMethod y).before a0 Z = true) (w3 : (Jvm.Cond.initialized y.cls).before a0 Z = true) (w4 : (Jvm.Cond.code y bytes maxL ret).before a0 Z = true)
    (hy : y.cls ≠ "java/lang/invoke/MethodHandle" ∧ y.cls ≠ "java/lang/invoke/VarHandle") (E : Exa Z h a C)
    (hM : Con l Z y bytes maxL ret [] rm as' h rm.cells rm.slots Q)
    (hf : rm.frames + 1 ≤ R.frames) (hl : W + (maxL + 11) + rm.locals ≤ R.locals) (hc : cells + rm.cells ≤ R.cells) (hs : slots + rm.slots ≤ R.slots)
    (hg : g.method = m) (hsize : g.locals.size = c.maxLocals) (has : (Value.ref a :: argsL).toArray = as') (hlen : ∀ sig, parseMethodDescriptor y.desc = some sig → argsL.length = sig.parameters.length)
    (hstack : g.stack = argsL.reverse ++ .ref a :: rest) (hW : 2 * g.monitorRoom + (rest.map fun v => v.category).sum ≤ W) (hdg : decode c.code g.pc = .ok (.invokevirtual index, 3)) :
    ∃ v T' L, Stand p l e R s m args below meth c T' (locs ++ L) (cells + rm.cells) (slots + rm.slots) ∧ Q v T'.heap L ∧ ∀ target, Steps p.tables e below (T'.setTop { g with pc := g.pc + 3, stack := v.toList ++ rest }) target → Steps p.tables e below (T.setTop g) target := by
  obtain ⟨cq, q1, q2⟩ := E.cell
  obtain ⟨v, _, ⟨T', L', k', n'⟩, -, X', ⟨L, hQ, l', y', z'⟩, st⟩ := X.privateBack hx (y := y) hown (mvT hZ w1) (mvT hZ w2) (mvT hZ w5) (Cond.privateMethod_at (mvP hZ w6 (args := #[]))) (mvT hZ w4) hy (backOf (W := W) hM hZ w4 w3 hf hl) (g := g) hg hsize (Steps.refl _) (a := a) (by rw [eT]; exact q1) q2 (argsL := argsL) (rest := rest) hlen hstack hW hdg (fun _ _ => ⟨has, eT, hc, hs⟩)
  dsimp only [Pt.U, Pt.locs, Pt.cells, Pt.slots] at X' l' y' z' st hQ
  subst l' y' z'
  exact ⟨v, T', L, X', hQ, fun _ k => st.trans k⟩
theorem own_callF {own C : String} {index count : Nat} {xi y : MethodName} {bytes : ByteArray} {maxL : Nat} {ret : Option FieldType} {rm : Room} {as' : Array Value} {Q : Option Value → Heap → List Loc → Prop} {W : Nat} {g : JFrame} {a : Addr} {argsL rest : List Value}
    (X : Stand p l e R s m args below meth c T locs cells slots) (hx : p.tables.exec = Jvm.exec) (hZ : Z.Warmed39 s.vm) (eT : T.heap = h) (hown : s.vm.findClass own = some m.cls)
    (w1 : (Jvm.Cond.methodLink own index xi).before a0 Z = true) (w2 : (Jvm.Cond.declares xi).before a0 Z = true) (w7 : (Jvm.Cond.interfaceMethod xi.cls xi.cls xi.name xi.desc).before args s = true) (w5 : (Jvm.Cond.selects C xi y).before a0 Z = true) (w6 : (Jvm.Cond.instanceMethod y).before a0 Z = true)
    (w8 : (Jvm.Cond.publicMethod y).before a0 Z = true) (w9 : (Jvm.Cond.unhidden C xi.name xi.desc).before a0 Z = true) (w10 : (Jvm.Cond.castable C xi.cls).before a0 Z = true) (w3 : (Jvm.Cond.initialized y.cls).before a0 Z = true) (w4 : (Jvm.Cond.code y bytes maxL ret).before a0 Z = true)
    (hy : xi.cls ≠ "java/lang/invoke/MethodHandle" ∧ xi.cls ≠ "java/lang/invoke/VarHandle") (E : Exa Z h a C)
    (hM : Con l Z y bytes maxL ret [] rm as' h rm.cells rm.slots Q)
    (hf : rm.frames + 1 ≤ R.frames) (hl : W + (maxL + 11) + rm.locals ≤ R.locals) (hc : cells + rm.cells ≤ R.cells) (hs : slots + rm.slots ≤ R.slots)
    (hg : g.method = m) (hsize : g.locals.size = c.maxLocals) (has : (Value.ref a :: argsL).toArray = as') (hlen : ∀ sig, parseMethodDescriptor xi.desc = some sig → argsL.length = sig.parameters.length)
    (hstack : g.stack = argsL.reverse ++ .ref a :: rest) (hW : 2 * g.monitorRoom + (rest.map fun v => v.category).sum ≤ W) (hdg : decode c.code g.pc = .ok (.invokeinterface index count, 5)) :
    ∃ v T' L, Stand p l e R s m args below meth c T' (locs ++ L) (cells + rm.cells) (slots + rm.slots) ∧ Q v T'.heap L ∧ ∀ target, Steps p.tables e below (T'.setTop { g with pc := g.pc + 5, stack := v.toList ++ rest }) target → Steps p.tables e below (T.setTop g) target := by
  obtain ⟨cq, kq, qa, qb, qc⟩ := isOf hZ eT E
  obtain ⟨v, _, ⟨T', L', k', n'⟩, -, X', ⟨L, hQ, l', y', z'⟩, st⟩ := X.interfaceBack hx (xi := xi) (y := y) hown (mvT hZ w1) (mvT hZ w2) w7 (mvT hZ w5) (mvT hZ w6) (mvT hZ w8) (mvT hZ w9) (mvT hZ w10) hy (backOf (W := W) hM hZ w4 w3 hf hl) qa qb qc (g := g) hg hsize (Steps.refl _) (argsL := argsL) (rest := rest) hlen hstack hW hdg (fun _ _ => ⟨has, eT, hc, hs⟩)
  dsimp only [Pt.U, Pt.locs, Pt.cells, Pt.slots] at X' l' y' z' st hQ
  subst l' y' z'
  exact ⟨v, T', L, X', hQ, fun _ k => st.trans k⟩
theorem own_ns_root {O K : String} {n : Nat} (w : (Jvm.Cond.noSuperclass O).before a0 Z = true) (wk : (Jvm.Cond.instantiable K n).before a0 Z = true) (hn : O ≠ K) : NS Z O K := by
  obtain ⟨c, k, h1, h2, h3, -, -⟩ := Cond.noSuperclass_spec w
  obtain ⟨t, kt, g1, -⟩ := Cond.instantiable_spec wk
  have ne := ids_ne h1 g1 hn
  refine ⟨c, t, h1, g1, fun fuel => ?_⟩
  cases fuel with
  | zero => rfl
  | succ f => simp [Vm.isSubclassAux, ne, h2, h3]
theorem own_ns_no {C S K : String} {n : Nat} (w : (Jvm.Cond.superclass C S).before a0 Z = true) (wk : (Jvm.Cond.instantiable K n).before a0 Z = true) (hN : NS Z C K) (hn : C ≠ K) : ∃ c t, Z.vm.findClass C = some c ∧ Z.vm.findClass K = some t ∧ Z.vm.assignable c t = false := by
  obtain ⟨c, t, h0, g0, n3⟩ := hN
  obtain ⟨p, k, kp, h1, h2, h3, h4, h5, -, h7⟩ := Cond.superclass_spec h0 w
  obtain ⟨t', kt, g1, g2, g3, g4, -⟩ := Cond.instantiable_spec wk
  cases g0.symm.trans g1
  have g7 : kt.isInterface = false := by
    cases hq : kt.isInterface
    · rfl
    · simp [hq] at g4
  have ne := ids_ne h0 g0 hn
  refine ⟨c, t, h0, g0, ?_⟩
  show Z.vm.assignableAux (255 + 1) c t = false
  simp [Vm.assignableAux, ne, h2, g2, h5, g3, g7, Vm.isSubclass, n3]
theorem own_ldcM {own C : String} {index : Nat} {mr : Addr} {g : JFrame} (X : Stand p l e R s m args below meth c T locs cells slots) (hx : p.tables.exec = Jvm.exec) (hZ : Z.Warmed39 s.vm) (hown : s.vm.findClass own = some m.cls) (w : (Jvm.Cond.classLink own index C).before a0 Z = true) (eT : T.heap = h) (M : Mir Z C mr)
    (hg : g.method = m) (hd : decode c.code g.pc = .ok (.ldc index, 2)) :
    ∃ T', Stand p l e R s m args below meth c T' locs cells slots ∧ T'.heap = h ∧ ∀ target, Steps p.tables e below (T'.setTop { g with pc := g.pc + 2, stack := .ref mr :: g.stack }) target → Steps p.tables e below (T.setTop g) target := by
  obtain ⟨cc, kc, m1, m2, m3, -⟩ := M
  obtain ⟨k', q, ek⟩ := hZ.alike.2.2 _ _ m2
  have ev : (Term.mirror C).eval args s none [] s = some (.ref mr) := by
    have h1 : s.vm.findClass C = some cc := by rw [hZ.alike.findClass]; exact m1
    have h2 : k'.mirror = some mr := by rw [ek]; exact m3
    simp [Term.eval, h1, q, h2]
  obtain ⟨vm', X', st⟩ := X.ldcMirror hx hown (mv hZ w) ev hg hd
  exact ⟨_, X', eT, st⟩
end OwnKit
section OwnStart
variable {args : Array Value} {Z : State}
theorem own_eq_int {t : Term} {k : Int32} (h : (Jvm.Cond.eq t (.int k)).value args Z none Z [] = some true) : t.eval args Z none [] Z = some (.int k) := by
  obtain ⟨a, b, h1, h2, h3, h4⟩ := cmp_v (Or.inl h)
  have hb : b = .int k := Option.some.inj (h2.symm.trans (Term.int_eval k))
  subst hb
  obtain ⟨z, rfl⟩ : ∃ z, a = .int z := h4
  have q : z = k := by simpa [Cond.value, h1, h2] using h
  rw [h1, q]
theorem own_eq_ref {t u : Term} {a : Addr} (h : (Jvm.Cond.eq t u).value args Z none Z [] = some true) (hu : u.eval args Z none [] Z = some (.ref a)) : t.eval args Z none [] Z = some (.ref a) := by
  obtain ⟨x, y, h1, h2, h3, h4⟩ := cmp_v (Or.inl h)
  have hb : y = .ref a := Option.some.inj (h2.symm.trans hu)
  subst hb
  obtain ⟨-, q⟩ : Value.isRef (.ref a) = true ∧ x.isRef = true := h4
  have e := eq_R (a := t) (b := u) h1 h2 q rfl
  rw [e] at h
  have r : x = .ref a := by simpa using h
  rw [h1, r]
theorem own_ne0 {t : Term} {z : Int32} (ht : t.eval args Z none [] Z = some (.int z)) (h : (Jvm.Cond.not (Jvm.Cond.eq t (.int 0))).value args Z none Z [] = some true) : z ≠ 0 := by
  have q := not_v h
  intro e
  subst e
  simp [Cond.value, ht, Term.eval] at q
theorem own_fld {t : Term} {C n d : String} {a : Addr} {v : Value} (ht : t.eval args Z none [] Z = some (.ref a)) (h : (Term.field t C n d).eval args Z none [] Z = some v) : Fld Z Z.heap a C n d v := Fld.start ((fld_at ht).symm.trans h)
theorem own_len {t : Term} {a : Addr} {c : Cell} {k : Int32} {ty : FieldType} (ht : t.eval args Z none [] Z = some (.ref a)) (A : Arr Z Z.heap a c ty) (h : (Term.length t).eval args Z none [] Z = some (.int k)) : c.slots.size < 2 ^ 31 ∧ c.slots.size.toInt32 = k := by
  have q : Z.arrayAt? a = some c := A.fin (Vm.Alike.refl _)
  by_cases hl : c.slots.size < 2 ^ 31
  · have e := (len_f (t := t) ht q hl).symm.trans h
    exact ⟨hl, by simpa using e⟩
  · exfalso
    have hl' : ¬ c.slots.size < 2147483648 := hl
    simp [Term.eval, ht, q, hl'] at h
theorem own_slot {t : Term} {a : Addr} {c : Cell} {ty : FieldType} {v : Value} {j : Int32} (ht : t.eval args Z none [] Z = some (.ref a)) (A : Arr Z Z.heap a c ty) (h : (Term.elem t (.int j)).eval args Z none [] Z = some v) : c.slots[j.toNatClampNeg]? = some v := (elem_in h ht (Term.int_eval j) A.1).2
end OwnStart
theorem djdk_22_method_1_code_0 : decode jdk_22_method_1_code 0 = .ok (.aload_n 0, 1) := by decide +kernel
theorem djdk_22_method_1_code_1 : decode jdk_22_method_1_code 1 = .ok (.invokespecial 1, 3) := by decide +kernel
theorem djdk_22_method_1_code_4 : decode jdk_22_method_1_code 4 = .ok (.return_, 1) := by decide +kernel
theorem djdk_29_method_65_code_0 : decode jdk_29_method_65_code 0 = .ok (.iload_n 0, 1) := by decide +kernel
theorem djdk_29_method_65_code_1 : decode jdk_29_method_65_code 1 = .ok (.iload_n 1, 1) := by decide +kernel
theorem djdk_29_method_65_code_2 : decode jdk_29_method_65_code 2 = .ok (.if_icmp .lt 7, 3) := by decide +kernel
theorem djdk_29_method_65_code_5 : decode jdk_29_method_65_code 5 = .ok (.iload_n 0, 1) := by decide +kernel
theorem djdk_29_method_65_code_6 : decode jdk_29_method_65_code 6 = .ok (.goto 4, 3) := by decide +kernel
theorem djdk_29_method_65_code_10 : decode jdk_29_method_65_code 10 = .ok (.ireturn, 1) := by decide +kernel
theorem djdk_29_method_69_code_0 : decode jdk_29_method_69_code 0 = .ok (.iload_n 0, 1) := by decide +kernel
theorem djdk_29_method_69_code_1 : decode jdk_29_method_69_code 1 = .ok (.iload_n 1, 1) := by decide +kernel
theorem djdk_29_method_69_code_2 : decode jdk_29_method_69_code 2 = .ok (.if_icmp .gt 7, 3) := by decide +kernel
theorem djdk_29_method_69_code_9 : decode jdk_29_method_69_code 9 = .ok (.iload_n 1, 1) := by decide +kernel
theorem djdk_29_method_69_code_10 : decode jdk_29_method_69_code 10 = .ok (.ireturn, 1) := by decide +kernel
theorem djdk_31_method_10_code_0 : decode jdk_31_method_10_code 0 = .ok (.aload_n 0, 1) := by decide +kernel
theorem djdk_31_method_10_code_1 : decode jdk_31_method_10_code 1 = .ok (.ifnonnull 11, 3) := by decide +kernel
theorem djdk_31_method_10_code_12 : decode jdk_31_method_10_code 12 = .ok (.aload_n 0, 1) := by decide +kernel
theorem djdk_31_method_10_code_13 : decode jdk_31_method_10_code 13 = .ok (.areturn, 1) := by decide +kernel
theorem djdk_38_method_16_code_0 : decode jdk_38_method_16_code 0 = .ok (.aload_n 0, 1) := by decide +kernel
theorem djdk_38_method_16_code_1 : decode jdk_38_method_16_code 1 = .ok (.getfield 9, 3) := by decide +kernel
theorem djdk_38_method_16_code_4 : decode jdk_38_method_16_code 4 = .ok (.aload_n 0, 1) := by decide +kernel
theorem djdk_38_method_16_code_5 : decode jdk_38_method_16_code 5 = .ok (.getfield 48, 3) := by decide +kernel
theorem djdk_38_method_16_code_8 : decode jdk_38_method_16_code 8 = .ok (.invokestatic 66, 3) := by decide +kernel
theorem djdk_38_method_16_code_11 : decode jdk_38_method_16_code 11 = .ok (.areturn, 1) := by decide +kernel
theorem djdk_38_method_24_code_0 : decode jdk_38_method_24_code 0 = .ok (.iload_n 3, 1) := by decide +kernel
theorem djdk_38_method_24_code_1 : decode jdk_38_method_24_code 1 = .ok (.aload_n 2, 1) := by decide +kernel
theorem djdk_38_method_24_code_2 : decode jdk_38_method_24_code 2 = .ok (.arraylength, 1) := by decide +kernel
theorem djdk_38_method_24_code_3 : decode jdk_38_method_24_code 3 = .ok (.if_icmp .ne 8, 3) := by decide +kernel
theorem djdk_38_method_24_code_6 : decode jdk_38_method_24_code 6 = .ok (.aload_n 0, 1) := by decide +kernel
theorem djdk_38_method_24_code_7 : decode jdk_38_method_24_code 7 = .ok (.invokevirtual 129, 3) := by decide +kernel
theorem djdk_38_method_24_code_10 : decode jdk_38_method_24_code 10 = .ok (.astore_n 2, 1) := by decide +kernel
theorem djdk_38_method_24_code_11 : decode jdk_38_method_24_code 11 = .ok (.aload_n 2, 1) := by decide +kernel
theorem djdk_38_method_24_code_12 : decode jdk_38_method_24_code 12 = .ok (.iload_n 3, 1) := by decide +kernel
theorem djdk_38_method_24_code_13 : decode jdk_38_method_24_code 13 = .ok (.aload_n 1, 1) := by decide +kernel
theorem djdk_38_method_24_code_14 : decode jdk_38_method_24_code 14 = .ok (.aastore, 1) := by decide +kernel
theorem djdk_38_method_24_code_15 : decode jdk_38_method_24_code 15 = .ok (.aload_n 0, 1) := by decide +kernel
theorem djdk_38_method_24_code_16 : decode jdk_38_method_24_code 16 = .ok (.iload_n 3, 1) := by decide +kernel
theorem djdk_38_method_24_code_17 : decode jdk_38_method_24_code 17 = .ok (.iconst 1, 1) := by decide +kernel
theorem djdk_38_method_24_code_18 : decode jdk_38_method_24_code 18 = .ok (.iadd, 1) := by decide +kernel
theorem djdk_38_method_24_code_19 : decode jdk_38_method_24_code 19 = .ok (.putfield 48, 3) := by decide +kernel
theorem djdk_38_method_24_code_22 : decode jdk_38_method_24_code 22 = .ok (.return_, 1) := by decide +kernel
theorem djdk_38_method_25_code_0 : decode jdk_38_method_25_code 0 = .ok (.aload_n 0, 1) := by decide +kernel
theorem djdk_38_method_25_code_1 : decode jdk_38_method_25_code 1 = .ok (.dup, 1) := by decide +kernel
theorem djdk_38_method_25_code_2 : decode jdk_38_method_25_code 2 = .ok (.getfield 63, 3) := by decide +kernel
theorem djdk_38_method_25_code_5 : decode jdk_38_method_25_code 5 = .ok (.iconst 1, 1) := by decide +kernel
theorem djdk_38_method_25_code_6 : decode jdk_38_method_25_code 6 = .ok (.iadd, 1) := by decide +kernel
theorem djdk_38_method_25_code_7 : decode jdk_38_method_25_code 7 = .ok (.putfield 63, 3) := by decide +kernel
theorem djdk_38_method_25_code_10 : decode jdk_38_method_25_code 10 = .ok (.aload_n 0, 1) := by decide +kernel
theorem djdk_38_method_25_code_11 : decode jdk_38_method_25_code 11 = .ok (.aload_n 1, 1) := by decide +kernel
theorem djdk_38_method_25_code_12 : decode jdk_38_method_25_code 12 = .ok (.aload_n 0, 1) := by decide +kernel
theorem djdk_38_method_25_code_13 : decode jdk_38_method_25_code 13 = .ok (.getfield 9, 3) := by decide +kernel
theorem djdk_38_method_25_code_16 : decode jdk_38_method_25_code 16 = .ok (.aload_n 0, 1) := by decide +kernel
theorem djdk_38_method_25_code_17 : decode jdk_38_method_25_code 17 = .ok (.getfield 48, 3) := by decide +kernel
theorem djdk_38_method_25_code_20 : decode jdk_38_method_25_code 20 = .ok (.invokevirtual 131, 3) := by decide +kernel
theorem djdk_38_method_25_code_23 : decode jdk_38_method_25_code 23 = .ok (.iconst 1, 1) := by decide +kernel
theorem djdk_38_method_25_code_24 : decode jdk_38_method_25_code 24 = .ok (.ireturn, 1) := by decide +kernel
theorem djdk_38_method_2_code_0 : decode jdk_38_method_2_code 0 = .ok (.aload_n 0, 1) := by decide +kernel
theorem djdk_38_method_2_code_1 : decode jdk_38_method_2_code 1 = .ok (.invokespecial 1, 3) := by decide +kernel
theorem djdk_38_method_2_code_4 : decode jdk_38_method_2_code 4 = .ok (.aload_n 0, 1) := by decide +kernel
theorem djdk_38_method_2_code_5 : decode jdk_38_method_2_code 5 = .ok (.getstatic 39, 3) := by decide +kernel
theorem djdk_38_method_2_code_8 : decode jdk_38_method_2_code 8 = .ok (.putfield 9, 3) := by decide +kernel
theorem djdk_38_method_2_code_11 : decode jdk_38_method_2_code 11 = .ok (.return_, 1) := by decide +kernel
theorem djdk_38_method_6_code_0 : decode jdk_38_method_6_code 0 = .ok (.aload_n 0, 1) := by decide +kernel
theorem djdk_38_method_6_code_1 : decode jdk_38_method_6_code 1 = .ok (.getfield 9, 3) := by decide +kernel
theorem djdk_38_method_6_code_4 : decode jdk_38_method_6_code 4 = .ok (.arraylength, 1) := by decide +kernel
theorem djdk_38_method_6_code_5 : decode jdk_38_method_6_code 5 = .ok (.istore_n 2, 1) := by decide +kernel
theorem djdk_38_method_6_code_6 : decode jdk_38_method_6_code 6 = .ok (.iload_n 2, 1) := by decide +kernel
theorem djdk_38_method_6_code_7 : decode jdk_38_method_6_code 7 = .ok (.ifCond .gt 13, 3) := by decide +kernel
theorem djdk_38_method_6_code_10 : decode jdk_38_method_6_code 10 = .ok (.aload_n 0, 1) := by decide +kernel
theorem djdk_38_method_6_code_11 : decode jdk_38_method_6_code 11 = .ok (.getfield 9, 3) := by decide +kernel
theorem djdk_38_method_6_code_14 : decode jdk_38_method_6_code 14 = .ok (.getstatic 39, 3) := by decide +kernel
theorem djdk_38_method_6_code_17 : decode jdk_38_method_6_code 17 = .ok (.if_acmp .eq 28, 3) := by decide +kernel
theorem djdk_38_method_6_code_45 : decode jdk_38_method_6_code 45 = .ok (.aload_n 0, 1) := by decide +kernel
theorem djdk_38_method_6_code_46 : decode jdk_38_method_6_code 46 = .ok (.bipush 10, 2) := by decide +kernel
theorem djdk_38_method_6_code_48 : decode jdk_38_method_6_code 48 = .ok (.iload_n 1, 1) := by decide +kernel
theorem djdk_38_method_6_code_49 : decode jdk_38_method_6_code 49 = .ok (.invokestatic 79, 3) := by decide +kernel
theorem djdk_38_method_6_code_52 : decode jdk_38_method_6_code 52 = .ok (.anewarray 7, 3) := by decide +kernel
theorem djdk_38_method_6_code_55 : decode jdk_38_method_6_code 55 = .ok (.dup_x1, 1) := by decide +kernel
theorem djdk_38_method_6_code_56 : decode jdk_38_method_6_code 56 = .ok (.putfield 9, 3) := by decide +kernel
theorem djdk_38_method_6_code_59 : decode jdk_38_method_6_code 59 = .ok (.areturn, 1) := by decide +kernel
theorem djdk_38_method_7_code_0 : decode jdk_38_method_7_code 0 = .ok (.aload_n 0, 1) := by decide +kernel
theorem djdk_38_method_7_code_1 : decode jdk_38_method_7_code 1 = .ok (.aload_n 0, 1) := by decide +kernel
theorem djdk_38_method_7_code_2 : decode jdk_38_method_7_code 2 = .ok (.getfield 48, 3) := by decide +kernel
theorem djdk_38_method_7_code_5 : decode jdk_38_method_7_code 5 = .ok (.iconst 1, 1) := by decide +kernel
theorem djdk_38_method_7_code_6 : decode jdk_38_method_7_code 6 = .ok (.iadd, 1) := by decide +kernel
theorem djdk_38_method_7_code_7 : decode jdk_38_method_7_code 7 = .ok (.invokevirtual 69, 3) := by decide +kernel
theorem djdk_38_method_7_code_10 : decode jdk_38_method_7_code 10 = .ok (.areturn, 1) := by decide +kernel
theorem djdk_38_method_9_code_0 : decode jdk_38_method_9_code 0 = .ok (.aload_n 0, 1) := by decide +kernel
theorem djdk_38_method_9_code_1 : decode jdk_38_method_9_code 1 = .ok (.getfield 48, 3) := by decide +kernel
theorem djdk_38_method_9_code_4 : decode jdk_38_method_9_code 4 = .ok (.ifCond .ne 7, 3) := by decide +kernel
theorem djdk_38_method_9_code_11 : decode jdk_38_method_9_code 11 = .ok (.iconst 0, 1) := by decide +kernel
theorem djdk_38_method_9_code_12 : decode jdk_38_method_9_code 12 = .ok (.ireturn, 1) := by decide +kernel
theorem djdk_39_method_1_code_0 : decode jdk_39_method_1_code 0 = .ok (.aload_n 0, 1) := by decide +kernel
theorem djdk_39_method_1_code_1 : decode jdk_39_method_1_code 1 = .ok (.invokespecial 1, 3) := by decide +kernel
theorem djdk_39_method_1_code_4 : decode jdk_39_method_1_code 4 = .ok (.aload_n 0, 1) := by decide +kernel
theorem djdk_39_method_1_code_5 : decode jdk_39_method_1_code 5 = .ok (.iconst 0, 1) := by decide +kernel
theorem djdk_39_method_1_code_6 : decode jdk_39_method_1_code 6 = .ok (.putfield 7, 3) := by decide +kernel
theorem djdk_39_method_1_code_9 : decode jdk_39_method_1_code 9 = .ok (.return_, 1) := by decide +kernel
theorem djdk_40_method_47_code_0 : decode jdk_40_method_47_code 0 = .ok (.aload_n 0, 1) := by decide +kernel
theorem djdk_40_method_47_code_1 : decode jdk_40_method_47_code 1 = .ok (.arraylength, 1) := by decide +kernel
theorem djdk_40_method_47_code_2 : decode jdk_40_method_47_code 2 = .ok (.tableswitch 57 0 2 #[26, 32, 43], 26) := by decide +kernel
theorem djdk_40_method_47_code_34 : decode jdk_40_method_47_code 34 = .ok (.new 96, 3) := by decide +kernel
theorem djdk_40_method_47_code_37 : decode jdk_40_method_47_code 37 = .ok (.dup, 1) := by decide +kernel
theorem djdk_40_method_47_code_38 : decode jdk_40_method_47_code 38 = .ok (.aload_n 0, 1) := by decide +kernel
theorem djdk_40_method_47_code_39 : decode jdk_40_method_47_code 39 = .ok (.iconst 0, 1) := by decide +kernel
theorem djdk_40_method_47_code_40 : decode jdk_40_method_47_code 40 = .ok (.aaload, 1) := by decide +kernel
theorem djdk_40_method_47_code_41 : decode jdk_40_method_47_code 41 = .ok (.invokespecial 98, 3) := by decide +kernel
theorem djdk_40_method_47_code_44 : decode jdk_40_method_47_code 44 = .ok (.areturn, 1) := by decide +kernel
theorem djdk_40_method_47_code_45 : decode jdk_40_method_47_code 45 = .ok (.new 96, 3) := by decide +kernel
theorem djdk_40_method_47_code_48 : decode jdk_40_method_47_code 48 = .ok (.dup, 1) := by decide +kernel
theorem djdk_40_method_47_code_49 : decode jdk_40_method_47_code 49 = .ok (.aload_n 0, 1) := by decide +kernel
theorem djdk_40_method_47_code_50 : decode jdk_40_method_47_code 50 = .ok (.iconst 0, 1) := by decide +kernel
theorem djdk_40_method_47_code_51 : decode jdk_40_method_47_code 51 = .ok (.aaload, 1) := by decide +kernel
theorem djdk_40_method_47_code_52 : decode jdk_40_method_47_code 52 = .ok (.aload_n 0, 1) := by decide +kernel
theorem djdk_40_method_47_code_53 : decode jdk_40_method_47_code 53 = .ok (.iconst 1, 1) := by decide +kernel
theorem djdk_40_method_47_code_54 : decode jdk_40_method_47_code 54 = .ok (.aaload, 1) := by decide +kernel
theorem djdk_40_method_47_code_55 : decode jdk_40_method_47_code 55 = .ok (.invokespecial 100, 3) := by decide +kernel
theorem djdk_40_method_47_code_58 : decode jdk_40_method_47_code 58 = .ok (.areturn, 1) := by decide +kernel
theorem djdk_40_method_47_code_59 : decode jdk_40_method_47_code 59 = .ok (.aload_n 0, 1) := by decide +kernel
theorem djdk_40_method_47_code_60 : decode jdk_40_method_47_code 60 = .ok (.invokestatic 109, 3) := by decide +kernel
theorem djdk_40_method_47_code_63 : decode jdk_40_method_47_code 63 = .ok (.areturn, 1) := by decide +kernel
theorem djdk_40_method_48_code_0 : decode jdk_40_method_48_code 0 = .ok (.aload_n 0, 1) := by decide +kernel
theorem djdk_40_method_48_code_1 : decode jdk_40_method_48_code 1 = .ok (.invokestatic 112, 3) := by decide +kernel
theorem djdk_40_method_48_code_4 : decode jdk_40_method_48_code 4 = .ok (.areturn, 1) := by decide +kernel
theorem djdk_42_method_139_code_0 : decode jdk_42_method_139_code 0 = .ok (.getstatic 38, 3) := by decide +kernel
theorem djdk_42_method_139_code_3 : decode jdk_42_method_139_code 3 = .ok (.ifCond .eq 23, 3) := by decide +kernel
theorem djdk_42_method_139_code_6 : decode jdk_42_method_139_code 6 = .ok (.iload_n 0, 1) := by decide +kernel
theorem djdk_42_method_139_code_7 : decode jdk_42_method_139_code 7 = .ok (.invokestatic 1015, 3) := by decide +kernel
theorem djdk_42_method_139_code_10 : decode jdk_42_method_139_code 10 = .ok (.ifCond .eq 16, 3) := by decide +kernel
theorem djdk_42_method_139_code_13 : decode jdk_42_method_139_code 13 = .ok (.new 10, 3) := by decide +kernel
theorem djdk_42_method_139_code_16 : decode jdk_42_method_139_code 16 = .ok (.dup, 1) := by decide +kernel
theorem djdk_42_method_139_code_17 : decode jdk_42_method_139_code 17 = .ok (.iload_n 0, 1) := by decide +kernel
theorem djdk_42_method_139_code_18 : decode jdk_42_method_139_code 18 = .ok (.invokestatic 1018, 3) := by decide +kernel
theorem djdk_42_method_139_code_21 : decode jdk_42_method_139_code 21 = .ok (.iconst 0, 1) := by decide +kernel
theorem djdk_42_method_139_code_22 : decode jdk_42_method_139_code 22 = .ok (.invokespecial 209, 3) := by decide +kernel
theorem djdk_42_method_139_code_25 : decode jdk_42_method_139_code 25 = .ok (.areturn, 1) := by decide +kernel
theorem djdk_42_method_139_code_26 : decode jdk_42_method_139_code 26 = .ok (.new 10, 3) := by decide +kernel
theorem djdk_42_method_139_code_29 : decode jdk_42_method_139_code 29 = .ok (.dup, 1) := by decide +kernel
theorem djdk_42_method_139_code_30 : decode jdk_42_method_139_code 30 = .ok (.iload_n 0, 1) := by decide +kernel
theorem djdk_42_method_139_code_31 : decode jdk_42_method_139_code 31 = .ok (.invokestatic 1021, 3) := by decide +kernel
theorem djdk_42_method_149_code_0 : decode jdk_42_method_149_code 0 = .ok (.aload_n 0, 1) := by decide +kernel
theorem djdk_42_method_149_code_1 : decode jdk_42_method_149_code 1 = .ok (.invokespecial 1, 3) := by decide +kernel
theorem djdk_42_method_149_code_4 : decode jdk_42_method_149_code 4 = .ok (.iload_n 3, 1) := by decide +kernel
theorem djdk_42_method_149_code_5 : decode jdk_42_method_149_code 5 = .ok (.ifCond .ne 22, 3) := by decide +kernel
theorem djdk_42_method_149_code_27 : decode jdk_42_method_149_code 27 = .ok (.getstatic 38, 3) := by decide +kernel
theorem djdk_42_method_149_code_30 : decode jdk_42_method_149_code 30 = .ok (.ifCond .eq 28, 3) := by decide +kernel
theorem djdk_42_method_149_code_33 : decode jdk_42_method_149_code 33 = .ok (.aload_n 1, 1) := by decide +kernel
theorem djdk_42_method_149_code_34 : decode jdk_42_method_149_code 34 = .ok (.iload_n 2, 1) := by decide +kernel
theorem djdk_42_method_149_code_35 : decode jdk_42_method_149_code 35 = .ok (.iload_n 3, 1) := by decide +kernel
theorem djdk_42_method_149_code_36 : decode jdk_42_method_149_code 36 = .ok (.invokestatic 177, 3) := by decide +kernel
theorem djdk_42_method_149_code_39 : decode jdk_42_method_149_code 39 = .ok (.astore 5, 2) := by decide +kernel
theorem djdk_42_method_149_code_41 : decode jdk_42_method_149_code 41 = .ok (.aload_n 0, 1) := by decide +kernel
theorem djdk_42_method_149_code_42 : decode jdk_42_method_149_code 42 = .ok (.aload 5, 2) := by decide +kernel
theorem djdk_42_method_149_code_44 : decode jdk_42_method_149_code 44 = .ok (.iload_n 3, 1) := by decide +kernel
theorem djdk_42_method_149_code_45 : decode jdk_42_method_149_code 45 = .ok (.invokestatic 47, 3) := by decide +kernel
theorem djdk_42_method_149_code_48 : decode jdk_42_method_149_code 48 = .ok (.putfield 15, 3) := by decide +kernel
theorem djdk_42_method_149_code_51 : decode jdk_42_method_149_code 51 = .ok (.aload_n 0, 1) := by decide +kernel
theorem djdk_42_method_149_code_52 : decode jdk_42_method_149_code 52 = .ok (.aload 5, 2) := by decide +kernel
theorem djdk_42_method_149_code_54 : decode jdk_42_method_149_code 54 = .ok (.putfield 9, 3) := by decide +kernel
theorem djdk_42_method_149_code_57 : decode jdk_42_method_149_code 57 = .ok (.return_, 1) := by decide +kernel
theorem djdk_42_method_151_code_0 : decode jdk_42_method_151_code 0 = .ok (.aload_n 0, 1) := by decide +kernel
theorem djdk_42_method_151_code_1 : decode jdk_42_method_151_code 1 = .ok (.invokespecial 1, 3) := by decide +kernel
theorem djdk_42_method_151_code_4 : decode jdk_42_method_151_code 4 = .ok (.aload_n 0, 1) := by decide +kernel
theorem djdk_42_method_151_code_5 : decode jdk_42_method_151_code 5 = .ok (.aload_n 1, 1) := by decide +kernel
theorem djdk_42_method_151_code_6 : decode jdk_42_method_151_code 6 = .ok (.putfield 9, 3) := by decide +kernel
theorem djdk_42_method_151_code_9 : decode jdk_42_method_151_code 9 = .ok (.aload_n 0, 1) := by decide +kernel
theorem djdk_42_method_151_code_10 : decode jdk_42_method_151_code 10 = .ok (.iload_n 2, 1) := by decide +kernel
theorem djdk_42_method_151_code_11 : decode jdk_42_method_151_code 11 = .ok (.putfield 15, 3) := by decide +kernel
theorem djdk_42_method_151_code_14 : decode jdk_42_method_151_code 14 = .ok (.return_, 1) := by decide +kernel
theorem djdk_42_method_3_code_0 : decode jdk_42_method_3_code 0 = .ok (.aload_n 0, 1) := by decide +kernel
theorem djdk_42_method_3_code_1 : decode jdk_42_method_3_code 1 = .ok (.aload_n 1, 1) := by decide +kernel
theorem djdk_42_method_3_code_2 : decode jdk_42_method_3_code 2 = .ok (.iconst 0, 1) := by decide +kernel
theorem djdk_42_method_3_code_3 : decode jdk_42_method_3_code 3 = .ok (.aload_n 1, 1) := by decide +kernel
theorem djdk_42_method_3_code_4 : decode jdk_42_method_3_code 4 = .ok (.arraylength, 1) := by decide +kernel
theorem djdk_42_method_3_code_5 : decode jdk_42_method_3_code 5 = .ok (.aconst_null, 1) := by decide +kernel
theorem djdk_42_method_3_code_6 : decode jdk_42_method_3_code 6 = .ok (.invokespecial 27, 3) := by decide +kernel
theorem djdk_42_method_3_code_9 : decode jdk_42_method_3_code 9 = .ok (.return_, 1) := by decide +kernel
theorem djdk_42_method_66_code_0 : decode jdk_42_method_66_code 0 = .ok (.aload_n 0, 1) := by decide +kernel
theorem djdk_42_method_66_code_1 : decode jdk_42_method_66_code 1 = .ok (.aload_n 1, 1) := by decide +kernel
theorem djdk_42_method_66_code_2 : decode jdk_42_method_66_code 2 = .ok (.if_acmp .ne 5, 3) := by decide +kernel
theorem djdk_42_method_66_code_5 : decode jdk_42_method_66_code 5 = .ok (.iconst 1, 1) := by decide +kernel
theorem djdk_42_method_66_code_6 : decode jdk_42_method_66_code 6 = .ok (.ireturn, 1) := by decide +kernel
theorem djdk_43_method_3_code_0 : decode jdk_43_method_3_code 0 = .ok (.iload_n 0, 1) := by decide +kernel
theorem djdk_43_method_3_code_1 : decode jdk_43_method_3_code 1 = .ok (.sipush 255, 3) := by decide +kernel
theorem djdk_43_method_3_code_4 : decode jdk_43_method_3_code 4 = .ok (.if_icmp .gt 7, 3) := by decide +kernel
theorem djdk_43_method_3_code_7 : decode jdk_43_method_3_code 7 = .ok (.iconst 1, 1) := by decide +kernel
theorem djdk_43_method_3_code_8 : decode jdk_43_method_3_code 8 = .ok (.goto 4, 3) := by decide +kernel
theorem djdk_43_method_3_code_11 : decode jdk_43_method_3_code 11 = .ok (.iconst 0, 1) := by decide +kernel
theorem djdk_43_method_3_code_12 : decode jdk_43_method_3_code 12 = .ok (.ireturn, 1) := by decide +kernel
theorem djdk_43_method_46_code_0 : decode jdk_43_method_46_code 0 = .ok (.iconst 1, 1) := by decide +kernel
theorem djdk_43_method_46_code_1 : decode jdk_43_method_46_code 1 = .ok (.newarray .byte, 2) := by decide +kernel
theorem djdk_43_method_46_code_3 : decode jdk_43_method_46_code 3 = .ok (.dup, 1) := by decide +kernel
theorem djdk_43_method_46_code_4 : decode jdk_43_method_46_code 4 = .ok (.iconst 0, 1) := by decide +kernel
theorem djdk_43_method_46_code_5 : decode jdk_43_method_46_code 5 = .ok (.iload_n 0, 1) := by decide +kernel
theorem djdk_43_method_46_code_6 : decode jdk_43_method_46_code 6 = .ok (.i2b, 1) := by decide +kernel
theorem djdk_43_method_46_code_7 : decode jdk_43_method_46_code 7 = .ok (.bastore, 1) := by decide +kernel
theorem djdk_43_method_46_code_8 : decode jdk_43_method_46_code 8 = .ok (.areturn, 1) := by decide +kernel
theorem djdk_44_method_1_code_0 : decode jdk_44_method_1_code 0 = .ok (.aload_n 0, 1) := by decide +kernel
theorem djdk_44_method_1_code_1 : decode jdk_44_method_1_code 1 = .ok (.invokespecial 1, 3) := by decide +kernel
theorem djdk_44_method_1_code_4 : decode jdk_44_method_1_code 4 = .ok (.aload_n 0, 1) := by decide +kernel
theorem djdk_44_method_1_code_5 : decode jdk_44_method_1_code 5 = .ok (.aload_n 1, 1) := by decide +kernel
theorem djdk_44_method_1_code_6 : decode jdk_44_method_1_code 6 = .ok (.invokestatic 7, 3) := by decide +kernel
theorem djdk_44_method_1_code_9 : decode jdk_44_method_1_code 9 = .ok (.putfield 13, 3) := by decide +kernel
theorem djdk_44_method_1_code_12 : decode jdk_44_method_1_code 12 = .ok (.aload_n 0, 1) := by decide +kernel
theorem djdk_44_method_1_code_13 : decode jdk_44_method_1_code 13 = .ok (.getstatic 19, 3) := by decide +kernel
theorem djdk_44_method_1_code_16 : decode jdk_44_method_1_code 16 = .ok (.putfield 24, 3) := by decide +kernel
theorem djdk_44_method_1_code_19 : decode jdk_44_method_1_code 19 = .ok (.return_, 1) := by decide +kernel
theorem djdk_44_method_2_code_0 : decode jdk_44_method_2_code 0 = .ok (.aload_n 0, 1) := by decide +kernel
theorem djdk_44_method_2_code_1 : decode jdk_44_method_2_code 1 = .ok (.invokespecial 1, 3) := by decide +kernel
theorem djdk_44_method_2_code_4 : decode jdk_44_method_2_code 4 = .ok (.aload_n 0, 1) := by decide +kernel
theorem djdk_44_method_2_code_5 : decode jdk_44_method_2_code 5 = .ok (.aload_n 1, 1) := by decide +kernel
theorem djdk_44_method_2_code_6 : decode jdk_44_method_2_code 6 = .ok (.invokestatic 7, 3) := by decide +kernel
theorem djdk_44_method_2_code_9 : decode jdk_44_method_2_code 9 = .ok (.putfield 13, 3) := by decide +kernel
theorem djdk_44_method_2_code_12 : decode jdk_44_method_2_code 12 = .ok (.aload_n 0, 1) := by decide +kernel
theorem djdk_44_method_2_code_13 : decode jdk_44_method_2_code 13 = .ok (.aload_n 2, 1) := by decide +kernel
theorem djdk_44_method_2_code_14 : decode jdk_44_method_2_code 14 = .ok (.invokestatic 7, 3) := by decide +kernel
theorem djdk_44_method_2_code_17 : decode jdk_44_method_2_code 17 = .ok (.putfield 24, 3) := by decide +kernel
theorem djdk_44_method_2_code_20 : decode jdk_44_method_2_code 20 = .ok (.return_, 1) := by decide +kernel
theorem djdk_44_method_5_code_0 : decode jdk_44_method_5_code 0 = .ok (.iload_n 1, 1) := by decide +kernel
theorem djdk_44_method_5_code_1 : decode jdk_44_method_5_code 1 = .ok (.ifCond .ne 8, 3) := by decide +kernel
theorem djdk_44_method_5_code_4 : decode jdk_44_method_5_code 4 = .ok (.aload_n 0, 1) := by decide +kernel
theorem djdk_44_method_5_code_5 : decode jdk_44_method_5_code 5 = .ok (.getfield 13, 3) := by decide +kernel
theorem djdk_44_method_5_code_8 : decode jdk_44_method_5_code 8 = .ok (.areturn, 1) := by decide +kernel
theorem djdk_44_method_5_code_9 : decode jdk_44_method_5_code 9 = .ok (.iload_n 1, 1) := by decide +kernel
theorem djdk_44_method_5_code_10 : decode jdk_44_method_5_code 10 = .ok (.iconst 1, 1) := by decide +kernel
theorem djdk_44_method_5_code_11 : decode jdk_44_method_5_code 11 = .ok (.if_icmp .ne 18, 3) := by decide +kernel
theorem djdk_44_method_5_code_14 : decode jdk_44_method_5_code 14 = .ok (.aload_n 0, 1) := by decide +kernel
theorem djdk_44_method_5_code_15 : decode jdk_44_method_5_code 15 = .ok (.getfield 24, 3) := by decide +kernel
theorem djdk_44_method_5_code_18 : decode jdk_44_method_5_code 18 = .ok (.getstatic 19, 3) := by decide +kernel
theorem djdk_44_method_5_code_21 : decode jdk_44_method_5_code 21 = .ok (.if_acmp .eq 8, 3) := by decide +kernel
theorem djdk_44_method_5_code_24 : decode jdk_44_method_5_code 24 = .ok (.aload_n 0, 1) := by decide +kernel
theorem djdk_44_method_5_code_25 : decode jdk_44_method_5_code 25 = .ok (.getfield 24, 3) := by decide +kernel
theorem djdk_44_method_5_code_28 : decode jdk_44_method_5_code 28 = .ok (.areturn, 1) := by decide +kernel
theorem djdk_44_method_5_code_29 : decode jdk_44_method_5_code 29 = .ok (.aload_n 0, 1) := by decide +kernel
theorem djdk_44_method_5_code_30 : decode jdk_44_method_5_code 30 = .ok (.iload_n 1, 1) := by decide +kernel
theorem djdk_44_method_5_code_31 : decode jdk_44_method_5_code 31 = .ok (.invokevirtual 27, 3) := by decide +kernel
theorem djdk_45_method_1_code_0 : decode jdk_45_method_1_code 0 = .ok (.aload_n 0, 1) := by decide +kernel
theorem djdk_45_method_1_code_1 : decode jdk_45_method_1_code 1 = .ok (.invokespecial 1, 3) := by decide +kernel
theorem djdk_45_method_1_code_4 : decode jdk_45_method_1_code 4 = .ok (.aload_n 0, 1) := by decide +kernel
theorem djdk_45_method_1_code_5 : decode jdk_45_method_1_code 5 = .ok (.aload_n 1, 1) := by decide +kernel
theorem djdk_45_method_1_code_6 : decode jdk_45_method_1_code 6 = .ok (.putfield 7, 3) := by decide +kernel
theorem djdk_45_method_1_code_9 : decode jdk_45_method_1_code 9 = .ok (.aload_n 0, 1) := by decide +kernel
theorem djdk_45_method_1_code_10 : decode jdk_45_method_1_code 10 = .ok (.iload_n 2, 1) := by decide +kernel
theorem djdk_45_method_1_code_11 : decode jdk_45_method_1_code 11 = .ok (.putfield 13, 3) := by decide +kernel
theorem djdk_45_method_1_code_14 : decode jdk_45_method_1_code 14 = .ok (.return_, 1) := by decide +kernel
theorem djdk_45_method_4_code_0 : decode jdk_45_method_4_code 0 = .ok (.aload_n 0, 1) := by decide +kernel
theorem djdk_45_method_4_code_1 : decode jdk_45_method_4_code 1 = .ok (.getfield 7, 3) := by decide +kernel
theorem djdk_45_method_4_code_4 : decode jdk_45_method_4_code 4 = .ok (.iload_n 1, 1) := by decide +kernel
theorem djdk_45_method_4_code_5 : decode jdk_45_method_4_code 5 = .ok (.aaload, 1) := by decide +kernel
theorem djdk_45_method_4_code_6 : decode jdk_45_method_4_code 6 = .ok (.areturn, 1) := by decide +kernel
theorem djdk_46_method_1_code_0 : decode jdk_46_method_1_code 0 = .ok (.aload_n 0, 1) := by decide +kernel
theorem djdk_46_method_1_code_1 : decode jdk_46_method_1_code 1 = .ok (.invokespecial 1, 3) := by decide +kernel
theorem djdk_46_method_1_code_4 : decode jdk_46_method_1_code 4 = .ok (.return_, 1) := by decide +kernel
theorem djdk_47_method_1_code_0 : decode jdk_47_method_1_code 0 = .ok (.aload_n 0, 1) := by decide +kernel
theorem djdk_47_method_1_code_1 : decode jdk_47_method_1_code 1 = .ok (.invokespecial 1, 3) := by decide +kernel
theorem djdk_47_method_1_code_4 : decode jdk_47_method_1_code 4 = .ok (.return_, 1) := by decide +kernel
theorem djdk_52_method_15_code_0 : decode jdk_52_method_15_code 0 = .ok (.iload_n 1, 1) := by decide +kernel
theorem djdk_52_method_15_code_1 : decode jdk_52_method_15_code 1 = .ok (.aload_n 0, 1) := by decide +kernel
theorem djdk_52_method_15_code_2 : decode jdk_52_method_15_code 2 = .ok (.arraylength, 1) := by decide +kernel
theorem djdk_52_method_15_code_3 : decode jdk_52_method_15_code 3 = .ok (.isub, 1) := by decide +kernel
theorem djdk_52_method_15_code_4 : decode jdk_52_method_15_code 4 = .ok (.bipush 31, 2) := by decide +kernel
theorem djdk_52_method_15_code_6 : decode jdk_52_method_15_code 6 = .ok (.iushr, 1) := by decide +kernel
theorem djdk_52_method_15_code_7 : decode jdk_52_method_15_code 7 = .ok (.i2b, 1) := by decide +kernel
theorem djdk_52_method_15_code_8 : decode jdk_52_method_15_code 8 = .ok (.ireturn, 1) := by decide +kernel
theorem djdk_52_method_16_code_0 : decode jdk_52_method_16_code 0 = .ok (.iload_n 2, 1) := by decide +kernel
theorem djdk_52_method_16_code_1 : decode jdk_52_method_16_code 1 = .ok (.newarray .byte, 2) := by decide +kernel
theorem djdk_52_method_16_code_3 : decode jdk_52_method_16_code 3 = .ok (.astore_n 3, 1) := by decide +kernel
theorem djdk_52_method_16_code_4 : decode jdk_52_method_16_code 4 = .ok (.aload_n 0, 1) := by decide +kernel
theorem djdk_52_method_16_code_5 : decode jdk_52_method_16_code 5 = .ok (.iload_n 1, 1) := by decide +kernel
theorem djdk_52_method_16_code_6 : decode jdk_52_method_16_code 6 = .ok (.aload_n 3, 1) := by decide +kernel
theorem djdk_52_method_16_code_7 : decode jdk_52_method_16_code 7 = .ok (.iconst 0, 1) := by decide +kernel
theorem djdk_52_method_16_code_8 : decode jdk_52_method_16_code 8 = .ok (.iload_n 2, 1) := by decide +kernel
theorem djdk_52_method_16_code_9 : decode jdk_52_method_16_code 9 = .ok (.invokestatic 115, 3) := by decide +kernel
theorem djdk_52_method_16_code_12 : decode jdk_52_method_16_code 12 = .ok (.istore 4, 2) := by decide +kernel
theorem djdk_52_method_16_code_14 : decode jdk_52_method_16_code 14 = .ok (.iload 4, 2) := by decide +kernel
theorem djdk_52_method_16_code_16 : decode jdk_52_method_16_code 16 = .ok (.iload_n 2, 1) := by decide +kernel
theorem djdk_52_method_16_code_17 : decode jdk_52_method_16_code 17 = .ok (.if_icmp .eq 40, 3) := by decide +kernel
theorem djdk_52_method_16_code_20 : decode jdk_52_method_16_code 20 = .ok (.aload_n 0, 1) := by decide +kernel
theorem djdk_52_method_16_code_21 : decode jdk_52_method_16_code 21 = .ok (.iload_n 1, 1) := by decide +kernel
theorem djdk_52_method_16_code_22 : decode jdk_52_method_16_code 22 = .ok (.iload_n 2, 1) := by decide +kernel
theorem djdk_52_method_16_code_23 : decode jdk_52_method_16_code 23 = .ok (.invokestatic 119, 3) := by decide +kernel
theorem djdk_52_method_16_code_57 : decode jdk_52_method_16_code 57 = .ok (.aload_n 3, 1) := by decide +kernel
theorem djdk_52_method_16_code_58 : decode jdk_52_method_16_code 58 = .ok (.areturn, 1) := by decide +kernel
theorem djdk_52_method_21_code_0 : decode jdk_52_method_21_code 0 = .ok (.iconst 0, 1) := by decide +kernel
theorem djdk_52_method_21_code_1 : decode jdk_52_method_21_code 1 = .ok (.istore 5, 2) := by decide +kernel
theorem djdk_52_method_21_code_3 : decode jdk_52_method_21_code 3 = .ok (.iload 5, 2) := by decide +kernel
theorem djdk_52_method_21_code_5 : decode jdk_52_method_21_code 5 = .ok (.iload 4, 2) := by decide +kernel
theorem djdk_52_method_21_code_7 : decode jdk_52_method_21_code 7 = .ok (.if_icmp .ge 37, 3) := by decide +kernel
theorem djdk_52_method_21_code_10 : decode jdk_52_method_21_code 10 = .ok (.aload_n 0, 1) := by decide +kernel
theorem djdk_52_method_21_code_11 : decode jdk_52_method_21_code 11 = .ok (.iload_n 1, 1) := by decide +kernel
theorem djdk_52_method_21_code_12 : decode jdk_52_method_21_code 12 = .ok (.caload, 1) := by decide +kernel
theorem djdk_52_method_21_code_13 : decode jdk_52_method_21_code 13 = .ok (.istore 6, 2) := by decide +kernel
theorem djdk_52_method_21_code_15 : decode jdk_52_method_21_code 15 = .ok (.iload 6, 2) := by decide +kernel
theorem djdk_52_method_21_code_17 : decode jdk_52_method_21_code 17 = .ok (.sipush 255, 3) := by decide +kernel
theorem djdk_52_method_21_code_20 : decode jdk_52_method_21_code 20 = .ok (.if_icmp .le 6, 3) := by decide +kernel
theorem djdk_52_method_21_code_23 : decode jdk_52_method_21_code 23 = .ok (.iload 5, 2) := by decide +kernel
theorem djdk_52_method_21_code_25 : decode jdk_52_method_21_code 25 = .ok (.ireturn, 1) := by decide +kernel
theorem djdk_52_method_21_code_26 : decode jdk_52_method_21_code 26 = .ok (.aload_n 2, 1) := by decide +kernel
theorem djdk_52_method_21_code_27 : decode jdk_52_method_21_code 27 = .ok (.iload_n 3, 1) := by decide +kernel
theorem djdk_52_method_21_code_28 : decode jdk_52_method_21_code 28 = .ok (.iload 6, 2) := by decide +kernel
theorem djdk_52_method_21_code_30 : decode jdk_52_method_21_code 30 = .ok (.i2b, 1) := by decide +kernel
theorem djdk_52_method_21_code_31 : decode jdk_52_method_21_code 31 = .ok (.bastore, 1) := by decide +kernel
theorem djdk_52_method_21_code_32 : decode jdk_52_method_21_code 32 = .ok (.iinc 1 1, 3) := by decide +kernel
theorem djdk_52_method_21_code_35 : decode jdk_52_method_21_code 35 = .ok (.iinc 3 1, 3) := by decide +kernel
theorem djdk_52_method_21_code_38 : decode jdk_52_method_21_code 38 = .ok (.iinc 5 1, 3) := by decide +kernel
theorem djdk_52_method_21_code_41 : decode jdk_52_method_21_code 41 = .ok (.goto (-38), 3) := by decide +kernel
theorem djdk_52_method_21_code_44 : decode jdk_52_method_21_code 44 = .ok (.iload 4, 2) := by decide +kernel
theorem djdk_52_method_21_code_46 : decode jdk_52_method_21_code 46 = .ok (.ireturn, 1) := by decide +kernel
theorem djdk_56_method_3_code_0 : decode jdk_56_method_3_code 0 = .ok (.aload_n 0, 1) := by decide +kernel
theorem djdk_56_method_3_code_1 : decode jdk_56_method_3_code 1 = .ok (.instanceof 10, 3) := by decide +kernel
theorem djdk_56_method_3_code_4 : decode jdk_56_method_3_code 4 = .ok (.ifCond .ne 22, 3) := by decide +kernel
theorem djdk_56_method_3_code_7 : decode jdk_56_method_3_code 7 = .ok (.aload_n 0, 1) := by decide +kernel
theorem djdk_56_method_3_code_8 : decode jdk_56_method_3_code 8 = .ok (.instanceof 12, 3) := by decide +kernel
theorem djdk_56_method_3_code_11 : decode jdk_56_method_3_code 11 = .ok (.ifCond .eq 20, 3) := by decide +kernel
theorem djdk_56_method_3_code_31 : decode jdk_56_method_3_code 31 = .ok (.aload_n 0, 1) := by decide +kernel
theorem djdk_56_method_3_code_32 : decode jdk_56_method_3_code 32 = .ok (.invokeinterface 20 1, 5) := by decide +kernel
theorem djdk_56_method_3_code_37 : decode jdk_56_method_3_code 37 = .ok (.ifCond .eq 7, 3) := by decide +kernel
theorem djdk_56_method_3_code_44 : decode jdk_56_method_3_code 44 = .ok (.aload_n 0, 1) := by decide +kernel
theorem djdk_56_method_3_code_45 : decode jdk_56_method_3_code 45 = .ok (.invokeinterface 30 1, 5) := by decide +kernel
theorem djdk_56_method_3_code_50 : decode jdk_56_method_3_code 50 = .ok (.invokestatic 34, 3) := by decide +kernel
theorem djdk_56_method_3_code_53 : decode jdk_56_method_3_code 53 = .ok (.areturn, 1) := by decide +kernel
theorem djdk_56_method_4_code_0 : decode jdk_56_method_4_code 0 = .ok (.aload_n 0, 1) := by decide +kernel
theorem djdk_56_method_4_code_1 : decode jdk_56_method_4_code 1 = .ok (.arraylength, 1) := by decide +kernel
theorem djdk_56_method_4_code_2 : decode jdk_56_method_4_code 2 = .ok (.anewarray 2, 3) := by decide +kernel
theorem djdk_56_method_4_code_5 : decode jdk_56_method_4_code 5 = .ok (.astore_n 1, 1) := by decide +kernel
theorem djdk_56_method_4_code_6 : decode jdk_56_method_4_code 6 = .ok (.iconst 0, 1) := by decide +kernel
theorem djdk_56_method_4_code_7 : decode jdk_56_method_4_code 7 = .ok (.istore_n 2, 1) := by decide +kernel
theorem djdk_56_method_4_code_8 : decode jdk_56_method_4_code 8 = .ok (.iload_n 2, 1) := by decide +kernel
theorem djdk_56_method_4_code_9 : decode jdk_56_method_4_code 9 = .ok (.aload_n 0, 1) := by decide +kernel
theorem djdk_56_method_4_code_10 : decode jdk_56_method_4_code 10 = .ok (.arraylength, 1) := by decide +kernel
theorem djdk_56_method_4_code_11 : decode jdk_56_method_4_code 11 = .ok (.if_icmp .ge 18, 3) := by decide +kernel
theorem djdk_56_method_4_code_14 : decode jdk_56_method_4_code 14 = .ok (.aload_n 1, 1) := by decide +kernel
theorem djdk_56_method_4_code_15 : decode jdk_56_method_4_code 15 = .ok (.iload_n 2, 1) := by decide +kernel
theorem djdk_56_method_4_code_16 : decode jdk_56_method_4_code 16 = .ok (.aload_n 0, 1) := by decide +kernel
theorem djdk_56_method_4_code_17 : decode jdk_56_method_4_code 17 = .ok (.iload_n 2, 1) := by decide +kernel
theorem djdk_56_method_4_code_18 : decode jdk_56_method_4_code 18 = .ok (.aaload, 1) := by decide +kernel
theorem djdk_56_method_4_code_19 : decode jdk_56_method_4_code 19 = .ok (.invokestatic 37, 3) := by decide +kernel
theorem djdk_56_method_4_code_22 : decode jdk_56_method_4_code 22 = .ok (.aastore, 1) := by decide +kernel
theorem djdk_56_method_4_code_23 : decode jdk_56_method_4_code 23 = .ok (.iinc 2 1, 3) := by decide +kernel
theorem djdk_56_method_4_code_26 : decode jdk_56_method_4_code 26 = .ok (.goto (-18), 3) := by decide +kernel
theorem djdk_56_method_4_code_29 : decode jdk_56_method_4_code 29 = .ok (.new 12, 3) := by decide +kernel
theorem djdk_56_method_4_code_32 : decode jdk_56_method_4_code 32 = .ok (.dup, 1) := by decide +kernel
theorem djdk_56_method_4_code_33 : decode jdk_56_method_4_code 33 = .ok (.aload_n 1, 1) := by decide +kernel
theorem djdk_56_method_4_code_34 : decode jdk_56_method_4_code 34 = .ok (.iconst 0, 1) := by decide +kernel
theorem djdk_56_method_4_code_35 : decode jdk_56_method_4_code 35 = .ok (.invokespecial 43, 3) := by decide +kernel
theorem djdk_56_method_4_code_38 : decode jdk_56_method_4_code 38 = .ok (.areturn, 1) := by decide +kernel
theorem djdk_65_method_119_code_0 : decode jdk_65_method_119_code 0 = .ok (.aload_n 0, 1) := by decide +kernel
theorem djdk_65_method_119_code_1 : decode jdk_65_method_119_code 1 = .ok (.iload_n 1, 1) := by decide +kernel
theorem djdk_65_method_119_code_2 : decode jdk_65_method_119_code 2 = .ok (.aload_n 0, 1) := by decide +kernel
theorem djdk_65_method_119_code_3 : decode jdk_65_method_119_code 3 = .ok (.invokevirtual 86, 3) := by decide +kernel
theorem djdk_65_method_119_code_6 : decode jdk_65_method_119_code 6 = .ok (.invokestatic 300, 3) := by decide +kernel
theorem djdk_65_method_119_code_9 : decode jdk_65_method_119_code 9 = .ok (.areturn, 1) := by decide +kernel
theorem djdk_65_method_120_code_0 : decode jdk_65_method_120_code 0 = .ok (.aload_n 2, 1) := by decide +kernel
theorem djdk_65_method_120_code_1 : decode jdk_65_method_120_code 1 = .ok (.ldc 110, 2) := by decide +kernel
theorem djdk_65_method_120_code_3 : decode jdk_65_method_120_code 3 = .ok (.if_acmp .ne 10, 3) := by decide +kernel
theorem djdk_65_method_120_code_6 : decode jdk_65_method_120_code 6 = .ok (.iload_n 1, 1) := by decide +kernel
theorem djdk_65_method_120_code_7 : decode jdk_65_method_120_code 7 = .ok (.anewarray 2, 3) := by decide +kernel
theorem djdk_65_method_120_code_10 : decode jdk_65_method_120_code 10 = .ok (.goto 14, 3) := by decide +kernel
theorem djdk_65_method_120_code_24 : decode jdk_65_method_120_code 24 = .ok (.astore_n 3, 1) := by decide +kernel
theorem djdk_65_method_120_code_25 : decode jdk_65_method_120_code 25 = .ok (.aload_n 0, 1) := by decide +kernel
theorem djdk_65_method_120_code_26 : decode jdk_65_method_120_code 26 = .ok (.iconst 0, 1) := by decide +kernel
theorem djdk_65_method_120_code_27 : decode jdk_65_method_120_code 27 = .ok (.aload_n 3, 1) := by decide +kernel
theorem djdk_65_method_120_code_28 : decode jdk_65_method_120_code 28 = .ok (.iconst 0, 1) := by decide +kernel
theorem djdk_65_method_120_code_29 : decode jdk_65_method_120_code 29 = .ok (.aload_n 0, 1) := by decide +kernel
theorem djdk_65_method_120_code_30 : decode jdk_65_method_120_code 30 = .ok (.arraylength, 1) := by decide +kernel
theorem djdk_65_method_120_code_31 : decode jdk_65_method_120_code 31 = .ok (.iload_n 1, 1) := by decide +kernel
theorem djdk_65_method_120_code_32 : decode jdk_65_method_120_code 32 = .ok (.invokestatic 304, 3) := by decide +kernel
theorem djdk_65_method_120_code_35 : decode jdk_65_method_120_code 35 = .ok (.invokestatic 150, 3) := by decide +kernel
theorem djdk_65_method_120_code_38 : decode jdk_65_method_120_code 38 = .ok (.aload_n 3, 1) := by decide +kernel
theorem djdk_65_method_120_code_39 : decode jdk_65_method_120_code 39 = .ok (.areturn, 1) := by decide +kernel
theorem dmethod_2_code_0 : decode method_2_code 0 = .ok (.iload_n 0, 1) := by decide +kernel
theorem dmethod_2_code_1 : decode method_2_code 1 = .ok (.bipush 16, 2) := by decide +kernel
theorem dmethod_2_code_3 : decode method_2_code 3 = .ok (.iushr, 1) := by decide +kernel
theorem dmethod_2_code_4 : decode method_2_code 4 = .ok (.iconst 1, 1) := by decide +kernel
theorem dmethod_2_code_5 : decode method_2_code 5 = .ok (.iand, 1) := by decide +kernel
theorem dmethod_2_code_6 : decode method_2_code 6 = .ok (.ifCond .eq 13, 3) := by decide +kernel
theorem dmethod_2_code_9 : decode method_2_code 9 = .ok (.iload_n 0, 1) := by decide +kernel
theorem dmethod_2_code_10 : decode method_2_code 10 = .ok (.sipush 255, 3) := by decide +kernel
theorem dmethod_2_code_13 : decode method_2_code 13 = .ok (.iand, 1) := by decide +kernel
theorem dmethod_2_code_14 : decode method_2_code 14 = .ok (.i2c, 1) := by decide +kernel
theorem dmethod_2_code_15 : decode method_2_code 15 = .ok (.invokestatic 7, 3) := by decide +kernel
theorem dmethod_2_code_18 : decode method_2_code 18 = .ok (.areturn, 1) := by decide +kernel
theorem dmethod_2_code_19 : decode method_2_code 19 = .ok (.iconst 2, 1) := by decide +kernel
theorem dmethod_2_code_20 : decode method_2_code 20 = .ok (.newarray .char, 2) := by decide +kernel
theorem dmethod_2_code_22 : decode method_2_code 22 = .ok (.astore_n 1, 1) := by decide +kernel
theorem dmethod_2_code_23 : decode method_2_code 23 = .ok (.aload_n 1, 1) := by decide +kernel
theorem dmethod_2_code_24 : decode method_2_code 24 = .ok (.iconst 0, 1) := by decide +kernel
theorem dmethod_2_code_25 : decode method_2_code 25 = .ok (.iload_n 0, 1) := by decide +kernel
theorem dmethod_2_code_26 : decode method_2_code 26 = .ok (.sipush 255, 3) := by decide +kernel
theorem dmethod_2_code_29 : decode method_2_code 29 = .ok (.iand, 1) := by decide +kernel
theorem dmethod_2_code_30 : decode method_2_code 30 = .ok (.i2c, 1) := by decide +kernel
theorem dmethod_2_code_31 : decode method_2_code 31 = .ok (.castore, 1) := by decide +kernel
theorem dmethod_2_code_32 : decode method_2_code 32 = .ok (.aload_n 1, 1) := by decide +kernel
theorem dmethod_2_code_33 : decode method_2_code 33 = .ok (.iconst 1, 1) := by decide +kernel
theorem dmethod_2_code_34 : decode method_2_code 34 = .ok (.iload_n 0, 1) := by decide +kernel
theorem dmethod_2_code_35 : decode method_2_code 35 = .ok (.bipush 8, 2) := by decide +kernel
theorem dmethod_2_code_37 : decode method_2_code 37 = .ok (.iushr, 1) := by decide +kernel
theorem dmethod_2_code_38 : decode method_2_code 38 = .ok (.sipush 255, 3) := by decide +kernel
theorem dmethod_2_code_41 : decode method_2_code 41 = .ok (.iand, 1) := by decide +kernel
theorem dmethod_2_code_42 : decode method_2_code 42 = .ok (.i2c, 1) := by decide +kernel
theorem dmethod_2_code_43 : decode method_2_code 43 = .ok (.castore, 1) := by decide +kernel
theorem dmethod_2_code_44 : decode method_2_code 44 = .ok (.new 8, 3) := by decide +kernel
theorem dmethod_2_code_47 : decode method_2_code 47 = .ok (.dup, 1) := by decide +kernel
theorem dmethod_2_code_48 : decode method_2_code 48 = .ok (.aload_n 1, 1) := by decide +kernel
theorem dmethod_2_code_49 : decode method_2_code 49 = .ok (.invokespecial 13, 3) := by decide +kernel
theorem dmethod_2_code_52 : decode method_2_code 52 = .ok (.areturn, 1) := by decide +kernel
theorem dprog_1_method_1_code_0 : decode prog_1_method_1_code 0 = .ok (.aload_n 0, 1) := by decide +kernel
theorem dprog_1_method_1_code_1 : decode prog_1_method_1_code 1 = .ok (.invokespecial 1, 3) := by decide +kernel
theorem dprog_1_method_1_code_4 : decode prog_1_method_1_code 4 = .ok (.aload_n 0, 1) := by decide +kernel
theorem dprog_1_method_1_code_5 : decode prog_1_method_1_code 5 = .ok (.aload_n 1, 1) := by decide +kernel
theorem dprog_1_method_1_code_6 : decode prog_1_method_1_code 6 = .ok (.invokestatic 7, 3) := by decide +kernel
theorem dprog_1_method_1_code_9 : decode prog_1_method_1_code 9 = .ok (.putfield 13, 3) := by decide +kernel
theorem dprog_1_method_1_code_12 : decode prog_1_method_1_code 12 = .ok (.aload_n 0, 1) := by decide +kernel
theorem dprog_1_method_1_code_13 : decode prog_1_method_1_code 13 = .ok (.aload_n 2, 1) := by decide +kernel
theorem dprog_1_method_1_code_14 : decode prog_1_method_1_code 14 = .ok (.invokevirtual 19, 3) := by decide +kernel
theorem dprog_1_method_1_code_17 : decode prog_1_method_1_code 17 = .ok (.checkcast 20, 3) := by decide +kernel
theorem dprog_1_method_1_code_20 : decode prog_1_method_1_code 20 = .ok (.putfield 25, 3) := by decide +kernel
theorem dprog_1_method_1_code_23 : decode prog_1_method_1_code 23 = .ok (.return_, 1) := by decide +kernel
theorem dprog_1_method_3_code_0 : decode prog_1_method_3_code 0 = .ok (.aload_n 0, 1) := by decide +kernel
theorem dprog_1_method_3_code_1 : decode prog_1_method_3_code 1 = .ok (.getfield 13, 3) := by decide +kernel
theorem dprog_1_method_3_code_4 : decode prog_1_method_3_code 4 = .ok (.iload_n 1, 1) := by decide +kernel
theorem dprog_1_method_3_code_5 : decode prog_1_method_3_code 5 = .ok (.invokeinterface 32 2, 5) := by decide +kernel
theorem dprog_1_method_3_code_10 : decode prog_1_method_3_code 10 = .ok (.checkcast 36, 3) := by decide +kernel
theorem dprog_1_method_3_code_13 : decode prog_1_method_3_code 13 = .ok (.areturn, 1) := by decide +kernel
theorem pn_0 : plainName "java/lang/StringUTF16" = true := by first | (simp [plainName, overriddenIn]; done) | decide +kernel
theorem pn_1 : plainName "java/lang/String" = true := by first | (simp [plainName, overriddenIn]; done) | decide +kernel
theorem pn_2 : plainName "java/lang/StringLatin1" = true := by first | (simp [plainName, overriddenIn]; done) | decide +kernel
theorem pn_3 : plainName "com/example/heaplens/heaplens/cfg/ScopeNamePinLaw" = true := by first | (simp [plainName, overriddenIn]; done) | decide +kernel
theorem pn_4 : plainName "java/util/AbstractCollection" = true := by first | (simp [plainName, overriddenIn]; done) | decide +kernel
theorem pn_5 : plainName "java/util/AbstractList" = true := by first | (simp [plainName, overriddenIn]; done) | decide +kernel
theorem pn_6 : plainName "java/util/ArrayList" = true := by first | (simp [plainName, overriddenIn]; done) | decide +kernel
theorem pn_7 : plainName "java/util/Arrays" = true := by first | (simp [plainName, overriddenIn]; done) | decide +kernel
theorem pn_8 : plainName "java/util/ImmutableCollections$AbstractImmutableCollection" = true := by first | (simp [plainName, overriddenIn]; done) | decide +kernel
theorem pn_9 : plainName "java/util/ImmutableCollections$AbstractImmutableList" = true := by first | (simp [plainName, overriddenIn]; done) | decide +kernel
theorem pn_10 : plainName "java/util/Objects" = true := by first | (simp [plainName, overriddenIn]; done) | decide +kernel
theorem pn_11 : plainName "java/util/ImmutableCollections$List12" = true := by first | (simp [plainName, overriddenIn]; done) | decide +kernel
theorem pn_12 : plainName "java/util/List" = true := by first | (simp [plainName, overriddenIn]; done) | decide +kernel
theorem pn_13 : plainName "java/util/ImmutableCollections" = true := by first | (simp [plainName, overriddenIn]; done) | decide +kernel
theorem pn_14 : plainName "com/example/heaplens/heaplens/cfg/Scope" = true := by first | (simp [plainName, overriddenIn]; done) | decide +kernel
theorem pn_15 : plainName "java/util/ImmutableCollections$ListN" = true := by first | (simp [plainName, overriddenIn]; done) | decide +kernel
theorem pd_0 : parseMethodDescriptor "([CI[BII)I" = some ⟨[(.array .char), .int, (.array .byte), .int, .int], some .int⟩ := by decide +kernel
theorem pd_1 : parseMethodDescriptor "([CII)[B" = some ⟨[(.array .char), .int, .int], some (.array .byte)⟩ := by decide +kernel
theorem pd_2 : parseMethodDescriptor "([BI)B" = some ⟨[(.array .byte), .int], some .byte⟩ := by decide +kernel
theorem pd_3 : parseMethodDescriptor "([CIILjava/lang/Void;)V" = some ⟨[(.array .char), .int, .int, (.object "java/lang/Void")], none⟩ := by decide +kernel
theorem pd_4 : parseMethodDescriptor "([C)V" = some ⟨[(.array .char)], none⟩ := by decide +kernel
theorem pd_5 : parseMethodDescriptor "(C)Z" = some ⟨[.char], some .boolean⟩ := by decide +kernel
theorem pd_6 : parseMethodDescriptor "(C)[B" = some ⟨[.char], some (.array .byte)⟩ := by decide +kernel
theorem pd_7 : parseMethodDescriptor "([BB)V" = some ⟨[(.array .byte), .byte], none⟩ := by decide +kernel
theorem pd_8 : parseMethodDescriptor "(C)Ljava/lang/String;" = some ⟨[.char], some (.object "java/lang/String")⟩ := by decide +kernel
theorem pd_9 : parseMethodDescriptor "(I)Ljava/lang/String;" = some ⟨[.int], some (.object "java/lang/String")⟩ := by decide +kernel
theorem pd_10 : parseMethodDescriptor "()V" = some ⟨[], none⟩ := by decide +kernel
theorem pd_11 : parseMethodDescriptor "(II)I" = some ⟨[.int, .int], some .int⟩ := by decide +kernel
theorem pd_12 : parseMethodDescriptor "(I)[Ljava/lang/Object;" = some ⟨[.int], some (.array (.object "java/lang/Object"))⟩ := by decide +kernel
theorem pd_13 : parseMethodDescriptor "()[Ljava/lang/Object;" = some ⟨[], some (.array (.object "java/lang/Object"))⟩ := by decide +kernel
theorem pd_14 : parseMethodDescriptor "(Ljava/lang/Object;[Ljava/lang/Object;I)V" = some ⟨[(.object "java/lang/Object"), (.array (.object "java/lang/Object")), .int], none⟩ := by decide +kernel
theorem pd_15 : parseMethodDescriptor "(Ljava/lang/Object;)Z" = some ⟨[(.object "java/lang/Object")], some .boolean⟩ := by decide +kernel
theorem pd_16 : parseMethodDescriptor "()Z" = some ⟨[], some .boolean⟩ := by decide +kernel
theorem pd_17 : parseMethodDescriptor "([Ljava/lang/Object;ILjava/lang/Class;)[Ljava/lang/Object;" = some ⟨[(.array (.object "java/lang/Object")), .int, (.object "java/lang/Class")], some (.array (.object "java/lang/Object"))⟩ := by decide +kernel
theorem pd_18 : parseMethodDescriptor "([Ljava/lang/Object;I)[Ljava/lang/Object;" = some ⟨[(.array (.object "java/lang/Object")), .int], some (.array (.object "java/lang/Object"))⟩ := by decide +kernel
theorem pd_19 : parseMethodDescriptor "(Ljava/lang/Object;)Ljava/lang/Object;" = some ⟨[(.object "java/lang/Object")], some (.object "java/lang/Object")⟩ := by decide +kernel
theorem pd_20 : parseMethodDescriptor "(Ljava/lang/Object;)V" = some ⟨[(.object "java/lang/Object")], none⟩ := by decide +kernel
theorem pd_21 : parseMethodDescriptor "([Ljava/lang/Object;)Ljava/util/List;" = some ⟨[(.array (.object "java/lang/Object"))], some (.object "java/util/List")⟩ := by decide +kernel
theorem pd_22 : parseMethodDescriptor "(Ljava/util/Collection;)Ljava/util/List;" = some ⟨[(.object "java/util/Collection")], some (.object "java/util/List")⟩ := by decide +kernel
theorem pd_23 : parseMethodDescriptor "(Ljava/util/List;[I)V" = some ⟨[(.object "java/util/List"), (.array .int)], none⟩ := by decide +kernel
theorem pd_24 : parseMethodDescriptor "(I)Ljava/lang/Object;" = some ⟨[.int], some (.object "java/lang/Object")⟩ := by decide +kernel
theorem pd_25 : parseMethodDescriptor "(Ljava/lang/Object;Ljava/lang/Object;)V" = some ⟨[(.object "java/lang/Object"), (.object "java/lang/Object")], none⟩ := by decide +kernel
theorem pd_26 : parseMethodDescriptor "([Ljava/lang/Object;Z)V" = some ⟨[(.array (.object "java/lang/Object")), .boolean], none⟩ := by decide +kernel
theorem ef_1 (m : MethodId) (o0 : Addr) (o2 : Addr) : entryFrame m #[(.ref o0), (.int (0 : Int32)), (.ref o2), (.int (0 : Int32)), (.int (2 : Int32))] 7 = mkF m 0 #[.val (.ref o0), .val (.int (0 : Int32)), .val (.ref o2), .val (.int (0 : Int32)), .val (.int (2 : Int32)), .unset, .unset] [] := by first | (simp [entryFrame, mkF, argsToLocals, Value.category, maxLocals]; done) | rfl
def Q1 (Z : State) (o0 : Addr) (o2 : Addr) (k_o0 : ClassId) (e0_o0 : Int32) (e1_o0 : Int32) (k_o2 : ClassId) (e0_o2 : Int32) (e1_o2 : Int32) (h0 : Heap) (n0 : Nat) (v : Option Value) (h : Heap) (L : List Loc) : Prop := (∃ (rv1 : Int32) (fv1_0_0 : Int32) (fv1_0_1 : Int32) (v46 : Int32) (v48 : Int32) (v59 : Int32) (v61 : Int32), v46 = e0_o0.toInt8.toInt32 ∧ v48 = v46.toInt8.toInt32 ∧ v59 = e1_o0.toInt8.toInt32 ∧ v61 = v59.toInt8.toInt32 ∧ ((((255 : Int32) < e0_o0) ∧ (rv1 = (0 : Int32)) ∧ (fv1_0_0 = e0_o2) ∧ (fv1_0_1 = e1_o2)) ∨ ((¬ ((255 : Int32) < e0_o0)) ∧ ((255 : Int32) < e1_o0) ∧ (rv1 = (1 : Int32)) ∧ (fv1_0_0 = v48) ∧ (fv1_0_1 = e1_o2)) ∨ ((¬ ((255 : Int32) < e0_o0)) ∧ (¬ ((255 : Int32) < e1_o0)) ∧ (rv1 = (2 : Int32)) ∧ (fv1_0_0 = v48) ∧ (fv1_0_1 = v61))) ∧ v = some (.int rv1) ∧ Fr n0 L ∧ Keep h0 h [o2] ∧ Arv Z h o2 k_o2 .byte (2 : Int32) [(.int fv1_0_0), (.int fv1_0_1)] (.int (0 : Int32)) ∧ Exa Z h o2 "[B")
set_option maxRecDepth 65536 in
set_option maxHeartbeats 40000000 in
theorem rm1 (l : Launch) (Z : State) (a0 : Array Value) (hw : ∀ d ∈ tables_1, d.before a0 Z = true) (ws : List Jvm.Cond) (o0 : Addr) (o2 : Addr) (k_o0 : ClassId) (e0_o0 : Int32) (e1_o0 : Int32) (k_o2 : ClassId) (e0_o2 : Int32) (e1_o2 : Int32) (h0 : Heap) (n0 : Nat) (Z0 : n0 ≤ h0.size) (V_o0 : Arv Z h0 o0 k_o0 .char (2 : Int32) [(.int e0_o0), (.int e1_o0)] (.int (0 : Int32))) (V_o2 : Arv Z h0 o2 k_o2 .byte (2 : Int32) [(.int e0_o2), (.int e1_o2)] (.int (0 : Int32))) (g_o2 : n0 ≤ o2) (ne_o0_o2 : o0 ≠ o2) (E_o2 : Exa Z h0 o2 "[B") :
    Con l Z (⟨"java/lang/StringUTF16", "compress", "([CI[BII)I"⟩ : MethodName) jdk_52_method_21_code 7 (some .int) ws ({ frames := 0, cells := 0, slots := 0, locals := 0 } : Room) #[(.ref o0), (.int (0 : Int32)), (.ref o2), (.int (0 : Int32)), (.int (2 : Int32))] h0 0 0 (Q1 Z o0 o2 k_o0 e0_o0 e1_o0 k_o2 e0_o2 e1_o2 h0 n0) := by
  refine MetFree.of_bodySF (plainFor_of_name pn_0) hisR ?_
  intro p e s m args below meth c s₁ Bd hml0 hP hK
  obtain ⟨rfl, hZ, hh⟩ := hP
  have hx := Bd.exec
  have hby := Bd.bytes
  have hml : c.maxLocals = 7 := hml0
  have hown : s.vm.findClass "java/lang/StringUTF16" = some m.cls := findClass_of_methodNamed Bd.named
  have hnm := (name_of_methodNamed Bd.named Bd.method).1
  have X0 : Stand p l e ({ frames := 0, cells := 0, slots := 0, locals := 0 } : Room) s m #[(.ref o0), (.int (0 : Int32)), (.ref o2), (.int (0 : Int32)), (.int (2 : Int32))] below meth c s₁ [] 0 0 := Stand.of_body Bd
  have e0 : s₁.heap = h0 := by rw [← hh, Bd.state]; rfl
  have N0 := Fr.nil n0
  refine Go.of ?_
  refine Go.st (S' := s₁.setTop (mkF m 0 #[.val (.ref o0), .val (.int (0 : Int32)), .val (.ref o2), .val (.int (0 : Int32)), .val (.int (2 : Int32)), .unset, .unset] [])) (fun t k => castTop (ef_1 m o0 o2) k) ?_
  let A40 : Array Slot := #[.val (.ref o0), .val (.int (0 : Int32)), .val (.ref o2), .val (.int (0 : Int32)), .val (.int (2 : Int32)), .unset, .unset]
  refine Go.st (S' := s₁.setTop (mkF m 1 A40 [(.int (0 : Int32))])) (fun t k => XS.iconst X0.here hx rfl (hb hby djdk_52_method_21_code_0) k) ?_
  let A41 : Array Slot := #[.val (.ref o0), .val (.int (0 : Int32)), .val (.ref o2), .val (.int (0 : Int32)), .val (.int (2 : Int32)), .val (.int (0 : Int32)), .unset]
  refine Go.st (S' := s₁.setTop (mkF m 3 A41 [])) (fun t k => XS.istore X0.here hx rfl (hb hby djdk_52_method_21_code_1) rfl (l' := A41) rfl k) ?_
  refine Go.st (S' := s₁.setTop (mkF m 5 A41 [(.int (0 : Int32))])) (fun t k => XS.iload X0.here hx rfl (hb hby djdk_52_method_21_code_3) rfl k) ?_
  refine Go.st (S' := s₁.setTop (mkF m 7 A41 [(.int (2 : Int32)), (.int (0 : Int32))])) (fun t k => XS.iload X0.here hx rfl (hb hby djdk_52_method_21_code_5) rfl k) ?_
  refine Go.st (S' := s₁.setTop (mkF m 10 A41 [])) (fun t k => XS.icmpNo X0.here hx rfl (hb hby djdk_52_method_21_code_7) rfl (tlt (by decide : ((0 : Int32) < (2 : Int32)))).2.1 k) ?_
  refine Go.st (S' := s₁.setTop (mkF m 11 A41 [(.ref o0)])) (fun t k => XS.aloadN X0.here hx rfl (hb hby djdk_52_method_21_code_10) rfl rfl k) ?_
  refine Go.st (S' := s₁.setTop (mkF m 12 A41 [(.int (0 : Int32)), (.ref o0)])) (fun t k => XS.iloadN X0.here hx rfl (hb hby djdk_52_method_21_code_11) rfl k) ?_
  obtain ⟨cl43, Ar43, -, S43, N43_, H43, -⟩ := id V_o0
  have hin43 : ¬ ((0 : Int32) < 0 ∨ cl43.slots.size ≤ ((0 : Int32)).toNatClampNeg) := inb_of S43 ⟨by decide, by decide⟩
  have hat43 : cl43.slots[((0 : Int32)).toNatClampNeg]? = some (.int e0_o0) := Has.at H43 hin43 rfl
  refine Go.st (S' := s₁.setTop (mkF m 13 A41 [(.int e0_o0)])) (fun t k => X0.caload hx (j := (0 : Int32)) (v := (.int e0_o0)) (own_eh e0 Ar43.1) (State.isArrayOf_alike hZ.alike Ar43.2.1) Ar43.2.2 hin43 hat43 (g := (mkF m 12 A41 [(.int (0 : Int32)), (.ref o0)])) rfl rfl (hb hby djdk_52_method_21_code_12) t k) ?_
  let A44 : Array Slot := #[.val (.ref o0), .val (.int (0 : Int32)), .val (.ref o2), .val (.int (0 : Int32)), .val (.int (2 : Int32)), .val (.int (0 : Int32)), .val (.int e0_o0)]
  refine Go.st (S' := s₁.setTop (mkF m 15 A44 [])) (fun t k => XS.istore X0.here hx rfl (hb hby djdk_52_method_21_code_13) rfl (l' := A44) rfl k) ?_
  refine Go.st (S' := s₁.setTop (mkF m 17 A44 [(.int e0_o0)])) (fun t k => XS.iload X0.here hx rfl (hb hby djdk_52_method_21_code_15) rfl k) ?_
  refine Go.st (S' := s₁.setTop (mkF m 20 A44 [(.int (255 : Int32)), (.int e0_o0)])) (fun t k => XS.sipush X0.here hx rfl (hb hby djdk_52_method_21_code_17) k) ?_
  by_cases hc45 : ((255 : Int32) < e0_o0)
  · refine Go.st (S' := s₁.setTop (mkF m 23 A44 [])) (fun t k => XS.icmpNo X0.here hx rfl (hb hby djdk_52_method_21_code_20) rfl (tlt hc45).2.2.2 k) ?_
    refine Go.st (S' := s₁.setTop (mkF m 25 A44 [(.int (0 : Int32))])) (fun t k => XS.iload X0.here hx rfl (hb hby djdk_52_method_21_code_23) rfl k) ?_
    exact Go.ret X0 (v := some (.int (0 : Int32))) (fun h => by rw [Bd.returns] at h; cases h) Bd.notSynchronized (fun fs hr => retI X0 hx Bd.returns (hb hby djdk_52_method_21_code_25) hr) (by decide) (by decide) (by rw [e0]; exact ⟨(0 : Int32), e0_o2, e1_o2, _, _, _, _, rfl, rfl, rfl, rfl, (Or.inl ⟨hc45, rfl, rfl, rfl⟩), rfl, N0, (Keep.refl h0 [o2]), V_o2, E_o2⟩)
  · refine Go.st (S' := s₁.setTop (mkF m 26 A44 [])) (fun t k => XS.icmpYes X0.here hx rfl (pc0 := 20) (pc' := 26) rfl (hb hby djdk_52_method_21_code_20) rfl (flt hc45).2.2.2 (by decide) (by decide) k) ?_
    refine Go.st (S' := s₁.setTop (mkF m 27 A44 [(.ref o2)])) (fun t k => XS.aloadN X0.here hx rfl (hb hby djdk_52_method_21_code_26) rfl rfl k) ?_
    refine Go.st (S' := s₁.setTop (mkF m 28 A44 [(.int (0 : Int32)), (.ref o2)])) (fun t k => XS.iloadN X0.here hx rfl (hb hby djdk_52_method_21_code_27) rfl k) ?_
    refine Go.st (S' := s₁.setTop (mkF m 30 A44 [(.int e0_o0), (.int (0 : Int32)), (.ref o2)])) (fun t k => XS.iload X0.here hx rfl (hb hby djdk_52_method_21_code_28) rfl k) ?_
    refine Go.op (F := fun z => s₁.setTop (mkF m 31 A44 [(.int z), (.int (0 : Int32)), (.ref o2)])) (x := e0_o0.toInt8.toInt32) (fun t k => XS.i2b X0.here hx rfl (hb hby djdk_52_method_21_code_30) rfl k) ?_
    intro v46 hv46
    obtain ⟨cl47, Ar47, q47, S47, N47_, H47, G47⟩ := id V_o2
    have hin47 : ¬ ((0 : Int32) < 0 ∨ cl47.slots.size ≤ ((0 : Int32)).toNatClampNeg) := inb_of S47 ⟨by decide, by decide⟩
    obtain ⟨v48, hv48⟩ : ∃ z, z = v46.toInt8.toInt32 := ⟨_, rfl⟩
    obtain ⟨T47, h47, X47, e47, W47, st47⟩ := stB X0 hx hZ e0 Ar47 (j := (0 : Int32)) hin47 (g := (mkF m 31 A44 [(.int v46), (.int (0 : Int32)), (.ref o2)])) rfl rfl (hb hby djdk_52_method_21_code_31)
    have W47 : Wr h0 h47 o2 ((0 : Int32)).toNatClampNeg (.int v48) := by rw [hv48]; exact W47
    have V47 : Arv Z h47 o2 k_o2 .byte (2 : Int32) [(.int v48), (.int e1_o2)] (.int (0 : Int32)) := Arv.set Ar47 q47 S47 N47_ H47 G47 (by rw [hv48]; exact fits_nar_byte _) W47 0 rfl (Nat.le_of_ble_eq_true rfl)
    have N47 := Fr.snoc X47 N0 g_o2
    have Z49 : n0 ≤ h47.size := Nat.le_trans Z0 (Keep.of_wr W47).1
    have K49 : Keep h0 h47 [o2] := (Keep.refl h0 [o2]).wr W47 (Or.inl (by simp))
    refine Go.st (S' := T47.setTop (mkF m 32 A44 [])) st47 ?_
    refine Go.op (F := fun z => T47.setTop (mkF m 35 #[.val (.ref o0), .val (.int z), .val (.ref o2), .val (.int (0 : Int32)), .val (.int (2 : Int32)), .val (.int (0 : Int32)), .val (.int e0_o0)] [])) (x := ((0 : Int32) + (1 : Int32))) (fun t k => XS.iinc X47.here hx rfl (hb hby djdk_52_method_21_code_32) rfl rfl k) ?_
    intro v50 hv50
    obtain rfl : (1 : Int32) = v50 := (hv50.trans (by decide)).symm
    refine Go.op (F := fun z => T47.setTop (mkF m 38 #[.val (.ref o0), .val (.int (1 : Int32)), .val (.ref o2), .val (.int z), .val (.int (2 : Int32)), .val (.int (0 : Int32)), .val (.int e0_o0)] [])) (x := ((0 : Int32) + (1 : Int32))) (fun t k => XS.iinc X47.here hx rfl (hb hby djdk_52_method_21_code_35) rfl rfl k) ?_
    intro v51 hv51
    obtain rfl : (1 : Int32) = v51 := (hv51.trans (by decide)).symm
    refine Go.op (F := fun z => T47.setTop (mkF m 41 #[.val (.ref o0), .val (.int (1 : Int32)), .val (.ref o2), .val (.int (1 : Int32)), .val (.int (2 : Int32)), .val (.int z), .val (.int e0_o0)] [])) (x := ((0 : Int32) + (1 : Int32))) (fun t k => XS.iinc X47.here hx rfl (hb hby djdk_52_method_21_code_38) rfl rfl k) ?_
    intro v52 hv52
    obtain rfl : (1 : Int32) = v52 := (hv52.trans (by decide)).symm
    let A53 : Array Slot := #[.val (.ref o0), .val (.int (1 : Int32)), .val (.ref o2), .val (.int (1 : Int32)), .val (.int (2 : Int32)), .val (.int (1 : Int32)), .val (.int e0_o0)]
    refine Go.st (S' := T47.setTop (mkF m 3 A53 [])) (fun t k => XS.goto X47.here hx rfl (pc0 := 41) (pc' := 3) rfl (hb hby djdk_52_method_21_code_41) (by decide) (by decide) k) ?_
    refine Go.st (S' := T47.setTop (mkF m 5 A53 [(.int (1 : Int32))])) (fun t k => XS.iload X47.here hx rfl (hb hby djdk_52_method_21_code_3) rfl k) ?_
    refine Go.st (S' := T47.setTop (mkF m 7 A53 [(.int (2 : Int32)), (.int (1 : Int32))])) (fun t k => XS.iload X47.here hx rfl (hb hby djdk_52_method_21_code_5) rfl k) ?_
    refine Go.st (S' := T47.setTop (mkF m 10 A53 [])) (fun t k => XS.icmpNo X47.here hx rfl (hb hby djdk_52_method_21_code_7) rfl (tlt (by decide : ((1 : Int32) < (2 : Int32)))).2.1 k) ?_
    refine Go.st (S' := T47.setTop (mkF m 11 A53 [(.ref o0)])) (fun t k => XS.aloadN X47.here hx rfl (hb hby djdk_52_method_21_code_10) rfl rfl k) ?_
    refine Go.st (S' := T47.setTop (mkF m 12 A53 [(.int (1 : Int32)), (.ref o0)])) (fun t k => XS.iloadN X47.here hx rfl (hb hby djdk_52_method_21_code_11) rfl k) ?_
    have f54 := ((V_o0).other W47 ne_o0_o2)
    obtain ⟨cl55, Ar55, -, S55, N55_, H55, -⟩ := id f54
    have hin55 : ¬ ((1 : Int32) < 0 ∨ cl55.slots.size ≤ ((1 : Int32)).toNatClampNeg) := inb_of S55 ⟨by decide, by decide⟩
    have hat55 : cl55.slots[((1 : Int32)).toNatClampNeg]? = some (.int e1_o0) := Has.at H55 hin55 rfl
    refine Go.st (S' := T47.setTop (mkF m 13 A53 [(.int e1_o0)])) (fun t k => X47.caload hx (j := (1 : Int32)) (v := (.int e1_o0)) (own_eh e47 Ar55.1) (State.isArrayOf_alike hZ.alike Ar55.2.1) Ar55.2.2 hin55 hat55 (g := (mkF m 12 A53 [(.int (1 : Int32)), (.ref o0)])) rfl rfl (hb hby djdk_52_method_21_code_12) t k) ?_
    let A56 : Array Slot := #[.val (.ref o0), .val (.int (1 : Int32)), .val (.ref o2), .val (.int (1 : Int32)), .val (.int (2 : Int32)), .val (.int (1 : Int32)), .val (.int e1_o0)]
    refine Go.st (S' := T47.setTop (mkF m 15 A56 [])) (fun t k => XS.istore X47.here hx rfl (hb hby djdk_52_method_21_code_13) rfl (l' := A56) rfl k) ?_
    refine Go.st (S' := T47.setTop (mkF m 17 A56 [(.int e1_o0)])) (fun t k => XS.iload X47.here hx rfl (hb hby djdk_52_method_21_code_15) rfl k) ?_
    refine Go.st (S' := T47.setTop (mkF m 20 A56 [(.int (255 : Int32)), (.int e1_o0)])) (fun t k => XS.sipush X47.here hx rfl (hb hby djdk_52_method_21_code_17) k) ?_
    by_cases hc57 : ((255 : Int32) < e1_o0)
    · refine Go.st (S' := T47.setTop (mkF m 23 A56 [])) (fun t k => XS.icmpNo X47.here hx rfl (hb hby djdk_52_method_21_code_20) rfl (tlt hc57).2.2.2 k) ?_
      refine Go.st (S' := T47.setTop (mkF m 25 A56 [(.int (1 : Int32))])) (fun t k => XS.iload X47.here hx rfl (hb hby djdk_52_method_21_code_23) rfl k) ?_
      have f58 := ((E_o2).wr W47)
      exact Go.ret X47 (v := some (.int (1 : Int32))) (fun h => by rw [Bd.returns] at h; cases h) Bd.notSynchronized (fun fs hr => retI X47 hx Bd.returns (hb hby djdk_52_method_21_code_25) hr) (by decide) (by decide) (by rw [e47]; exact ⟨(1 : Int32), v48, e1_o2, v46, v48, _, _, hv46, hv48, rfl, rfl, (Or.inr (Or.inl ⟨hc45, hc57, rfl, rfl, rfl⟩)), rfl, N47, K49, V47, f58⟩)
    · refine Go.st (S' := T47.setTop (mkF m 26 A56 [])) (fun t k => XS.icmpYes X47.here hx rfl (pc0 := 20) (pc' := 26) rfl (hb hby djdk_52_method_21_code_20) rfl (flt hc57).2.2.2 (by decide) (by decide) k) ?_
      refine Go.st (S' := T47.setTop (mkF m 27 A56 [(.ref o2)])) (fun t k => XS.aloadN X47.here hx rfl (hb hby djdk_52_method_21_code_26) rfl rfl k) ?_
      refine Go.st (S' := T47.setTop (mkF m 28 A56 [(.int (1 : Int32)), (.ref o2)])) (fun t k => XS.iloadN X47.here hx rfl (hb hby djdk_52_method_21_code_27) rfl k) ?_
      refine Go.st (S' := T47.setTop (mkF m 30 A56 [(.int e1_o0), (.int (1 : Int32)), (.ref o2)])) (fun t k => XS.iload X47.here hx rfl (hb hby djdk_52_method_21_code_28) rfl k) ?_
      refine Go.op (F := fun z => T47.setTop (mkF m 31 A56 [(.int z), (.int (1 : Int32)), (.ref o2)])) (x := e1_o0.toInt8.toInt32) (fun t k => XS.i2b X47.here hx rfl (hb hby djdk_52_method_21_code_30) rfl k) ?_
      intro v59 hv59
      obtain ⟨cl60, Ar60, q60, S60, N60_, H60, G60⟩ := id V47
      have hin60 : ¬ ((1 : Int32) < 0 ∨ cl60.slots.size ≤ ((1 : Int32)).toNatClampNeg) := inb_of S60 ⟨by decide, by decide⟩
      obtain ⟨v61, hv61⟩ : ∃ z, z = v59.toInt8.toInt32 := ⟨_, rfl⟩
      obtain ⟨T60, h60, X60, e60, W60, st60⟩ := stB X47 hx hZ e47 Ar60 (j := (1 : Int32)) hin60 (g := (mkF m 31 A56 [(.int v59), (.int (1 : Int32)), (.ref o2)])) rfl rfl (hb hby djdk_52_method_21_code_31)
      have W60 : Wr h47 h60 o2 ((1 : Int32)).toNatClampNeg (.int v61) := by rw [hv61]; exact W60
      have V60 : Arv Z h60 o2 k_o2 .byte (2 : Int32) [(.int v48), (.int v61)] (.int (0 : Int32)) := Arv.set Ar60 q60 S60 N60_ H60 G60 (by rw [hv61]; exact fits_nar_byte _) W60 1 rfl (Nat.le_of_ble_eq_true rfl)
      have N60 := Fr.snoc X60 N47 g_o2
      have Z62 : n0 ≤ h60.size := Nat.le_trans Z49 (Keep.of_wr W60).1
      have K62 : Keep h0 h60 [o2] := K49.wr W60 (Or.inl (by simp))
      refine Go.st (S' := T60.setTop (mkF m 32 A56 [])) st60 ?_
      refine Go.op (F := fun z => T60.setTop (mkF m 35 #[.val (.ref o0), .val (.int z), .val (.ref o2), .val (.int (1 : Int32)), .val (.int (2 : Int32)), .val (.int (1 : Int32)), .val (.int e1_o0)] [])) (x := ((1 : Int32) + (1 : Int32))) (fun t k => XS.iinc X60.here hx rfl (hb hby djdk_52_method_21_code_32) rfl rfl k) ?_
      intro v63 hv63
      obtain rfl : (2 : Int32) = v63 := (hv63.trans (by decide)).symm
      refine Go.op (F := fun z => T60.setTop (mkF m 38 #[.val (.ref o0), .val (.int (2 : Int32)), .val (.ref o2), .val (.int z), .val (.int (2 : Int32)), .val (.int (1 : Int32)), .val (.int e1_o0)] [])) (x := ((1 : Int32) + (1 : Int32))) (fun t k => XS.iinc X60.here hx rfl (hb hby djdk_52_method_21_code_35) rfl rfl k) ?_
      intro v64 hv64
      obtain rfl : (2 : Int32) = v64 := (hv64.trans (by decide)).symm
      refine Go.op (F := fun z => T60.setTop (mkF m 41 #[.val (.ref o0), .val (.int (2 : Int32)), .val (.ref o2), .val (.int (2 : Int32)), .val (.int (2 : Int32)), .val (.int z), .val (.int e1_o0)] [])) (x := ((1 : Int32) + (1 : Int32))) (fun t k => XS.iinc X60.here hx rfl (hb hby djdk_52_method_21_code_38) rfl rfl k) ?_
      intro v65 hv65
      obtain rfl : (2 : Int32) = v65 := (hv65.trans (by decide)).symm
      let A66 : Array Slot := #[.val (.ref o0), .val (.int (2 : Int32)), .val (.ref o2), .val (.int (2 : Int32)), .val (.int (2 : Int32)), .val (.int (2 : Int32)), .val (.int e1_o0)]
      refine Go.st (S' := T60.setTop (mkF m 3 A66 [])) (fun t k => XS.goto X60.here hx rfl (pc0 := 41) (pc' := 3) rfl (hb hby djdk_52_method_21_code_41) (by decide) (by decide) k) ?_
      refine Go.st (S' := T60.setTop (mkF m 5 A66 [(.int (2 : Int32))])) (fun t k => XS.iload X60.here hx rfl (hb hby djdk_52_method_21_code_3) rfl k) ?_
      refine Go.st (S' := T60.setTop (mkF m 7 A66 [(.int (2 : Int32)), (.int (2 : Int32))])) (fun t k => XS.iload X60.here hx rfl (hb hby djdk_52_method_21_code_5) rfl k) ?_
      refine Go.st (S' := T60.setTop (mkF m 44 A66 [])) (fun t k => XS.icmpYes X60.here hx rfl (pc0 := 7) (pc' := 44) rfl (hb hby djdk_52_method_21_code_7) rfl (flt (by decide : (¬ ((2 : Int32) < (2 : Int32))))).2.1 (by decide) (by decide) k) ?_
      refine Go.st (S' := T60.setTop (mkF m 46 A66 [(.int (2 : Int32))])) (fun t k => XS.iload X60.here hx rfl (hb hby djdk_52_method_21_code_44) rfl k) ?_
      have f67 := ((((E_o2).wr W47)).wr W60)
      exact Go.ret X60 (v := some (.int (2 : Int32))) (fun h => by rw [Bd.returns] at h; cases h) Bd.notSynchronized (fun fs hr => retI X60 hx Bd.returns (hb hby djdk_52_method_21_code_46) hr) (by decide) (by decide) (by rw [e60]; exact ⟨(2 : Int32), v48, v61, v46, v48, v59, v61, hv46, hv48, hv59, hv61, (Or.inr (Or.inr ⟨hc45, hc57, rfl, rfl, rfl⟩)), rfl, N60, K62, V60, f67⟩)
theorem ef_2 (m : MethodId) (o0 : Addr) : entryFrame m #[(.ref o0), (.int (0 : Int32)), (.int (2 : Int32))] 6 = mkF m 0 #[.val (.ref o0), .val (.int (0 : Int32)), .val (.int (2 : Int32)), .unset, .unset, .unset] [] := by first | (simp [entryFrame, mkF, argsToLocals, Value.category, maxLocals]; done) | rfl
def Q2 (Z : State) (o0 : Addr) (k_o0 : ClassId) (e0_o0 : Int32) (e1_o0 : Int32) (h0 : Heap) (n0 : Nat) (v : Option Value) (h : Heap) (L : List Loc) : Prop := (∃ (r74 : Int32) (r75 : Int32) (r76 : Int32) (v70 : Int32) (v71 : Int32) (v72 : Int32) (v73 : Int32) (b37 : Addr) (k37 : ClassId), v70 = e0_o0.toInt8.toInt32 ∧ v71 = v70.toInt8.toInt32 ∧ v72 = e1_o0.toInt8.toInt32 ∧ v73 = v72.toInt8.toInt32 ∧ ((((255 : Int32) < e0_o0) ∧ (r74 = (0 : Int32)) ∧ (r75 = (0 : Int32)) ∧ (r76 = (0 : Int32))) ∨ ((¬ ((255 : Int32) < e0_o0)) ∧ ((255 : Int32) < e1_o0) ∧ (r74 = (1 : Int32)) ∧ (r75 = v71) ∧ (r76 = (0 : Int32))) ∨ ((¬ ((255 : Int32) < e0_o0)) ∧ (¬ ((255 : Int32) < e1_o0)) ∧ (r74 = (2 : Int32)) ∧ (r75 = v71) ∧ (r76 = v73))) ∧ (r74 = (2 : Int32)) ∧ v = some (.ref b37) ∧ Fr n0 L ∧ Keep h0 h [] ∧ h0.size ≤ b37 ∧ Arv Z h b37 k37 .byte (2 : Int32) [(.int r75), (.int r76)] (.int (0 : Int32)) ∧ Exa Z h b37 "[B")
set_option maxRecDepth 65536 in
set_option maxHeartbeats 40000000 in
theorem rm2 (l : Launch) (Z : State) (a0 : Array Value) (hw : ∀ d ∈ tables_1, d.before a0 Z = true) (ws : List Jvm.Cond) (o0 : Addr) (k_o0 : ClassId) (e0_o0 : Int32) (e1_o0 : Int32) (h0 : Heap) (n0 : Nat) (Z0 : n0 ≤ h0.size) (V_o0 : Arv Z h0 o0 k_o0 .char (2 : Int32) [(.int e0_o0), (.int e1_o0)] (.int (0 : Int32))) (no1 : ¬ (∃ (r74 : Int32) (r75 : Int32) (r76 : Int32) (v70 : Int32) (v71 : Int32) (v72 : Int32) (v73 : Int32), v70 = e0_o0.toInt8.toInt32 ∧ v71 = v70.toInt8.toInt32 ∧ v72 = e1_o0.toInt8.toInt32 ∧ v73 = v72.toInt8.toInt32 ∧ ((((255 : Int32) < e0_o0) ∧ (r74 = (0 : Int32)) ∧ (r75 = (0 : Int32)) ∧ (r76 = (0 : Int32))) ∨ ((¬ ((255 : Int32) < e0_o0)) ∧ ((255 : Int32) < e1_o0) ∧ (r74 = (1 : Int32)) ∧ (r75 = v71) ∧ (r76 = (0 : Int32))) ∨ ((¬ ((255 : Int32) < e0_o0)) ∧ (¬ ((255 : Int32) < e1_o0)) ∧ (r74 = (2 : Int32)) ∧ (r75 = v71) ∧ (r76 = v73))) ∧ (¬ (r74 = (2 : Int32))))) :
    Con l Z (⟨"java/lang/StringUTF16", "compress", "([CII)[B"⟩ : MethodName) jdk_52_method_16_code 6 (some (.array .byte)) ws ({ frames := 1, cells := 1, slots := 2, locals := 18 } : Room) #[(.ref o0), (.int (0 : Int32)), (.int (2 : Int32))] h0 1 2 (Q2 Z o0 k_o0 e0_o0 e1_o0 h0 n0) := by
  refine MetFree.of_bodySF (plainFor_of_name pn_0) hisR ?_
  intro p e s m args below meth c s₁ Bd hml0 hP hK
  obtain ⟨rfl, hZ, hh⟩ := hP
  have hx := Bd.exec
  have hby := Bd.bytes
  have hml : c.maxLocals = 6 := hml0
  have hown : s.vm.findClass "java/lang/StringUTF16" = some m.cls := findClass_of_methodNamed Bd.named
  have hnm := (name_of_methodNamed Bd.named Bd.method).1
  have X0 : Stand p l e ({ frames := 1, cells := 1, slots := 2, locals := 18 } : Room) s m #[(.ref o0), (.int (0 : Int32)), (.int (2 : Int32))] below meth c s₁ [] 0 0 := Stand.of_body Bd
  have e0 : s₁.heap = h0 := by rw [← hh, Bd.state]; rfl
  have N0 := Fr.nil n0
  refine Go.of ?_
  refine Go.st (S' := s₁.setTop (mkF m 0 #[.val (.ref o0), .val (.int (0 : Int32)), .val (.int (2 : Int32)), .unset, .unset, .unset] [])) (fun t k => castTop (ef_2 m o0) k) ?_
  let A36 : Array Slot := #[.val (.ref o0), .val (.int (0 : Int32)), .val (.int (2 : Int32)), .unset, .unset, .unset]
  refine Go.st (S' := s₁.setTop (mkF m 1 A36 [(.int (2 : Int32))])) (fun t k => XS.iloadN X0.here hx rfl (hb hby djdk_52_method_16_code_0) rfl k) ?_
  obtain ⟨T37, h37, k37, X37, e37, E37, A37, B37, st37⟩ := newPE X0 hx hZ (hw _ (List.mem_of_getElem? (i := 24) rfl)) e0 (g := (mkF m 1 A36 [(.int (2 : Int32))])) rfl (hb hby djdk_52_method_16_code_1) rfl (by decide) (cap := 2) (by decide) (by decide) (by decide) (by decide) (ad := "[B") (by decide)
  obtain ⟨b37, gg37⟩ : ∃ z, z = h0.size := ⟨_, rfl⟩
  rw [← gg37] at A37 B37 st37
  have g_b37 : n0 ≤ b37 := Nat.le_trans Z0 (Nat.le_of_eq gg37.symm)
  have sz_b37 : h0.size ≤ b37 := Nat.le_trans (Keep.refl h0 []).1 (Nat.le_of_eq gg37.symm)
  have Z38 : n0 ≤ h37.size := Nat.le_trans Z0 E37.1
  have K38 : Keep h0 h37 [] := (Keep.refl h0 []).ext E37
  have V37 : Arv Z h37 b37 k37 .byte (2 : Int32) [(.int (0 : Int32)), (.int (0 : Int32))] (.int (0 : Int32)) := (Arv.new A37 (by decide)).pad (pad_rep [] (.int (0 : Int32)) 2)
  refine Go.st (S' := T37.setTop (mkF m 3 A36 [(.ref b37)])) st37 ?_
  let A39 : Array Slot := #[.val (.ref o0), .val (.int (0 : Int32)), .val (.int (2 : Int32)), .val (.ref b37), .unset, .unset]
  refine Go.st (S' := T37.setTop (mkF m 4 A39 [])) (fun t k => XS.astoreN X37.here hx rfl (hb hby djdk_52_method_16_code_3) rfl rfl (l' := A39) rfl k) ?_
  refine Go.st (S' := T37.setTop (mkF m 5 A39 [(.ref o0)])) (fun t k => XS.aloadN X37.here hx rfl (hb hby djdk_52_method_16_code_4) rfl rfl k) ?_
  refine Go.st (S' := T37.setTop (mkF m 6 A39 [(.int (0 : Int32)), (.ref o0)])) (fun t k => XS.iloadN X37.here hx rfl (hb hby djdk_52_method_16_code_5) rfl k) ?_
  refine Go.st (S' := T37.setTop (mkF m 7 A39 [(.ref b37), (.int (0 : Int32)), (.ref o0)])) (fun t k => XS.aloadN X37.here hx rfl (hb hby djdk_52_method_16_code_6) rfl rfl k) ?_
  refine Go.st (S' := T37.setTop (mkF m 8 A39 [(.int (0 : Int32)), (.ref b37), (.int (0 : Int32)), (.ref o0)])) (fun t k => XS.iconst X37.here hx rfl (hb hby djdk_52_method_16_code_7) k) ?_
  refine Go.st (S' := T37.setTop (mkF m 9 A39 [(.int (2 : Int32)), (.int (0 : Int32)), (.ref b37), (.int (0 : Int32)), (.ref o0)])) (fun t k => XS.iloadN X37.here hx rfl (hb hby djdk_52_method_16_code_8) rfl k) ?_
  have f68 := ((V_o0).ext E37)
  obtain ⟨r69, T69, L69, X69, hQ69, st69⟩ := own_callS (W := 0) X37 hx hZ e37 hown (y := (⟨"java/lang/StringUTF16", "compress", "([CI[BII)I"⟩ : MethodName)) (hw _ (List.mem_of_getElem? (i := 25) rfl)) (hw _ (List.mem_of_getElem? (i := 26) rfl)) (hw _ (List.mem_of_getElem? (i := 22) rfl)) (hw _ (List.mem_of_getElem? (i := 27) rfl)) (by decide) (rm1 l Z a0 hw [] o0 b37 k_o0 e0_o0 e1_o0 k37 (0 : Int32) (0 : Int32) h37 n0 Z38 (f68) (V37) (g_b37) ((Nat.ne_of_lt (Nat.lt_of_lt_of_le (V_o0).lt sz_b37))) (B37)) (by decide) (by decide) (by decide) (by decide) (g := (mkF m 9 A39 [(.int (2 : Int32)), (.int (0 : Int32)), (.ref b37), (.int (0 : Int32)), (.ref o0)])) rfl (by rw [hml]; rfl) (argsL := [(.ref o0), (.int (0 : Int32)), (.ref b37), (.int (0 : Int32)), (.int (2 : Int32))]) (rest := []) rfl (lenOf pd_0 rfl) rfl (by show 2 * 0 + _ ≤ _; exact Nat.le_of_eq rfl) (hb hby djdk_52_method_16_code_9)
  obtain ⟨r74, r75, r76, v70, v71, v72, v73, hv70, hv71, hv72, hv73, hc77, rfl, N69, K69_, f78, f79⟩ := hQ69
  have N69_ := Fr.app N0 N69
  have Z80 : n0 ≤ T69.heap.size := Nat.le_trans Z38 K69_.1
  have K80 : Keep h0 T69.heap [] := K38.trans K69_ (allS (Or.inr sz_b37) all0)
  refine Go.st (S' := T69.setTop (mkF m 12 A39 [(.int r74)])) st69 ?_
  let A81 : Array Slot := #[.val (.ref o0), .val (.int (0 : Int32)), .val (.int (2 : Int32)), .val (.ref b37), .val (.int r74), .unset]
  refine Go.st (S' := T69.setTop (mkF m 14 A81 [])) (fun t k => XS.istore X69.here hx rfl (hb hby djdk_52_method_16_code_12) rfl (l' := A81) rfl k) ?_
  refine Go.st (S' := T69.setTop (mkF m 16 A81 [(.int r74)])) (fun t k => XS.iload X69.here hx rfl (hb hby djdk_52_method_16_code_14) rfl k) ?_
  refine Go.st (S' := T69.setTop (mkF m 17 A81 [(.int (2 : Int32)), (.int r74)])) (fun t k => XS.iloadN X69.here hx rfl (hb hby djdk_52_method_16_code_16) rfl k) ?_
  by_cases hc82 : (r74 = (2 : Int32))
  · refine Go.st (S' := T69.setTop (mkF m 57 A81 [])) (fun t k => XS.icmpYes X69.here hx rfl (pc0 := 17) (pc' := 57) rfl (hb hby djdk_52_method_16_code_17) rfl (teq hc82).1 (by decide) (by decide) k) ?_
    refine Go.st (S' := T69.setTop (mkF m 58 A81 [(.ref b37)])) (fun t k => XS.aloadN X69.here hx rfl (hb hby djdk_52_method_16_code_57) rfl rfl k) ?_
    exact Go.ret X69 (v := some (.ref b37)) (fun h => by rw [Bd.returns] at h; cases h) Bd.notSynchronized (fun fs hr => retOut X69 hx Bd.returns rfl (Or.inr (Or.inr (Or.inr (Or.inr ⟨rfl, rfl, rfl⟩)))) (hb hby djdk_52_method_16_code_58) hr) (by decide) (by decide) (⟨r74, r75, r76, v70, v71, v72, v73, b37, k37, hv70, hv71, hv72, hv73, hc77, hc82, rfl, N69_, K80, sz_b37, f78, f79⟩)
  · refine Go.st (S' := T69.setTop (mkF m 20 A81 [])) (fun t k => XS.icmpNo X69.here hx rfl (hb hby djdk_52_method_16_code_17) rfl (feq hc82).1 k) ?_
    refine Go.st (S' := T69.setTop (mkF m 21 A81 [(.ref o0)])) (fun t k => XS.aloadN X69.here hx rfl (hb hby djdk_52_method_16_code_20) rfl rfl k) ?_
    refine Go.st (S' := T69.setTop (mkF m 22 A81 [(.int (0 : Int32)), (.ref o0)])) (fun t k => XS.iloadN X69.here hx rfl (hb hby djdk_52_method_16_code_21) rfl k) ?_
    refine Go.st (S' := T69.setTop (mkF m 23 A81 [(.int (2 : Int32)), (.int (0 : Int32)), (.ref o0)])) (fun t k => XS.iloadN X69.here hx rfl (hb hby djdk_52_method_16_code_22) rfl k) ?_
    exact absurd ⟨r74, r75, r76, v70, v71, v72, v73, hv70, hv71, hv72, hv73, hc77, hc82⟩ no1
theorem ef_3 (m : MethodId) (o0 : Addr) : entryFrame m #[(.ref o0), (.int (2 : Int32))] 2 = mkF m 0 #[.val (.ref o0), .val (.int (2 : Int32))] [] := by first | (simp [entryFrame, mkF, argsToLocals, Value.category, maxLocals]; done) | rfl
def Q3 (Z : State) (o0 : Addr) (k_o0 : ClassId) (e0_o0 : Int32) (e1_o0 : Int32) (h0 : Heap) (n0 : Nat) (v : Option Value) (h : Heap) (L : List Loc) : Prop := (v = some (.int (0 : Int32)) ∧ Fr n0 L ∧ h = h0)
set_option maxRecDepth 65536 in
set_option maxHeartbeats 40000000 in
theorem rm3 (l : Launch) (Z : State) (a0 : Array Value) (hw : ∀ d ∈ tables_1, d.before a0 Z = true) (ws : List Jvm.Cond) (o0 : Addr) (k_o0 : ClassId) (e0_o0 : Int32) (e1_o0 : Int32) (h0 : Heap) (n0 : Nat) (Z0 : n0 ≤ h0.size) (V_o0 : Arv Z h0 o0 k_o0 .byte (2 : Int32) [(.int e0_o0), (.int e1_o0)] (.int (0 : Int32))) :
    Con l Z (⟨"java/lang/StringUTF16", "coderFromArrayLen", "([BI)B"⟩ : MethodName) jdk_52_method_15_code 2 (some .byte) ws ({ frames := 0, cells := 0, slots := 0, locals := 0 } : Room) #[(.ref o0), (.int (2 : Int32))] h0 0 0 (Q3 Z o0 k_o0 e0_o0 e1_o0 h0 n0) := by
  refine MetFree.of_bodySF (plainFor_of_name pn_0) hisR ?_
  intro p e s m args below meth c s₁ Bd hml0 hP hK
  obtain ⟨rfl, hZ, hh⟩ := hP
  have hx := Bd.exec
  have hby := Bd.bytes
  have hml : c.maxLocals = 2 := hml0
  have hown : s.vm.findClass "java/lang/StringUTF16" = some m.cls := findClass_of_methodNamed Bd.named
  have hnm := (name_of_methodNamed Bd.named Bd.method).1
  have X0 : Stand p l e ({ frames := 0, cells := 0, slots := 0, locals := 0 } : Room) s m #[(.ref o0), (.int (2 : Int32))] below meth c s₁ [] 0 0 := Stand.of_body Bd
  have e0 : s₁.heap = h0 := by rw [← hh, Bd.state]; rfl
  have N0 := Fr.nil n0
  refine Go.of ?_
  refine Go.st (S' := s₁.setTop (mkF m 0 #[.val (.ref o0), .val (.int (2 : Int32))] [])) (fun t k => castTop (ef_3 m o0) k) ?_
  refine Go.st (S' := s₁.setTop (mkF m 1 #[.val (.ref o0), .val (.int (2 : Int32))] [(.int (2 : Int32))])) (fun t k => XS.iloadN X0.here hx rfl (hb hby djdk_52_method_15_code_0) rfl k) ?_
  refine Go.st (S' := s₁.setTop (mkF m 2 #[.val (.ref o0), .val (.int (2 : Int32))] [(.ref o0), (.int (2 : Int32))])) (fun t k => XS.aloadN X0.here hx rfl (hb hby djdk_52_method_15_code_1) rfl rfl k) ?_
  obtain ⟨cl109, Ar109, -, S109, N109_, -, -⟩ := id V_o0
  refine Go.op (F := fun z => s₁.setTop (mkF m 3 #[.val (.ref o0), .val (.int (2 : Int32))] [(.int z), (.int (2 : Int32))])) (x := cl109.slots.size.toInt32) (fun t k => X0.arraylength hx (own_eh e0 Ar109.1) (State.isArrayOf_alike hZ.alike Ar109.2.1) (g := (mkF m 2 #[.val (.ref o0), .val (.int (2 : Int32))] [(.ref o0), (.int (2 : Int32))])) rfl rfl (hb hby djdk_52_method_15_code_2) t k) ?_
  intro v110 hv110
  obtain rfl : (2 : Int32) = v110 := (hv110.trans (len_of S109 N109_)).symm
  refine Go.op (F := fun z => s₁.setTop (mkF m 4 #[.val (.ref o0), .val (.int (2 : Int32))] [(.int z)])) (x := ((2 : Int32) - (2 : Int32))) (fun t k => XS.isub X0.here hx rfl (hb hby djdk_52_method_15_code_3) rfl k) ?_
  intro v111 hv111
  obtain rfl : (0 : Int32) = v111 := (hv111.trans (by decide)).symm
  refine Go.st (S' := s₁.setTop (mkF m 6 #[.val (.ref o0), .val (.int (2 : Int32))] [(.int (31 : Int32)), (.int (0 : Int32))])) (fun t k => XS.bipush X0.here hx rfl (hb hby djdk_52_method_15_code_4) k) ?_
  refine Go.op (F := fun z => s₁.setTop (mkF m 7 #[.val (.ref o0), .val (.int (2 : Int32))] [(.int z)])) (x := (((0 : Int32).toUInt32 >>> ((31 : Int32) &&& 31).toUInt32).toInt32)) (fun t k => XS.iushr X0.here hx rfl (hb hby djdk_52_method_15_code_6) rfl k) ?_
  intro v112 hv112
  obtain rfl : (0 : Int32) = v112 := (hv112.trans (by decide)).symm
  refine Go.op (F := fun z => s₁.setTop (mkF m 8 #[.val (.ref o0), .val (.int (2 : Int32))] [(.int z)])) (x := (0 : Int32).toInt8.toInt32) (fun t k => XS.i2b X0.here hx rfl (hb hby djdk_52_method_15_code_7) rfl k) ?_
  intro v113 hv113
  obtain rfl : (0 : Int32) = v113 := (hv113.trans (by decide)).symm
  exact Go.ret X0 (v := some (.int (0 : Int32))) (fun h => by rw [Bd.returns] at h; cases h) Bd.notSynchronized (fun fs hr => retN X0 hx (t := .byte) Bd.returns (by simp) (hb hby djdk_52_method_15_code_8) hr) (by decide) (by decide) (⟨rfl, N0, (e0)⟩)
theorem ef_4 (m : MethodId) (o0 : Addr) (o1 : Addr) : entryFrame m #[(.ref o0), (.ref o1), (.int (0 : Int32)), (.int (2 : Int32)), .null] 6 = mkF m 0 #[.val (.ref o0), .val (.ref o1), .val (.int (0 : Int32)), .val (.int (2 : Int32)), .val .null, .unset] [] := by first | (simp [entryFrame, mkF, argsToLocals, Value.category, maxLocals]; done) | rfl
def Q4 (Z : State) (o0 : Addr) (o1 : Addr) (s_String_COMPACT_STRINGS : Int32) (k_o1 : ClassId) (e0_o1 : Int32) (e1_o1 : Int32) (u_o0_coder : Value) (u_o0_value : Value) (h0 : Heap) (n0 : Nat) (v : Option Value) (h : Heap) (L : List Loc) : Prop := (∃ (r99 : Int32) (r100 : Int32) (r101 : Int32) (v94 : Int32) (v95 : Int32) (v96 : Int32) (v97 : Int32) (b98 : Addr) (k102 : ClassId), v94 = e0_o1.toInt8.toInt32 ∧ v95 = v94.toInt8.toInt32 ∧ v96 = e1_o1.toInt8.toInt32 ∧ v97 = v96.toInt8.toInt32 ∧ (¬ (s_String_COMPACT_STRINGS = (0 : Int32))) ∧ ((((255 : Int32) < e0_o1) ∧ (r99 = (0 : Int32)) ∧ (r100 = (0 : Int32)) ∧ (r101 = (0 : Int32))) ∨ ((¬ ((255 : Int32) < e0_o1)) ∧ ((255 : Int32) < e1_o1) ∧ (r99 = (1 : Int32)) ∧ (r100 = v95) ∧ (r101 = (0 : Int32))) ∨ ((¬ ((255 : Int32) < e0_o1)) ∧ (¬ ((255 : Int32) < e1_o1)) ∧ (r99 = (2 : Int32)) ∧ (r100 = v95) ∧ (r101 = v97))) ∧ (r99 = (2 : Int32)) ∧ v = none ∧ Fr n0 L ∧ Keep h0 h [o0] ∧ h0.size ≤ b98 ∧ Arv Z h b98 k102 .byte (2 : Int32) [(.int r100), (.int r101)] (.int (0 : Int32)) ∧ Exa Z h b98 "[B" ∧ Exa Z h o0 "java/lang/String" ∧ Fld Z h o0 "java/lang/String" "coder" "B" (.int (0 : Int32)) ∧ Fld Z h o0 "java/lang/String" "value" "[B" (.ref b98))
set_option maxRecDepth 65536 in
set_option maxHeartbeats 40000000 in
theorem rm4 (l : Launch) (Z : State) (a0 : Array Value) (hw : ∀ d ∈ tables_1, d.before a0 Z = true) (ws : List Jvm.Cond) (o0 : Addr) (o1 : Addr) (s_String_COMPACT_STRINGS : Int32) (k_o1 : ClassId) (e0_o1 : Int32) (e1_o1 : Int32) (u_o0_coder : Value) (u_o0_value : Value) (h0 : Heap) (n0 : Nat) (Z0 : n0 ≤ h0.size) (S_s_String_COMPACT_STRINGS : Sta Z h0 "java/lang/String" "COMPACT_STRINGS" "Z" (.int s_String_COMPACT_STRINGS)) (nz_s_String_COMPACT_STRINGS : s_String_COMPACT_STRINGS ≠ 0) (V_o1 : Arv Z h0 o1 k_o1 .char (2 : Int32) [(.int e0_o1), (.int e1_o1)] (.int (0 : Int32))) (no3 : ¬ (∃ (r84 : Int32) (r85 : Int32) (r86 : Int32) (v87 : Int32) (v88 : Int32) (v89 : Int32) (v90 : Int32), v87 = e0_o1.toInt8.toInt32 ∧ v88 = v87.toInt8.toInt32 ∧ v89 = e1_o1.toInt8.toInt32 ∧ v90 = v89.toInt8.toInt32 ∧ (¬ (s_String_COMPACT_STRINGS = (0 : Int32))) ∧ ((((255 : Int32) < e0_o1) ∧ (r84 = (0 : Int32)) ∧ (r85 = (0 : Int32)) ∧ (r86 = (0 : Int32))) ∨ ((¬ ((255 : Int32) < e0_o1)) ∧ ((255 : Int32) < e1_o1) ∧ (r84 = (1 : Int32)) ∧ (r85 = v88) ∧ (r86 = (0 : Int32))) ∨ ((¬ ((255 : Int32) < e0_o1)) ∧ (¬ ((255 : Int32) < e1_o1)) ∧ (r84 = (2 : Int32)) ∧ (r85 = v88) ∧ (r86 = v90))) ∧ (¬ (r84 = (2 : Int32))))) (E_o0 : Exa Z h0 o0 "java/lang/String") (F_o0_coder : Fld Z h0 o0 "java/lang/String" "coder" "B" u_o0_coder) (g_o0 : n0 ≤ o0) (F_o0_value : Fld Z h0 o0 "java/lang/String" "value" "[B" u_o0_value) :
    Con l Z (⟨"java/lang/String", "<init>", "([CIILjava/lang/Void;)V"⟩ : MethodName) jdk_42_method_149_code 6 none ws ({ frames := 2, cells := 1, slots := 2, locals := 35 } : Room) #[(.ref o0), (.ref o1), (.int (0 : Int32)), (.int (2 : Int32)), .null] h0 1 2 (Q4 Z o0 o1 s_String_COMPACT_STRINGS k_o1 e0_o1 e1_o1 u_o0_coder u_o0_value h0 n0) := by
  refine MetFree.of_bodySF (plainFor_of_name pn_1) hisR ?_
  intro p e s m args below meth c s₁ Bd hml0 hP hK
  obtain ⟨rfl, hZ, hh⟩ := hP
  have hx := Bd.exec
  have hby := Bd.bytes
  have hml : c.maxLocals = 6 := hml0
  have hown : s.vm.findClass "java/lang/String" = some m.cls := findClass_of_methodNamed Bd.named
  have hnm := (name_of_methodNamed Bd.named Bd.method).1
  have X0 : Stand p l e ({ frames := 2, cells := 1, slots := 2, locals := 35 } : Room) s m #[(.ref o0), (.ref o1), (.int (0 : Int32)), (.int (2 : Int32)), .null] below meth c s₁ [] 0 0 := Stand.of_body Bd
  have e0 : s₁.heap = h0 := by rw [← hh, Bd.state]; rfl
  have N0 := Fr.nil n0
  refine Go.of ?_
  refine Go.st (S' := s₁.setTop (mkF m 0 #[.val (.ref o0), .val (.ref o1), .val (.int (0 : Int32)), .val (.int (2 : Int32)), .val .null, .unset] [])) (fun t k => castTop (ef_4 m o0 o1) k) ?_
  let A33 : Array Slot := #[.val (.ref o0), .val (.ref o1), .val (.int (0 : Int32)), .val (.int (2 : Int32)), .val .null, .unset]
  refine Go.st (S' := s₁.setTop (mkF m 1 A33 [(.ref o0)])) (fun t k => XS.aloadN X0.here hx rfl (hb hby djdk_42_method_149_code_0) rfl rfl k) ?_
  obtain ⟨T34, X34, e34, st34⟩ := initO X0 hx hZ hown (hw _ (List.mem_of_getElem? (i := 16) rfl)) (hw _ (List.mem_of_getElem? (i := 17) rfl)) (hw _ (List.mem_of_getElem? (i := 18) rfl)) e0 (g := (mkF m 1 A33 [(.ref o0)])) rfl (by rw [hml]; rfl) rfl (hb hby djdk_42_method_149_code_1) (by decide) (W := 0) (by show 2 * 0 + _ ≤ _; exact Nat.le_of_eq rfl) (by decide)
  refine Go.st (S' := T34.setTop (mkF m 4 A33 [])) st34 ?_
  refine Go.st (S' := T34.setTop (mkF m 5 A33 [(.int (2 : Int32))])) (fun t k => XS.iloadN X34.here hx rfl (hb hby djdk_42_method_149_code_4) rfl k) ?_
  refine Go.st (S' := T34.setTop (mkF m 27 A33 [])) (fun t k => XS.ifYes X34.here hx rfl (pc0 := 5) (pc' := 27) rfl (hb hby djdk_42_method_149_code_5) rfl ((if0 _ _).trans (feq (by decide : (¬ ((2 : Int32) = (0 : Int32))))).2) (by decide) (by decide) k) ?_
  obtain ⟨T35, X35, e35, st35⟩ := getS X34 hx hZ hown (hw _ (List.mem_of_getElem? (i := 19) rfl)) Via.refl e34 S_s_String_COMPACT_STRINGS (host := "") (g := (mkF m 27 A33 [])) rfl (hb hby djdk_42_method_149_code_27)
  refine Go.st (S' := T35.setTop (mkF m 30 A33 [(.int s_String_COMPACT_STRINGS)])) st35 ?_
  refine Go.st (S' := T35.setTop (mkF m 33 A33 [])) (fun t k => XS.ifNo X35.here hx rfl (hb hby djdk_42_method_149_code_30) rfl ((if0 _ _).trans (feq nz_s_String_COMPACT_STRINGS).1) k) ?_
  refine Go.st (S' := T35.setTop (mkF m 34 A33 [(.ref o1)])) (fun t k => XS.aloadN X35.here hx rfl (hb hby djdk_42_method_149_code_33) rfl rfl k) ?_
  refine Go.st (S' := T35.setTop (mkF m 35 A33 [(.int (0 : Int32)), (.ref o1)])) (fun t k => XS.iloadN X35.here hx rfl (hb hby djdk_42_method_149_code_34) rfl k) ?_
  refine Go.st (S' := T35.setTop (mkF m 36 A33 [(.int (2 : Int32)), (.int (0 : Int32)), (.ref o1)])) (fun t k => XS.iloadN X35.here hx rfl (hb hby djdk_42_method_149_code_35) rfl k) ?_
  have no83 : ¬ (∃ (r84 : Int32) (r85 : Int32) (r86 : Int32) (v87 : Int32) (v88 : Int32) (v89 : Int32) (v90 : Int32), v87 = e0_o1.toInt8.toInt32 ∧ v88 = v87.toInt8.toInt32 ∧ v89 = e1_o1.toInt8.toInt32 ∧ v90 = v89.toInt8.toInt32 ∧ ((((255 : Int32) < e0_o1) ∧ (r84 = (0 : Int32)) ∧ (r85 = (0 : Int32)) ∧ (r86 = (0 : Int32))) ∨ ((¬ ((255 : Int32) < e0_o1)) ∧ ((255 : Int32) < e1_o1) ∧ (r84 = (1 : Int32)) ∧ (r85 = v88) ∧ (r86 = (0 : Int32))) ∨ ((¬ ((255 : Int32) < e0_o1)) ∧ (¬ ((255 : Int32) < e1_o1)) ∧ (r84 = (2 : Int32)) ∧ (r85 = v88) ∧ (r86 = v90))) ∧ (¬ (r84 = (2 : Int32)))) := by
    rintro ⟨r84, r85, r86, v87, v88, v89, v90, hv87, hv88, hv89, hv90, hc91, hc92⟩
    exact absurd ⟨r84, r85, r86, v87, v88, v89, v90, hv87, hv88, hv89, hv90, nz_s_String_COMPACT_STRINGS, hc91, hc92⟩ no3
  obtain ⟨r93, T93, L93, X93, hQ93, st93⟩ := own_callS (W := 0) X35 hx hZ e35 hown (y := (⟨"java/lang/StringUTF16", "compress", "([CII)[B"⟩ : MethodName)) (hw _ (List.mem_of_getElem? (i := 20) rfl)) (hw _ (List.mem_of_getElem? (i := 21) rfl)) (hw _ (List.mem_of_getElem? (i := 22) rfl)) (hw _ (List.mem_of_getElem? (i := 23) rfl)) (by decide) (rm2 l Z a0 hw [] o1 k_o1 e0_o1 e1_o1 h0 n0 Z0 (V_o1) (no83)) (by decide) (by decide) (by decide) (by decide) (g := (mkF m 36 A33 [(.int (2 : Int32)), (.int (0 : Int32)), (.ref o1)])) rfl (by rw [hml]; rfl) (argsL := [(.ref o1), (.int (0 : Int32)), (.int (2 : Int32))]) (rest := []) rfl (lenOf pd_1 rfl) rfl (by show 2 * 0 + _ ≤ _; exact Nat.le_of_eq rfl) (hb hby djdk_42_method_149_code_36)
  obtain ⟨r99, r100, r101, v94, v95, v96, v97, b98, k102, hv94, hv95, hv96, hv97, hc103, hc104, rfl, N93, K93_, sz_b98_, f105, f106⟩ := hQ93
  have N93_ := Fr.app N0 N93
  have g_b98 : n0 ≤ b98 := Nat.le_trans Z0 sz_b98_
  have sz_b98 : h0.size ≤ b98 := Nat.le_trans (Keep.refl h0 [o0]).1 sz_b98_
  have Z107 : n0 ≤ T93.heap.size := Nat.le_trans Z0 K93_.1
  have K107 : Keep h0 T93.heap [o0] := (Keep.refl h0 [o0]).trans K93_ all0
  refine Go.st (S' := T93.setTop (mkF m 39 A33 [(.ref b98)])) st93 ?_
  let A108 : Array Slot := #[.val (.ref o0), .val (.ref o1), .val (.int (0 : Int32)), .val (.int (2 : Int32)), .val .null, .val (.ref b98)]
  refine Go.st (S' := T93.setTop (mkF m 41 A108 [])) (fun t k => XS.astore X93.here hx rfl (hb hby djdk_42_method_149_code_39) rfl rfl (l' := A108) rfl k) ?_
  refine Go.st (S' := T93.setTop (mkF m 42 A108 [(.ref o0)])) (fun t k => XS.aloadN X93.here hx rfl (hb hby djdk_42_method_149_code_41) rfl rfl k) ?_
  refine Go.st (S' := T93.setTop (mkF m 44 A108 [(.ref b98), (.ref o0)])) (fun t k => XS.aload X93.here hx rfl (hb hby djdk_42_method_149_code_42) rfl rfl k) ?_
  refine Go.st (S' := T93.setTop (mkF m 45 A108 [(.int (2 : Int32)), (.ref b98), (.ref o0)])) (fun t k => XS.iloadN X93.here hx rfl (hb hby djdk_42_method_149_code_44) rfl k) ?_
  obtain ⟨r114, T114, L114, X114, hQ114, st114⟩ := own_callS (W := 1) X93 hx hZ rfl hown (y := (⟨"java/lang/StringUTF16", "coderFromArrayLen", "([BI)B"⟩ : MethodName)) (hw _ (List.mem_of_getElem? (i := 28) rfl)) (hw _ (List.mem_of_getElem? (i := 29) rfl)) (hw _ (List.mem_of_getElem? (i := 22) rfl)) (hw _ (List.mem_of_getElem? (i := 30) rfl)) (by decide) (rm3 l Z a0 hw [] b98 k102 r100 r101 T93.heap n0 Z107 (f105)) (by decide) (by decide) (by decide) (by decide) (g := (mkF m 45 A108 [(.int (2 : Int32)), (.ref b98), (.ref o0)])) rfl (by rw [hml]; rfl) (argsL := [(.ref b98), (.int (2 : Int32))]) (rest := [(.ref o0)]) rfl (lenOf pd_2 rfl) rfl (by show 2 * 0 + _ ≤ _; exact Nat.le_of_eq rfl) (hb hby djdk_42_method_149_code_45)
  obtain ⟨rfl, N114, e114⟩ := hQ114
  have N114_ := Fr.app N93_ N114
  refine Go.st (S' := T114.setTop (mkF m 48 A108 [(.int (0 : Int32)), (.ref o0)])) st114 ?_
  have f115 := ((E_o0).keep K93_)
  have f116 := ((F_o0_coder).keep K93_ nin0)
  obtain ⟨T117, h117, X117, e117, W117, st117⟩ := putF X114 hx hZ hown (host := "") (Or.inl (hw _ (List.mem_of_getElem? (i := 31) rfl))) Via.refl e114 f116 f115 (Or.inr ⟨(hw _ (List.mem_of_getElem? (i := 32) rfl)), rfl, hnm⟩) (hw _ (List.mem_of_getElem? (i := 7) rfl)) (ty := .byte) (by decide) rfl (by decide) (g := (mkF m 48 A108 [(.int (0 : Int32)), (.ref o0)])) rfl rfl (hb hby djdk_42_method_149_code_48)
  have Fw117 := (f116).same W117
  have N117 := Fr.snoc X117 N114_ g_o0
  have Z118 : n0 ≤ h117.size := Nat.le_trans Z107 (Keep.of_wr W117).1
  have K118 : Keep h0 h117 [o0] := K107.wr W117 (Or.inl (by simp))
  refine Go.st (S' := T117.setTop (mkF m 51 A108 [])) st117 ?_
  refine Go.st (S' := T117.setTop (mkF m 52 A108 [(.ref o0)])) (fun t k => XS.aloadN X117.here hx rfl (hb hby djdk_42_method_149_code_51) rfl rfl k) ?_
  refine Go.st (S' := T117.setTop (mkF m 54 A108 [(.ref b98), (.ref o0)])) (fun t k => XS.aload X117.here hx rfl (hb hby djdk_42_method_149_code_52) rfl rfl k) ?_
  have f119 := ((f115).wr W117)
  have f120 := ((((F_o0_value).keep K93_ nin0)).other W117 (Or.inr (slot_ne (Or.inr (hw _ (List.mem_of_getElem? (i := 34) rfl))) (Or.inr (hw _ (List.mem_of_getElem? (i := 32) rfl))) (by decide) (t := (.array .byte)) (t' := .byte) (by decide) (by decide))))
  obtain ⟨T121, h121, X121, e121, W121, st121⟩ := putF X117 hx hZ hown (host := "") (Or.inl (hw _ (List.mem_of_getElem? (i := 33) rfl))) Via.refl e117 f120 f119 (Or.inr ⟨(hw _ (List.mem_of_getElem? (i := 34) rfl)), rfl, hnm⟩) (hw _ (List.mem_of_getElem? (i := 7) rfl)) (ty := (.array .byte)) (by decide) rfl rfl (g := (mkF m 54 A108 [(.ref b98), (.ref o0)])) rfl rfl (hb hby djdk_42_method_149_code_54)
  have Fw121 := (f120).same W121
  have N121 := Fr.snoc X121 N117 g_o0
  have Z122 : n0 ≤ h121.size := Nat.le_trans Z118 (Keep.of_wr W121).1
  have K122 : Keep h0 h121 [o0] := K118.wr W121 (Or.inl (by simp))
  refine Go.st (S' := T121.setTop (mkF m 57 A108 [])) st121 ?_
  have f123 := ((((f105).other W117 (Ne.symm (Nat.ne_of_lt (Nat.lt_of_lt_of_le (E_o0).lt sz_b98))))).other W121 (Ne.symm (Nat.ne_of_lt (Nat.lt_of_lt_of_le (E_o0).lt sz_b98))))
  have f124 := ((((f106).wr W117)).wr W121)
  have f125 := ((f119).wr W121)
  have f126 := ((Fw117).other W121 (Or.inr (slot_ne (Or.inr (hw _ (List.mem_of_getElem? (i := 32) rfl))) (Or.inr (hw _ (List.mem_of_getElem? (i := 34) rfl))) (by decide) (t := .byte) (t' := (.array .byte)) (by decide) (by decide))))
  exact Go.ret X121 (v := none) (fun _ => rfl) Bd.notSynchronized (fun fs hr => X121.returnOut hx Bd.returns (hb hby djdk_42_method_149_code_57) hr) (by decide) (by decide) (by rw [e121]; exact ⟨r99, r100, r101, v94, v95, v96, v97, b98, k102, hv94, hv95, hv96, hv97, nz_s_String_COMPACT_STRINGS, hc103, hc104, rfl, N121, K122, sz_b98, f123, f124, f125, f126, Fw121⟩)
theorem ef_5 (m : MethodId) (o0 : Addr) (o1 : Addr) : entryFrame m #[(.ref o0), (.ref o1)] 2 = mkF m 0 #[.val (.ref o0), .val (.ref o1)] [] := by first | (simp [entryFrame, mkF, argsToLocals, Value.category, maxLocals]; done) | rfl
def Q5 (Z : State) (o0 : Addr) (o1 : Addr) (k_o1 : ClassId) (e0_o1 : Int32) (e1_o1 : Int32) (s_String_COMPACT_STRINGS : Int32) (h0 : Heap) (n0 : Nat) (v : Option Value) (h : Heap) (L : List Loc) : Prop := (∃ (r144 : Int32) (r145 : Int32) (r146 : Int32) (v139 : Int32) (v140 : Int32) (v141 : Int32) (v142 : Int32) (b143 : Addr) (k147 : ClassId), v139 = e0_o1.toInt8.toInt32 ∧ v140 = v139.toInt8.toInt32 ∧ v141 = e1_o1.toInt8.toInt32 ∧ v142 = v141.toInt8.toInt32 ∧ (¬ (s_String_COMPACT_STRINGS = (0 : Int32))) ∧ (¬ (s_String_COMPACT_STRINGS = (0 : Int32))) ∧ ((((255 : Int32) < e0_o1) ∧ (r144 = (0 : Int32)) ∧ (r145 = (0 : Int32)) ∧ (r146 = (0 : Int32))) ∨ ((¬ ((255 : Int32) < e0_o1)) ∧ ((255 : Int32) < e1_o1) ∧ (r144 = (1 : Int32)) ∧ (r145 = v140) ∧ (r146 = (0 : Int32))) ∨ ((¬ ((255 : Int32) < e0_o1)) ∧ (¬ ((255 : Int32) < e1_o1)) ∧ (r144 = (2 : Int32)) ∧ (r145 = v140) ∧ (r146 = v142))) ∧ (r144 = (2 : Int32)) ∧ v = none ∧ Fr n0 L ∧ Keep h0 h [o0] ∧ h0.size ≤ b143 ∧ Exa Z h o0 "java/lang/String" ∧ Fld Z h o0 "java/lang/String" "coder" "B" (.int (0 : Int32)) ∧ Fld Z h o0 "java/lang/String" "value" "[B" (.ref b143) ∧ Arv Z h b143 k147 .byte (2 : Int32) [(.int r145), (.int r146)] (.int (0 : Int32)) ∧ Exa Z h b143 "[B")
set_option maxRecDepth 65536 in
set_option maxHeartbeats 40000000 in
theorem rm5 (l : Launch) (Z : State) (a0 : Array Value) (hw : ∀ d ∈ tables_1, d.before a0 Z = true) (ws : List Jvm.Cond) (o0 : Addr) (o1 : Addr) (k_o1 : ClassId) (e0_o1 : Int32) (e1_o1 : Int32) (s_String_COMPACT_STRINGS : Int32) (h0 : Heap) (n0 : Nat) (Z0 : n0 ≤ h0.size) (V_o1 : Arv Z h0 o1 k_o1 .char (2 : Int32) [(.int e0_o1), (.int e1_o1)] (.int (0 : Int32))) (E_o0 : Exa Z h0 o0 "java/lang/String") (F_o0_coder : Fld Z h0 o0 "java/lang/String" "coder" "B" (.int (0 : Int32))) (F_o0_value : Fld Z h0 o0 "java/lang/String" "value" "[B" .null) (S_s_String_COMPACT_STRINGS : Sta Z h0 "java/lang/String" "COMPACT_STRINGS" "Z" (.int s_String_COMPACT_STRINGS)) (nz_s_String_COMPACT_STRINGS : s_String_COMPACT_STRINGS ≠ 0) (no6 : ¬ (∃ (r128 : Int32) (r129 : Int32) (r130 : Int32) (v131 : Int32) (v132 : Int32) (v133 : Int32) (v134 : Int32), v131 = e0_o1.toInt8.toInt32 ∧ v132 = v131.toInt8.toInt32 ∧ v133 = e1_o1.toInt8.toInt32 ∧ v134 = v133.toInt8.toInt32 ∧ (¬ (s_String_COMPACT_STRINGS = (0 : Int32))) ∧ (¬ (s_String_COMPACT_STRINGS = (0 : Int32))) ∧ ((((255 : Int32) < e0_o1) ∧ (r128 = (0 : Int32)) ∧ (r129 = (0 : Int32)) ∧ (r130 = (0 : Int32))) ∨ ((¬ ((255 : Int32) < e0_o1)) ∧ ((255 : Int32) < e1_o1) ∧ (r128 = (1 : Int32)) ∧ (r129 = v132) ∧ (r130 = (0 : Int32))) ∨ ((¬ ((255 : Int32) < e0_o1)) ∧ (¬ ((255 : Int32) < e1_o1)) ∧ (r128 = (2 : Int32)) ∧ (r129 = v132) ∧ (r130 = v134))) ∧ (¬ (r128 = (2 : Int32))))) (g_o0 : n0 ≤ o0) :
    Con l Z (⟨"java/lang/String", "<init>", "([C)V"⟩ : MethodName) jdk_42_method_3_code 2 none ws ({ frames := 3, cells := 1, slots := 2, locals := 52 } : Room) #[(.ref o0), (.ref o1)] h0 1 2 (Q5 Z o0 o1 k_o1 e0_o1 e1_o1 s_String_COMPACT_STRINGS h0 n0) := by
  refine MetFree.of_bodySF (plainFor_of_name pn_1) hisR ?_
  intro p e s m args below meth c s₁ Bd hml0 hP hK
  obtain ⟨rfl, hZ, hh⟩ := hP
  have hx := Bd.exec
  have hby := Bd.bytes
  have hml : c.maxLocals = 2 := hml0
  have hown : s.vm.findClass "java/lang/String" = some m.cls := findClass_of_methodNamed Bd.named
  have hnm := (name_of_methodNamed Bd.named Bd.method).1
  have X0 : Stand p l e ({ frames := 3, cells := 1, slots := 2, locals := 52 } : Room) s m #[(.ref o0), (.ref o1)] below meth c s₁ [] 0 0 := Stand.of_body Bd
  have e0 : s₁.heap = h0 := by rw [← hh, Bd.state]; rfl
  have N0 := Fr.nil n0
  refine Go.of ?_
  refine Go.st (S' := s₁.setTop (mkF m 0 #[.val (.ref o0), .val (.ref o1)] [])) (fun t k => castTop (ef_5 m o0 o1) k) ?_
  refine Go.st (S' := s₁.setTop (mkF m 1 #[.val (.ref o0), .val (.ref o1)] [(.ref o0)])) (fun t k => XS.aloadN X0.here hx rfl (hb hby djdk_42_method_3_code_0) rfl rfl k) ?_
  refine Go.st (S' := s₁.setTop (mkF m 2 #[.val (.ref o0), .val (.ref o1)] [(.ref o1), (.ref o0)])) (fun t k => XS.aloadN X0.here hx rfl (hb hby djdk_42_method_3_code_1) rfl rfl k) ?_
  refine Go.st (S' := s₁.setTop (mkF m 3 #[.val (.ref o0), .val (.ref o1)] [(.int (0 : Int32)), (.ref o1), (.ref o0)])) (fun t k => XS.iconst X0.here hx rfl (hb hby djdk_42_method_3_code_2) k) ?_
  refine Go.st (S' := s₁.setTop (mkF m 4 #[.val (.ref o0), .val (.ref o1)] [(.ref o1), (.int (0 : Int32)), (.ref o1), (.ref o0)])) (fun t k => XS.aloadN X0.here hx rfl (hb hby djdk_42_method_3_code_3) rfl rfl k) ?_
  obtain ⟨cl31, Ar31, -, S31, N31_, -, -⟩ := id V_o1
  refine Go.op (F := fun z => s₁.setTop (mkF m 5 #[.val (.ref o0), .val (.ref o1)] [(.int z), (.int (0 : Int32)), (.ref o1), (.ref o0)])) (x := cl31.slots.size.toInt32) (fun t k => X0.arraylength hx (own_eh e0 Ar31.1) (State.isArrayOf_alike hZ.alike Ar31.2.1) (g := (mkF m 4 #[.val (.ref o0), .val (.ref o1)] [(.ref o1), (.int (0 : Int32)), (.ref o1), (.ref o0)])) rfl rfl (hb hby djdk_42_method_3_code_4) t k) ?_
  intro v32 hv32
  obtain rfl : (2 : Int32) = v32 := (hv32.trans (len_of S31 N31_)).symm
  refine Go.st (S' := s₁.setTop (mkF m 6 #[.val (.ref o0), .val (.ref o1)] [.null, (.int (2 : Int32)), (.int (0 : Int32)), (.ref o1), (.ref o0)])) (fun t k => XS.aconstNull X0.here hx rfl (hb hby djdk_42_method_3_code_5) k) ?_
  have no127 : ¬ (∃ (r128 : Int32) (r129 : Int32) (r130 : Int32) (v131 : Int32) (v132 : Int32) (v133 : Int32) (v134 : Int32), v131 = e0_o1.toInt8.toInt32 ∧ v132 = v131.toInt8.toInt32 ∧ v133 = e1_o1.toInt8.toInt32 ∧ v134 = v133.toInt8.toInt32 ∧ (¬ (s_String_COMPACT_STRINGS = (0 : Int32))) ∧ ((((255 : Int32) < e0_o1) ∧ (r128 = (0 : Int32)) ∧ (r129 = (0 : Int32)) ∧ (r130 = (0 : Int32))) ∨ ((¬ ((255 : Int32) < e0_o1)) ∧ ((255 : Int32) < e1_o1) ∧ (r128 = (1 : Int32)) ∧ (r129 = v132) ∧ (r130 = (0 : Int32))) ∨ ((¬ ((255 : Int32) < e0_o1)) ∧ (¬ ((255 : Int32) < e1_o1)) ∧ (r128 = (2 : Int32)) ∧ (r129 = v132) ∧ (r130 = v134))) ∧ (¬ (r128 = (2 : Int32)))) := by
    rintro ⟨r128, r129, r130, v131, v132, v133, v134, hv131, hv132, hv133, hv134, hc135, hc136, hc137⟩
    exact absurd ⟨r128, r129, r130, v131, v132, v133, v134, hv131, hv132, hv133, hv134, nz_s_String_COMPACT_STRINGS, hc135, hc136, hc137⟩ no6
  obtain ⟨r138, T138, L138, X138, hQ138, st138⟩ := own_callI (W := 0) (a := o0) X0 hx hZ e0 hown (y := (⟨"java/lang/String", "<init>", "([CIILjava/lang/Void;)V"⟩ : MethodName)) rfl (hw _ (List.mem_of_getElem? (i := 12) rfl)) (hw _ (List.mem_of_getElem? (i := 13) rfl)) (hw _ (List.mem_of_getElem? (i := 8) rfl)) (hw _ (List.mem_of_getElem? (i := 15) rfl)) (by decide) (rm4 l Z a0 hw [] o0 o1 s_String_COMPACT_STRINGS k_o1 e0_o1 e1_o1 ((.int (0 : Int32))) (.null) h0 n0 Z0 (S_s_String_COMPACT_STRINGS) (nz_s_String_COMPACT_STRINGS) (V_o1) (no127) (E_o0) (F_o0_coder) (g_o0) (F_o0_value)) (by decide) (by decide) (by decide) (by decide) (g := (mkF m 6 #[.val (.ref o0), .val (.ref o1)] [.null, (.int (2 : Int32)), (.int (0 : Int32)), (.ref o1), (.ref o0)])) rfl (by rw [hml]; rfl) (argsL := [(.ref o1), (.int (0 : Int32)), (.int (2 : Int32)), .null]) (rest := []) rfl (lenOf pd_3 rfl) rfl (by show 2 * 0 + _ ≤ _; exact Nat.le_of_eq rfl) (hb hby djdk_42_method_3_code_6)
  obtain ⟨r144, r145, r146, v139, v140, v141, v142, b143, k147, hv139, hv140, hv141, hv142, hc148, hc149, hc150, rfl, N138, K138_, sz_b143_, f151, f152, f153, f154, f155⟩ := hQ138
  have N138_ := Fr.app N0 N138
  have g_b143 : n0 ≤ b143 := Nat.le_trans Z0 sz_b143_
  have sz_b143 : h0.size ≤ b143 := Nat.le_trans (Keep.refl h0 [o0]).1 sz_b143_
  have Z156 : n0 ≤ T138.heap.size := Nat.le_trans Z0 K138_.1
  have K156 : Keep h0 T138.heap [o0] := (Keep.refl h0 [o0]).trans K138_ (allS (Or.inl (by simp)) all0)
  refine Go.st (S' := T138.setTop (mkF m 9 #[.val (.ref o0), .val (.ref o1)] [])) st138 ?_
  exact Go.ret X138 (v := none) (fun _ => rfl) Bd.notSynchronized (fun fs hr => X138.returnOut hx Bd.returns (hb hby djdk_42_method_3_code_9) hr) (by decide) (by decide) (⟨r144, r145, r146, v139, v140, v141, v142, b143, k147, hv139, hv140, hv141, hv142, nz_s_String_COMPACT_STRINGS, hc148, hc149, hc150, rfl, N138_, K156, sz_b143, f153, f154, f155, f151, f152⟩)
theorem ef_6 (m : MethodId) (p0 : Int32) : entryFrame m #[(.int p0)] 1 = mkF m 0 #[.val (.int p0)] [] := by first | (simp [entryFrame, mkF, argsToLocals, Value.category, maxLocals]; done) | rfl
def Q6 (Z : State) (p0 : Int32) (h0 : Heap) (n0 : Nat) (v : Option Value) (h : Heap) (L : List Loc) : Prop := (∃ (rv6 : Int32), ((((255 : Int32) < p0) ∧ (rv6 = (0 : Int32))) ∨ ((¬ ((255 : Int32) < p0)) ∧ (rv6 = (1 : Int32)))) ∧ v = some (.int rv6) ∧ Fr n0 L ∧ h = h0)
set_option maxRecDepth 65536 in
set_option maxHeartbeats 40000000 in
theorem rm6 (l : Launch) (Z : State) (a0 : Array Value) (hw : ∀ d ∈ tables_1, d.before a0 Z = true) (ws : List Jvm.Cond) (p0 : Int32) (h0 : Heap) (n0 : Nat) (Z0 : n0 ≤ h0.size)  :
    Con l Z (⟨"java/lang/StringLatin1", "canEncode", "(C)Z"⟩ : MethodName) jdk_43_method_3_code 1 (some .boolean) ws ({ frames := 0, cells := 0, slots := 0, locals := 0 } : Room) #[(.int p0)] h0 0 0 (Q6 Z p0 h0 n0) := by
  refine MetFree.of_bodySF (plainFor_of_name pn_2) hisR ?_
  intro p e s m args below meth c s₁ Bd hml0 hP hK
  obtain ⟨rfl, hZ, hh⟩ := hP
  have hx := Bd.exec
  have hby := Bd.bytes
  have hml : c.maxLocals = 1 := hml0
  have hown : s.vm.findClass "java/lang/StringLatin1" = some m.cls := findClass_of_methodNamed Bd.named
  have hnm := (name_of_methodNamed Bd.named Bd.method).1
  have X0 : Stand p l e ({ frames := 0, cells := 0, slots := 0, locals := 0 } : Room) s m #[(.int p0)] below meth c s₁ [] 0 0 := Stand.of_body Bd
  have e0 : s₁.heap = h0 := by rw [← hh, Bd.state]; rfl
  have N0 := Fr.nil n0
  refine Go.of ?_
  refine Go.st (S' := s₁.setTop (mkF m 0 #[.val (.int p0)] [])) (fun t k => castTop (ef_6 m p0) k) ?_
  refine Go.st (S' := s₁.setTop (mkF m 1 #[.val (.int p0)] [(.int p0)])) (fun t k => XS.iloadN X0.here hx rfl (hb hby djdk_43_method_3_code_0) rfl k) ?_
  refine Go.st (S' := s₁.setTop (mkF m 4 #[.val (.int p0)] [(.int (255 : Int32)), (.int p0)])) (fun t k => XS.sipush X0.here hx rfl (hb hby djdk_43_method_3_code_1) k) ?_
  by_cases hc197 : ((255 : Int32) < p0)
  · refine Go.st (S' := s₁.setTop (mkF m 11 #[.val (.int p0)] [])) (fun t k => XS.icmpYes X0.here hx rfl (pc0 := 4) (pc' := 11) rfl (hb hby djdk_43_method_3_code_4) rfl (tlt hc197).2.2.1 (by decide) (by decide) k) ?_
    refine Go.st (S' := s₁.setTop (mkF m 12 #[.val (.int p0)] [(.int (0 : Int32))])) (fun t k => XS.iconst X0.here hx rfl (hb hby djdk_43_method_3_code_11) k) ?_
    exact Go.ret X0 (v := some (.int (0 : Int32))) (fun h => by rw [Bd.returns] at h; cases h) Bd.notSynchronized (fun fs hr => retN X0 hx (t := .boolean) Bd.returns (by simp) (hb hby djdk_43_method_3_code_12) hr) (by decide) (by decide) (⟨(0 : Int32), (Or.inl ⟨hc197, rfl⟩), rfl, N0, (e0)⟩)
  · refine Go.st (S' := s₁.setTop (mkF m 7 #[.val (.int p0)] [])) (fun t k => XS.icmpNo X0.here hx rfl (hb hby djdk_43_method_3_code_4) rfl (flt hc197).2.2.1 k) ?_
    refine Go.st (S' := s₁.setTop (mkF m 8 #[.val (.int p0)] [(.int (1 : Int32))])) (fun t k => XS.iconst X0.here hx rfl (hb hby djdk_43_method_3_code_7) k) ?_
    refine Go.st (S' := s₁.setTop (mkF m 12 #[.val (.int p0)] [(.int (1 : Int32))])) (fun t k => XS.goto X0.here hx rfl (pc0 := 8) (pc' := 12) rfl (hb hby djdk_43_method_3_code_8) (by decide) (by decide) k) ?_
    exact Go.ret X0 (v := some (.int (1 : Int32))) (fun h => by rw [Bd.returns] at h; cases h) Bd.notSynchronized (fun fs hr => retN X0 hx (t := .boolean) Bd.returns (by simp) (hb hby djdk_43_method_3_code_12) hr) (by decide) (by decide) (⟨(1 : Int32), (Or.inr ⟨hc197, rfl⟩), rfl, N0, (e0)⟩)
theorem ef_7 (m : MethodId) (p0 : Int32) : entryFrame m #[(.int p0)] 1 = mkF m 0 #[.val (.int p0)] [] := by first | (simp [entryFrame, mkF, argsToLocals, Value.category, maxLocals]; done) | rfl
def Q7 (Z : State) (p0 : Int32) (h0 : Heap) (n0 : Nat) (v : Option Value) (h : Heap) (L : List Loc) : Prop := (∃ (v208 : Int32) (v210 : Int32) (b206 : Addr) (k206 : ClassId), v208 = p0.toInt8.toInt32 ∧ v210 = v208.toInt8.toInt32 ∧ v = some (.ref b206) ∧ Fr n0 L ∧ Keep h0 h [] ∧ h0.size ≤ b206 ∧ Arv Z h b206 k206 .byte (1 : Int32) [(.int v210)] (.int (0 : Int32)) ∧ Exa Z h b206 "[B")
set_option maxRecDepth 65536 in
set_option maxHeartbeats 40000000 in
theorem rm7 (l : Launch) (Z : State) (a0 : Array Value) (hw : ∀ d ∈ tables_1, d.before a0 Z = true) (ws : List Jvm.Cond) (p0 : Int32) (h0 : Heap) (n0 : Nat) (Z0 : n0 ≤ h0.size)  :
    Con l Z (⟨"java/lang/StringLatin1", "toBytes", "(C)[B"⟩ : MethodName) jdk_43_method_46_code 1 (some (.array .byte)) ws ({ frames := 0, cells := 1, slots := 1, locals := 0 } : Room) #[(.int p0)] h0 1 1 (Q7 Z p0 h0 n0) := by
  refine MetFree.of_bodySF (plainFor_of_name pn_2) hisR ?_
  intro p e s m args below meth c s₁ Bd hml0 hP hK
  obtain ⟨rfl, hZ, hh⟩ := hP
  have hx := Bd.exec
  have hby := Bd.bytes
  have hml : c.maxLocals = 1 := hml0
  have hown : s.vm.findClass "java/lang/StringLatin1" = some m.cls := findClass_of_methodNamed Bd.named
  have hnm := (name_of_methodNamed Bd.named Bd.method).1
  have X0 : Stand p l e ({ frames := 0, cells := 1, slots := 1, locals := 0 } : Room) s m #[(.int p0)] below meth c s₁ [] 0 0 := Stand.of_body Bd
  have e0 : s₁.heap = h0 := by rw [← hh, Bd.state]; rfl
  have N0 := Fr.nil n0
  refine Go.of ?_
  refine Go.st (S' := s₁.setTop (mkF m 0 #[.val (.int p0)] [])) (fun t k => castTop (ef_7 m p0) k) ?_
  refine Go.st (S' := s₁.setTop (mkF m 1 #[.val (.int p0)] [(.int (1 : Int32))])) (fun t k => XS.iconst X0.here hx rfl (hb hby djdk_43_method_46_code_0) k) ?_
  obtain ⟨T206, h206, k206, X206, e206, E206, A206, B206, st206⟩ := newPE X0 hx hZ (hw _ (List.mem_of_getElem? (i := 24) rfl)) e0 (g := (mkF m 1 #[.val (.int p0)] [(.int (1 : Int32))])) rfl (hb hby djdk_43_method_46_code_1) rfl (by decide) (cap := 1) (by decide) (by decide) (by decide) (by decide) (ad := "[B") (by decide)
  obtain ⟨b206, gg206⟩ : ∃ z, z = h0.size := ⟨_, rfl⟩
  rw [← gg206] at A206 B206 st206
  have g_b206 : n0 ≤ b206 := Nat.le_trans Z0 (Nat.le_of_eq gg206.symm)
  have sz_b206 : h0.size ≤ b206 := Nat.le_trans (Keep.refl h0 []).1 (Nat.le_of_eq gg206.symm)
  have Z207 : n0 ≤ h206.size := Nat.le_trans Z0 E206.1
  have K207 : Keep h0 h206 [] := (Keep.refl h0 []).ext E206
  have V206 : Arv Z h206 b206 k206 .byte (1 : Int32) [(.int (0 : Int32))] (.int (0 : Int32)) := (Arv.new A206 (by decide)).pad (pad_rep [] (.int (0 : Int32)) 1)
  refine Go.st (S' := T206.setTop (mkF m 3 #[.val (.int p0)] [(.ref b206)])) st206 ?_
  refine Go.st (S' := T206.setTop (mkF m 4 #[.val (.int p0)] [(.ref b206), (.ref b206)])) (fun t k => XS.dup X206.here hx rfl (hb hby djdk_43_method_46_code_3) rfl rfl k) ?_
  refine Go.st (S' := T206.setTop (mkF m 5 #[.val (.int p0)] [(.int (0 : Int32)), (.ref b206), (.ref b206)])) (fun t k => XS.iconst X206.here hx rfl (hb hby djdk_43_method_46_code_4) k) ?_
  refine Go.st (S' := T206.setTop (mkF m 6 #[.val (.int p0)] [(.int p0), (.int (0 : Int32)), (.ref b206), (.ref b206)])) (fun t k => XS.iloadN X206.here hx rfl (hb hby djdk_43_method_46_code_5) rfl k) ?_
  refine Go.op (F := fun z => T206.setTop (mkF m 7 #[.val (.int p0)] [(.int z), (.int (0 : Int32)), (.ref b206), (.ref b206)])) (x := p0.toInt8.toInt32) (fun t k => XS.i2b X206.here hx rfl (hb hby djdk_43_method_46_code_6) rfl k) ?_
  intro v208 hv208
  obtain ⟨cl209, Ar209, q209, S209, N209_, H209, G209⟩ := id V206
  have hin209 : ¬ ((0 : Int32) < 0 ∨ cl209.slots.size ≤ ((0 : Int32)).toNatClampNeg) := inb_of S209 ⟨by decide, by decide⟩
  obtain ⟨v210, hv210⟩ : ∃ z, z = v208.toInt8.toInt32 := ⟨_, rfl⟩
  obtain ⟨T209, h209, X209, e209, W209, st209⟩ := stB X206 hx hZ e206 Ar209 (j := (0 : Int32)) hin209 (g := (mkF m 7 #[.val (.int p0)] [(.int v208), (.int (0 : Int32)), (.ref b206), (.ref b206)])) rfl rfl (hb hby djdk_43_method_46_code_7)
  have W209 : Wr h206 h209 b206 ((0 : Int32)).toNatClampNeg (.int v210) := by rw [hv210]; exact W209
  have V209 : Arv Z h209 b206 k206 .byte (1 : Int32) [(.int v210)] (.int (0 : Int32)) := Arv.set Ar209 q209 S209 N209_ H209 G209 (by rw [hv210]; exact fits_nar_byte _) W209 0 rfl (Nat.le_of_ble_eq_true rfl)
  have N209 := Fr.snoc X209 N0 g_b206
  have Z211 : n0 ≤ h209.size := Nat.le_trans Z207 (Keep.of_wr W209).1
  have K211 : Keep h0 h209 [] := K207.wr W209 (Or.inr sz_b206)
  refine Go.st (S' := T209.setTop (mkF m 8 #[.val (.int p0)] [(.ref b206)])) st209 ?_
  have f212 := ((B206).wr W209)
  exact Go.ret X209 (v := some (.ref b206)) (fun h => by rw [Bd.returns] at h; cases h) Bd.notSynchronized (fun fs hr => retOut X209 hx Bd.returns rfl (Or.inr (Or.inr (Or.inr (Or.inr ⟨rfl, rfl, rfl⟩)))) (hb hby djdk_43_method_46_code_8) hr) (by decide) (by decide) (by rw [e209]; exact ⟨v208, v210, b206, k206, hv208, hv210, rfl, N209, K211, sz_b206, V209, f212⟩)
theorem ef_8 (m : MethodId) (o0 : Addr) (o1 : Addr) : entryFrame m #[(.ref o0), (.ref o1), (.int (0 : Int32))] 3 = mkF m 0 #[.val (.ref o0), .val (.ref o1), .val (.int (0 : Int32))] [] := by first | (simp [entryFrame, mkF, argsToLocals, Value.category, maxLocals]; done) | rfl
def Q8 (Z : State) (o0 : Addr) (o1 : Addr) (u_o0_value : Value) (u_o0_coder : Value) (h0 : Heap) (n0 : Nat) (v : Option Value) (h : Heap) (L : List Loc) : Prop := (v = none ∧ Fr n0 L ∧ Keep h0 h [o0] ∧ Exa Z h o0 "java/lang/String" ∧ Fld Z h o0 "java/lang/String" "value" "[B" (.ref o1) ∧ Fld Z h o0 "java/lang/String" "coder" "B" (.int (0 : Int32)))
set_option maxRecDepth 65536 in
set_option maxHeartbeats 40000000 in
theorem rm8 (l : Launch) (Z : State) (a0 : Array Value) (hw : ∀ d ∈ tables_1, d.before a0 Z = true) (ws : List Jvm.Cond) (o0 : Addr) (o1 : Addr) (u_o0_value : Value) (u_o0_coder : Value) (h0 : Heap) (n0 : Nat) (Z0 : n0 ≤ h0.size) (E_o0 : Exa Z h0 o0 "java/lang/String") (F_o0_value : Fld Z h0 o0 "java/lang/String" "value" "[B" u_o0_value) (g_o0 : n0 ≤ o0) (F_o0_coder : Fld Z h0 o0 "java/lang/String" "coder" "B" u_o0_coder) :
    Con l Z (⟨"java/lang/String", "<init>", "([BB)V"⟩ : MethodName) jdk_42_method_151_code 3 none ws ({ frames := 1, cells := 0, slots := 0, locals := 12 } : Room) #[(.ref o0), (.ref o1), (.int (0 : Int32))] h0 0 0 (Q8 Z o0 o1 u_o0_value u_o0_coder h0 n0) := by
  refine MetFree.of_bodySF (plainFor_of_name pn_1) hisR ?_
  intro p e s m args below meth c s₁ Bd hml0 hP hK
  obtain ⟨rfl, hZ, hh⟩ := hP
  have hx := Bd.exec
  have hby := Bd.bytes
  have hml : c.maxLocals = 3 := hml0
  have hown : s.vm.findClass "java/lang/String" = some m.cls := findClass_of_methodNamed Bd.named
  have hnm := (name_of_methodNamed Bd.named Bd.method).1
  have X0 : Stand p l e ({ frames := 1, cells := 0, slots := 0, locals := 12 } : Room) s m #[(.ref o0), (.ref o1), (.int (0 : Int32))] below meth c s₁ [] 0 0 := Stand.of_body Bd
  have e0 : s₁.heap = h0 := by rw [← hh, Bd.state]; rfl
  have N0 := Fr.nil n0
  refine Go.of ?_
  refine Go.st (S' := s₁.setTop (mkF m 0 #[.val (.ref o0), .val (.ref o1), .val (.int (0 : Int32))] [])) (fun t k => castTop (ef_8 m o0 o1) k) ?_
  refine Go.st (S' := s₁.setTop (mkF m 1 #[.val (.ref o0), .val (.ref o1), .val (.int (0 : Int32))] [(.ref o0)])) (fun t k => XS.aloadN X0.here hx rfl (hb hby djdk_42_method_151_code_0) rfl rfl k) ?_
  obtain ⟨T221, X221, e221, st221⟩ := initO X0 hx hZ hown (hw _ (List.mem_of_getElem? (i := 16) rfl)) (hw _ (List.mem_of_getElem? (i := 17) rfl)) (hw _ (List.mem_of_getElem? (i := 18) rfl)) e0 (g := (mkF m 1 #[.val (.ref o0), .val (.ref o1), .val (.int (0 : Int32))] [(.ref o0)])) rfl (by rw [hml]; rfl) rfl (hb hby djdk_42_method_151_code_1) (by decide) (W := 0) (by show 2 * 0 + _ ≤ _; exact Nat.le_of_eq rfl) (by decide)
  refine Go.st (S' := T221.setTop (mkF m 4 #[.val (.ref o0), .val (.ref o1), .val (.int (0 : Int32))] [])) st221 ?_
  refine Go.st (S' := T221.setTop (mkF m 5 #[.val (.ref o0), .val (.ref o1), .val (.int (0 : Int32))] [(.ref o0)])) (fun t k => XS.aloadN X221.here hx rfl (hb hby djdk_42_method_151_code_4) rfl rfl k) ?_
  refine Go.st (S' := T221.setTop (mkF m 6 #[.val (.ref o0), .val (.ref o1), .val (.int (0 : Int32))] [(.ref o1), (.ref o0)])) (fun t k => XS.aloadN X221.here hx rfl (hb hby djdk_42_method_151_code_5) rfl rfl k) ?_
  obtain ⟨T224, h224, X224, e224, W224, st224⟩ := putF X221 hx hZ hown (host := "") (Or.inl (hw _ (List.mem_of_getElem? (i := 33) rfl))) Via.refl e221 F_o0_value E_o0 (Or.inr ⟨(hw _ (List.mem_of_getElem? (i := 34) rfl)), rfl, hnm⟩) (hw _ (List.mem_of_getElem? (i := 7) rfl)) (ty := (.array .byte)) (by decide) rfl rfl (g := (mkF m 6 #[.val (.ref o0), .val (.ref o1), .val (.int (0 : Int32))] [(.ref o1), (.ref o0)])) rfl rfl (hb hby djdk_42_method_151_code_6)
  have Fw224 := (F_o0_value).same W224
  have N224 := Fr.snoc X224 N0 g_o0
  have Z225 : n0 ≤ h224.size := Nat.le_trans Z0 (Keep.of_wr W224).1
  have K225 : Keep h0 h224 [o0] := (Keep.refl h0 [o0]).wr W224 (Or.inl (by simp))
  refine Go.st (S' := T224.setTop (mkF m 9 #[.val (.ref o0), .val (.ref o1), .val (.int (0 : Int32))] [])) st224 ?_
  refine Go.st (S' := T224.setTop (mkF m 10 #[.val (.ref o0), .val (.ref o1), .val (.int (0 : Int32))] [(.ref o0)])) (fun t k => XS.aloadN X224.here hx rfl (hb hby djdk_42_method_151_code_9) rfl rfl k) ?_
  refine Go.st (S' := T224.setTop (mkF m 11 #[.val (.ref o0), .val (.ref o1), .val (.int (0 : Int32))] [(.int (0 : Int32)), (.ref o0)])) (fun t k => XS.iloadN X224.here hx rfl (hb hby djdk_42_method_151_code_10) rfl k) ?_
  have f226 := ((E_o0).wr W224)
  have f228 := ((F_o0_coder).other W224 (Or.inr (slot_ne (Or.inr (hw _ (List.mem_of_getElem? (i := 32) rfl))) (Or.inr (hw _ (List.mem_of_getElem? (i := 34) rfl))) (by decide) (t := .byte) (t' := (.array .byte)) (by decide) (by decide))))
  obtain ⟨T229, h229, X229, e229, W229, st229⟩ := putF X224 hx hZ hown (host := "") (Or.inl (hw _ (List.mem_of_getElem? (i := 31) rfl))) Via.refl e224 f228 f226 (Or.inr ⟨(hw _ (List.mem_of_getElem? (i := 32) rfl)), rfl, hnm⟩) (hw _ (List.mem_of_getElem? (i := 7) rfl)) (ty := .byte) (by decide) rfl (by decide) (g := (mkF m 11 #[.val (.ref o0), .val (.ref o1), .val (.int (0 : Int32))] [(.int (0 : Int32)), (.ref o0)])) rfl rfl (hb hby djdk_42_method_151_code_11)
  have Fw229 := (f228).same W229
  have N229 := Fr.snoc X229 N224 g_o0
  have Z230 : n0 ≤ h229.size := Nat.le_trans Z225 (Keep.of_wr W229).1
  have K230 : Keep h0 h229 [o0] := K225.wr W229 (Or.inl (by simp))
  refine Go.st (S' := T229.setTop (mkF m 14 #[.val (.ref o0), .val (.ref o1), .val (.int (0 : Int32))] [])) st229 ?_
  have f231 := ((f226).wr W229)
  have f232 := ((Fw224).other W229 (Or.inr (slot_ne (Or.inr (hw _ (List.mem_of_getElem? (i := 34) rfl))) (Or.inr (hw _ (List.mem_of_getElem? (i := 32) rfl))) (by decide) (t := (.array .byte)) (t' := .byte) (by decide) (by decide))))
  exact Go.ret X229 (v := none) (fun _ => rfl) Bd.notSynchronized (fun fs hr => X229.returnOut hx Bd.returns (hb hby djdk_42_method_151_code_14) hr) (by decide) (by decide) (by rw [e229]; exact ⟨rfl, N229, K230, f231, f232, Fw229⟩)
theorem ef_9 (m : MethodId) (p0 : Int32) : entryFrame m #[(.int p0)] 1 = mkF m 0 #[.val (.int p0)] [] := by first | (simp [entryFrame, mkF, argsToLocals, Value.category, maxLocals]; done) | rfl
def Q9 (Z : State) (p0 : Int32) (s_String_COMPACT_STRINGS : Int32) (h0 : Heap) (n0 : Nat) (v : Option Value) (h : Heap) (L : List Loc) : Prop := (∃ (r199 : Int32) (v214 : Int32) (v215 : Int32) (b204 : Addr) (b216 : Addr) (k217 : ClassId), v214 = p0.toInt8.toInt32 ∧ v215 = v214.toInt8.toInt32 ∧ (¬ (s_String_COMPACT_STRINGS = (0 : Int32))) ∧ ((((255 : Int32) < p0) ∧ (r199 = (0 : Int32))) ∨ ((¬ ((255 : Int32) < p0)) ∧ (r199 = (1 : Int32)))) ∧ (¬ (r199 = (0 : Int32))) ∧ v = some (.ref b204) ∧ Fr n0 L ∧ Keep h0 h [] ∧ h0.size ≤ b204 ∧ h0.size ≤ b216 ∧ Exa Z h b204 "java/lang/String" ∧ Fld Z h b204 "java/lang/String" "coder" "B" (.int (0 : Int32)) ∧ Fld Z h b204 "java/lang/String" "value" "[B" (.ref b216) ∧ Arv Z h b216 k217 .byte (1 : Int32) [(.int v215)] (.int (0 : Int32)) ∧ Exa Z h b216 "[B" ∧ b204 < b216)
set_option maxRecDepth 65536 in
set_option maxHeartbeats 40000000 in
theorem rm9 (l : Launch) (Z : State) (a0 : Array Value) (hw : ∀ d ∈ tables_1, d.before a0 Z = true) (ws : List Jvm.Cond) (p0 : Int32) (s_String_COMPACT_STRINGS : Int32) (h0 : Heap) (n0 : Nat) (Z0 : n0 ≤ h0.size) (S_s_String_COMPACT_STRINGS : Sta Z h0 "java/lang/String" "COMPACT_STRINGS" "Z" (.int s_String_COMPACT_STRINGS)) (nz_s_String_COMPACT_STRINGS : s_String_COMPACT_STRINGS ≠ 0) (no2 : ¬ (∃ (r199 : Int32), (¬ (s_String_COMPACT_STRINGS = (0 : Int32))) ∧ ((((255 : Int32) < p0) ∧ (r199 = (0 : Int32))) ∨ ((¬ ((255 : Int32) < p0)) ∧ (r199 = (1 : Int32)))) ∧ (r199 = (0 : Int32)))) :
    Con l Z (⟨"java/lang/String", "valueOf", "(C)Ljava/lang/String;"⟩ : MethodName) jdk_42_method_139_code 1 (some (.object "java/lang/String")) ws ({ frames := 2, cells := 2, slots := 5, locals := 27 } : Room) #[(.int p0)] h0 2 5 (Q9 Z p0 s_String_COMPACT_STRINGS h0 n0) := by
  refine MetFree.of_bodySF (plainFor_of_name pn_1) hisR ?_
  intro p e s m args below meth c s₁ Bd hml0 hP hK
  obtain ⟨rfl, hZ, hh⟩ := hP
  have hx := Bd.exec
  have hby := Bd.bytes
  have hml : c.maxLocals = 1 := hml0
  have hown : s.vm.findClass "java/lang/String" = some m.cls := findClass_of_methodNamed Bd.named
  have hnm := (name_of_methodNamed Bd.named Bd.method).1
  have X0 : Stand p l e ({ frames := 2, cells := 2, slots := 5, locals := 27 } : Room) s m #[(.int p0)] below meth c s₁ [] 0 0 := Stand.of_body Bd
  have e0 : s₁.heap = h0 := by rw [← hh, Bd.state]; rfl
  have N0 := Fr.nil n0
  refine Go.of ?_
  refine Go.st (S' := s₁.setTop (mkF m 0 #[.val (.int p0)] [])) (fun t k => castTop (ef_9 m p0) k) ?_
  obtain ⟨T196, X196, e196, st196⟩ := getS X0 hx hZ hown (hw _ (List.mem_of_getElem? (i := 19) rfl)) Via.refl e0 S_s_String_COMPACT_STRINGS (host := "") (g := (mkF m 0 #[.val (.int p0)] [])) rfl (hb hby djdk_42_method_139_code_0)
  refine Go.st (S' := T196.setTop (mkF m 3 #[.val (.int p0)] [(.int s_String_COMPACT_STRINGS)])) st196 ?_
  refine Go.st (S' := T196.setTop (mkF m 6 #[.val (.int p0)] [])) (fun t k => XS.ifNo X196.here hx rfl (hb hby djdk_42_method_139_code_3) rfl ((if0 _ _).trans (feq nz_s_String_COMPACT_STRINGS).1) k) ?_
  refine Go.st (S' := T196.setTop (mkF m 7 #[.val (.int p0)] [(.int p0)])) (fun t k => XS.iloadN X196.here hx rfl (hb hby djdk_42_method_139_code_6) rfl k) ?_
  obtain ⟨r198, T198, L198, X198, hQ198, st198⟩ := own_callS (W := 0) X196 hx hZ e196 hown (y := (⟨"java/lang/StringLatin1", "canEncode", "(C)Z"⟩ : MethodName)) (hw _ (List.mem_of_getElem? (i := 248) rfl)) (hw _ (List.mem_of_getElem? (i := 249) rfl)) (hw _ (List.mem_of_getElem? (i := 250) rfl)) (hw _ (List.mem_of_getElem? (i := 251) rfl)) (by decide) (rm6 l Z a0 hw [] p0 h0 n0 Z0 ) (by decide) (by decide) (by decide) (by decide) (g := (mkF m 7 #[.val (.int p0)] [(.int p0)])) rfl (by rw [hml]; rfl) (argsL := [(.int p0)]) (rest := []) rfl (lenOf pd_5 rfl) rfl (by show 2 * 0 + _ ≤ _; exact Nat.le_of_eq rfl) (hb hby djdk_42_method_139_code_7)
  obtain ⟨r199, hc200, rfl, N198, e198⟩ := hQ198
  have N198_ := Fr.app N0 N198
  refine Go.st (S' := T198.setTop (mkF m 10 #[.val (.int p0)] [(.int r199)])) st198 ?_
  by_cases hc201 : (r199 = (0 : Int32))
  · refine Go.st (S' := T198.setTop (mkF m 26 #[.val (.int p0)] [])) (fun t k => XS.ifYes X198.here hx rfl (pc0 := 10) (pc' := 26) rfl (hb hby djdk_42_method_139_code_10) rfl ((if0 _ _).trans (teq hc201).1) (by decide) (by decide) k) ?_
    obtain ⟨T202, h202, X202, e202, E202, A202, D202, -, st202⟩ := newO X198 hx hZ hown (hw _ (List.mem_of_getElem? (i := 252) rfl)) (hw _ (List.mem_of_getElem? (i := 7) rfl)) (hw _ (List.mem_of_getElem? (i := 8) rfl)) e198 (g := (mkF m 26 #[.val (.int p0)] [])) rfl (hb hby djdk_42_method_139_code_26) (by decide) (by decide)
    obtain ⟨b202, gg202⟩ : ∃ z, z = h0.size := ⟨_, rfl⟩
    rw [← gg202] at A202 D202 st202
    have g_b202 : n0 ≤ b202 := Nat.le_trans Z0 (Nat.le_of_eq gg202.symm)
    have sz_b202 : h0.size ≤ b202 := Nat.le_trans (Keep.refl h0 []).1 (Nat.le_of_eq gg202.symm)
    have Z203 : n0 ≤ h202.size := Nat.le_trans Z0 E202.1
    have K203 : Keep h0 h202 [] := (Keep.refl h0 []).ext E202
    have Fb202_coder : Fld Z h202 b202 "java/lang/String" "coder" "B" (.int (0 : Int32)) := D202 (Or.inr (hw _ (List.mem_of_getElem? (i := 32) rfl))) (ty := .byte) (by decide)
    have Fb202_value : Fld Z h202 b202 "java/lang/String" "value" "[B" .null := D202 (Or.inr (hw _ (List.mem_of_getElem? (i := 34) rfl))) (ty := (.array .byte)) (by decide)
    refine Go.st (S' := T202.setTop (mkF m 29 #[.val (.int p0)] [(.ref b202)])) st202 ?_
    refine Go.st (S' := T202.setTop (mkF m 30 #[.val (.int p0)] [(.ref b202), (.ref b202)])) (fun t k => XS.dup X202.here hx rfl (hb hby djdk_42_method_139_code_29) rfl rfl k) ?_
    refine Go.st (S' := T202.setTop (mkF m 31 #[.val (.int p0)] [(.int p0), (.ref b202), (.ref b202)])) (fun t k => XS.iloadN X202.here hx rfl (hb hby djdk_42_method_139_code_30) rfl k) ?_
    exact absurd ⟨r199, nz_s_String_COMPACT_STRINGS, hc200, hc201⟩ no2
  · refine Go.st (S' := T198.setTop (mkF m 13 #[.val (.int p0)] [])) (fun t k => XS.ifNo X198.here hx rfl (hb hby djdk_42_method_139_code_10) rfl ((if0 _ _).trans (feq hc201).1) k) ?_
    obtain ⟨T204, h204, X204, e204, E204, A204, D204, -, st204⟩ := newO X198 hx hZ hown (hw _ (List.mem_of_getElem? (i := 252) rfl)) (hw _ (List.mem_of_getElem? (i := 7) rfl)) (hw _ (List.mem_of_getElem? (i := 8) rfl)) e198 (g := (mkF m 13 #[.val (.int p0)] [])) rfl (hb hby djdk_42_method_139_code_13) (by decide) (by decide)
    obtain ⟨b204, gg204⟩ : ∃ z, z = h0.size := ⟨_, rfl⟩
    rw [← gg204] at A204 D204 st204
    have g_b204 : n0 ≤ b204 := Nat.le_trans Z0 (Nat.le_of_eq gg204.symm)
    have sz_b204 : h0.size ≤ b204 := Nat.le_trans (Keep.refl h0 []).1 (Nat.le_of_eq gg204.symm)
    have Z205 : n0 ≤ h204.size := Nat.le_trans Z0 E204.1
    have K205 : Keep h0 h204 [] := (Keep.refl h0 []).ext E204
    have Fb204_coder : Fld Z h204 b204 "java/lang/String" "coder" "B" (.int (0 : Int32)) := D204 (Or.inr (hw _ (List.mem_of_getElem? (i := 32) rfl))) (ty := .byte) (by decide)
    have Fb204_value : Fld Z h204 b204 "java/lang/String" "value" "[B" .null := D204 (Or.inr (hw _ (List.mem_of_getElem? (i := 34) rfl))) (ty := (.array .byte)) (by decide)
    refine Go.st (S' := T204.setTop (mkF m 16 #[.val (.int p0)] [(.ref b204)])) st204 ?_
    refine Go.st (S' := T204.setTop (mkF m 17 #[.val (.int p0)] [(.ref b204), (.ref b204)])) (fun t k => XS.dup X204.here hx rfl (hb hby djdk_42_method_139_code_16) rfl rfl k) ?_
    refine Go.st (S' := T204.setTop (mkF m 18 #[.val (.int p0)] [(.int p0), (.ref b204), (.ref b204)])) (fun t k => XS.iloadN X204.here hx rfl (hb hby djdk_42_method_139_code_17) rfl k) ?_
    obtain ⟨r213, T213, L213, X213, hQ213, st213⟩ := own_callS (W := 2) X204 hx hZ e204 hown (y := (⟨"java/lang/StringLatin1", "toBytes", "(C)[B"⟩ : MethodName)) (hw _ (List.mem_of_getElem? (i := 253) rfl)) (hw _ (List.mem_of_getElem? (i := 254) rfl)) (hw _ (List.mem_of_getElem? (i := 250) rfl)) (hw _ (List.mem_of_getElem? (i := 255) rfl)) (by decide) (rm7 l Z a0 hw [] p0 h204 n0 Z205 ) (by decide) (by decide) (by decide) (by decide) (g := (mkF m 18 #[.val (.int p0)] [(.int p0), (.ref b204), (.ref b204)])) rfl (by rw [hml]; rfl) (argsL := [(.int p0)]) (rest := [(.ref b204), (.ref b204)]) rfl (lenOf pd_6 rfl) rfl (by show 2 * 0 + _ ≤ _; exact Nat.le_of_eq rfl) (hb hby djdk_42_method_139_code_18)
    obtain ⟨v214, v215, b216, k217, hv214, hv215, rfl, N213, K213_, sz_b216_, f218, f219⟩ := hQ213
    have N213_ := Fr.app N198_ N213
    have g_b216 : n0 ≤ b216 := Nat.le_trans Z205 sz_b216_
    have sz_b216 : h0.size ≤ b216 := Nat.le_trans K205.1 sz_b216_
    have lt_b204_b216 : b204 < b216 := Nat.lt_of_lt_of_le (A204).lt sz_b216_
    have Z220 : n0 ≤ T213.heap.size := Nat.le_trans Z205 K213_.1
    have K220 : Keep h0 T213.heap [] := K205.trans K213_ all0
    refine Go.st (S' := T213.setTop (mkF m 21 #[.val (.int p0)] [(.ref b216), (.ref b204), (.ref b204)])) st213 ?_
    refine Go.st (S' := T213.setTop (mkF m 22 #[.val (.int p0)] [(.int (0 : Int32)), (.ref b216), (.ref b204), (.ref b204)])) (fun t k => XS.iconst X213.here hx rfl (hb hby djdk_42_method_139_code_21) k) ?_
    have f233 := ((A204).keep K213_)
    have f234 := ((Fb204_value).keep K213_ nin0)
    have f235 := ((Fb204_coder).keep K213_ nin0)
    obtain ⟨r236, T236, L236, X236, hQ236, st236⟩ := own_callI (W := 1) (a := b204) X213 hx hZ rfl hown (y := (⟨"java/lang/String", "<init>", "([BB)V"⟩ : MethodName)) rfl (hw _ (List.mem_of_getElem? (i := 256) rfl)) (hw _ (List.mem_of_getElem? (i := 257) rfl)) (hw _ (List.mem_of_getElem? (i := 8) rfl)) (hw _ (List.mem_of_getElem? (i := 258) rfl)) (by decide) (rm8 l Z a0 hw [] b204 b216 (.null) ((.int (0 : Int32))) T213.heap n0 Z220 (f233) (f234) (g_b204) (f235)) (by decide) (by decide) (by decide) (by decide) (g := (mkF m 22 #[.val (.int p0)] [(.int (0 : Int32)), (.ref b216), (.ref b204), (.ref b204)])) rfl (by rw [hml]; rfl) (argsL := [(.ref b216), (.int (0 : Int32))]) (rest := [(.ref b204)]) rfl (lenOf pd_7 rfl) rfl (by show 2 * 0 + _ ≤ _; exact Nat.le_of_eq rfl) (hb hby djdk_42_method_139_code_22)
    obtain ⟨rfl, N236, K236_, f237, f238, f239⟩ := hQ236
    have N236_ := Fr.app N213_ N236
    have Z240 : n0 ≤ T236.heap.size := Nat.le_trans Z220 K236_.1
    have K240 : Keep h0 T236.heap [] := K220.trans K236_ (allS (Or.inr sz_b204) all0)
    refine Go.st (S' := T236.setTop (mkF m 25 #[.val (.int p0)] [(.ref b204)])) st236 ?_
    have f241 := ((f218).keep K236_ (ninS (Nat.ne_of_gt lt_b204_b216) nin0))
    have f242 := ((f219).keep K236_)
    exact Go.ret X236 (v := some (.ref b204)) (fun h => by rw [Bd.returns] at h; cases h) Bd.notSynchronized (fun fs hr => retOut X236 hx Bd.returns rfl (Or.inr (Or.inr (Or.inr (Or.inr ⟨rfl, rfl, rfl⟩)))) (hb hby djdk_42_method_139_code_25) hr) (by decide) (by decide) (⟨r199, v214, v215, b204, b216, k217, hv214, hv215, nz_s_String_COMPACT_STRINGS, hc200, hc201, rfl, N236_, K240, sz_b204, sz_b216, f237, f239, f238, f241, f242, lt_b204_b216⟩)
theorem ef_10 (m : MethodId) (p0 : Int32) : entryFrame m #[(.int p0)] 2 = mkF m 0 #[.val (.int p0), .unset] [] := by first | (simp [entryFrame, mkF, argsToLocals, Value.category, maxLocals]; done) | rfl
def Q10 (Z : State) (p0 : Int32) (s_String_COMPACT_STRINGS : Int32) (h0 : Heap) (n0 : Nat) (v : Option Value) (h : Heap) (L : List Loc) : Prop := (∃ (b27 : Addr), v = some (.ref b27) ∧ Fr n0 L ∧ Keep h0 h [] ∧ h0.size ≤ b27 ∧ Exa Z h b27 "java/lang/String")
set_option maxRecDepth 65536 in
set_option maxHeartbeats 40000000 in
theorem rm10 (l : Launch) (Z : State) (a0 : Array Value) (hw : ∀ d ∈ tables_1, d.before a0 Z = true) (ws : List Jvm.Cond) (p0 : Int32) (s_String_COMPACT_STRINGS : Int32) (h0 : Heap) (n0 : Nat) (Z0 : n0 ≤ h0.size) (S_s_String_COMPACT_STRINGS : Sta Z h0 "java/lang/String" "COMPACT_STRINGS" "Z" (.int s_String_COMPACT_STRINGS)) (nz_s_String_COMPACT_STRINGS : s_String_COMPACT_STRINGS ≠ 0) :
    Con l Z (⟨"com/example/heaplens/heaplens/cfg/ScopeNamePinLaw", "draw", "(I)Ljava/lang/String;"⟩ : MethodName) method_2_code 2 (some (.object "java/lang/String")) ws ({ frames := 4, cells := 3, slots := 8, locals := 66 } : Room) #[(.int p0)] h0 3 8 (Q10 Z p0 s_String_COMPACT_STRINGS h0 n0) := by
  refine MetFree.of_bodySF (plainFor_of_name pn_3) hisR ?_
  intro p e s m args below meth c s₁ Bd hml0 hP hK
  obtain ⟨rfl, hZ, hh⟩ := hP
  have hx := Bd.exec
  have hby := Bd.bytes
  have hml : c.maxLocals = 2 := hml0
  have hown : s.vm.findClass "com/example/heaplens/heaplens/cfg/ScopeNamePinLaw" = some m.cls := findClass_of_methodNamed Bd.named
  have hnm := (name_of_methodNamed Bd.named Bd.method).1
  have X0 : Stand p l e ({ frames := 4, cells := 3, slots := 8, locals := 66 } : Room) s m #[(.int p0)] below meth c s₁ [] 0 0 := Stand.of_body Bd
  have e0 : s₁.heap = h0 := by rw [← hh, Bd.state]; rfl
  have N0 := Fr.nil n0
  refine Go.of ?_
  refine Go.st (S' := s₁.setTop (mkF m 0 #[.val (.int p0), .unset] [])) (fun t k => castTop (ef_10 m p0) k) ?_
  refine Go.st (S' := s₁.setTop (mkF m 1 #[.val (.int p0), .unset] [(.int p0)])) (fun t k => XS.iloadN X0.here hx rfl (hb hby dmethod_2_code_0) rfl k) ?_
  refine Go.st (S' := s₁.setTop (mkF m 3 #[.val (.int p0), .unset] [(.int (16 : Int32)), (.int p0)])) (fun t k => XS.bipush X0.here hx rfl (hb hby dmethod_2_code_1) k) ?_
  refine Go.op (F := fun z => s₁.setTop (mkF m 4 #[.val (.int p0), .unset] [(.int z)])) (x := ((p0.toUInt32 >>> ((16 : Int32) &&& 31).toUInt32).toInt32)) (fun t k => XS.iushr X0.here hx rfl (hb hby dmethod_2_code_3) rfl k) ?_
  intro v11 hv11
  refine Go.st (S' := s₁.setTop (mkF m 5 #[.val (.int p0), .unset] [(.int (1 : Int32)), (.int v11)])) (fun t k => XS.iconst X0.here hx rfl (hb hby dmethod_2_code_4) k) ?_
  refine Go.op (F := fun z => s₁.setTop (mkF m 6 #[.val (.int p0), .unset] [(.int z)])) (x := (v11 &&& (1 : Int32))) (fun t k => XS.iand X0.here hx rfl (hb hby dmethod_2_code_5) rfl k) ?_
  intro v12 hv12
  by_cases hc13 : (v12 = (0 : Int32))
  · refine Go.st (S' := s₁.setTop (mkF m 19 #[.val (.int p0), .unset] [])) (fun t k => XS.ifYes X0.here hx rfl (pc0 := 6) (pc' := 19) rfl (hb hby dmethod_2_code_6) rfl ((if0 _ _).trans (teq hc13).1) (by decide) (by decide) k) ?_
    refine Go.st (S' := s₁.setTop (mkF m 20 #[.val (.int p0), .unset] [(.int (2 : Int32))])) (fun t k => XS.iconst X0.here hx rfl (hb hby dmethod_2_code_19) k) ?_
    obtain ⟨T14, h14, k14, X14, e14, E14, A14, B14, st14⟩ := newPE X0 hx hZ (hw _ (List.mem_of_getElem? (i := 5) rfl)) e0 (g := (mkF m 20 #[.val (.int p0), .unset] [(.int (2 : Int32))])) rfl (hb hby dmethod_2_code_20) rfl (by decide) (cap := 2) (by decide) (by decide) (by decide) (by decide) (ad := "[C") (by decide)
    obtain ⟨b14, gg14⟩ : ∃ z, z = h0.size := ⟨_, rfl⟩
    rw [← gg14] at A14 B14 st14
    have g_b14 : n0 ≤ b14 := Nat.le_trans Z0 (Nat.le_of_eq gg14.symm)
    have sz_b14 : h0.size ≤ b14 := Nat.le_trans (Keep.refl h0 []).1 (Nat.le_of_eq gg14.symm)
    have Z15 : n0 ≤ h14.size := Nat.le_trans Z0 E14.1
    have K15 : Keep h0 h14 [] := (Keep.refl h0 []).ext E14
    have V14 : Arv Z h14 b14 k14 .char (2 : Int32) [(.int (0 : Int32)), (.int (0 : Int32))] (.int (0 : Int32)) := (Arv.new A14 (by decide)).pad (pad_rep [] (.int (0 : Int32)) 2)
    refine Go.st (S' := T14.setTop (mkF m 22 #[.val (.int p0), .unset] [(.ref b14)])) st14 ?_
    refine Go.st (S' := T14.setTop (mkF m 23 #[.val (.int p0), .val (.ref b14)] [])) (fun t k => XS.astoreN X14.here hx rfl (hb hby dmethod_2_code_22) rfl rfl (l' := #[.val (.int p0), .val (.ref b14)]) rfl k) ?_
    refine Go.st (S' := T14.setTop (mkF m 24 #[.val (.int p0), .val (.ref b14)] [(.ref b14)])) (fun t k => XS.aloadN X14.here hx rfl (hb hby dmethod_2_code_23) rfl rfl k) ?_
    refine Go.st (S' := T14.setTop (mkF m 25 #[.val (.int p0), .val (.ref b14)] [(.int (0 : Int32)), (.ref b14)])) (fun t k => XS.iconst X14.here hx rfl (hb hby dmethod_2_code_24) k) ?_
    refine Go.st (S' := T14.setTop (mkF m 26 #[.val (.int p0), .val (.ref b14)] [(.int p0), (.int (0 : Int32)), (.ref b14)])) (fun t k => XS.iloadN X14.here hx rfl (hb hby dmethod_2_code_25) rfl k) ?_
    refine Go.st (S' := T14.setTop (mkF m 29 #[.val (.int p0), .val (.ref b14)] [(.int (255 : Int32)), (.int p0), (.int (0 : Int32)), (.ref b14)])) (fun t k => XS.sipush X14.here hx rfl (hb hby dmethod_2_code_26) k) ?_
    refine Go.op (F := fun z => T14.setTop (mkF m 30 #[.val (.int p0), .val (.ref b14)] [(.int z), (.int (0 : Int32)), (.ref b14)])) (x := (p0 &&& (255 : Int32))) (fun t k => XS.iand X14.here hx rfl (hb hby dmethod_2_code_29) rfl k) ?_
    intro v16 hv16
    refine Go.op (F := fun z => T14.setTop (mkF m 31 #[.val (.int p0), .val (.ref b14)] [(.int z), (.int (0 : Int32)), (.ref b14)])) (x := v16.toUInt32.toUInt16.toUInt32.toInt32) (fun t k => XS.i2c X14.here hx rfl (hb hby dmethod_2_code_30) rfl k) ?_
    intro v17 hv17
    obtain ⟨cl18, Ar18, q18, S18, N18_, H18, G18⟩ := id V14
    have hin18 : ¬ ((0 : Int32) < 0 ∨ cl18.slots.size ≤ ((0 : Int32)).toNatClampNeg) := inb_of S18 ⟨by decide, by decide⟩
    obtain ⟨v19, hv19⟩ : ∃ z, z = v17.toUInt32.toUInt16.toUInt32.toInt32 := ⟨_, rfl⟩
    obtain ⟨T18, h18, X18, e18, W18, st18⟩ := stC X14 hx hZ e14 Ar18 (j := (0 : Int32)) hin18 (g := (mkF m 31 #[.val (.int p0), .val (.ref b14)] [(.int v17), (.int (0 : Int32)), (.ref b14)])) rfl rfl (hb hby dmethod_2_code_31)
    have W18 : Wr h14 h18 b14 ((0 : Int32)).toNatClampNeg (.int v19) := by rw [hv19]; exact W18
    have V18 : Arv Z h18 b14 k14 .char (2 : Int32) [(.int v19), (.int (0 : Int32))] (.int (0 : Int32)) := Arv.set Ar18 q18 S18 N18_ H18 G18 (by rw [hv19]; exact fits_nar_char _) W18 0 rfl (Nat.le_of_ble_eq_true rfl)
    have N18 := Fr.snoc X18 N0 g_b14
    have Z20 : n0 ≤ h18.size := Nat.le_trans Z15 (Keep.of_wr W18).1
    have K20 : Keep h0 h18 [] := K15.wr W18 (Or.inr sz_b14)
    refine Go.st (S' := T18.setTop (mkF m 32 #[.val (.int p0), .val (.ref b14)] [])) st18 ?_
    refine Go.st (S' := T18.setTop (mkF m 33 #[.val (.int p0), .val (.ref b14)] [(.ref b14)])) (fun t k => XS.aloadN X18.here hx rfl (hb hby dmethod_2_code_32) rfl rfl k) ?_
    refine Go.st (S' := T18.setTop (mkF m 34 #[.val (.int p0), .val (.ref b14)] [(.int (1 : Int32)), (.ref b14)])) (fun t k => XS.iconst X18.here hx rfl (hb hby dmethod_2_code_33) k) ?_
    refine Go.st (S' := T18.setTop (mkF m 35 #[.val (.int p0), .val (.ref b14)] [(.int p0), (.int (1 : Int32)), (.ref b14)])) (fun t k => XS.iloadN X18.here hx rfl (hb hby dmethod_2_code_34) rfl k) ?_
    refine Go.st (S' := T18.setTop (mkF m 37 #[.val (.int p0), .val (.ref b14)] [(.int (8 : Int32)), (.int p0), (.int (1 : Int32)), (.ref b14)])) (fun t k => XS.bipush X18.here hx rfl (hb hby dmethod_2_code_35) k) ?_
    refine Go.op (F := fun z => T18.setTop (mkF m 38 #[.val (.int p0), .val (.ref b14)] [(.int z), (.int (1 : Int32)), (.ref b14)])) (x := ((p0.toUInt32 >>> ((8 : Int32) &&& 31).toUInt32).toInt32)) (fun t k => XS.iushr X18.here hx rfl (hb hby dmethod_2_code_37) rfl k) ?_
    intro v21 hv21
    refine Go.st (S' := T18.setTop (mkF m 41 #[.val (.int p0), .val (.ref b14)] [(.int (255 : Int32)), (.int v21), (.int (1 : Int32)), (.ref b14)])) (fun t k => XS.sipush X18.here hx rfl (hb hby dmethod_2_code_38) k) ?_
    refine Go.op (F := fun z => T18.setTop (mkF m 42 #[.val (.int p0), .val (.ref b14)] [(.int z), (.int (1 : Int32)), (.ref b14)])) (x := (v21 &&& (255 : Int32))) (fun t k => XS.iand X18.here hx rfl (hb hby dmethod_2_code_41) rfl k) ?_
    intro v22 hv22
    refine Go.op (F := fun z => T18.setTop (mkF m 43 #[.val (.int p0), .val (.ref b14)] [(.int z), (.int (1 : Int32)), (.ref b14)])) (x := v22.toUInt32.toUInt16.toUInt32.toInt32) (fun t k => XS.i2c X18.here hx rfl (hb hby dmethod_2_code_42) rfl k) ?_
    intro v23 hv23
    obtain ⟨cl24, Ar24, q24, S24, N24_, H24, G24⟩ := id V18
    have hin24 : ¬ ((1 : Int32) < 0 ∨ cl24.slots.size ≤ ((1 : Int32)).toNatClampNeg) := inb_of S24 ⟨by decide, by decide⟩
    obtain ⟨v25, hv25⟩ : ∃ z, z = v23.toUInt32.toUInt16.toUInt32.toInt32 := ⟨_, rfl⟩
    obtain ⟨T24, h24, X24, e24, W24, st24⟩ := stC X18 hx hZ e18 Ar24 (j := (1 : Int32)) hin24 (g := (mkF m 43 #[.val (.int p0), .val (.ref b14)] [(.int v23), (.int (1 : Int32)), (.ref b14)])) rfl rfl (hb hby dmethod_2_code_43)
    have W24 : Wr h18 h24 b14 ((1 : Int32)).toNatClampNeg (.int v25) := by rw [hv25]; exact W24
    have V24 : Arv Z h24 b14 k14 .char (2 : Int32) [(.int v19), (.int v25)] (.int (0 : Int32)) := Arv.set Ar24 q24 S24 N24_ H24 G24 (by rw [hv25]; exact fits_nar_char _) W24 1 rfl (Nat.le_of_ble_eq_true rfl)
    have N24 := Fr.snoc X24 N18 g_b14
    have Z26 : n0 ≤ h24.size := Nat.le_trans Z20 (Keep.of_wr W24).1
    have K26 : Keep h0 h24 [] := K20.wr W24 (Or.inr sz_b14)
    refine Go.st (S' := T24.setTop (mkF m 44 #[.val (.int p0), .val (.ref b14)] [])) st24 ?_
    obtain ⟨T27, h27, X27, e27, E27, A27, D27, -, st27⟩ := newO X24 hx hZ hown (hw _ (List.mem_of_getElem? (i := 6) rfl)) (hw _ (List.mem_of_getElem? (i := 7) rfl)) (hw _ (List.mem_of_getElem? (i := 8) rfl)) e24 (g := (mkF m 44 #[.val (.int p0), .val (.ref b14)] [])) rfl (hb hby dmethod_2_code_44) (by decide) (by decide)
    obtain ⟨b27, gg27⟩ : ∃ z, z = h24.size := ⟨_, rfl⟩
    rw [← gg27] at A27 D27 st27
    have g_b27 : n0 ≤ b27 := Nat.le_trans Z26 (Nat.le_of_eq gg27.symm)
    have sz_b27 : h0.size ≤ b27 := Nat.le_trans K26.1 (Nat.le_of_eq gg27.symm)
    have f28 := ((((B14).wr W18)).wr W24)
    have lt_b14_b27 : b14 < b27 := Nat.lt_of_lt_of_le (f28).lt (Nat.le_of_eq gg27.symm)
    have Z29 : n0 ≤ h27.size := Nat.le_trans Z26 E27.1
    have K29 : Keep h0 h27 [] := K26.ext E27
    have Fb27_coder : Fld Z h27 b27 "java/lang/String" "coder" "B" (.int (0 : Int32)) := D27 (Or.inr (hw _ (List.mem_of_getElem? (i := 32) rfl))) (ty := .byte) (by decide)
    have Fb27_value : Fld Z h27 b27 "java/lang/String" "value" "[B" .null := D27 (Or.inr (hw _ (List.mem_of_getElem? (i := 34) rfl))) (ty := (.array .byte)) (by decide)
    refine Go.st (S' := T27.setTop (mkF m 47 #[.val (.int p0), .val (.ref b14)] [(.ref b27)])) st27 ?_
    refine Go.st (S' := T27.setTop (mkF m 48 #[.val (.int p0), .val (.ref b14)] [(.ref b27), (.ref b27)])) (fun t k => XS.dup X27.here hx rfl (hb hby dmethod_2_code_47) rfl rfl k) ?_
    refine Go.st (S' := T27.setTop (mkF m 49 #[.val (.int p0), .val (.ref b14)] [(.ref b14), (.ref b27), (.ref b27)])) (fun t k => XS.aloadN X27.here hx rfl (hb hby dmethod_2_code_48) rfl rfl k) ?_
    have f157 := ((V24).ext E27)
    have f158 := (Sta.ext E27 ((Sta.wr W24 ((Sta.wr W18 ((Sta.ext E14 (S_s_String_COMPACT_STRINGS))))))))
    have no159 : ¬ (∃ (r160 : Int32) (r161 : Int32) (r162 : Int32) (v163 : Int32) (v164 : Int32) (v165 : Int32) (v166 : Int32), v163 = v19.toInt8.toInt32 ∧ v164 = v163.toInt8.toInt32 ∧ v165 = v25.toInt8.toInt32 ∧ v166 = v165.toInt8.toInt32 ∧ (¬ (s_String_COMPACT_STRINGS = (0 : Int32))) ∧ (¬ (s_String_COMPACT_STRINGS = (0 : Int32))) ∧ ((((255 : Int32) < v19) ∧ (r160 = (0 : Int32)) ∧ (r161 = (0 : Int32)) ∧ (r162 = (0 : Int32))) ∨ ((¬ ((255 : Int32) < v19)) ∧ ((255 : Int32) < v25) ∧ (r160 = (1 : Int32)) ∧ (r161 = v164) ∧ (r162 = (0 : Int32))) ∨ ((¬ ((255 : Int32) < v19)) ∧ (¬ ((255 : Int32) < v25)) ∧ (r160 = (2 : Int32)) ∧ (r161 = v164) ∧ (r162 = v166))) ∧ (¬ (r160 = (2 : Int32)))) := by
      rintro ⟨r160, r161, r162, v163, v164, v165, v166, hv163, hv164, hv165, hv166, hc167, hc168, hc169, hc170⟩
      have rv11 := rng32 v11
      have wv11 := c_iushr p0 (16 : Int32) 16 (by decide) (by decide)
      rw [← hv11] at wv11
      have rv12 := rng32 v12
      have wv12 := c_mask v11 (1 : Int32) 1 (by decide) (by decide)
      rw [← hv12] at wv12
      have rv16 := rng32 v16
      have wv16 := c_mask p0 (255 : Int32) 8 (by decide) (by decide)
      rw [← hv16] at wv16
      have rv17 := rng32 v17
      have wv17 := c_i2c v16
      rw [← hv17] at wv17
      have rv19 := rng32 v19
      have wv19 := c_i2c v17
      rw [← hv19] at wv19
      have rv21 := rng32 v21
      have wv21 := c_iushr p0 (8 : Int32) 8 (by decide) (by decide)
      rw [← hv21] at wv21
      have rv22 := rng32 v22
      have wv22 := c_mask v21 (255 : Int32) 8 (by decide) (by decide)
      rw [← hv22] at wv22
      have rv23 := rng32 v23
      have wv23 := c_i2c v22
      rw [← hv23] at wv23
      have rv25 := rng32 v25
      have wv25 := c_i2c v23
      rw [← hv25] at wv25
      have rv163 := rng32 v163
      have wv163 := c_i2b v19
      rw [← hv163] at wv163
      have rv164 := rng32 v164
      have wv164 := c_i2b v163
      rw [← hv164] at wv164
      have rv165 := rng32 v165
      have wv165 := c_i2b v25
      rw [← hv165] at wv165
      have rv166 := rng32 v166
      have wv166 := c_i2b v165
      rw [← hv166] at wv166
      have rp0 := rng32 p0
      have rr160 := rng32 r160
      have rr161 := rng32 r161
      have rr162 := rng32 r162
      have lI0 : (0 : Int32).toInt = 0 := by decide
      have lI1 : (1 : Int32).toInt = 1 := by decide
      have lI2 : (2 : Int32).toInt = 2 := by decide
      have lI8 : (8 : Int32).toInt = 8 := by decide
      have lI16 : (16 : Int32).toInt = 16 := by decide
      have lI255 : (255 : Int32).toInt = 255 := by decide
      simp only [Int32.lt_iff_toInt_lt, Int64.lt_iff_toInt_lt, ← Int32.toInt_inj, ← Int64.toInt_inj] at hc13 hc169 hc170
      omega
    obtain ⟨r171, T171, L171, X171, hQ171, st171⟩ := own_callI (W := 1) (a := b27) X27 hx hZ e27 hown (y := (⟨"java/lang/String", "<init>", "([C)V"⟩ : MethodName)) rfl (hw _ (List.mem_of_getElem? (i := 9) rfl)) (hw _ (List.mem_of_getElem? (i := 10) rfl)) (hw _ (List.mem_of_getElem? (i := 8) rfl)) (hw _ (List.mem_of_getElem? (i := 11) rfl)) (by decide) (rm5 l Z a0 hw [] b27 b14 k14 v19 v25 s_String_COMPACT_STRINGS h27 n0 Z29 (f157) (A27) (Fb27_coder) (Fb27_value) (f158) (nz_s_String_COMPACT_STRINGS) (no159) (g_b27)) (by decide) (by decide) (by decide) (by decide) (g := (mkF m 49 #[.val (.int p0), .val (.ref b14)] [(.ref b14), (.ref b27), (.ref b27)])) rfl (by rw [hml]; rfl) (argsL := [(.ref b14)]) (rest := [(.ref b27)]) rfl (lenOf pd_4 rfl) rfl (by show 2 * 0 + _ ≤ _; exact Nat.le_of_eq rfl) (hb hby dmethod_2_code_49)
    obtain ⟨r177, r178, r179, v172, v173, v174, v175, b176, k180, hv172, hv173, hv174, hv175, hc181, hc182, hc183, hc184, rfl, N171, K171_, sz_b176_, f185, f186, f187, f188, f189⟩ := hQ171
    have N171_ := Fr.app N24 N171
    have g_b176 : n0 ≤ b176 := Nat.le_trans Z29 sz_b176_
    have sz_b176 : h0.size ≤ b176 := Nat.le_trans K29.1 sz_b176_
    have f190 := ((f28).ext E27)
    have lt_b14_b176 : b14 < b176 := Nat.lt_of_lt_of_le (f190).lt sz_b176_
    have lt_b27_b176 : b27 < b176 := Nat.lt_of_lt_of_le (A27).lt sz_b176_
    have Z191 : n0 ≤ T171.heap.size := Nat.le_trans Z29 K171_.1
    have K191 : Keep h0 T171.heap [] := K29.trans K171_ (allS (Or.inr sz_b27) all0)
    refine Go.st (S' := T171.setTop (mkF m 52 #[.val (.int p0), .val (.ref b14)] [(.ref b27)])) st171 ?_
    have f192 := ((f157).keep K171_ (ninS (Nat.ne_of_lt lt_b14_b27) nin0))
    have f193 := ((f190).keep K171_)
    exact Go.ret X171 (v := some (.ref b27)) (fun h => by rw [Bd.returns] at h; cases h) Bd.notSynchronized (fun fs hr => retOut X171 hx Bd.returns rfl (Or.inr (Or.inr (Or.inr (Or.inr ⟨rfl, rfl, rfl⟩)))) (hb hby dmethod_2_code_52) hr) (by decide) (by decide) (⟨b27, rfl, N171_, K191, sz_b27, f185⟩)
  · refine Go.st (S' := s₁.setTop (mkF m 9 #[.val (.int p0), .unset] [])) (fun t k => XS.ifNo X0.here hx rfl (hb hby dmethod_2_code_6) rfl ((if0 _ _).trans (feq hc13).1) k) ?_
    refine Go.st (S' := s₁.setTop (mkF m 10 #[.val (.int p0), .unset] [(.int p0)])) (fun t k => XS.iloadN X0.here hx rfl (hb hby dmethod_2_code_9) rfl k) ?_
    refine Go.st (S' := s₁.setTop (mkF m 13 #[.val (.int p0), .unset] [(.int (255 : Int32)), (.int p0)])) (fun t k => XS.sipush X0.here hx rfl (hb hby dmethod_2_code_10) k) ?_
    refine Go.op (F := fun z => s₁.setTop (mkF m 14 #[.val (.int p0), .unset] [(.int z)])) (x := (p0 &&& (255 : Int32))) (fun t k => XS.iand X0.here hx rfl (hb hby dmethod_2_code_13) rfl k) ?_
    intro v194 hv194
    refine Go.op (F := fun z => s₁.setTop (mkF m 15 #[.val (.int p0), .unset] [(.int z)])) (x := v194.toUInt32.toUInt16.toUInt32.toInt32) (fun t k => XS.i2c X0.here hx rfl (hb hby dmethod_2_code_14) rfl k) ?_
    intro v195 hv195
    have no243 : ¬ (∃ (r244 : Int32), (¬ (s_String_COMPACT_STRINGS = (0 : Int32))) ∧ ((((255 : Int32) < v195) ∧ (r244 = (0 : Int32))) ∨ ((¬ ((255 : Int32) < v195)) ∧ (r244 = (1 : Int32)))) ∧ (r244 = (0 : Int32))) := by
      rintro ⟨r244, hc245, hc246, hc247⟩
      have rv11 := rng32 v11
      have wv11 := c_iushr p0 (16 : Int32) 16 (by decide) (by decide)
      rw [← hv11] at wv11
      have rv12 := rng32 v12
      have wv12 := c_mask v11 (1 : Int32) 1 (by decide) (by decide)
      rw [← hv12] at wv12
      have rv194 := rng32 v194
      have wv194 := c_mask p0 (255 : Int32) 8 (by decide) (by decide)
      rw [← hv194] at wv194
      have rv195 := rng32 v195
      have wv195 := c_i2c v194
      rw [← hv195] at wv195
      have rp0 := rng32 p0
      have rr244 := rng32 r244
      have lI0 : (0 : Int32).toInt = 0 := by decide
      have lI1 : (1 : Int32).toInt = 1 := by decide
      have lI16 : (16 : Int32).toInt = 16 := by decide
      have lI255 : (255 : Int32).toInt = 255 := by decide
      simp only [Int32.lt_iff_toInt_lt, Int64.lt_iff_toInt_lt, ← Int32.toInt_inj, ← Int64.toInt_inj] at hc13 hc246 hc247
      omega
    obtain ⟨r248, T248, L248, X248, hQ248, st248⟩ := own_callS (W := 0) X0 hx hZ e0 hown (y := (⟨"java/lang/String", "valueOf", "(C)Ljava/lang/String;"⟩ : MethodName)) (hw _ (List.mem_of_getElem? (i := 245) rfl)) (hw _ (List.mem_of_getElem? (i := 246) rfl)) (hw _ (List.mem_of_getElem? (i := 8) rfl)) (hw _ (List.mem_of_getElem? (i := 247) rfl)) (by decide) (rm9 l Z a0 hw [] v195 s_String_COMPACT_STRINGS h0 n0 Z0 (S_s_String_COMPACT_STRINGS) (nz_s_String_COMPACT_STRINGS) (no243)) (by decide) (by decide) (by decide) (by decide) (g := (mkF m 15 #[.val (.int p0), .unset] [(.int v195)])) rfl (by rw [hml]; rfl) (argsL := [(.int v195)]) (rest := []) rfl (lenOf pd_8 rfl) rfl (by show 2 * 0 + _ ≤ _; exact Nat.le_of_eq rfl) (hb hby dmethod_2_code_15)
    obtain ⟨r253, v249, v250, b251, b252, k254, hv249, hv250, hc255, hc256, hc257, rfl, N248, K248_, sz_b251_, sz_b252_, f258, f259, f260, f261, f262, hlt263⟩ := hQ248
    have N248_ := Fr.app N0 N248
    have g_b251 : n0 ≤ b251 := Nat.le_trans Z0 sz_b251_
    have sz_b251 : h0.size ≤ b251 := Nat.le_trans (Keep.refl h0 []).1 sz_b251_
    have g_b252 : n0 ≤ b252 := Nat.le_trans Z0 sz_b252_
    have sz_b252 : h0.size ≤ b252 := Nat.le_trans (Keep.refl h0 []).1 sz_b252_
    have Z264 : n0 ≤ T248.heap.size := Nat.le_trans Z0 K248_.1
    have K264 : Keep h0 T248.heap [] := (Keep.refl h0 []).trans K248_ all0
    refine Go.st (S' := T248.setTop (mkF m 18 #[.val (.int p0), .unset] [(.ref b251)])) st248 ?_
    exact Go.ret X248 (v := some (.ref b251)) (fun h => by rw [Bd.returns] at h; cases h) Bd.notSynchronized (fun fs hr => retOut X248 hx Bd.returns rfl (Or.inr (Or.inr (Or.inr (Or.inr ⟨rfl, rfl, rfl⟩)))) (hb hby dmethod_2_code_18) hr) (by decide) (by decide) (⟨b251, rfl, N248_, K264, sz_b251, f258⟩)
theorem ef_11 (m : MethodId) (o0 : Addr) : entryFrame m #[(.ref o0)] 1 = mkF m 0 #[.val (.ref o0)] [] := by first | (simp [entryFrame, mkF, argsToLocals, Value.category, maxLocals]; done) | rfl
def Q11 (Z : State) (o0 : Addr) (h0 : Heap) (n0 : Nat) (v : Option Value) (h : Heap) (L : List Loc) : Prop := (v = none ∧ Fr n0 L ∧ h = h0)
set_option maxRecDepth 65536 in
set_option maxHeartbeats 40000000 in
theorem rm11 (l : Launch) (Z : State) (a0 : Array Value) (hw : ∀ d ∈ tables_1, d.before a0 Z = true) (ws : List Jvm.Cond) (o0 : Addr) (h0 : Heap) (n0 : Nat) (Z0 : n0 ≤ h0.size)  :
    Con l Z (⟨"java/util/AbstractCollection", "<init>", "()V"⟩ : MethodName) jdk_22_method_1_code 1 none ws ({ frames := 1, cells := 0, slots := 0, locals := 12 } : Room) #[(.ref o0)] h0 0 0 (Q11 Z o0 h0 n0) := by
  refine MetFree.of_bodySF (plainFor_of_name pn_4) hisR ?_
  intro p e s m args below meth c s₁ Bd hml0 hP hK
  obtain ⟨rfl, hZ, hh⟩ := hP
  have hx := Bd.exec
  have hby := Bd.bytes
  have hml : c.maxLocals = 1 := hml0
  have hown : s.vm.findClass "java/util/AbstractCollection" = some m.cls := findClass_of_methodNamed Bd.named
  have hnm := (name_of_methodNamed Bd.named Bd.method).1
  have X0 : Stand p l e ({ frames := 1, cells := 0, slots := 0, locals := 12 } : Room) s m #[(.ref o0)] below meth c s₁ [] 0 0 := Stand.of_body Bd
  have e0 : s₁.heap = h0 := by rw [← hh, Bd.state]; rfl
  have N0 := Fr.nil n0
  refine Go.of ?_
  refine Go.st (S' := s₁.setTop (mkF m 0 #[.val (.ref o0)] [])) (fun t k => castTop (ef_11 m o0) k) ?_
  refine Go.st (S' := s₁.setTop (mkF m 1 #[.val (.ref o0)] [(.ref o0)])) (fun t k => XS.aloadN X0.here hx rfl (hb hby djdk_22_method_1_code_0) rfl rfl k) ?_
  obtain ⟨T287, X287, e287, st287⟩ := initO X0 hx hZ hown (hw _ (List.mem_of_getElem? (i := 53) rfl)) (hw _ (List.mem_of_getElem? (i := 17) rfl)) (hw _ (List.mem_of_getElem? (i := 18) rfl)) e0 (g := (mkF m 1 #[.val (.ref o0)] [(.ref o0)])) rfl (by rw [hml]; rfl) rfl (hb hby djdk_22_method_1_code_1) (by decide) (W := 0) (by show 2 * 0 + _ ≤ _; exact Nat.le_of_eq rfl) (by decide)
  refine Go.st (S' := T287.setTop (mkF m 4 #[.val (.ref o0)] [])) st287 ?_
  exact Go.ret X287 (v := none) (fun _ => rfl) Bd.notSynchronized (fun fs hr => X287.returnOut hx Bd.returns (hb hby djdk_22_method_1_code_4) hr) (by decide) (by decide) (⟨rfl, N0, (e287)⟩)
theorem ef_12 (m : MethodId) (o0 : Addr) : entryFrame m #[(.ref o0)] 1 = mkF m 0 #[.val (.ref o0)] [] := by first | (simp [entryFrame, mkF, argsToLocals, Value.category, maxLocals]; done) | rfl
def Q12 (Z : State) (o0 : Addr) (u_o0_modCount : Value) (h0 : Heap) (n0 : Nat) (v : Option Value) (h : Heap) (L : List Loc) : Prop := (v = none ∧ Fr n0 L ∧ Keep h0 h [o0] ∧ Exa Z h o0 "java/util/ArrayList" ∧ Fld Z h o0 "java/util/AbstractList" "modCount" "I" (.int (0 : Int32)))
set_option maxRecDepth 65536 in
set_option maxHeartbeats 40000000 in
theorem rm12 (l : Launch) (Z : State) (a0 : Array Value) (hw : ∀ d ∈ tables_1, d.before a0 Z = true) (ws : List Jvm.Cond) (o0 : Addr) (u_o0_modCount : Value) (h0 : Heap) (n0 : Nat) (Z0 : n0 ≤ h0.size) (E_o0 : Exa Z h0 o0 "java/util/ArrayList") (F_o0_modCount : Fld Z h0 o0 "java/util/AbstractList" "modCount" "I" u_o0_modCount) (g_o0 : n0 ≤ o0) :
    Con l Z (⟨"java/util/AbstractList", "<init>", "()V"⟩ : MethodName) jdk_39_method_1_code 1 none ws ({ frames := 2, cells := 0, slots := 0, locals := 24 } : Room) #[(.ref o0)] h0 0 0 (Q12 Z o0 u_o0_modCount h0 n0) := by
  refine MetFree.of_bodySF (plainFor_of_name pn_5) hisR ?_
  intro p e s m args below meth c s₁ Bd hml0 hP hK
  obtain ⟨rfl, hZ, hh⟩ := hP
  have hx := Bd.exec
  have hby := Bd.bytes
  have hml : c.maxLocals = 1 := hml0
  have hown : s.vm.findClass "java/util/AbstractList" = some m.cls := findClass_of_methodNamed Bd.named
  have hnm := (name_of_methodNamed Bd.named Bd.method).1
  have X0 : Stand p l e ({ frames := 2, cells := 0, slots := 0, locals := 24 } : Room) s m #[(.ref o0)] below meth c s₁ [] 0 0 := Stand.of_body Bd
  have e0 : s₁.heap = h0 := by rw [← hh, Bd.state]; rfl
  have N0 := Fr.nil n0
  refine Go.of ?_
  refine Go.st (S' := s₁.setTop (mkF m 0 #[.val (.ref o0)] [])) (fun t k => castTop (ef_12 m o0) k) ?_
  refine Go.st (S' := s₁.setTop (mkF m 1 #[.val (.ref o0)] [(.ref o0)])) (fun t k => XS.aloadN X0.here hx rfl (hb hby djdk_39_method_1_code_0) rfl rfl k) ?_
  obtain ⟨r288, T288, L288, X288, hQ288, st288⟩ := own_callI (W := 0) (a := o0) X0 hx hZ e0 hown (y := (⟨"java/util/AbstractCollection", "<init>", "()V"⟩ : MethodName)) rfl (hw _ (List.mem_of_getElem? (i := 47) rfl)) (hw _ (List.mem_of_getElem? (i := 48) rfl)) (hw _ (List.mem_of_getElem? (i := 51) rfl)) (hw _ (List.mem_of_getElem? (i := 52) rfl)) (by decide) (rm11 l Z a0 hw [] o0 h0 n0 Z0 ) (by decide) (by decide) (by decide) (by decide) (g := (mkF m 1 #[.val (.ref o0)] [(.ref o0)])) rfl (by rw [hml]; rfl) (argsL := []) (rest := []) rfl (lenOf pd_10 rfl) rfl (by show 2 * 0 + _ ≤ _; exact Nat.le_of_eq rfl) (hb hby djdk_39_method_1_code_1)
  obtain ⟨rfl, N288, e288⟩ := hQ288
  have N288_ := Fr.app N0 N288
  refine Go.st (S' := T288.setTop (mkF m 4 #[.val (.ref o0)] [])) st288 ?_
  refine Go.st (S' := T288.setTop (mkF m 5 #[.val (.ref o0)] [(.ref o0)])) (fun t k => XS.aloadN X288.here hx rfl (hb hby djdk_39_method_1_code_4) rfl rfl k) ?_
  refine Go.st (S' := T288.setTop (mkF m 6 #[.val (.ref o0)] [(.int (0 : Int32)), (.ref o0)])) (fun t k => XS.iconst X288.here hx rfl (hb hby djdk_39_method_1_code_5) k) ?_
  obtain ⟨T289, h289, X289, e289, W289, st289⟩ := putF X288 hx hZ hown (host := "") (Or.inl (hw _ (List.mem_of_getElem? (i := 54) rfl))) Via.refl e288 F_o0_modCount E_o0 (Or.inl (hw _ (List.mem_of_getElem? (i := 55) rfl))) (hw _ (List.mem_of_getElem? (i := 36) rfl)) (ty := .int) (by decide) rfl rfl (g := (mkF m 6 #[.val (.ref o0)] [(.int (0 : Int32)), (.ref o0)])) rfl rfl (hb hby djdk_39_method_1_code_6)
  have Fw289 := (F_o0_modCount).same W289
  have N289 := Fr.snoc X289 N288_ g_o0
  have Z290 : n0 ≤ h289.size := Nat.le_trans Z0 (Keep.of_wr W289).1
  have K290 : Keep h0 h289 [o0] := (Keep.refl h0 [o0]).wr W289 (Or.inl (by simp))
  refine Go.st (S' := T289.setTop (mkF m 9 #[.val (.ref o0)] [])) st289 ?_
  have f291 := ((E_o0).wr W289)
  exact Go.ret X289 (v := none) (fun _ => rfl) Bd.notSynchronized (fun fs hr => X289.returnOut hx Bd.returns (hb hby djdk_39_method_1_code_9) hr) (by decide) (by decide) (by rw [e289]; exact ⟨rfl, N289, K290, f291, Fw289⟩)
theorem ef_13 (m : MethodId) (o0 : Addr) : entryFrame m #[(.ref o0)] 1 = mkF m 0 #[.val (.ref o0)] [] := by first | (simp [entryFrame, mkF, argsToLocals, Value.category, maxLocals]; done) | rfl
def Q13 (Z : State) (o0 : Addr) (u_o0_modCount : Value) (u_o0_elementData : Value) (u_o0_size : Value) (h0 : Heap) (n0 : Nat) (v : Option Value) (h : Heap) (L : List Loc) : Prop := (v = none ∧ Fr n0 L ∧ Keep h0 h [o0] ∧ Exa Z h o0 "java/util/ArrayList" ∧ Fld Z h o0 "java/util/AbstractList" "modCount" "I" (.int (0 : Int32)) ∧ Fld Z h o0 "java/util/ArrayList" "elementData" "[Ljava/lang/Object;" u_o0_elementData ∧ Fld Z h o0 "java/util/ArrayList" "size" "I" u_o0_size)
set_option maxRecDepth 65536 in
set_option maxHeartbeats 40000000 in
theorem rm13 (l : Launch) (Z : State) (a0 : Array Value) (hw : ∀ d ∈ tables_1, d.before a0 Z = true) (ws : List Jvm.Cond) (o0 : Addr) (u_o0_modCount : Value) (u_o0_elementData : Value) (u_o0_size : Value) (h0 : Heap) (n0 : Nat) (Z0 : n0 ≤ h0.size) (E_o0 : Exa Z h0 o0 "java/util/ArrayList") (F_o0_modCount : Fld Z h0 o0 "java/util/AbstractList" "modCount" "I" u_o0_modCount) (g_o0 : n0 ≤ o0) (F_o0_elementData : Fld Z h0 o0 "java/util/ArrayList" "elementData" "[Ljava/lang/Object;" u_o0_elementData) (F_o0_size : Fld Z h0 o0 "java/util/ArrayList" "size" "I" u_o0_size) :
    Con l Z (⟨"java/util/AbstractList", "<init>", "()V"⟩ : MethodName) jdk_39_method_1_code 1 none ws ({ frames := 2, cells := 0, slots := 0, locals := 24 } : Room) #[(.ref o0)] h0 0 0 (Q13 Z o0 u_o0_modCount u_o0_elementData u_o0_size h0 n0) := by
  refine MetFree.of_bodySF (plainFor_of_name pn_5) hisR ?_
  intro p e s m args below meth c s₁ Bd hml0 hP hK
  obtain ⟨rfl, hZ, hh⟩ := hP
  have hx := Bd.exec
  have hby := Bd.bytes
  have hml : c.maxLocals = 1 := hml0
  have hown : s.vm.findClass "java/util/AbstractList" = some m.cls := findClass_of_methodNamed Bd.named
  have hnm := (name_of_methodNamed Bd.named Bd.method).1
  have X0 : Stand p l e ({ frames := 2, cells := 0, slots := 0, locals := 24 } : Room) s m #[(.ref o0)] below meth c s₁ [] 0 0 := Stand.of_body Bd
  have e0 : s₁.heap = h0 := by rw [← hh, Bd.state]; rfl
  have N0 := Fr.nil n0
  refine Go.of ?_
  refine Go.st (S' := s₁.setTop (mkF m 0 #[.val (.ref o0)] [])) (fun t k => castTop (ef_13 m o0) k) ?_
  refine Go.st (S' := s₁.setTop (mkF m 1 #[.val (.ref o0)] [(.ref o0)])) (fun t k => XS.aloadN X0.here hx rfl (hb hby djdk_39_method_1_code_0) rfl rfl k) ?_
  obtain ⟨r298, T298, L298, X298, hQ298, st298⟩ := own_callI (W := 0) (a := o0) X0 hx hZ e0 hown (y := (⟨"java/util/AbstractCollection", "<init>", "()V"⟩ : MethodName)) rfl (hw _ (List.mem_of_getElem? (i := 47) rfl)) (hw _ (List.mem_of_getElem? (i := 48) rfl)) (hw _ (List.mem_of_getElem? (i := 51) rfl)) (hw _ (List.mem_of_getElem? (i := 52) rfl)) (by decide) (rm11 l Z a0 hw [] o0 h0 n0 Z0 ) (by decide) (by decide) (by decide) (by decide) (g := (mkF m 1 #[.val (.ref o0)] [(.ref o0)])) rfl (by rw [hml]; rfl) (argsL := []) (rest := []) rfl (lenOf pd_10 rfl) rfl (by show 2 * 0 + _ ≤ _; exact Nat.le_of_eq rfl) (hb hby djdk_39_method_1_code_1)
  obtain ⟨rfl, N298, e298⟩ := hQ298
  have N298_ := Fr.app N0 N298
  refine Go.st (S' := T298.setTop (mkF m 4 #[.val (.ref o0)] [])) st298 ?_
  refine Go.st (S' := T298.setTop (mkF m 5 #[.val (.ref o0)] [(.ref o0)])) (fun t k => XS.aloadN X298.here hx rfl (hb hby djdk_39_method_1_code_4) rfl rfl k) ?_
  refine Go.st (S' := T298.setTop (mkF m 6 #[.val (.ref o0)] [(.int (0 : Int32)), (.ref o0)])) (fun t k => XS.iconst X298.here hx rfl (hb hby djdk_39_method_1_code_5) k) ?_
  obtain ⟨T299, h299, X299, e299, W299, st299⟩ := putF X298 hx hZ hown (host := "") (Or.inl (hw _ (List.mem_of_getElem? (i := 54) rfl))) Via.refl e298 F_o0_modCount E_o0 (Or.inl (hw _ (List.mem_of_getElem? (i := 55) rfl))) (hw _ (List.mem_of_getElem? (i := 36) rfl)) (ty := .int) (by decide) rfl rfl (g := (mkF m 6 #[.val (.ref o0)] [(.int (0 : Int32)), (.ref o0)])) rfl rfl (hb hby djdk_39_method_1_code_6)
  have Fw299 := (F_o0_modCount).same W299
  have N299 := Fr.snoc X299 N298_ g_o0
  have Z300 : n0 ≤ h299.size := Nat.le_trans Z0 (Keep.of_wr W299).1
  have K300 : Keep h0 h299 [o0] := (Keep.refl h0 [o0]).wr W299 (Or.inl (by simp))
  refine Go.st (S' := T299.setTop (mkF m 9 #[.val (.ref o0)] [])) st299 ?_
  have f301 := ((F_o0_elementData).other W299 (Or.inr (slot_ne (Or.inl (hw _ (List.mem_of_getElem? (i := 58) rfl))) (Or.inl (hw _ (List.mem_of_getElem? (i := 55) rfl))) (by decide) (t := (.array (.object "java/lang/Object"))) (t' := .int) (by decide) (by decide))))
  have f302 := ((F_o0_size).other W299 (Or.inr (slot_ne (Or.inl (hw _ (List.mem_of_getElem? (i := 67) rfl))) (Or.inl (hw _ (List.mem_of_getElem? (i := 55) rfl))) (by decide) (t := .int) (t' := .int) (by decide) (by decide))))
  have f303 := ((E_o0).wr W299)
  exact Go.ret X299 (v := none) (fun _ => rfl) Bd.notSynchronized (fun fs hr => X299.returnOut hx Bd.returns (hb hby djdk_39_method_1_code_9) hr) (by decide) (by decide) (by rw [e299]; exact ⟨rfl, N299, K300, f303, Fw299, f301, f302⟩)
theorem ef_14 (m : MethodId) (o0 : Addr) : entryFrame m #[(.ref o0)] 1 = mkF m 0 #[.val (.ref o0)] [] := by first | (simp [entryFrame, mkF, argsToLocals, Value.category, maxLocals]; done) | rfl
def Q14 (Z : State) (o0 : Addr) (s_ArrayList_DEFAULTCAPACITY_EMPTY_ELEMENTDATA : Addr) (h0 : Heap) (n0 : Nat) (v : Option Value) (h : Heap) (L : List Loc) : Prop := (v = none ∧ Fr n0 L ∧ Keep h0 h [o0] ∧ Exa Z h o0 "java/util/ArrayList" ∧ Fld Z h o0 "java/util/AbstractList" "modCount" "I" (.int (0 : Int32)) ∧ Fld Z h o0 "java/util/ArrayList" "elementData" "[Ljava/lang/Object;" (.ref s_ArrayList_DEFAULTCAPACITY_EMPTY_ELEMENTDATA) ∧ Fld Z h o0 "java/util/ArrayList" "size" "I" (.int (0 : Int32)))
set_option maxRecDepth 65536 in
set_option maxHeartbeats 40000000 in
theorem rm14 (l : Launch) (Z : State) (a0 : Array Value) (hw : ∀ d ∈ tables_1, d.before a0 Z = true) (ws : List Jvm.Cond) (o0 : Addr) (s_ArrayList_DEFAULTCAPACITY_EMPTY_ELEMENTDATA : Addr) (h0 : Heap) (n0 : Nat) (Z0 : n0 ≤ h0.size) (E_o0 : Exa Z h0 o0 "java/util/ArrayList") (F_o0_modCount : Fld Z h0 o0 "java/util/AbstractList" "modCount" "I" (.int (0 : Int32))) (F_o0_elementData : Fld Z h0 o0 "java/util/ArrayList" "elementData" "[Ljava/lang/Object;" .null) (F_o0_size : Fld Z h0 o0 "java/util/ArrayList" "size" "I" (.int (0 : Int32))) (g_o0 : n0 ≤ o0) (S_s_ArrayList_DEFAULTCAPACITY_EMPTY_ELEMENTDATA : Sta Z h0 "java/util/ArrayList" "DEFAULTCAPACITY_EMPTY_ELEMENTDATA" "[Ljava/lang/Object;" (.ref s_ArrayList_DEFAULTCAPACITY_EMPTY_ELEMENTDATA)) :
    Con l Z (⟨"java/util/ArrayList", "<init>", "()V"⟩ : MethodName) jdk_38_method_2_code 1 none ws ({ frames := 3, cells := 0, slots := 0, locals := 36 } : Room) #[(.ref o0)] h0 0 0 (Q14 Z o0 s_ArrayList_DEFAULTCAPACITY_EMPTY_ELEMENTDATA h0 n0) := by
  refine MetFree.of_bodySF (plainFor_of_name pn_6) hisR ?_
  intro p e s m args below meth c s₁ Bd hml0 hP hK
  obtain ⟨rfl, hZ, hh⟩ := hP
  have hx := Bd.exec
  have hby := Bd.bytes
  have hml : c.maxLocals = 1 := hml0
  have hown : s.vm.findClass "java/util/ArrayList" = some m.cls := findClass_of_methodNamed Bd.named
  have hnm := (name_of_methodNamed Bd.named Bd.method).1
  have X0 : Stand p l e ({ frames := 3, cells := 0, slots := 0, locals := 36 } : Room) s m #[(.ref o0)] below meth c s₁ [] 0 0 := Stand.of_body Bd
  have e0 : s₁.heap = h0 := by rw [← hh, Bd.state]; rfl
  have N0 := Fr.nil n0
  refine Go.of ?_
  refine Go.st (S' := s₁.setTop (mkF m 0 #[.val (.ref o0)] [])) (fun t k => castTop (ef_14 m o0) k) ?_
  refine Go.st (S' := s₁.setTop (mkF m 1 #[.val (.ref o0)] [(.ref o0)])) (fun t k => XS.aloadN X0.here hx rfl (hb hby djdk_38_method_2_code_0) rfl rfl k) ?_
  obtain ⟨r304, T304, L304, X304, hQ304, st304⟩ := own_callI (W := 0) (a := o0) X0 hx hZ e0 hown (y := (⟨"java/util/AbstractList", "<init>", "()V"⟩ : MethodName)) rfl (hw _ (List.mem_of_getElem? (i := 41) rfl)) (hw _ (List.mem_of_getElem? (i := 42) rfl)) (hw _ (List.mem_of_getElem? (i := 45) rfl)) (hw _ (List.mem_of_getElem? (i := 46) rfl)) (by decide) (rm13 l Z a0 hw [] o0 ((.int (0 : Int32))) (.null) ((.int (0 : Int32))) h0 n0 Z0 (E_o0) (F_o0_modCount) (g_o0) (F_o0_elementData) (F_o0_size)) (by decide) (by decide) (by decide) (by decide) (g := (mkF m 1 #[.val (.ref o0)] [(.ref o0)])) rfl (by rw [hml]; rfl) (argsL := []) (rest := []) rfl (lenOf pd_10 rfl) rfl (by show 2 * 0 + _ ≤ _; exact Nat.le_of_eq rfl) (hb hby djdk_38_method_2_code_1)
  obtain ⟨rfl, N304, K304_, f305, f306, f307, f308⟩ := hQ304
  have N304_ := Fr.app N0 N304
  have Z309 : n0 ≤ T304.heap.size := Nat.le_trans Z0 K304_.1
  have K309 : Keep h0 T304.heap [o0] := (Keep.refl h0 [o0]).trans K304_ (allS (Or.inl (by simp)) all0)
  refine Go.st (S' := T304.setTop (mkF m 4 #[.val (.ref o0)] [])) st304 ?_
  refine Go.st (S' := T304.setTop (mkF m 5 #[.val (.ref o0)] [(.ref o0)])) (fun t k => XS.aloadN X304.here hx rfl (hb hby djdk_38_method_2_code_4) rfl rfl k) ?_
  have f310 := (own_sta_keep (S_s_ArrayList_DEFAULTCAPACITY_EMPTY_ELEMENTDATA) K304_ (allS (own_exa_plain E_o0) all0))
  obtain ⟨T311, X311, e311, st311⟩ := getS X304 hx hZ hown (hw _ (List.mem_of_getElem? (i := 56) rfl)) Via.refl rfl f310 (host := "") (g := (mkF m 5 #[.val (.ref o0)] [(.ref o0)])) rfl (hb hby djdk_38_method_2_code_5)
  refine Go.st (S' := T311.setTop (mkF m 8 #[.val (.ref o0)] [(.ref s_ArrayList_DEFAULTCAPACITY_EMPTY_ELEMENTDATA), (.ref o0)])) st311 ?_
  obtain ⟨T312, h312, X312, e312, W312, st312⟩ := putF X311 hx hZ hown (host := "") (Or.inl (hw _ (List.mem_of_getElem? (i := 57) rfl))) Via.refl e311 f307 f305 (Or.inl (hw _ (List.mem_of_getElem? (i := 58) rfl))) (hw _ (List.mem_of_getElem? (i := 36) rfl)) (ty := (.array (.object "java/lang/Object"))) (by decide) rfl rfl (g := (mkF m 8 #[.val (.ref o0)] [(.ref s_ArrayList_DEFAULTCAPACITY_EMPTY_ELEMENTDATA), (.ref o0)])) rfl rfl (hb hby djdk_38_method_2_code_8)
  have Fw312 := (f307).same W312
  have N312 := Fr.snoc X312 N304_ g_o0
  have Z313 : n0 ≤ h312.size := Nat.le_trans Z309 (Keep.of_wr W312).1
  have K313 : Keep h0 h312 [o0] := K309.wr W312 (Or.inl (by simp))
  refine Go.st (S' := T312.setTop (mkF m 11 #[.val (.ref o0)] [])) st312 ?_
  have f314 := ((f305).wr W312)
  have f315 := ((f306).other W312 (Or.inr (slot_ne (Or.inl (hw _ (List.mem_of_getElem? (i := 55) rfl))) (Or.inl (hw _ (List.mem_of_getElem? (i := 58) rfl))) (by decide) (t := .int) (t' := (.array (.object "java/lang/Object"))) (by decide) (by decide))))
  have f316 := ((f308).other W312 (Or.inr (slot_ne (Or.inl (hw _ (List.mem_of_getElem? (i := 67) rfl))) (Or.inl (hw _ (List.mem_of_getElem? (i := 58) rfl))) (by decide) (t := .int) (t' := (.array (.object "java/lang/Object"))) (by decide) (by decide))))
  exact Go.ret X312 (v := none) (fun _ => rfl) Bd.notSynchronized (fun fs hr => X312.returnOut hx Bd.returns (hb hby djdk_38_method_2_code_11) hr) (by decide) (by decide) (by rw [e312]; exact ⟨rfl, N312, K313, f314, f315, Fw312, f316⟩)
theorem ef_15 (m : MethodId)  : entryFrame m #[(.int (10 : Int32)), (.int (1 : Int32))] 2 = mkF m 0 #[.val (.int (10 : Int32)), .val (.int (1 : Int32))] [] := by first | (simp [entryFrame, mkF, argsToLocals, Value.category, maxLocals]; done) | rfl
def Q15 (Z : State)  (h0 : Heap) (n0 : Nat) (v : Option Value) (h : Heap) (L : List Loc) : Prop := (v = some (.int (10 : Int32)) ∧ Fr n0 L ∧ h = h0)
set_option maxRecDepth 65536 in
set_option maxHeartbeats 40000000 in
theorem rm15 (l : Launch) (Z : State) (a0 : Array Value) (hw : ∀ d ∈ tables_1, d.before a0 Z = true) (ws : List Jvm.Cond)  (h0 : Heap) (n0 : Nat) (Z0 : n0 ≤ h0.size)  :
    Con l Z (⟨"java/lang/Math", "max", "(II)I"⟩ : MethodName) jdk_29_method_65_code 2 (some .int) ws ({ frames := 0, cells := 0, slots := 0, locals := 0 } : Room) #[(.int (10 : Int32)), (.int (1 : Int32))] h0 0 0 (Q15 Z  h0 n0) := by
  refine MetFree.of_bodySF (Jvm.Free.JP.mathPlain rfl (by decide +kernel)) hisR ?_
  intro p e s m args below meth c s₁ Bd hml0 hP hK
  obtain ⟨rfl, hZ, hh⟩ := hP
  have hx := Bd.exec
  have hby := Bd.bytes
  have hml : c.maxLocals = 2 := hml0
  have hown : s.vm.findClass "java/lang/Math" = some m.cls := findClass_of_methodNamed Bd.named
  have hnm := (name_of_methodNamed Bd.named Bd.method).1
  have X0 : Stand p l e ({ frames := 0, cells := 0, slots := 0, locals := 0 } : Room) s m #[(.int (10 : Int32)), (.int (1 : Int32))] below meth c s₁ [] 0 0 := Stand.of_body Bd
  have e0 : s₁.heap = h0 := by rw [← hh, Bd.state]; rfl
  have N0 := Fr.nil n0
  refine Go.of ?_
  refine Go.st (S' := s₁.setTop (mkF m 0 #[.val (.int (10 : Int32)), .val (.int (1 : Int32))] [])) (fun t k => castTop (ef_15 m ) k) ?_
  refine Go.st (S' := s₁.setTop (mkF m 1 #[.val (.int (10 : Int32)), .val (.int (1 : Int32))] [(.int (10 : Int32))])) (fun t k => XS.iloadN X0.here hx rfl (hb hby djdk_29_method_65_code_0) rfl k) ?_
  refine Go.st (S' := s₁.setTop (mkF m 2 #[.val (.int (10 : Int32)), .val (.int (1 : Int32))] [(.int (1 : Int32)), (.int (10 : Int32))])) (fun t k => XS.iloadN X0.here hx rfl (hb hby djdk_29_method_65_code_1) rfl k) ?_
  refine Go.st (S' := s₁.setTop (mkF m 5 #[.val (.int (10 : Int32)), .val (.int (1 : Int32))] [])) (fun t k => XS.icmpNo X0.here hx rfl (hb hby djdk_29_method_65_code_2) rfl (flt (by decide : (¬ ((10 : Int32) < (1 : Int32))))).1 k) ?_
  refine Go.st (S' := s₁.setTop (mkF m 6 #[.val (.int (10 : Int32)), .val (.int (1 : Int32))] [(.int (10 : Int32))])) (fun t k => XS.iloadN X0.here hx rfl (hb hby djdk_29_method_65_code_5) rfl k) ?_
  refine Go.st (S' := s₁.setTop (mkF m 10 #[.val (.int (10 : Int32)), .val (.int (1 : Int32))] [(.int (10 : Int32))])) (fun t k => XS.goto X0.here hx rfl (pc0 := 6) (pc' := 10) rfl (hb hby djdk_29_method_65_code_6) (by decide) (by decide) k) ?_
  exact Go.ret X0 (v := some (.int (10 : Int32))) (fun h => by rw [Bd.returns] at h; cases h) Bd.notSynchronized (fun fs hr => retI X0 hx Bd.returns (hb hby djdk_29_method_65_code_10) hr) (by decide) (by decide) (⟨rfl, N0, (e0)⟩)
theorem ef_16 (m : MethodId) (o0 : Addr) : entryFrame m #[(.ref o0), (.int (1 : Int32))] 4 = mkF m 0 #[.val (.ref o0), .val (.int (1 : Int32)), .unset, .unset] [] := by first | (simp [entryFrame, mkF, argsToLocals, Value.category, maxLocals]; done) | rfl
def Q16 (Z : State) (o0 : Addr) (s_ArrayList_DEFAULTCAPACITY_EMPTY_ELEMENTDATA : Addr) (k_s_ArrayList_DEFAULTCAPACITY_EMPTY_ELEMENTDATA : ClassId) (u_o0_size : Value) (h0 : Heap) (n0 : Nat) (v : Option Value) (h : Heap) (L : List Loc) : Prop := (∃ (b346 : Addr) (k346 : ClassId), v = some (.ref b346) ∧ Fr n0 L ∧ Keep h0 h [o0] ∧ h0.size ≤ b346 ∧ Fld Z h o0 "java/util/ArrayList" "elementData" "[Ljava/lang/Object;" (.ref b346) ∧ Arv Z h b346 k346 (.object "java/lang/Object") (10 : Int32) [.null, .null, .null, .null, .null, .null, .null, .null, .null, .null] .null ∧ Ovr Z k346 "java/lang/Object" ∧ Exa Z h b346 "[Ljava/lang/Object;" ∧ Exa Z h o0 "java/util/ArrayList" ∧ Fld Z h o0 "java/util/ArrayList" "size" "I" u_o0_size)
set_option maxRecDepth 65536 in
set_option maxHeartbeats 40000000 in
theorem rm16 (l : Launch) (Z : State) (a0 : Array Value) (hw : ∀ d ∈ tables_1, d.before a0 Z = true) (ws : List Jvm.Cond) (o0 : Addr) (s_ArrayList_DEFAULTCAPACITY_EMPTY_ELEMENTDATA : Addr) (k_s_ArrayList_DEFAULTCAPACITY_EMPTY_ELEMENTDATA : ClassId) (u_o0_size : Value) (h0 : Heap) (n0 : Nat) (Z0 : n0 ≤ h0.size) (F_o0_elementData : Fld Z h0 o0 "java/util/ArrayList" "elementData" "[Ljava/lang/Object;" (.ref s_ArrayList_DEFAULTCAPACITY_EMPTY_ELEMENTDATA)) (V_s_ArrayList_DEFAULTCAPACITY_EMPTY_ELEMENTDATA : Arv Z h0 s_ArrayList_DEFAULTCAPACITY_EMPTY_ELEMENTDATA k_s_ArrayList_DEFAULTCAPACITY_EMPTY_ELEMENTDATA (.object "java/lang/Object") (0 : Int32) [] .null) (S_s_ArrayList_DEFAULTCAPACITY_EMPTY_ELEMENTDATA : Sta Z h0 "java/util/ArrayList" "DEFAULTCAPACITY_EMPTY_ELEMENTDATA" "[Ljava/lang/Object;" (.ref s_ArrayList_DEFAULTCAPACITY_EMPTY_ELEMENTDATA)) (E_o0 : Exa Z h0 o0 "java/util/ArrayList") (g_o0 : n0 ≤ o0) (F_o0_size : Fld Z h0 o0 "java/util/ArrayList" "size" "I" u_o0_size) :
    Con l Z (⟨"java/util/ArrayList", "grow", "(I)[Ljava/lang/Object;"⟩ : MethodName) jdk_38_method_6_code 4 (some (.array (.object "java/lang/Object"))) ws ({ frames := 1, cells := 1, slots := 10, locals := 14 } : Room) #[(.ref o0), (.int (1 : Int32))] h0 1 10 (Q16 Z o0 s_ArrayList_DEFAULTCAPACITY_EMPTY_ELEMENTDATA k_s_ArrayList_DEFAULTCAPACITY_EMPTY_ELEMENTDATA u_o0_size h0 n0) := by
  refine MetFree.of_bodySF (plainFor_of_name pn_6) hisR ?_
  intro p e s m args below meth c s₁ Bd hml0 hP hK
  obtain ⟨rfl, hZ, hh⟩ := hP
  have hx := Bd.exec
  have hby := Bd.bytes
  have hml : c.maxLocals = 4 := hml0
  have hown : s.vm.findClass "java/util/ArrayList" = some m.cls := findClass_of_methodNamed Bd.named
  have hnm := (name_of_methodNamed Bd.named Bd.method).1
  have X0 : Stand p l e ({ frames := 1, cells := 1, slots := 10, locals := 14 } : Room) s m #[(.ref o0), (.int (1 : Int32))] below meth c s₁ [] 0 0 := Stand.of_body Bd
  have e0 : s₁.heap = h0 := by rw [← hh, Bd.state]; rfl
  have N0 := Fr.nil n0
  refine Go.of ?_
  refine Go.st (S' := s₁.setTop (mkF m 0 #[.val (.ref o0), .val (.int (1 : Int32)), .unset, .unset] [])) (fun t k => castTop (ef_16 m o0) k) ?_
  refine Go.st (S' := s₁.setTop (mkF m 1 #[.val (.ref o0), .val (.int (1 : Int32)), .unset, .unset] [(.ref o0)])) (fun t k => XS.aloadN X0.here hx rfl (hb hby djdk_38_method_6_code_0) rfl rfl k) ?_
  obtain ⟨T339, X339, e339, st339⟩ := getF X0 hx hZ hown (host := "") (Or.inl (hw _ (List.mem_of_getElem? (i := 57) rfl))) Via.refl e0 F_o0_elementData (g := (mkF m 1 #[.val (.ref o0), .val (.int (1 : Int32)), .unset, .unset] [(.ref o0)])) rfl rfl (hb hby djdk_38_method_6_code_1)
  refine Go.st (S' := T339.setTop (mkF m 4 #[.val (.ref o0), .val (.int (1 : Int32)), .unset, .unset] [(.ref s_ArrayList_DEFAULTCAPACITY_EMPTY_ELEMENTDATA)])) st339 ?_
  obtain ⟨cl340, Ar340, -, S340, N340_, -, -⟩ := id V_s_ArrayList_DEFAULTCAPACITY_EMPTY_ELEMENTDATA
  refine Go.op (F := fun z => T339.setTop (mkF m 5 #[.val (.ref o0), .val (.int (1 : Int32)), .unset, .unset] [(.int z)])) (x := cl340.slots.size.toInt32) (fun t k => X339.arraylength hx (own_eh e339 Ar340.1) (State.isArrayOf_alike hZ.alike Ar340.2.1) (g := (mkF m 4 #[.val (.ref o0), .val (.int (1 : Int32)), .unset, .unset] [(.ref s_ArrayList_DEFAULTCAPACITY_EMPTY_ELEMENTDATA)])) rfl rfl (hb hby djdk_38_method_6_code_4) t k) ?_
  intro v341 hv341
  obtain rfl : (0 : Int32) = v341 := (hv341.trans (len_of S340 N340_)).symm
  let A342 : Array Slot := #[.val (.ref o0), .val (.int (1 : Int32)), .val (.int (0 : Int32)), .unset]
  refine Go.st (S' := T339.setTop (mkF m 6 A342 [])) (fun t k => XS.istoreN X339.here hx rfl (hb hby djdk_38_method_6_code_5) rfl (l' := A342) rfl k) ?_
  refine Go.st (S' := T339.setTop (mkF m 7 A342 [(.int (0 : Int32))])) (fun t k => XS.iloadN X339.here hx rfl (hb hby djdk_38_method_6_code_6) rfl k) ?_
  refine Go.st (S' := T339.setTop (mkF m 10 A342 [])) (fun t k => XS.ifNo X339.here hx rfl (hb hby djdk_38_method_6_code_7) rfl ((if0 _ _).trans (flt (by decide : (¬ ((0 : Int32) < (0 : Int32))))).2.2.1) k) ?_
  refine Go.st (S' := T339.setTop (mkF m 11 A342 [(.ref o0)])) (fun t k => XS.aloadN X339.here hx rfl (hb hby djdk_38_method_6_code_10) rfl rfl k) ?_
  obtain ⟨T343, X343, e343, st343⟩ := getF X339 hx hZ hown (host := "") (Or.inl (hw _ (List.mem_of_getElem? (i := 57) rfl))) Via.refl e339 F_o0_elementData (g := (mkF m 11 A342 [(.ref o0)])) rfl rfl (hb hby djdk_38_method_6_code_11)
  refine Go.st (S' := T343.setTop (mkF m 14 A342 [(.ref s_ArrayList_DEFAULTCAPACITY_EMPTY_ELEMENTDATA)])) st343 ?_
  obtain ⟨T344, X344, e344, st344⟩ := getS X343 hx hZ hown (hw _ (List.mem_of_getElem? (i := 56) rfl)) Via.refl e343 S_s_ArrayList_DEFAULTCAPACITY_EMPTY_ELEMENTDATA (host := "") (g := (mkF m 14 A342 [(.ref s_ArrayList_DEFAULTCAPACITY_EMPTY_ELEMENTDATA)])) rfl (hb hby djdk_38_method_6_code_14)
  refine Go.st (S' := T344.setTop (mkF m 17 A342 [(.ref s_ArrayList_DEFAULTCAPACITY_EMPTY_ELEMENTDATA), (.ref s_ArrayList_DEFAULTCAPACITY_EMPTY_ELEMENTDATA)])) st344 ?_
  refine Go.st (S' := T344.setTop (mkF m 45 A342 [])) (fun t k => acmp X344 hx rfl rfl rfl (pc0 := 17) (pc' := 45) (same := true) rfl (hb hby djdk_38_method_6_code_17) rfl (by simp) (by decide) (by decide) k) ?_
  refine Go.st (S' := T344.setTop (mkF m 46 A342 [(.ref o0)])) (fun t k => XS.aloadN X344.here hx rfl (hb hby djdk_38_method_6_code_45) rfl rfl k) ?_
  refine Go.st (S' := T344.setTop (mkF m 48 A342 [(.int (10 : Int32)), (.ref o0)])) (fun t k => XS.bipush X344.here hx rfl (hb hby djdk_38_method_6_code_46) k) ?_
  refine Go.st (S' := T344.setTop (mkF m 49 A342 [(.int (1 : Int32)), (.int (10 : Int32)), (.ref o0)])) (fun t k => XS.iloadN X344.here hx rfl (hb hby djdk_38_method_6_code_48) rfl k) ?_
  obtain ⟨r345, T345, L345, X345, hQ345, st345⟩ := own_callS (W := 1) X344 hx hZ e344 hown (y := (⟨"java/lang/Math", "max", "(II)I"⟩ : MethodName)) (hw _ (List.mem_of_getElem? (i := 83) rfl)) (hw _ (List.mem_of_getElem? (i := 84) rfl)) (hw _ (List.mem_of_getElem? (i := 85) rfl)) (hw _ (List.mem_of_getElem? (i := 86) rfl)) (by decide) (rm15 l Z a0 hw []  h0 n0 Z0 ) (by decide) (by decide) (by decide) (by decide) (g := (mkF m 49 A342 [(.int (1 : Int32)), (.int (10 : Int32)), (.ref o0)])) rfl (by rw [hml]; rfl) (argsL := [(.int (10 : Int32)), (.int (1 : Int32))]) (rest := [(.ref o0)]) rfl (lenOf pd_11 rfl) rfl (by show 2 * 0 + _ ≤ _; exact Nat.le_of_eq rfl) (hb hby djdk_38_method_6_code_49)
  obtain ⟨rfl, N345, e345⟩ := hQ345
  have N345_ := Fr.app N0 N345
  refine Go.st (S' := T345.setTop (mkF m 52 A342 [(.int (10 : Int32)), (.ref o0)])) st345 ?_
  obtain ⟨T346, h346, k346, X346, e346, E346, A346, B346, O346, st346⟩ := newRE X345 hx hZ hown (hw _ (List.mem_of_getElem? (i := 87) rfl)) (hw _ (List.mem_of_getElem? (i := 88) rfl)) e345 (g := (mkF m 52 A342 [(.int (10 : Int32)), (.ref o0)])) rfl (hb hby djdk_38_method_6_code_52) rfl (by decide) (cap := 10) (by decide) (by decide) (by decide) (by decide) (ad := "[Ljava/lang/Object;") (by decide)
  obtain ⟨b346, gg346⟩ : ∃ z, z = h0.size := ⟨_, rfl⟩
  rw [← gg346] at A346 B346 st346
  have g_b346 : n0 ≤ b346 := Nat.le_trans Z0 (Nat.le_of_eq gg346.symm)
  have sz_b346 : h0.size ≤ b346 := Nat.le_trans (Keep.refl h0 [o0]).1 (Nat.le_of_eq gg346.symm)
  have Z347 : n0 ≤ h346.size := Nat.le_trans Z0 E346.1
  have K347 : Keep h0 h346 [o0] := (Keep.refl h0 [o0]).ext E346
  have V346 : Arv Z h346 b346 k346 (.object "java/lang/Object") (10 : Int32) [.null, .null, .null, .null, .null, .null, .null, .null, .null, .null] .null := (Arv.new A346 (by decide)).pad (pad_rep [] .null 10)
  refine Go.st (S' := T346.setTop (mkF m 55 A342 [(.ref b346), (.ref o0)])) st346 ?_
  refine Go.st (S' := T346.setTop (mkF m 56 A342 [(.ref b346), (.ref o0), (.ref b346)])) (fun t k => XS.dupX1 X346.here hx rfl (hb hby djdk_38_method_6_code_55) rfl rfl rfl k) ?_
  have f348 := ((E_o0).ext E346)
  have f349 := ((F_o0_elementData).ext E346)
  obtain ⟨T350, h350, X350, e350, W350, st350⟩ := putF X346 hx hZ hown (host := "") (Or.inl (hw _ (List.mem_of_getElem? (i := 57) rfl))) Via.refl e346 f349 f348 (Or.inl (hw _ (List.mem_of_getElem? (i := 58) rfl))) (hw _ (List.mem_of_getElem? (i := 36) rfl)) (ty := (.array (.object "java/lang/Object"))) (by decide) rfl rfl (g := (mkF m 56 A342 [(.ref b346), (.ref o0), (.ref b346)])) rfl rfl (hb hby djdk_38_method_6_code_56)
  have Fw350 := (f349).same W350
  have N350 := Fr.snoc X350 N345_ g_o0
  have Z351 : n0 ≤ h350.size := Nat.le_trans Z347 (Keep.of_wr W350).1
  have K351 : Keep h0 h350 [o0] := K347.wr W350 (Or.inl (by simp))
  refine Go.st (S' := T350.setTop (mkF m 59 A342 [(.ref b346)])) st350 ?_
  have f352 := ((((F_o0_size).ext E346)).other W350 (Or.inr (slot_ne (Or.inl (hw _ (List.mem_of_getElem? (i := 67) rfl))) (Or.inl (hw _ (List.mem_of_getElem? (i := 58) rfl))) (by decide) (t := .int) (t' := (.array (.object "java/lang/Object"))) (by decide) (by decide))))
  have f353 := ((V346).other W350 (Ne.symm (Nat.ne_of_lt (Nat.lt_of_lt_of_le (F_o0_elementData).lt sz_b346))))
  have f354 := ((B346).wr W350)
  have f355 := ((f348).wr W350)
  exact Go.ret X350 (v := some (.ref b346)) (fun h => by rw [Bd.returns] at h; cases h) Bd.notSynchronized (fun fs hr => retOut X350 hx Bd.returns rfl (Or.inr (Or.inr (Or.inr (Or.inr ⟨rfl, rfl, rfl⟩)))) (hb hby djdk_38_method_6_code_59) hr) (by decide) (by decide) (by rw [e350]; exact ⟨b346, k346, rfl, N350, K351, sz_b346, Fw350, f353, O346, f354, f355, f352⟩)
theorem ef_17 (m : MethodId) (o0 : Addr) : entryFrame m #[(.ref o0)] 1 = mkF m 0 #[.val (.ref o0)] [] := by first | (simp [entryFrame, mkF, argsToLocals, Value.category, maxLocals]; done) | rfl
def Q17 (Z : State) (o0 : Addr) (s_ArrayList_DEFAULTCAPACITY_EMPTY_ELEMENTDATA : Addr) (k_s_ArrayList_DEFAULTCAPACITY_EMPTY_ELEMENTDATA : ClassId) (h0 : Heap) (n0 : Nat) (v : Option Value) (h : Heap) (L : List Loc) : Prop := (∃ (b357 : Addr) (k358 : ClassId), v = some (.ref b357) ∧ Fr n0 L ∧ Keep h0 h [o0] ∧ h0.size ≤ b357 ∧ Fld Z h o0 "java/util/ArrayList" "size" "I" (.int (0 : Int32)) ∧ Exa Z h o0 "java/util/ArrayList" ∧ Fld Z h o0 "java/util/ArrayList" "elementData" "[Ljava/lang/Object;" (.ref b357) ∧ Arv Z h b357 k358 (.object "java/lang/Object") (10 : Int32) [.null, .null, .null, .null, .null, .null, .null, .null, .null, .null] .null ∧ Ovr Z k358 "java/lang/Object" ∧ Exa Z h b357 "[Ljava/lang/Object;")
set_option maxRecDepth 65536 in
set_option maxHeartbeats 40000000 in
theorem rm17 (l : Launch) (Z : State) (a0 : Array Value) (hw : ∀ d ∈ tables_1, d.before a0 Z = true) (ws : List Jvm.Cond) (o0 : Addr) (s_ArrayList_DEFAULTCAPACITY_EMPTY_ELEMENTDATA : Addr) (k_s_ArrayList_DEFAULTCAPACITY_EMPTY_ELEMENTDATA : ClassId) (h0 : Heap) (n0 : Nat) (Z0 : n0 ≤ h0.size) (F_o0_size : Fld Z h0 o0 "java/util/ArrayList" "size" "I" (.int (0 : Int32))) (E_o0 : Exa Z h0 o0 "java/util/ArrayList") (F_o0_elementData : Fld Z h0 o0 "java/util/ArrayList" "elementData" "[Ljava/lang/Object;" (.ref s_ArrayList_DEFAULTCAPACITY_EMPTY_ELEMENTDATA)) (V_s_ArrayList_DEFAULTCAPACITY_EMPTY_ELEMENTDATA : Arv Z h0 s_ArrayList_DEFAULTCAPACITY_EMPTY_ELEMENTDATA k_s_ArrayList_DEFAULTCAPACITY_EMPTY_ELEMENTDATA (.object "java/lang/Object") (0 : Int32) [] .null) (S_s_ArrayList_DEFAULTCAPACITY_EMPTY_ELEMENTDATA : Sta Z h0 "java/util/ArrayList" "DEFAULTCAPACITY_EMPTY_ELEMENTDATA" "[Ljava/lang/Object;" (.ref s_ArrayList_DEFAULTCAPACITY_EMPTY_ELEMENTDATA)) (g_o0 : n0 ≤ o0) :
    Con l Z (⟨"java/util/ArrayList", "grow", "()[Ljava/lang/Object;"⟩ : MethodName) jdk_38_method_7_code 1 (some (.array (.object "java/lang/Object"))) ws ({ frames := 2, cells := 1, slots := 10, locals := 29 } : Room) #[(.ref o0)] h0 1 10 (Q17 Z o0 s_ArrayList_DEFAULTCAPACITY_EMPTY_ELEMENTDATA k_s_ArrayList_DEFAULTCAPACITY_EMPTY_ELEMENTDATA h0 n0) := by
  refine MetFree.of_bodySF (plainFor_of_name pn_6) hisR ?_
  intro p e s m args below meth c s₁ Bd hml0 hP hK
  obtain ⟨rfl, hZ, hh⟩ := hP
  have hx := Bd.exec
  have hby := Bd.bytes
  have hml : c.maxLocals = 1 := hml0
  have hown : s.vm.findClass "java/util/ArrayList" = some m.cls := findClass_of_methodNamed Bd.named
  have hnm := (name_of_methodNamed Bd.named Bd.method).1
  have X0 : Stand p l e ({ frames := 2, cells := 1, slots := 10, locals := 29 } : Room) s m #[(.ref o0)] below meth c s₁ [] 0 0 := Stand.of_body Bd
  have e0 : s₁.heap = h0 := by rw [← hh, Bd.state]; rfl
  have N0 := Fr.nil n0
  refine Go.of ?_
  refine Go.st (S' := s₁.setTop (mkF m 0 #[.val (.ref o0)] [])) (fun t k => castTop (ef_17 m o0) k) ?_
  refine Go.st (S' := s₁.setTop (mkF m 1 #[.val (.ref o0)] [(.ref o0)])) (fun t k => XS.aloadN X0.here hx rfl (hb hby djdk_38_method_7_code_0) rfl rfl k) ?_
  refine Go.st (S' := s₁.setTop (mkF m 2 #[.val (.ref o0)] [(.ref o0), (.ref o0)])) (fun t k => XS.aloadN X0.here hx rfl (hb hby djdk_38_method_7_code_1) rfl rfl k) ?_
  obtain ⟨T337, X337, e337, st337⟩ := getF X0 hx hZ hown (host := "") (Or.inl (hw _ (List.mem_of_getElem? (i := 66) rfl))) Via.refl e0 F_o0_size (g := (mkF m 2 #[.val (.ref o0)] [(.ref o0), (.ref o0)])) rfl rfl (hb hby djdk_38_method_7_code_2)
  refine Go.st (S' := T337.setTop (mkF m 5 #[.val (.ref o0)] [(.int (0 : Int32)), (.ref o0)])) st337 ?_
  refine Go.st (S' := T337.setTop (mkF m 6 #[.val (.ref o0)] [(.int (1 : Int32)), (.int (0 : Int32)), (.ref o0)])) (fun t k => XS.iconst X337.here hx rfl (hb hby djdk_38_method_7_code_5) k) ?_
  refine Go.op (F := fun z => T337.setTop (mkF m 7 #[.val (.ref o0)] [(.int z), (.ref o0)])) (x := ((0 : Int32) + (1 : Int32))) (fun t k => XS.iadd X337.here hx rfl (hb hby djdk_38_method_7_code_6) rfl k) ?_
  intro v338 hv338
  obtain rfl : (1 : Int32) = v338 := (hv338.trans (by decide)).symm
  obtain ⟨r356, T356, L356, X356, hQ356, st356⟩ := own_callP (W := 0) (a := o0) X337 hx hZ e337 hown (y := (⟨"java/util/ArrayList", "grow", "(I)[Ljava/lang/Object;"⟩ : MethodName)) (hw _ (List.mem_of_getElem? (i := 78) rfl)) (hw _ (List.mem_of_getElem? (i := 79) rfl)) (hw _ (List.mem_of_getElem? (i := 81) rfl)) (hw _ (List.mem_of_getElem? (i := 80) rfl)) (hw _ (List.mem_of_getElem? (i := 37) rfl)) (hw _ (List.mem_of_getElem? (i := 82) rfl)) (by decide) (E_o0) (rm16 l Z a0 hw [] o0 s_ArrayList_DEFAULTCAPACITY_EMPTY_ELEMENTDATA k_s_ArrayList_DEFAULTCAPACITY_EMPTY_ELEMENTDATA ((.int (0 : Int32))) h0 n0 Z0 (F_o0_elementData) (V_s_ArrayList_DEFAULTCAPACITY_EMPTY_ELEMENTDATA) (S_s_ArrayList_DEFAULTCAPACITY_EMPTY_ELEMENTDATA) (E_o0) (g_o0) (F_o0_size)) (by decide) (by decide) (by decide) (by decide) (g := (mkF m 7 #[.val (.ref o0)] [(.int (1 : Int32)), (.ref o0)])) rfl (by rw [hml]; rfl) (argsL := [(.int (1 : Int32))]) (rest := []) rfl (lenOf pd_12 rfl) rfl (by show 2 * 0 + _ ≤ _; exact Nat.le_of_eq rfl) (hb hby djdk_38_method_7_code_7)
  obtain ⟨b357, k358, rfl, N356, K356_, sz_b357_, f359, f360, f361, f362, f363, f364⟩ := hQ356
  have N356_ := Fr.app N0 N356
  have g_b357 : n0 ≤ b357 := Nat.le_trans Z0 sz_b357_
  have sz_b357 : h0.size ≤ b357 := Nat.le_trans (Keep.refl h0 [o0]).1 sz_b357_
  have Z365 : n0 ≤ T356.heap.size := Nat.le_trans Z0 K356_.1
  have K365 : Keep h0 T356.heap [o0] := (Keep.refl h0 [o0]).trans K356_ (allS (Or.inl (by simp)) all0)
  refine Go.st (S' := T356.setTop (mkF m 10 #[.val (.ref o0)] [(.ref b357)])) st356 ?_
  exact Go.ret X356 (v := some (.ref b357)) (fun h => by rw [Bd.returns] at h; cases h) Bd.notSynchronized (fun fs hr => retOut X356 hx Bd.returns rfl (Or.inr (Or.inr (Or.inr (Or.inr ⟨rfl, rfl, rfl⟩)))) (hb hby djdk_38_method_7_code_10) hr) (by decide) (by decide) (⟨b357, k358, rfl, N356_, K365, sz_b357, f364, f363, f359, f360, f361, f362⟩)
theorem ef_18 (m : MethodId) (o0 : Addr) : entryFrame m #[(.ref o0), (.int (1 : Int32))] 4 = mkF m 0 #[.val (.ref o0), .val (.int (1 : Int32)), .unset, .unset] [] := by first | (simp [entryFrame, mkF, argsToLocals, Value.category, maxLocals]; done) | rfl
def Q18 (Z : State) (o0 : Addr) (s_ArrayList_DEFAULTCAPACITY_EMPTY_ELEMENTDATA : Addr) (k_s_ArrayList_DEFAULTCAPACITY_EMPTY_ELEMENTDATA : ClassId) (u_o0_modCount : Value) (u_o0_size : Value) (h0 : Heap) (n0 : Nat) (v : Option Value) (h : Heap) (L : List Loc) : Prop := (∃ (b411 : Addr) (k411 : ClassId), v = some (.ref b411) ∧ Fr n0 L ∧ Keep h0 h [o0] ∧ h0.size ≤ b411 ∧ Fld Z h o0 "java/util/ArrayList" "elementData" "[Ljava/lang/Object;" (.ref b411) ∧ Arv Z h b411 k411 (.object "java/lang/Object") (10 : Int32) [.null, .null, .null, .null, .null, .null, .null, .null, .null, .null] .null ∧ Ovr Z k411 "java/lang/Object" ∧ Exa Z h b411 "[Ljava/lang/Object;" ∧ Exa Z h o0 "java/util/ArrayList" ∧ Fld Z h o0 "java/util/AbstractList" "modCount" "I" u_o0_modCount ∧ Fld Z h o0 "java/util/ArrayList" "size" "I" u_o0_size)
set_option maxRecDepth 65536 in
set_option maxHeartbeats 40000000 in
theorem rm18 (l : Launch) (Z : State) (a0 : Array Value) (hw : ∀ d ∈ tables_1, d.before a0 Z = true) (ws : List Jvm.Cond) (o0 : Addr) (s_ArrayList_DEFAULTCAPACITY_EMPTY_ELEMENTDATA : Addr) (k_s_ArrayList_DEFAULTCAPACITY_EMPTY_ELEMENTDATA : ClassId) (u_o0_modCount : Value) (u_o0_size : Value) (h0 : Heap) (n0 : Nat) (Z0 : n0 ≤ h0.size) (F_o0_elementData : Fld Z h0 o0 "java/util/ArrayList" "elementData" "[Ljava/lang/Object;" (.ref s_ArrayList_DEFAULTCAPACITY_EMPTY_ELEMENTDATA)) (V_s_ArrayList_DEFAULTCAPACITY_EMPTY_ELEMENTDATA : Arv Z h0 s_ArrayList_DEFAULTCAPACITY_EMPTY_ELEMENTDATA k_s_ArrayList_DEFAULTCAPACITY_EMPTY_ELEMENTDATA (.object "java/lang/Object") (0 : Int32) [] .null) (S_s_ArrayList_DEFAULTCAPACITY_EMPTY_ELEMENTDATA : Sta Z h0 "java/util/ArrayList" "DEFAULTCAPACITY_EMPTY_ELEMENTDATA" "[Ljava/lang/Object;" (.ref s_ArrayList_DEFAULTCAPACITY_EMPTY_ELEMENTDATA)) (E_o0 : Exa Z h0 o0 "java/util/ArrayList") (g_o0 : n0 ≤ o0) (F_o0_modCount : Fld Z h0 o0 "java/util/AbstractList" "modCount" "I" u_o0_modCount) (F_o0_size : Fld Z h0 o0 "java/util/ArrayList" "size" "I" u_o0_size) :
    Con l Z (⟨"java/util/ArrayList", "grow", "(I)[Ljava/lang/Object;"⟩ : MethodName) jdk_38_method_6_code 4 (some (.array (.object "java/lang/Object"))) ws ({ frames := 1, cells := 1, slots := 10, locals := 14 } : Room) #[(.ref o0), (.int (1 : Int32))] h0 1 10 (Q18 Z o0 s_ArrayList_DEFAULTCAPACITY_EMPTY_ELEMENTDATA k_s_ArrayList_DEFAULTCAPACITY_EMPTY_ELEMENTDATA u_o0_modCount u_o0_size h0 n0) := by
  refine MetFree.of_bodySF (plainFor_of_name pn_6) hisR ?_
  intro p e s m args below meth c s₁ Bd hml0 hP hK
  obtain ⟨rfl, hZ, hh⟩ := hP
  have hx := Bd.exec
  have hby := Bd.bytes
  have hml : c.maxLocals = 4 := hml0
  have hown : s.vm.findClass "java/util/ArrayList" = some m.cls := findClass_of_methodNamed Bd.named
  have hnm := (name_of_methodNamed Bd.named Bd.method).1
  have X0 : Stand p l e ({ frames := 1, cells := 1, slots := 10, locals := 14 } : Room) s m #[(.ref o0), (.int (1 : Int32))] below meth c s₁ [] 0 0 := Stand.of_body Bd
  have e0 : s₁.heap = h0 := by rw [← hh, Bd.state]; rfl
  have N0 := Fr.nil n0
  refine Go.of ?_
  refine Go.st (S' := s₁.setTop (mkF m 0 #[.val (.ref o0), .val (.int (1 : Int32)), .unset, .unset] [])) (fun t k => castTop (ef_18 m o0) k) ?_
  refine Go.st (S' := s₁.setTop (mkF m 1 #[.val (.ref o0), .val (.int (1 : Int32)), .unset, .unset] [(.ref o0)])) (fun t k => XS.aloadN X0.here hx rfl (hb hby djdk_38_method_6_code_0) rfl rfl k) ?_
  obtain ⟨T404, X404, e404, st404⟩ := getF X0 hx hZ hown (host := "") (Or.inl (hw _ (List.mem_of_getElem? (i := 57) rfl))) Via.refl e0 F_o0_elementData (g := (mkF m 1 #[.val (.ref o0), .val (.int (1 : Int32)), .unset, .unset] [(.ref o0)])) rfl rfl (hb hby djdk_38_method_6_code_1)
  refine Go.st (S' := T404.setTop (mkF m 4 #[.val (.ref o0), .val (.int (1 : Int32)), .unset, .unset] [(.ref s_ArrayList_DEFAULTCAPACITY_EMPTY_ELEMENTDATA)])) st404 ?_
  obtain ⟨cl405, Ar405, -, S405, N405_, -, -⟩ := id V_s_ArrayList_DEFAULTCAPACITY_EMPTY_ELEMENTDATA
  refine Go.op (F := fun z => T404.setTop (mkF m 5 #[.val (.ref o0), .val (.int (1 : Int32)), .unset, .unset] [(.int z)])) (x := cl405.slots.size.toInt32) (fun t k => X404.arraylength hx (own_eh e404 Ar405.1) (State.isArrayOf_alike hZ.alike Ar405.2.1) (g := (mkF m 4 #[.val (.ref o0), .val (.int (1 : Int32)), .unset, .unset] [(.ref s_ArrayList_DEFAULTCAPACITY_EMPTY_ELEMENTDATA)])) rfl rfl (hb hby djdk_38_method_6_code_4) t k) ?_
  intro v406 hv406
  obtain rfl : (0 : Int32) = v406 := (hv406.trans (len_of S405 N405_)).symm
  let A407 : Array Slot := #[.val (.ref o0), .val (.int (1 : Int32)), .val (.int (0 : Int32)), .unset]
  refine Go.st (S' := T404.setTop (mkF m 6 A407 [])) (fun t k => XS.istoreN X404.here hx rfl (hb hby djdk_38_method_6_code_5) rfl (l' := A407) rfl k) ?_
  refine Go.st (S' := T404.setTop (mkF m 7 A407 [(.int (0 : Int32))])) (fun t k => XS.iloadN X404.here hx rfl (hb hby djdk_38_method_6_code_6) rfl k) ?_
  refine Go.st (S' := T404.setTop (mkF m 10 A407 [])) (fun t k => XS.ifNo X404.here hx rfl (hb hby djdk_38_method_6_code_7) rfl ((if0 _ _).trans (flt (by decide : (¬ ((0 : Int32) < (0 : Int32))))).2.2.1) k) ?_
  refine Go.st (S' := T404.setTop (mkF m 11 A407 [(.ref o0)])) (fun t k => XS.aloadN X404.here hx rfl (hb hby djdk_38_method_6_code_10) rfl rfl k) ?_
  obtain ⟨T408, X408, e408, st408⟩ := getF X404 hx hZ hown (host := "") (Or.inl (hw _ (List.mem_of_getElem? (i := 57) rfl))) Via.refl e404 F_o0_elementData (g := (mkF m 11 A407 [(.ref o0)])) rfl rfl (hb hby djdk_38_method_6_code_11)
  refine Go.st (S' := T408.setTop (mkF m 14 A407 [(.ref s_ArrayList_DEFAULTCAPACITY_EMPTY_ELEMENTDATA)])) st408 ?_
  obtain ⟨T409, X409, e409, st409⟩ := getS X408 hx hZ hown (hw _ (List.mem_of_getElem? (i := 56) rfl)) Via.refl e408 S_s_ArrayList_DEFAULTCAPACITY_EMPTY_ELEMENTDATA (host := "") (g := (mkF m 14 A407 [(.ref s_ArrayList_DEFAULTCAPACITY_EMPTY_ELEMENTDATA)])) rfl (hb hby djdk_38_method_6_code_14)
  refine Go.st (S' := T409.setTop (mkF m 17 A407 [(.ref s_ArrayList_DEFAULTCAPACITY_EMPTY_ELEMENTDATA), (.ref s_ArrayList_DEFAULTCAPACITY_EMPTY_ELEMENTDATA)])) st409 ?_
  refine Go.st (S' := T409.setTop (mkF m 45 A407 [])) (fun t k => acmp X409 hx rfl rfl rfl (pc0 := 17) (pc' := 45) (same := true) rfl (hb hby djdk_38_method_6_code_17) rfl (by simp) (by decide) (by decide) k) ?_
  refine Go.st (S' := T409.setTop (mkF m 46 A407 [(.ref o0)])) (fun t k => XS.aloadN X409.here hx rfl (hb hby djdk_38_method_6_code_45) rfl rfl k) ?_
  refine Go.st (S' := T409.setTop (mkF m 48 A407 [(.int (10 : Int32)), (.ref o0)])) (fun t k => XS.bipush X409.here hx rfl (hb hby djdk_38_method_6_code_46) k) ?_
  refine Go.st (S' := T409.setTop (mkF m 49 A407 [(.int (1 : Int32)), (.int (10 : Int32)), (.ref o0)])) (fun t k => XS.iloadN X409.here hx rfl (hb hby djdk_38_method_6_code_48) rfl k) ?_
  obtain ⟨r410, T410, L410, X410, hQ410, st410⟩ := own_callS (W := 1) X409 hx hZ e409 hown (y := (⟨"java/lang/Math", "max", "(II)I"⟩ : MethodName)) (hw _ (List.mem_of_getElem? (i := 83) rfl)) (hw _ (List.mem_of_getElem? (i := 84) rfl)) (hw _ (List.mem_of_getElem? (i := 85) rfl)) (hw _ (List.mem_of_getElem? (i := 86) rfl)) (by decide) (rm15 l Z a0 hw []  h0 n0 Z0 ) (by decide) (by decide) (by decide) (by decide) (g := (mkF m 49 A407 [(.int (1 : Int32)), (.int (10 : Int32)), (.ref o0)])) rfl (by rw [hml]; rfl) (argsL := [(.int (10 : Int32)), (.int (1 : Int32))]) (rest := [(.ref o0)]) rfl (lenOf pd_11 rfl) rfl (by show 2 * 0 + _ ≤ _; exact Nat.le_of_eq rfl) (hb hby djdk_38_method_6_code_49)
  obtain ⟨rfl, N410, e410⟩ := hQ410
  have N410_ := Fr.app N0 N410
  refine Go.st (S' := T410.setTop (mkF m 52 A407 [(.int (10 : Int32)), (.ref o0)])) st410 ?_
  obtain ⟨T411, h411, k411, X411, e411, E411, A411, B411, O411, st411⟩ := newRE X410 hx hZ hown (hw _ (List.mem_of_getElem? (i := 87) rfl)) (hw _ (List.mem_of_getElem? (i := 88) rfl)) e410 (g := (mkF m 52 A407 [(.int (10 : Int32)), (.ref o0)])) rfl (hb hby djdk_38_method_6_code_52) rfl (by decide) (cap := 10) (by decide) (by decide) (by decide) (by decide) (ad := "[Ljava/lang/Object;") (by decide)
  obtain ⟨b411, gg411⟩ : ∃ z, z = h0.size := ⟨_, rfl⟩
  rw [← gg411] at A411 B411 st411
  have g_b411 : n0 ≤ b411 := Nat.le_trans Z0 (Nat.le_of_eq gg411.symm)
  have sz_b411 : h0.size ≤ b411 := Nat.le_trans (Keep.refl h0 [o0]).1 (Nat.le_of_eq gg411.symm)
  have Z412 : n0 ≤ h411.size := Nat.le_trans Z0 E411.1
  have K412 : Keep h0 h411 [o0] := (Keep.refl h0 [o0]).ext E411
  have V411 : Arv Z h411 b411 k411 (.object "java/lang/Object") (10 : Int32) [.null, .null, .null, .null, .null, .null, .null, .null, .null, .null] .null := (Arv.new A411 (by decide)).pad (pad_rep [] .null 10)
  refine Go.st (S' := T411.setTop (mkF m 55 A407 [(.ref b411), (.ref o0)])) st411 ?_
  refine Go.st (S' := T411.setTop (mkF m 56 A407 [(.ref b411), (.ref o0), (.ref b411)])) (fun t k => XS.dupX1 X411.here hx rfl (hb hby djdk_38_method_6_code_55) rfl rfl rfl k) ?_
  have f413 := ((E_o0).ext E411)
  have f414 := ((F_o0_elementData).ext E411)
  obtain ⟨T415, h415, X415, e415, W415, st415⟩ := putF X411 hx hZ hown (host := "") (Or.inl (hw _ (List.mem_of_getElem? (i := 57) rfl))) Via.refl e411 f414 f413 (Or.inl (hw _ (List.mem_of_getElem? (i := 58) rfl))) (hw _ (List.mem_of_getElem? (i := 36) rfl)) (ty := (.array (.object "java/lang/Object"))) (by decide) rfl rfl (g := (mkF m 56 A407 [(.ref b411), (.ref o0), (.ref b411)])) rfl rfl (hb hby djdk_38_method_6_code_56)
  have Fw415 := (f414).same W415
  have N415 := Fr.snoc X415 N410_ g_o0
  have Z416 : n0 ≤ h415.size := Nat.le_trans Z412 (Keep.of_wr W415).1
  have K416 : Keep h0 h415 [o0] := K412.wr W415 (Or.inl (by simp))
  refine Go.st (S' := T415.setTop (mkF m 59 A407 [(.ref b411)])) st415 ?_
  have f417 := ((((F_o0_modCount).ext E411)).other W415 (Or.inr (slot_ne (Or.inl (hw _ (List.mem_of_getElem? (i := 55) rfl))) (Or.inl (hw _ (List.mem_of_getElem? (i := 58) rfl))) (by decide) (t := .int) (t' := (.array (.object "java/lang/Object"))) (by decide) (by decide))))
  have f418 := ((((F_o0_size).ext E411)).other W415 (Or.inr (slot_ne (Or.inl (hw _ (List.mem_of_getElem? (i := 67) rfl))) (Or.inl (hw _ (List.mem_of_getElem? (i := 58) rfl))) (by decide) (t := .int) (t' := (.array (.object "java/lang/Object"))) (by decide) (by decide))))
  have f419 := ((V411).other W415 (Ne.symm (Nat.ne_of_lt (Nat.lt_of_lt_of_le (F_o0_elementData).lt sz_b411))))
  have f420 := ((B411).wr W415)
  have f421 := ((f413).wr W415)
  exact Go.ret X415 (v := some (.ref b411)) (fun h => by rw [Bd.returns] at h; cases h) Bd.notSynchronized (fun fs hr => retOut X415 hx Bd.returns rfl (Or.inr (Or.inr (Or.inr (Or.inr ⟨rfl, rfl, rfl⟩)))) (hb hby djdk_38_method_6_code_59) hr) (by decide) (by decide) (by rw [e415]; exact ⟨b411, k411, rfl, N415, K416, sz_b411, Fw415, f419, O411, f420, f421, f417, f418⟩)
theorem ef_19 (m : MethodId) (o0 : Addr) : entryFrame m #[(.ref o0)] 1 = mkF m 0 #[.val (.ref o0)] [] := by first | (simp [entryFrame, mkF, argsToLocals, Value.category, maxLocals]; done) | rfl
def Q19 (Z : State) (o0 : Addr) (s_ArrayList_DEFAULTCAPACITY_EMPTY_ELEMENTDATA : Addr) (k_s_ArrayList_DEFAULTCAPACITY_EMPTY_ELEMENTDATA : ClassId) (h0 : Heap) (n0 : Nat) (v : Option Value) (h : Heap) (L : List Loc) : Prop := (∃ (b423 : Addr) (k424 : ClassId), v = some (.ref b423) ∧ Fr n0 L ∧ Keep h0 h [o0] ∧ h0.size ≤ b423 ∧ Fld Z h o0 "java/util/AbstractList" "modCount" "I" (.int (1 : Int32)) ∧ Exa Z h o0 "java/util/ArrayList" ∧ Fld Z h o0 "java/util/ArrayList" "elementData" "[Ljava/lang/Object;" (.ref b423) ∧ Fld Z h o0 "java/util/ArrayList" "size" "I" (.int (0 : Int32)) ∧ Arv Z h b423 k424 (.object "java/lang/Object") (10 : Int32) [.null, .null, .null, .null, .null, .null, .null, .null, .null, .null] .null ∧ Ovr Z k424 "java/lang/Object" ∧ Exa Z h b423 "[Ljava/lang/Object;")
set_option maxRecDepth 65536 in
set_option maxHeartbeats 40000000 in
theorem rm19 (l : Launch) (Z : State) (a0 : Array Value) (hw : ∀ d ∈ tables_1, d.before a0 Z = true) (ws : List Jvm.Cond) (o0 : Addr) (s_ArrayList_DEFAULTCAPACITY_EMPTY_ELEMENTDATA : Addr) (k_s_ArrayList_DEFAULTCAPACITY_EMPTY_ELEMENTDATA : ClassId) (h0 : Heap) (n0 : Nat) (Z0 : n0 ≤ h0.size) (F_o0_modCount : Fld Z h0 o0 "java/util/AbstractList" "modCount" "I" (.int (1 : Int32))) (E_o0 : Exa Z h0 o0 "java/util/ArrayList") (F_o0_elementData : Fld Z h0 o0 "java/util/ArrayList" "elementData" "[Ljava/lang/Object;" (.ref s_ArrayList_DEFAULTCAPACITY_EMPTY_ELEMENTDATA)) (F_o0_size : Fld Z h0 o0 "java/util/ArrayList" "size" "I" (.int (0 : Int32))) (V_s_ArrayList_DEFAULTCAPACITY_EMPTY_ELEMENTDATA : Arv Z h0 s_ArrayList_DEFAULTCAPACITY_EMPTY_ELEMENTDATA k_s_ArrayList_DEFAULTCAPACITY_EMPTY_ELEMENTDATA (.object "java/lang/Object") (0 : Int32) [] .null) (S_s_ArrayList_DEFAULTCAPACITY_EMPTY_ELEMENTDATA : Sta Z h0 "java/util/ArrayList" "DEFAULTCAPACITY_EMPTY_ELEMENTDATA" "[Ljava/lang/Object;" (.ref s_ArrayList_DEFAULTCAPACITY_EMPTY_ELEMENTDATA)) (g_o0 : n0 ≤ o0) :
    Con l Z (⟨"java/util/ArrayList", "grow", "()[Ljava/lang/Object;"⟩ : MethodName) jdk_38_method_7_code 1 (some (.array (.object "java/lang/Object"))) ws ({ frames := 2, cells := 1, slots := 10, locals := 29 } : Room) #[(.ref o0)] h0 1 10 (Q19 Z o0 s_ArrayList_DEFAULTCAPACITY_EMPTY_ELEMENTDATA k_s_ArrayList_DEFAULTCAPACITY_EMPTY_ELEMENTDATA h0 n0) := by
  refine MetFree.of_bodySF (plainFor_of_name pn_6) hisR ?_
  intro p e s m args below meth c s₁ Bd hml0 hP hK
  obtain ⟨rfl, hZ, hh⟩ := hP
  have hx := Bd.exec
  have hby := Bd.bytes
  have hml : c.maxLocals = 1 := hml0
  have hown : s.vm.findClass "java/util/ArrayList" = some m.cls := findClass_of_methodNamed Bd.named
  have hnm := (name_of_methodNamed Bd.named Bd.method).1
  have X0 : Stand p l e ({ frames := 2, cells := 1, slots := 10, locals := 29 } : Room) s m #[(.ref o0)] below meth c s₁ [] 0 0 := Stand.of_body Bd
  have e0 : s₁.heap = h0 := by rw [← hh, Bd.state]; rfl
  have N0 := Fr.nil n0
  refine Go.of ?_
  refine Go.st (S' := s₁.setTop (mkF m 0 #[.val (.ref o0)] [])) (fun t k => castTop (ef_19 m o0) k) ?_
  refine Go.st (S' := s₁.setTop (mkF m 1 #[.val (.ref o0)] [(.ref o0)])) (fun t k => XS.aloadN X0.here hx rfl (hb hby djdk_38_method_7_code_0) rfl rfl k) ?_
  refine Go.st (S' := s₁.setTop (mkF m 2 #[.val (.ref o0)] [(.ref o0), (.ref o0)])) (fun t k => XS.aloadN X0.here hx rfl (hb hby djdk_38_method_7_code_1) rfl rfl k) ?_
  obtain ⟨T402, X402, e402, st402⟩ := getF X0 hx hZ hown (host := "") (Or.inl (hw _ (List.mem_of_getElem? (i := 66) rfl))) Via.refl e0 F_o0_size (g := (mkF m 2 #[.val (.ref o0)] [(.ref o0), (.ref o0)])) rfl rfl (hb hby djdk_38_method_7_code_2)
  refine Go.st (S' := T402.setTop (mkF m 5 #[.val (.ref o0)] [(.int (0 : Int32)), (.ref o0)])) st402 ?_
  refine Go.st (S' := T402.setTop (mkF m 6 #[.val (.ref o0)] [(.int (1 : Int32)), (.int (0 : Int32)), (.ref o0)])) (fun t k => XS.iconst X402.here hx rfl (hb hby djdk_38_method_7_code_5) k) ?_
  refine Go.op (F := fun z => T402.setTop (mkF m 7 #[.val (.ref o0)] [(.int z), (.ref o0)])) (x := ((0 : Int32) + (1 : Int32))) (fun t k => XS.iadd X402.here hx rfl (hb hby djdk_38_method_7_code_6) rfl k) ?_
  intro v403 hv403
  obtain rfl : (1 : Int32) = v403 := (hv403.trans (by decide)).symm
  obtain ⟨r422, T422, L422, X422, hQ422, st422⟩ := own_callP (W := 0) (a := o0) X402 hx hZ e402 hown (y := (⟨"java/util/ArrayList", "grow", "(I)[Ljava/lang/Object;"⟩ : MethodName)) (hw _ (List.mem_of_getElem? (i := 78) rfl)) (hw _ (List.mem_of_getElem? (i := 79) rfl)) (hw _ (List.mem_of_getElem? (i := 81) rfl)) (hw _ (List.mem_of_getElem? (i := 80) rfl)) (hw _ (List.mem_of_getElem? (i := 37) rfl)) (hw _ (List.mem_of_getElem? (i := 82) rfl)) (by decide) (E_o0) (rm18 l Z a0 hw [] o0 s_ArrayList_DEFAULTCAPACITY_EMPTY_ELEMENTDATA k_s_ArrayList_DEFAULTCAPACITY_EMPTY_ELEMENTDATA ((.int (1 : Int32))) ((.int (0 : Int32))) h0 n0 Z0 (F_o0_elementData) (V_s_ArrayList_DEFAULTCAPACITY_EMPTY_ELEMENTDATA) (S_s_ArrayList_DEFAULTCAPACITY_EMPTY_ELEMENTDATA) (E_o0) (g_o0) (F_o0_modCount) (F_o0_size)) (by decide) (by decide) (by decide) (by decide) (g := (mkF m 7 #[.val (.ref o0)] [(.int (1 : Int32)), (.ref o0)])) rfl (by rw [hml]; rfl) (argsL := [(.int (1 : Int32))]) (rest := []) rfl (lenOf pd_12 rfl) rfl (by show 2 * 0 + _ ≤ _; exact Nat.le_of_eq rfl) (hb hby djdk_38_method_7_code_7)
  obtain ⟨b423, k424, rfl, N422, K422_, sz_b423_, f425, f426, f427, f428, f429, f430, f431⟩ := hQ422
  have N422_ := Fr.app N0 N422
  have g_b423 : n0 ≤ b423 := Nat.le_trans Z0 sz_b423_
  have sz_b423 : h0.size ≤ b423 := Nat.le_trans (Keep.refl h0 [o0]).1 sz_b423_
  have Z432 : n0 ≤ T422.heap.size := Nat.le_trans Z0 K422_.1
  have K432 : Keep h0 T422.heap [o0] := (Keep.refl h0 [o0]).trans K422_ (allS (Or.inl (by simp)) all0)
  refine Go.st (S' := T422.setTop (mkF m 10 #[.val (.ref o0)] [(.ref b423)])) st422 ?_
  exact Go.ret X422 (v := some (.ref b423)) (fun h => by rw [Bd.returns] at h; cases h) Bd.notSynchronized (fun fs hr => retOut X422 hx Bd.returns rfl (Or.inr (Or.inr (Or.inr (Or.inr ⟨rfl, rfl, rfl⟩)))) (hb hby djdk_38_method_7_code_10) hr) (by decide) (by decide) (⟨b423, k424, rfl, N422_, K432, sz_b423, f430, f429, f425, f431, f426, f427, f428⟩)
theorem ef_20 (m : MethodId) (o0 : Addr) (o1 : Addr) (s_ArrayList_DEFAULTCAPACITY_EMPTY_ELEMENTDATA : Addr) : entryFrame m #[(.ref o0), (.ref o1), (.ref s_ArrayList_DEFAULTCAPACITY_EMPTY_ELEMENTDATA), (.int (0 : Int32))] 4 = mkF m 0 #[.val (.ref o0), .val (.ref o1), .val (.ref s_ArrayList_DEFAULTCAPACITY_EMPTY_ELEMENTDATA), .val (.int (0 : Int32))] [] := by first | (simp [entryFrame, mkF, argsToLocals, Value.category, maxLocals]; done) | rfl
def Q20 (Z : State) (o0 : Addr) (o1 : Addr) (s_ArrayList_DEFAULTCAPACITY_EMPTY_ELEMENTDATA : Addr) (k_s_ArrayList_DEFAULTCAPACITY_EMPTY_ELEMENTDATA : ClassId) (h0 : Heap) (n0 : Nat) (v : Option Value) (h : Heap) (L : List Loc) : Prop := (∃ (b434 : Addr) (k435 : ClassId), v = none ∧ Fr n0 L ∧ Keep h0 h [o0] ∧ h0.size ≤ b434 ∧ Fld Z h o0 "java/util/AbstractList" "modCount" "I" (.int (1 : Int32)) ∧ Exa Z h o0 "java/util/ArrayList" ∧ Fld Z h o0 "java/util/ArrayList" "elementData" "[Ljava/lang/Object;" (.ref b434) ∧ Fld Z h o0 "java/util/ArrayList" "size" "I" (.int (1 : Int32)) ∧ Arv Z h b434 k435 (.object "java/lang/Object") (10 : Int32) [(.ref o1), .null, .null, .null, .null, .null, .null, .null, .null, .null] .null ∧ Ovr Z k435 "java/lang/Object" ∧ Exa Z h b434 "[Ljava/lang/Object;")
set_option maxRecDepth 65536 in
set_option maxHeartbeats 40000000 in
theorem rm20 (l : Launch) (Z : State) (a0 : Array Value) (hw : ∀ d ∈ tables_1, d.before a0 Z = true) (ws : List Jvm.Cond) (o0 : Addr) (o1 : Addr) (s_ArrayList_DEFAULTCAPACITY_EMPTY_ELEMENTDATA : Addr) (k_s_ArrayList_DEFAULTCAPACITY_EMPTY_ELEMENTDATA : ClassId) (h0 : Heap) (n0 : Nat) (Z0 : n0 ≤ h0.size) (F_o0_modCount : Fld Z h0 o0 "java/util/AbstractList" "modCount" "I" (.int (1 : Int32))) (E_o0 : Exa Z h0 o0 "java/util/ArrayList") (F_o0_elementData : Fld Z h0 o0 "java/util/ArrayList" "elementData" "[Ljava/lang/Object;" (.ref s_ArrayList_DEFAULTCAPACITY_EMPTY_ELEMENTDATA)) (F_o0_size : Fld Z h0 o0 "java/util/ArrayList" "size" "I" (.int (0 : Int32))) (V_s_ArrayList_DEFAULTCAPACITY_EMPTY_ELEMENTDATA : Arv Z h0 s_ArrayList_DEFAULTCAPACITY_EMPTY_ELEMENTDATA k_s_ArrayList_DEFAULTCAPACITY_EMPTY_ELEMENTDATA (.object "java/lang/Object") (0 : Int32) [] .null) (S_s_ArrayList_DEFAULTCAPACITY_EMPTY_ELEMENTDATA : Sta Z h0 "java/util/ArrayList" "DEFAULTCAPACITY_EMPTY_ELEMENTDATA" "[Ljava/lang/Object;" (.ref s_ArrayList_DEFAULTCAPACITY_EMPTY_ELEMENTDATA)) (g_o0 : n0 ≤ o0) (E_o1 : Exa Z h0 o1 "java/lang/String") :
    Con l Z (⟨"java/util/ArrayList", "add", "(Ljava/lang/Object;[Ljava/lang/Object;I)V"⟩ : MethodName) jdk_38_method_24_code 4 none ws ({ frames := 3, cells := 1, slots := 10, locals := 41 } : Room) #[(.ref o0), (.ref o1), (.ref s_ArrayList_DEFAULTCAPACITY_EMPTY_ELEMENTDATA), (.int (0 : Int32))] h0 1 10 (Q20 Z o0 o1 s_ArrayList_DEFAULTCAPACITY_EMPTY_ELEMENTDATA k_s_ArrayList_DEFAULTCAPACITY_EMPTY_ELEMENTDATA h0 n0) := by
  refine MetFree.of_bodySF (plainFor_of_name pn_6) hisR ?_
  intro p e s m args below meth c s₁ Bd hml0 hP hK
  obtain ⟨rfl, hZ, hh⟩ := hP
  have hx := Bd.exec
  have hby := Bd.bytes
  have hml : c.maxLocals = 4 := hml0
  have hown : s.vm.findClass "java/util/ArrayList" = some m.cls := findClass_of_methodNamed Bd.named
  have hnm := (name_of_methodNamed Bd.named Bd.method).1
  have X0 : Stand p l e ({ frames := 3, cells := 1, slots := 10, locals := 41 } : Room) s m #[(.ref o0), (.ref o1), (.ref s_ArrayList_DEFAULTCAPACITY_EMPTY_ELEMENTDATA), (.int (0 : Int32))] below meth c s₁ [] 0 0 := Stand.of_body Bd
  have e0 : s₁.heap = h0 := by rw [← hh, Bd.state]; rfl
  have N0 := Fr.nil n0
  refine Go.of ?_
  refine Go.st (S' := s₁.setTop (mkF m 0 #[.val (.ref o0), .val (.ref o1), .val (.ref s_ArrayList_DEFAULTCAPACITY_EMPTY_ELEMENTDATA), .val (.int (0 : Int32))] [])) (fun t k => castTop (ef_20 m o0 o1 s_ArrayList_DEFAULTCAPACITY_EMPTY_ELEMENTDATA) k) ?_
  let A387 : Array Slot := #[.val (.ref o0), .val (.ref o1), .val (.ref s_ArrayList_DEFAULTCAPACITY_EMPTY_ELEMENTDATA), .val (.int (0 : Int32))]
  refine Go.st (S' := s₁.setTop (mkF m 1 A387 [(.int (0 : Int32))])) (fun t k => XS.iloadN X0.here hx rfl (hb hby djdk_38_method_24_code_0) rfl k) ?_
  refine Go.st (S' := s₁.setTop (mkF m 2 A387 [(.ref s_ArrayList_DEFAULTCAPACITY_EMPTY_ELEMENTDATA), (.int (0 : Int32))])) (fun t k => XS.aloadN X0.here hx rfl (hb hby djdk_38_method_24_code_1) rfl rfl k) ?_
  obtain ⟨cl388, Ar388, -, S388, N388_, -, -⟩ := id V_s_ArrayList_DEFAULTCAPACITY_EMPTY_ELEMENTDATA
  refine Go.op (F := fun z => s₁.setTop (mkF m 3 A387 [(.int z), (.int (0 : Int32))])) (x := cl388.slots.size.toInt32) (fun t k => X0.arraylength hx (own_eh e0 Ar388.1) (State.isArrayOf_alike hZ.alike Ar388.2.1) (g := (mkF m 2 A387 [(.ref s_ArrayList_DEFAULTCAPACITY_EMPTY_ELEMENTDATA), (.int (0 : Int32))])) rfl rfl (hb hby djdk_38_method_24_code_2) t k) ?_
  intro v389 hv389
  obtain rfl : (0 : Int32) = v389 := (hv389.trans (len_of S388 N388_)).symm
  refine Go.st (S' := s₁.setTop (mkF m 6 A387 [])) (fun t k => XS.icmpNo X0.here hx rfl (hb hby djdk_38_method_24_code_3) rfl (teq (by decide : ((0 : Int32) = (0 : Int32)))).2 k) ?_
  refine Go.st (S' := s₁.setTop (mkF m 7 A387 [(.ref o0)])) (fun t k => XS.aloadN X0.here hx rfl (hb hby djdk_38_method_24_code_6) rfl rfl k) ?_
  obtain ⟨r433, T433, L433, X433, hQ433, st433⟩ := own_callP (W := 0) (a := o0) X0 hx hZ e0 hown (y := (⟨"java/util/ArrayList", "grow", "()[Ljava/lang/Object;"⟩ : MethodName)) (hw _ (List.mem_of_getElem? (i := 73) rfl)) (hw _ (List.mem_of_getElem? (i := 74) rfl)) (hw _ (List.mem_of_getElem? (i := 76) rfl)) (hw _ (List.mem_of_getElem? (i := 75) rfl)) (hw _ (List.mem_of_getElem? (i := 37) rfl)) (hw _ (List.mem_of_getElem? (i := 77) rfl)) (by decide) (E_o0) (rm19 l Z a0 hw [] o0 s_ArrayList_DEFAULTCAPACITY_EMPTY_ELEMENTDATA k_s_ArrayList_DEFAULTCAPACITY_EMPTY_ELEMENTDATA h0 n0 Z0 (F_o0_modCount) (E_o0) (F_o0_elementData) (F_o0_size) (V_s_ArrayList_DEFAULTCAPACITY_EMPTY_ELEMENTDATA) (S_s_ArrayList_DEFAULTCAPACITY_EMPTY_ELEMENTDATA) (g_o0)) (by decide) (by decide) (by decide) (by decide) (g := (mkF m 7 A387 [(.ref o0)])) rfl (by rw [hml]; rfl) (argsL := []) (rest := []) rfl (lenOf pd_13 rfl) rfl (by show 2 * 0 + _ ≤ _; exact Nat.le_of_eq rfl) (hb hby djdk_38_method_24_code_7)
  obtain ⟨b434, k435, rfl, N433, K433_, sz_b434_, f436, f437, f438, f439, f440, f441, f442⟩ := hQ433
  have N433_ := Fr.app N0 N433
  have g_b434 : n0 ≤ b434 := Nat.le_trans Z0 sz_b434_
  have sz_b434 : h0.size ≤ b434 := Nat.le_trans (Keep.refl h0 [o0]).1 sz_b434_
  have Z443 : n0 ≤ T433.heap.size := Nat.le_trans Z0 K433_.1
  have K443 : Keep h0 T433.heap [o0] := (Keep.refl h0 [o0]).trans K433_ (allS (Or.inl (by simp)) all0)
  refine Go.st (S' := T433.setTop (mkF m 10 A387 [(.ref b434)])) st433 ?_
  let A444 : Array Slot := #[.val (.ref o0), .val (.ref o1), .val (.ref b434), .val (.int (0 : Int32))]
  refine Go.st (S' := T433.setTop (mkF m 11 A444 [])) (fun t k => XS.astoreN X433.here hx rfl (hb hby djdk_38_method_24_code_10) rfl rfl (l' := A444) rfl k) ?_
  refine Go.st (S' := T433.setTop (mkF m 12 A444 [(.ref b434)])) (fun t k => XS.aloadN X433.here hx rfl (hb hby djdk_38_method_24_code_11) rfl rfl k) ?_
  refine Go.st (S' := T433.setTop (mkF m 13 A444 [(.int (0 : Int32)), (.ref b434)])) (fun t k => XS.iloadN X433.here hx rfl (hb hby djdk_38_method_24_code_12) rfl k) ?_
  refine Go.st (S' := T433.setTop (mkF m 14 A444 [(.ref o1), (.int (0 : Int32)), (.ref b434)])) (fun t k => XS.aloadN X433.here hx rfl (hb hby djdk_38_method_24_code_13) rfl rfl k) ?_
  obtain ⟨cl445, Ar445, q445, S445, N445_, H445, G445⟩ := id f440
  have hin445 : ¬ ((0 : Int32) < 0 ∨ cl445.slots.size ≤ ((0 : Int32)).toNatClampNeg) := inb_of S445 ⟨by decide, by decide⟩
  have f447 := ((E_o1).keep K433_)
  obtain ⟨T445, h445, X445, e445, W445, st445⟩ := stR X433 hx hZ rfl Ar445 (j := (0 : Int32)) hin445 rfl (Sto.ofV Ar445 q445 f441 (Ins.of_exa f447 (hw _ (List.mem_of_getElem? (i := 89) rfl)))) (g := (mkF m 14 A444 [(.ref o1), (.int (0 : Int32)), (.ref b434)])) rfl rfl (hb hby djdk_38_method_24_code_14)
  have V445 : Arv Z h445 b434 k435 (.object "java/lang/Object") (10 : Int32) [(.ref o1), .null, .null, .null, .null, .null, .null, .null, .null, .null] .null := Arv.set Ar445 q445 S445 N445_ H445 G445 rfl W445 0 rfl (Nat.le_of_ble_eq_true rfl)
  have N445 := Fr.snoc X445 N433_ g_b434
  have Z448 : n0 ≤ h445.size := Nat.le_trans Z443 (Keep.of_wr W445).1
  have K448 : Keep h0 h445 [o0] := K443.wr W445 (Or.inr sz_b434)
  refine Go.st (S' := T445.setTop (mkF m 15 A444 [])) st445 ?_
  refine Go.st (S' := T445.setTop (mkF m 16 A444 [(.ref o0)])) (fun t k => XS.aloadN X445.here hx rfl (hb hby djdk_38_method_24_code_15) rfl rfl k) ?_
  refine Go.st (S' := T445.setTop (mkF m 17 A444 [(.int (0 : Int32)), (.ref o0)])) (fun t k => XS.iloadN X445.here hx rfl (hb hby djdk_38_method_24_code_16) rfl k) ?_
  refine Go.st (S' := T445.setTop (mkF m 18 A444 [(.int (1 : Int32)), (.int (0 : Int32)), (.ref o0)])) (fun t k => XS.iconst X445.here hx rfl (hb hby djdk_38_method_24_code_17) k) ?_
  refine Go.op (F := fun z => T445.setTop (mkF m 19 A444 [(.int z), (.ref o0)])) (x := ((0 : Int32) + (1 : Int32))) (fun t k => XS.iadd X445.here hx rfl (hb hby djdk_38_method_24_code_18) rfl k) ?_
  intro v449 hv449
  obtain rfl : (1 : Int32) = v449 := (hv449.trans (by decide)).symm
  have f450 := ((f437).wr W445)
  have f451 := ((f439).other W445 (Or.inl (Nat.ne_of_lt (Nat.lt_of_lt_of_le (F_o0_modCount).lt sz_b434))))
  obtain ⟨T452, h452, X452, e452, W452, st452⟩ := putF X445 hx hZ hown (host := "") (Or.inl (hw _ (List.mem_of_getElem? (i := 66) rfl))) Via.refl e445 f451 f450 (Or.inl (hw _ (List.mem_of_getElem? (i := 67) rfl))) (hw _ (List.mem_of_getElem? (i := 36) rfl)) (ty := .int) (by decide) rfl rfl (g := (mkF m 19 A444 [(.int (1 : Int32)), (.ref o0)])) rfl rfl (hb hby djdk_38_method_24_code_19)
  have Fw452 := (f451).same W452
  have N452 := Fr.snoc X452 N445 g_o0
  have Z453 : n0 ≤ h452.size := Nat.le_trans Z448 (Keep.of_wr W452).1
  have K453 : Keep h0 h452 [o0] := K448.wr W452 (Or.inl (by simp))
  refine Go.st (S' := T452.setTop (mkF m 22 A444 [])) st452 ?_
  have f454 := ((((f436).other W445 (Or.inl (Nat.ne_of_lt (Nat.lt_of_lt_of_le (F_o0_modCount).lt sz_b434))))).other W452 (Or.inr (slot_ne (Or.inl (hw _ (List.mem_of_getElem? (i := 55) rfl))) (Or.inl (hw _ (List.mem_of_getElem? (i := 67) rfl))) (by decide) (t := .int) (t' := .int) (by decide) (by decide))))
  have f455 := ((f450).wr W452)
  have f456 := ((((f438).other W445 (Or.inl (Nat.ne_of_lt (Nat.lt_of_lt_of_le (F_o0_modCount).lt sz_b434))))).other W452 (Or.inr (slot_ne (Or.inl (hw _ (List.mem_of_getElem? (i := 58) rfl))) (Or.inl (hw _ (List.mem_of_getElem? (i := 67) rfl))) (by decide) (t := (.array (.object "java/lang/Object"))) (t' := .int) (by decide) (by decide))))
  have f457 := ((V445).other W452 (Ne.symm (Nat.ne_of_lt (Nat.lt_of_lt_of_le (F_o0_modCount).lt sz_b434))))
  have f458 := ((((f442).wr W445)).wr W452)
  exact Go.ret X452 (v := none) (fun _ => rfl) Bd.notSynchronized (fun fs hr => X452.returnOut hx Bd.returns (hb hby djdk_38_method_24_code_22) hr) (by decide) (by decide) (by rw [e452]; exact ⟨b434, k435, rfl, N452, K453, sz_b434, f454, f455, f456, Fw452, f457, f441, f458⟩)
theorem ef_21 (m : MethodId) (o0 : Addr) (o1 : Addr) : entryFrame m #[(.ref o0), (.ref o1)] 2 = mkF m 0 #[.val (.ref o0), .val (.ref o1)] [] := by first | (simp [entryFrame, mkF, argsToLocals, Value.category, maxLocals]; done) | rfl
def Q21 (Z : State) (o0 : Addr) (o1 : Addr) (s_ArrayList_DEFAULTCAPACITY_EMPTY_ELEMENTDATA : Addr) (k_s_ArrayList_DEFAULTCAPACITY_EMPTY_ELEMENTDATA : ClassId) (h0 : Heap) (n0 : Nat) (v : Option Value) (h : Heap) (L : List Loc) : Prop := (∃ (b463 : Addr) (k464 : ClassId), v = some (.int (1 : Int32)) ∧ Fr n0 L ∧ Keep h0 h [o0] ∧ h0.size ≤ b463 ∧ Fld Z h o0 "java/util/AbstractList" "modCount" "I" (.int (1 : Int32)) ∧ Exa Z h o0 "java/util/ArrayList" ∧ Fld Z h o0 "java/util/ArrayList" "elementData" "[Ljava/lang/Object;" (.ref b463) ∧ Fld Z h o0 "java/util/ArrayList" "size" "I" (.int (1 : Int32)) ∧ Arv Z h b463 k464 (.object "java/lang/Object") (10 : Int32) [(.ref o1), .null, .null, .null, .null, .null, .null, .null, .null, .null] .null ∧ Ovr Z k464 "java/lang/Object" ∧ Exa Z h b463 "[Ljava/lang/Object;")
set_option maxRecDepth 65536 in
set_option maxHeartbeats 40000000 in
theorem rm21 (l : Launch) (Z : State) (a0 : Array Value) (hw : ∀ d ∈ tables_1, d.before a0 Z = true) (ws : List Jvm.Cond) (o0 : Addr) (o1 : Addr) (s_ArrayList_DEFAULTCAPACITY_EMPTY_ELEMENTDATA : Addr) (k_s_ArrayList_DEFAULTCAPACITY_EMPTY_ELEMENTDATA : ClassId) (h0 : Heap) (n0 : Nat) (Z0 : n0 ≤ h0.size) (F_o0_modCount : Fld Z h0 o0 "java/util/AbstractList" "modCount" "I" (.int (0 : Int32))) (E_o0 : Exa Z h0 o0 "java/util/ArrayList") (g_o0 : n0 ≤ o0) (F_o0_elementData : Fld Z h0 o0 "java/util/ArrayList" "elementData" "[Ljava/lang/Object;" (.ref s_ArrayList_DEFAULTCAPACITY_EMPTY_ELEMENTDATA)) (F_o0_size : Fld Z h0 o0 "java/util/ArrayList" "size" "I" (.int (0 : Int32))) (E_o1 : Exa Z h0 o1 "java/lang/String") (V_s_ArrayList_DEFAULTCAPACITY_EMPTY_ELEMENTDATA : Arv Z h0 s_ArrayList_DEFAULTCAPACITY_EMPTY_ELEMENTDATA k_s_ArrayList_DEFAULTCAPACITY_EMPTY_ELEMENTDATA (.object "java/lang/Object") (0 : Int32) [] .null) (ne_s_ArrayList_DEFAULTCAPACITY_EMPTY_ELEMENTDATA_o0 : s_ArrayList_DEFAULTCAPACITY_EMPTY_ELEMENTDATA ≠ o0) (S_s_ArrayList_DEFAULTCAPACITY_EMPTY_ELEMENTDATA : Sta Z h0 "java/util/ArrayList" "DEFAULTCAPACITY_EMPTY_ELEMENTDATA" "[Ljava/lang/Object;" (.ref s_ArrayList_DEFAULTCAPACITY_EMPTY_ELEMENTDATA)) :
    Con l Z (⟨"java/util/ArrayList", "add", "(Ljava/lang/Object;)Z"⟩ : MethodName) jdk_38_method_25_code 2 (some .boolean) ws ({ frames := 4, cells := 1, slots := 10, locals := 56 } : Room) #[(.ref o0), (.ref o1)] h0 1 10 (Q21 Z o0 o1 s_ArrayList_DEFAULTCAPACITY_EMPTY_ELEMENTDATA k_s_ArrayList_DEFAULTCAPACITY_EMPTY_ELEMENTDATA h0 n0) := by
  refine MetFree.of_bodySF (plainFor_of_name pn_6) hisR ?_
  intro p e s m args below meth c s₁ Bd hml0 hP hK
  obtain ⟨rfl, hZ, hh⟩ := hP
  have hx := Bd.exec
  have hby := Bd.bytes
  have hml : c.maxLocals = 2 := hml0
  have hown : s.vm.findClass "java/util/ArrayList" = some m.cls := findClass_of_methodNamed Bd.named
  have hnm := (name_of_methodNamed Bd.named Bd.method).1
  have X0 : Stand p l e ({ frames := 4, cells := 1, slots := 10, locals := 56 } : Room) s m #[(.ref o0), (.ref o1)] below meth c s₁ [] 0 0 := Stand.of_body Bd
  have e0 : s₁.heap = h0 := by rw [← hh, Bd.state]; rfl
  have N0 := Fr.nil n0
  refine Go.of ?_
  refine Go.st (S' := s₁.setTop (mkF m 0 #[.val (.ref o0), .val (.ref o1)] [])) (fun t k => castTop (ef_21 m o0 o1) k) ?_
  refine Go.st (S' := s₁.setTop (mkF m 1 #[.val (.ref o0), .val (.ref o1)] [(.ref o0)])) (fun t k => XS.aloadN X0.here hx rfl (hb hby djdk_38_method_25_code_0) rfl rfl k) ?_
  refine Go.st (S' := s₁.setTop (mkF m 2 #[.val (.ref o0), .val (.ref o1)] [(.ref o0), (.ref o0)])) (fun t k => XS.dup X0.here hx rfl (hb hby djdk_38_method_25_code_1) rfl rfl k) ?_
  obtain ⟨T325, X325, e325, st325⟩ := getF X0 hx hZ hown (host := "") (Or.inl (hw _ (List.mem_of_getElem? (i := 64) rfl))) (Via.of (hw _ (List.mem_of_getElem? (i := 65) rfl))) e0 F_o0_modCount (g := (mkF m 2 #[.val (.ref o0), .val (.ref o1)] [(.ref o0), (.ref o0)])) rfl rfl (hb hby djdk_38_method_25_code_2)
  refine Go.st (S' := T325.setTop (mkF m 5 #[.val (.ref o0), .val (.ref o1)] [(.int (0 : Int32)), (.ref o0)])) st325 ?_
  refine Go.st (S' := T325.setTop (mkF m 6 #[.val (.ref o0), .val (.ref o1)] [(.int (1 : Int32)), (.int (0 : Int32)), (.ref o0)])) (fun t k => XS.iconst X325.here hx rfl (hb hby djdk_38_method_25_code_5) k) ?_
  refine Go.op (F := fun z => T325.setTop (mkF m 7 #[.val (.ref o0), .val (.ref o1)] [(.int z), (.ref o0)])) (x := ((0 : Int32) + (1 : Int32))) (fun t k => XS.iadd X325.here hx rfl (hb hby djdk_38_method_25_code_6) rfl k) ?_
  intro v326 hv326
  obtain rfl : (1 : Int32) = v326 := (hv326.trans (by decide)).symm
  obtain ⟨T327, h327, X327, e327, W327, st327⟩ := putF X325 hx hZ hown (host := "") (Or.inl (hw _ (List.mem_of_getElem? (i := 64) rfl))) (Via.of (hw _ (List.mem_of_getElem? (i := 65) rfl))) e325 F_o0_modCount E_o0 (Or.inl (hw _ (List.mem_of_getElem? (i := 55) rfl))) (hw _ (List.mem_of_getElem? (i := 36) rfl)) (ty := .int) (by decide) rfl rfl (g := (mkF m 7 #[.val (.ref o0), .val (.ref o1)] [(.int (1 : Int32)), (.ref o0)])) rfl rfl (hb hby djdk_38_method_25_code_7)
  have Fw327 := (F_o0_modCount).same W327
  have N327 := Fr.snoc X327 N0 g_o0
  have Z328 : n0 ≤ h327.size := Nat.le_trans Z0 (Keep.of_wr W327).1
  have K328 : Keep h0 h327 [o0] := (Keep.refl h0 [o0]).wr W327 (Or.inl (by simp))
  refine Go.st (S' := T327.setTop (mkF m 10 #[.val (.ref o0), .val (.ref o1)] [])) st327 ?_
  refine Go.st (S' := T327.setTop (mkF m 11 #[.val (.ref o0), .val (.ref o1)] [(.ref o0)])) (fun t k => XS.aloadN X327.here hx rfl (hb hby djdk_38_method_25_code_10) rfl rfl k) ?_
  refine Go.st (S' := T327.setTop (mkF m 12 #[.val (.ref o0), .val (.ref o1)] [(.ref o1), (.ref o0)])) (fun t k => XS.aloadN X327.here hx rfl (hb hby djdk_38_method_25_code_11) rfl rfl k) ?_
  refine Go.st (S' := T327.setTop (mkF m 13 #[.val (.ref o0), .val (.ref o1)] [(.ref o0), (.ref o1), (.ref o0)])) (fun t k => XS.aloadN X327.here hx rfl (hb hby djdk_38_method_25_code_12) rfl rfl k) ?_
  have f329 := ((F_o0_elementData).other W327 (Or.inr (slot_ne (Or.inl (hw _ (List.mem_of_getElem? (i := 58) rfl))) (Or.inl (hw _ (List.mem_of_getElem? (i := 55) rfl))) (by decide) (t := (.array (.object "java/lang/Object"))) (t' := .int) (by decide) (by decide))))
  obtain ⟨T330, X330, e330, st330⟩ := getF X327 hx hZ hown (host := "") (Or.inl (hw _ (List.mem_of_getElem? (i := 57) rfl))) Via.refl e327 f329 (g := (mkF m 13 #[.val (.ref o0), .val (.ref o1)] [(.ref o0), (.ref o1), (.ref o0)])) rfl rfl (hb hby djdk_38_method_25_code_13)
  refine Go.st (S' := T330.setTop (mkF m 16 #[.val (.ref o0), .val (.ref o1)] [(.ref s_ArrayList_DEFAULTCAPACITY_EMPTY_ELEMENTDATA), (.ref o1), (.ref o0)])) st330 ?_
  refine Go.st (S' := T330.setTop (mkF m 17 #[.val (.ref o0), .val (.ref o1)] [(.ref o0), (.ref s_ArrayList_DEFAULTCAPACITY_EMPTY_ELEMENTDATA), (.ref o1), (.ref o0)])) (fun t k => XS.aloadN X330.here hx rfl (hb hby djdk_38_method_25_code_16) rfl rfl k) ?_
  have f331 := ((F_o0_size).other W327 (Or.inr (slot_ne (Or.inl (hw _ (List.mem_of_getElem? (i := 67) rfl))) (Or.inl (hw _ (List.mem_of_getElem? (i := 55) rfl))) (by decide) (t := .int) (t' := .int) (by decide) (by decide))))
  obtain ⟨T332, X332, e332, st332⟩ := getF X330 hx hZ hown (host := "") (Or.inl (hw _ (List.mem_of_getElem? (i := 66) rfl))) Via.refl e330 f331 (g := (mkF m 17 #[.val (.ref o0), .val (.ref o1)] [(.ref o0), (.ref s_ArrayList_DEFAULTCAPACITY_EMPTY_ELEMENTDATA), (.ref o1), (.ref o0)])) rfl rfl (hb hby djdk_38_method_25_code_17)
  refine Go.st (S' := T332.setTop (mkF m 20 #[.val (.ref o0), .val (.ref o1)] [(.int (0 : Int32)), (.ref s_ArrayList_DEFAULTCAPACITY_EMPTY_ELEMENTDATA), (.ref o1), (.ref o0)])) st332 ?_
  have f333 := ((E_o0).wr W327)
  have f459 := ((V_s_ArrayList_DEFAULTCAPACITY_EMPTY_ELEMENTDATA).other W327 ne_s_ArrayList_DEFAULTCAPACITY_EMPTY_ELEMENTDATA_o0)
  have f460 := (Sta.wr W327 (S_s_ArrayList_DEFAULTCAPACITY_EMPTY_ELEMENTDATA))
  have f461 := ((E_o1).wr W327)
  obtain ⟨r462, T462, L462, X462, hQ462, st462⟩ := own_callP (W := 0) (a := o0) X332 hx hZ e332 hown (y := (⟨"java/util/ArrayList", "add", "(Ljava/lang/Object;[Ljava/lang/Object;I)V"⟩ : MethodName)) (hw _ (List.mem_of_getElem? (i := 68) rfl)) (hw _ (List.mem_of_getElem? (i := 69) rfl)) (hw _ (List.mem_of_getElem? (i := 71) rfl)) (hw _ (List.mem_of_getElem? (i := 70) rfl)) (hw _ (List.mem_of_getElem? (i := 37) rfl)) (hw _ (List.mem_of_getElem? (i := 72) rfl)) (by decide) (f333) (rm20 l Z a0 hw [] o0 o1 s_ArrayList_DEFAULTCAPACITY_EMPTY_ELEMENTDATA k_s_ArrayList_DEFAULTCAPACITY_EMPTY_ELEMENTDATA h327 n0 Z328 (Fw327) (f333) (f329) (f331) (f459) (f460) (g_o0) (f461)) (by decide) (by decide) (by decide) (by decide) (g := (mkF m 20 #[.val (.ref o0), .val (.ref o1)] [(.int (0 : Int32)), (.ref s_ArrayList_DEFAULTCAPACITY_EMPTY_ELEMENTDATA), (.ref o1), (.ref o0)])) rfl (by rw [hml]; rfl) (argsL := [(.ref o1), (.ref s_ArrayList_DEFAULTCAPACITY_EMPTY_ELEMENTDATA), (.int (0 : Int32))]) (rest := []) rfl (lenOf pd_14 rfl) rfl (by show 2 * 0 + _ ≤ _; exact Nat.le_of_eq rfl) (hb hby djdk_38_method_25_code_20)
  obtain ⟨b463, k464, rfl, N462, K462_, sz_b463_, f465, f466, f467, f468, f469, f470, f471⟩ := hQ462
  have N462_ := Fr.app N327 N462
  have g_b463 : n0 ≤ b463 := Nat.le_trans Z328 sz_b463_
  have sz_b463 : h0.size ≤ b463 := Nat.le_trans K328.1 sz_b463_
  have Z472 : n0 ≤ T462.heap.size := Nat.le_trans Z328 K462_.1
  have K472 : Keep h0 T462.heap [o0] := K328.trans K462_ (allS (Or.inl (by simp)) all0)
  refine Go.st (S' := T462.setTop (mkF m 23 #[.val (.ref o0), .val (.ref o1)] [])) st462 ?_
  refine Go.st (S' := T462.setTop (mkF m 24 #[.val (.ref o0), .val (.ref o1)] [(.int (1 : Int32))])) (fun t k => XS.iconst X462.here hx rfl (hb hby djdk_38_method_25_code_23) k) ?_
  exact Go.ret X462 (v := some (.int (1 : Int32))) (fun h => by rw [Bd.returns] at h; cases h) Bd.notSynchronized (fun fs hr => retN X462 hx (t := .boolean) Bd.returns (by simp) (hb hby djdk_38_method_25_code_24) hr) (by decide) (by decide) (⟨b463, k464, rfl, N462_, K472, sz_b463, f465, f466, f467, f468, f469, f470, f471⟩)
theorem ef_22 (m : MethodId) (o0 : Addr) : entryFrame m #[(.ref o0)] 1 = mkF m 0 #[.val (.ref o0)] [] := by first | (simp [entryFrame, mkF, argsToLocals, Value.category, maxLocals]; done) | rfl
def Q22 (Z : State) (o0 : Addr) (h0 : Heap) (n0 : Nat) (v : Option Value) (h : Heap) (L : List Loc) : Prop := (v = some (.int (0 : Int32)) ∧ Fr n0 L ∧ h = h0)
set_option maxRecDepth 65536 in
set_option maxHeartbeats 40000000 in
theorem rm22 (l : Launch) (Z : State) (a0 : Array Value) (hw : ∀ d ∈ tables_1, d.before a0 Z = true) (ws : List Jvm.Cond) (o0 : Addr) (h0 : Heap) (n0 : Nat) (Z0 : n0 ≤ h0.size) (F_o0_size : Fld Z h0 o0 "java/util/ArrayList" "size" "I" (.int (1 : Int32))) :
    Con l Z (⟨"java/util/ArrayList", "isEmpty", "()Z"⟩ : MethodName) jdk_38_method_9_code 1 (some .boolean) ws ({ frames := 0, cells := 0, slots := 0, locals := 0 } : Room) #[(.ref o0)] h0 0 0 (Q22 Z o0 h0 n0) := by
  refine MetFree.of_bodySF (plainFor_of_name pn_6) hisR ?_
  intro p e s m args below meth c s₁ Bd hml0 hP hK
  obtain ⟨rfl, hZ, hh⟩ := hP
  have hx := Bd.exec
  have hby := Bd.bytes
  have hml : c.maxLocals = 1 := hml0
  have hown : s.vm.findClass "java/util/ArrayList" = some m.cls := findClass_of_methodNamed Bd.named
  have hnm := (name_of_methodNamed Bd.named Bd.method).1
  have X0 : Stand p l e ({ frames := 0, cells := 0, slots := 0, locals := 0 } : Room) s m #[(.ref o0)] below meth c s₁ [] 0 0 := Stand.of_body Bd
  have e0 : s₁.heap = h0 := by rw [← hh, Bd.state]; rfl
  have N0 := Fr.nil n0
  refine Go.of ?_
  refine Go.st (S' := s₁.setTop (mkF m 0 #[.val (.ref o0)] [])) (fun t k => castTop (ef_22 m o0) k) ?_
  refine Go.st (S' := s₁.setTop (mkF m 1 #[.val (.ref o0)] [(.ref o0)])) (fun t k => XS.aloadN X0.here hx rfl (hb hby djdk_38_method_9_code_0) rfl rfl k) ?_
  obtain ⟨T515, X515, e515, st515⟩ := getF X0 hx hZ hown (host := "") (Or.inl (hw _ (List.mem_of_getElem? (i := 66) rfl))) Via.refl e0 F_o0_size (g := (mkF m 1 #[.val (.ref o0)] [(.ref o0)])) rfl rfl (hb hby djdk_38_method_9_code_1)
  refine Go.st (S' := T515.setTop (mkF m 4 #[.val (.ref o0)] [(.int (1 : Int32))])) st515 ?_
  refine Go.st (S' := T515.setTop (mkF m 11 #[.val (.ref o0)] [])) (fun t k => XS.ifYes X515.here hx rfl (pc0 := 4) (pc' := 11) rfl (hb hby djdk_38_method_9_code_4) rfl ((if0 _ _).trans (feq (by decide : (¬ ((1 : Int32) = (0 : Int32))))).2) (by decide) (by decide) k) ?_
  refine Go.st (S' := T515.setTop (mkF m 12 #[.val (.ref o0)] [(.int (0 : Int32))])) (fun t k => XS.iconst X515.here hx rfl (hb hby djdk_38_method_9_code_11) k) ?_
  exact Go.ret X515 (v := some (.int (0 : Int32))) (fun h => by rw [Bd.returns] at h; cases h) Bd.notSynchronized (fun fs hr => retN X515 hx (t := .boolean) Bd.returns (by simp) (hb hby djdk_38_method_9_code_12) hr) (by decide) (by decide) (⟨rfl, N0, (e515)⟩)
theorem ef_23 (m : MethodId)  : entryFrame m #[(.int (10 : Int32)), (.int (1 : Int32))] 2 = mkF m 0 #[.val (.int (10 : Int32)), .val (.int (1 : Int32))] [] := by first | (simp [entryFrame, mkF, argsToLocals, Value.category, maxLocals]; done) | rfl
def Q23 (Z : State)  (h0 : Heap) (n0 : Nat) (v : Option Value) (h : Heap) (L : List Loc) : Prop := (v = some (.int (1 : Int32)) ∧ Fr n0 L ∧ h = h0)
set_option maxRecDepth 65536 in
set_option maxHeartbeats 40000000 in
theorem rm23 (l : Launch) (Z : State) (a0 : Array Value) (hw : ∀ d ∈ tables_1, d.before a0 Z = true) (ws : List Jvm.Cond)  (h0 : Heap) (n0 : Nat) (Z0 : n0 ≤ h0.size)  :
    Con l Z (⟨"java/lang/Math", "min", "(II)I"⟩ : MethodName) jdk_29_method_69_code 2 (some .int) ws ({ frames := 0, cells := 0, slots := 0, locals := 0 } : Room) #[(.int (10 : Int32)), (.int (1 : Int32))] h0 0 0 (Q23 Z  h0 n0) := by
  refine MetFree.of_bodySF (Jvm.Free.JP.mathPlain rfl (by decide +kernel)) hisR ?_
  intro p e s m args below meth c s₁ Bd hml0 hP hK
  obtain ⟨rfl, hZ, hh⟩ := hP
  have hx := Bd.exec
  have hby := Bd.bytes
  have hml : c.maxLocals = 2 := hml0
  have hown : s.vm.findClass "java/lang/Math" = some m.cls := findClass_of_methodNamed Bd.named
  have hnm := (name_of_methodNamed Bd.named Bd.method).1
  have X0 : Stand p l e ({ frames := 0, cells := 0, slots := 0, locals := 0 } : Room) s m #[(.int (10 : Int32)), (.int (1 : Int32))] below meth c s₁ [] 0 0 := Stand.of_body Bd
  have e0 : s₁.heap = h0 := by rw [← hh, Bd.state]; rfl
  have N0 := Fr.nil n0
  refine Go.of ?_
  refine Go.st (S' := s₁.setTop (mkF m 0 #[.val (.int (10 : Int32)), .val (.int (1 : Int32))] [])) (fun t k => castTop (ef_23 m ) k) ?_
  refine Go.st (S' := s₁.setTop (mkF m 1 #[.val (.int (10 : Int32)), .val (.int (1 : Int32))] [(.int (10 : Int32))])) (fun t k => XS.iloadN X0.here hx rfl (hb hby djdk_29_method_69_code_0) rfl k) ?_
  refine Go.st (S' := s₁.setTop (mkF m 2 #[.val (.int (10 : Int32)), .val (.int (1 : Int32))] [(.int (1 : Int32)), (.int (10 : Int32))])) (fun t k => XS.iloadN X0.here hx rfl (hb hby djdk_29_method_69_code_1) rfl k) ?_
  refine Go.st (S' := s₁.setTop (mkF m 9 #[.val (.int (10 : Int32)), .val (.int (1 : Int32))] [])) (fun t k => XS.icmpYes X0.here hx rfl (pc0 := 2) (pc' := 9) rfl (hb hby djdk_29_method_69_code_2) rfl (tlt (by decide : ((1 : Int32) < (10 : Int32)))).2.2.1 (by decide) (by decide) k) ?_
  refine Go.st (S' := s₁.setTop (mkF m 10 #[.val (.int (10 : Int32)), .val (.int (1 : Int32))] [(.int (1 : Int32))])) (fun t k => XS.iloadN X0.here hx rfl (hb hby djdk_29_method_69_code_9) rfl k) ?_
  exact Go.ret X0 (v := some (.int (1 : Int32))) (fun h => by rw [Bd.returns] at h; cases h) Bd.notSynchronized (fun fs hr => retI X0 hx Bd.returns (hb hby djdk_29_method_69_code_10) hr) (by decide) (by decide) (⟨rfl, N0, (e0)⟩)
theorem ef_24 (m : MethodId) (o0 : Addr) (s_mir__Ljava_lang_Object_ : Addr) : entryFrame m #[(.ref o0), (.int (1 : Int32)), (.ref s_mir__Ljava_lang_Object_)] 4 = mkF m 0 #[.val (.ref o0), .val (.int (1 : Int32)), .val (.ref s_mir__Ljava_lang_Object_), .unset] [] := by first | (simp [entryFrame, mkF, argsToLocals, Value.category, maxLocals]; done) | rfl
def Q24 (Z : State) (o0 : Addr) (s_mir__Ljava_lang_Object_ : Addr) (k_o0 : ClassId) (o_2 : Addr) (h0 : Heap) (n0 : Nat) (v : Option Value) (h : Heap) (L : List Loc) : Prop := (∃ (b524 : Addr) (k524 : ClassId), v = some (.ref b524) ∧ Fr n0 L ∧ Keep h0 h [] ∧ h0.size ≤ b524 ∧ Arv Z h b524 k524 (.object "java/lang/Object") (1 : Int32) [(.ref o_2)] .null ∧ Ovr Z k524 "java/lang/Object" ∧ Exa Z h b524 "[Ljava/lang/Object;")
set_option maxRecDepth 65536 in
set_option maxHeartbeats 40000000 in
theorem rm24 (l : Launch) (Z : State) (a0 : Array Value) (hw : ∀ d ∈ tables_1, d.before a0 Z = true) (ws : List Jvm.Cond) (o0 : Addr) (s_mir__Ljava_lang_Object_ : Addr) (k_o0 : ClassId) (o_2 : Addr) (h0 : Heap) (n0 : Nat) (Z0 : n0 ≤ h0.size) (M_s_mir__Ljava_lang_Object_ : Mir Z "[Ljava/lang/Object;" s_mir__Ljava_lang_Object_) (V_o0 : Arv Z h0 o0 k_o0 (.object "java/lang/Object") (10 : Int32) [(.ref o_2), .null, .null, .null, .null, .null, .null, .null, .null, .null] .null) (E_o_2 : Exa Z h0 o_2 "java/lang/String") :
    Con l Z (⟨"java/util/Arrays", "copyOf", "([Ljava/lang/Object;ILjava/lang/Class;)[Ljava/lang/Object;"⟩ : MethodName) jdk_65_method_120_code 4 (some (.array (.object "java/lang/Object"))) ws ({ frames := 1, cells := 1, slots := 1, locals := 40 } : Room) #[(.ref o0), (.int (1 : Int32)), (.ref s_mir__Ljava_lang_Object_)] h0 1 1 (Q24 Z o0 s_mir__Ljava_lang_Object_ k_o0 o_2 h0 n0) := by
  refine MetFree.of_bodySF (plainFor_of_name pn_7) hisR ?_
  intro p e s m args below meth c s₁ Bd hml0 hP hK
  obtain ⟨rfl, hZ, hh⟩ := hP
  have hx := Bd.exec
  have hby := Bd.bytes
  have hml : c.maxLocals = 4 := hml0
  have hown : s.vm.findClass "java/util/Arrays" = some m.cls := findClass_of_methodNamed Bd.named
  have hnm := (name_of_methodNamed Bd.named Bd.method).1
  have X0 : Stand p l e ({ frames := 1, cells := 1, slots := 1, locals := 40 } : Room) s m #[(.ref o0), (.int (1 : Int32)), (.ref s_mir__Ljava_lang_Object_)] below meth c s₁ [] 0 0 := Stand.of_body Bd
  have e0 : s₁.heap = h0 := by rw [← hh, Bd.state]; rfl
  have N0 := Fr.nil n0
  refine Go.of ?_
  refine Go.st (S' := s₁.setTop (mkF m 0 #[.val (.ref o0), .val (.int (1 : Int32)), .val (.ref s_mir__Ljava_lang_Object_), .unset] [])) (fun t k => castTop (ef_24 m o0 s_mir__Ljava_lang_Object_) k) ?_
  let A522 : Array Slot := #[.val (.ref o0), .val (.int (1 : Int32)), .val (.ref s_mir__Ljava_lang_Object_), .unset]
  refine Go.st (S' := s₁.setTop (mkF m 1 A522 [(.ref s_mir__Ljava_lang_Object_)])) (fun t k => XS.aloadN X0.here hx rfl (hb hby djdk_65_method_120_code_0) rfl rfl k) ?_
  obtain ⟨T523, X523, e523, st523⟩ := own_ldcM X0 hx hZ hown (hw _ (List.mem_of_getElem? (i := 142) rfl)) e0 M_s_mir__Ljava_lang_Object_ (g := (mkF m 1 A522 [(.ref s_mir__Ljava_lang_Object_)])) rfl (hb hby djdk_65_method_120_code_1)
  refine Go.st (S' := T523.setTop (mkF m 3 A522 [(.ref s_mir__Ljava_lang_Object_), (.ref s_mir__Ljava_lang_Object_)])) st523 ?_
  refine Go.st (S' := T523.setTop (mkF m 6 A522 [])) (fun t k => acmp X523 hx rfl rfl rfl (pc0 := 3) (pc' := 6) (same := true) rfl (hb hby djdk_65_method_120_code_3) rfl (by simp) (by decide) (by decide) k) ?_
  refine Go.st (S' := T523.setTop (mkF m 7 A522 [(.int (1 : Int32))])) (fun t k => XS.iloadN X523.here hx rfl (hb hby djdk_65_method_120_code_6) rfl k) ?_
  obtain ⟨T524, h524, k524, X524, e524, E524, A524, B524, O524, st524⟩ := newRE X523 hx hZ hown (hw _ (List.mem_of_getElem? (i := 143) rfl)) (hw _ (List.mem_of_getElem? (i := 88) rfl)) e523 (g := (mkF m 7 A522 [(.int (1 : Int32))])) rfl (hb hby djdk_65_method_120_code_7) rfl (by decide) (cap := 1) (by decide) (by decide) (by decide) (by decide) (ad := "[Ljava/lang/Object;") (by decide)
  obtain ⟨b524, gg524⟩ : ∃ z, z = h0.size := ⟨_, rfl⟩
  rw [← gg524] at A524 B524 st524
  have g_b524 : n0 ≤ b524 := Nat.le_trans Z0 (Nat.le_of_eq gg524.symm)
  have sz_b524 : h0.size ≤ b524 := Nat.le_trans (Keep.refl h0 []).1 (Nat.le_of_eq gg524.symm)
  have Z525 : n0 ≤ h524.size := Nat.le_trans Z0 E524.1
  have K525 : Keep h0 h524 [] := (Keep.refl h0 []).ext E524
  have V524 : Arv Z h524 b524 k524 (.object "java/lang/Object") (1 : Int32) [.null] .null := (Arv.new A524 (by decide)).pad (pad_rep [] .null 1)
  refine Go.st (S' := T524.setTop (mkF m 10 A522 [(.ref b524)])) st524 ?_
  refine Go.st (S' := T524.setTop (mkF m 24 A522 [(.ref b524)])) (fun t k => XS.goto X524.here hx rfl (pc0 := 10) (pc' := 24) rfl (hb hby djdk_65_method_120_code_10) (by decide) (by decide) k) ?_
  let A526 : Array Slot := #[.val (.ref o0), .val (.int (1 : Int32)), .val (.ref s_mir__Ljava_lang_Object_), .val (.ref b524)]
  refine Go.st (S' := T524.setTop (mkF m 25 A526 [])) (fun t k => XS.astoreN X524.here hx rfl (hb hby djdk_65_method_120_code_24) rfl rfl (l' := A526) rfl k) ?_
  refine Go.st (S' := T524.setTop (mkF m 26 A526 [(.ref o0)])) (fun t k => XS.aloadN X524.here hx rfl (hb hby djdk_65_method_120_code_25) rfl rfl k) ?_
  refine Go.st (S' := T524.setTop (mkF m 27 A526 [(.int (0 : Int32)), (.ref o0)])) (fun t k => XS.iconst X524.here hx rfl (hb hby djdk_65_method_120_code_26) k) ?_
  refine Go.st (S' := T524.setTop (mkF m 28 A526 [(.ref b524), (.int (0 : Int32)), (.ref o0)])) (fun t k => XS.aloadN X524.here hx rfl (hb hby djdk_65_method_120_code_27) rfl rfl k) ?_
  refine Go.st (S' := T524.setTop (mkF m 29 A526 [(.int (0 : Int32)), (.ref b524), (.int (0 : Int32)), (.ref o0)])) (fun t k => XS.iconst X524.here hx rfl (hb hby djdk_65_method_120_code_28) k) ?_
  refine Go.st (S' := T524.setTop (mkF m 30 A526 [(.ref o0), (.int (0 : Int32)), (.ref b524), (.int (0 : Int32)), (.ref o0)])) (fun t k => XS.aloadN X524.here hx rfl (hb hby djdk_65_method_120_code_29) rfl rfl k) ?_
  have f528 := ((V_o0).ext E524)
  obtain ⟨cl529, Ar529, -, S529, N529_, -, -⟩ := id f528
  refine Go.op (F := fun z => T524.setTop (mkF m 31 A526 [(.int z), (.int (0 : Int32)), (.ref b524), (.int (0 : Int32)), (.ref o0)])) (x := cl529.slots.size.toInt32) (fun t k => X524.arraylength hx (own_eh e524 Ar529.1) (State.isArrayOf_alike hZ.alike Ar529.2.1) (g := (mkF m 30 A526 [(.ref o0), (.int (0 : Int32)), (.ref b524), (.int (0 : Int32)), (.ref o0)])) rfl rfl (hb hby djdk_65_method_120_code_30) t k) ?_
  intro v530 hv530
  obtain rfl : (10 : Int32) = v530 := (hv530.trans (len_of S529 N529_)).symm
  refine Go.st (S' := T524.setTop (mkF m 32 A526 [(.int (1 : Int32)), (.int (10 : Int32)), (.int (0 : Int32)), (.ref b524), (.int (0 : Int32)), (.ref o0)])) (fun t k => XS.iloadN X524.here hx rfl (hb hby djdk_65_method_120_code_31) rfl k) ?_
  obtain ⟨r531, T531, L531, X531, hQ531, st531⟩ := own_callS (W := 4) X524 hx hZ e524 hown (y := (⟨"java/lang/Math", "min", "(II)I"⟩ : MethodName)) (hw _ (List.mem_of_getElem? (i := 144) rfl)) (hw _ (List.mem_of_getElem? (i := 145) rfl)) (hw _ (List.mem_of_getElem? (i := 85) rfl)) (hw _ (List.mem_of_getElem? (i := 146) rfl)) (by decide) (rm23 l Z a0 hw []  h524 n0 Z525 ) (by decide) (by decide) (by decide) (by decide) (g := (mkF m 32 A526 [(.int (1 : Int32)), (.int (10 : Int32)), (.int (0 : Int32)), (.ref b524), (.int (0 : Int32)), (.ref o0)])) rfl (by rw [hml]; rfl) (argsL := [(.int (10 : Int32)), (.int (1 : Int32))]) (rest := [(.int (0 : Int32)), (.ref b524), (.int (0 : Int32)), (.ref o0)]) rfl (lenOf pd_11 rfl) rfl (by show 2 * 0 + _ ≤ _; exact Nat.le_of_eq rfl) (hb hby djdk_65_method_120_code_32)
  obtain ⟨rfl, N531, e531⟩ := hQ531
  have N531_ := Fr.app N0 N531
  refine Go.st (S' := T531.setTop (mkF m 35 A526 [(.int (1 : Int32)), (.int (0 : Int32)), (.ref b524), (.int (0 : Int32)), (.ref o0)])) st531 ?_
  obtain ⟨cl532, Ar532, q532, -⟩ := id V524
  have f534 := ((E_o_2).ext E524)
  obtain ⟨T532, h532, L532, X532, e532, N532, K532_, V532, st532⟩ := cpA X531 hx hZ hown (hw _ (List.mem_of_getElem? (i := 147) rfl)) (hw _ (List.mem_of_getElem? (i := 150) rfl)) (hw _ (List.mem_of_getElem? (i := 148) rfl)) (hw _ (List.mem_of_getElem? (i := 149) rfl)) e531 (f528) (V524) (sp := (0 : Int32)) (dp := (0 : Int32)) (nn := (1 : Int32)) (us := [(.ref o_2)]) (Or.inr ⟨rfl, rfl, ⟨(Sto.ofV Ar532 q532 O524 (Ins.of_exa f534 (hw _ (List.mem_of_getElem? (i := 89) rfl)))), trivial⟩⟩) (by decide) (by decide) (by decide) (by decide) (by decide) rfl (Nat.le_of_ble_eq_true rfl) N531_ g_b524 (g := (mkF m 35 A526 [(.int (1 : Int32)), (.int (0 : Int32)), (.ref b524), (.int (0 : Int32)), (.ref o0)])) rfl (by rw [hml]; rfl) rfl (hb hby djdk_65_method_120_code_35) (by decide) (W := 0) (by show 2 * 0 + _ ≤ _; exact Nat.le_of_eq rfl) (by decide)
  have V532 : Arv Z h532 b524 k524 (.object "java/lang/Object") (1 : Int32) [(.ref o_2)] .null := V532
  have Z535 : n0 ≤ h532.size := Nat.le_trans Z525 K532_.1
  have K535 : Keep h0 h532 [] := K525.trans K532_ (allS (Or.inr sz_b524) all0)
  refine Go.st (S' := T532.setTop (mkF m 38 A526 [])) st532 ?_
  refine Go.st (S' := T532.setTop (mkF m 39 A526 [(.ref b524)])) (fun t k => XS.aloadN X532.here hx rfl (hb hby djdk_65_method_120_code_38) rfl rfl k) ?_
  have f536 := ((B524).keep K532_)
  exact Go.ret X532 (v := some (.ref b524)) (fun h => by rw [Bd.returns] at h; cases h) Bd.notSynchronized (fun fs hr => retOut X532 hx Bd.returns rfl (Or.inr (Or.inr (Or.inr (Or.inr ⟨rfl, rfl, rfl⟩)))) (hb hby djdk_65_method_120_code_39) hr) (by decide) (by decide) (by rw [e532]; exact ⟨b524, k524, rfl, N532, K535, sz_b524, V532, O524, f536⟩)
theorem ef_25 (m : MethodId) (o0 : Addr) : entryFrame m #[(.ref o0), (.int (1 : Int32))] 2 = mkF m 0 #[.val (.ref o0), .val (.int (1 : Int32))] [] := by first | (simp [entryFrame, mkF, argsToLocals, Value.category, maxLocals]; done) | rfl
def Q25 (Z : State) (o0 : Addr) (s_mir__Ljava_lang_Object_ : Addr) (k_o0 : ClassId) (o_1 : Addr) (h0 : Heap) (n0 : Nat) (v : Option Value) (h : Heap) (L : List Loc) : Prop := (∃ (b538 : Addr) (k539 : ClassId), v = some (.ref b538) ∧ Fr n0 L ∧ Keep h0 h [] ∧ h0.size ≤ b538 ∧ Arv Z h b538 k539 (.object "java/lang/Object") (1 : Int32) [(.ref o_1)] .null ∧ Ovr Z k539 "java/lang/Object" ∧ Exa Z h b538 "[Ljava/lang/Object;")
set_option maxRecDepth 65536 in
set_option maxHeartbeats 40000000 in
theorem rm25 (l : Launch) (Z : State) (a0 : Array Value) (hw : ∀ d ∈ tables_1, d.before a0 Z = true) (ws : List Jvm.Cond) (o0 : Addr) (s_mir__Ljava_lang_Object_ : Addr) (k_o0 : ClassId) (o_1 : Addr) (h0 : Heap) (n0 : Nat) (Z0 : n0 ≤ h0.size) (E_o0 : Exa Z h0 o0 "[Ljava/lang/Object;") (M_s_mir__Ljava_lang_Object_ : Mir Z "[Ljava/lang/Object;" s_mir__Ljava_lang_Object_) (V_o0 : Arv Z h0 o0 k_o0 (.object "java/lang/Object") (10 : Int32) [(.ref o_1), .null, .null, .null, .null, .null, .null, .null, .null, .null] .null) (E_o_1 : Exa Z h0 o_1 "java/lang/String") :
    Con l Z (⟨"java/util/Arrays", "copyOf", "([Ljava/lang/Object;I)[Ljava/lang/Object;"⟩ : MethodName) jdk_65_method_119_code 2 (some (.array (.object "java/lang/Object"))) ws ({ frames := 2, cells := 1, slots := 1, locals := 55 } : Room) #[(.ref o0), (.int (1 : Int32))] h0 1 1 (Q25 Z o0 s_mir__Ljava_lang_Object_ k_o0 o_1 h0 n0) := by
  refine MetFree.of_bodySF (plainFor_of_name pn_7) hisR ?_
  intro p e s m args below meth c s₁ Bd hml0 hP hK
  obtain ⟨rfl, hZ, hh⟩ := hP
  have hx := Bd.exec
  have hby := Bd.bytes
  have hml : c.maxLocals = 2 := hml0
  have hown : s.vm.findClass "java/util/Arrays" = some m.cls := findClass_of_methodNamed Bd.named
  have hnm := (name_of_methodNamed Bd.named Bd.method).1
  have X0 : Stand p l e ({ frames := 2, cells := 1, slots := 1, locals := 55 } : Room) s m #[(.ref o0), (.int (1 : Int32))] below meth c s₁ [] 0 0 := Stand.of_body Bd
  have e0 : s₁.heap = h0 := by rw [← hh, Bd.state]; rfl
  have N0 := Fr.nil n0
  refine Go.of ?_
  refine Go.st (S' := s₁.setTop (mkF m 0 #[.val (.ref o0), .val (.int (1 : Int32))] [])) (fun t k => castTop (ef_25 m o0) k) ?_
  refine Go.st (S' := s₁.setTop (mkF m 1 #[.val (.ref o0), .val (.int (1 : Int32))] [(.ref o0)])) (fun t k => XS.aloadN X0.here hx rfl (hb hby djdk_65_method_119_code_0) rfl rfl k) ?_
  refine Go.st (S' := s₁.setTop (mkF m 2 #[.val (.ref o0), .val (.int (1 : Int32))] [(.int (1 : Int32)), (.ref o0)])) (fun t k => XS.iloadN X0.here hx rfl (hb hby djdk_65_method_119_code_1) rfl k) ?_
  refine Go.st (S' := s₁.setTop (mkF m 3 #[.val (.ref o0), .val (.int (1 : Int32))] [(.ref o0), (.int (1 : Int32)), (.ref o0)])) (fun t k => XS.aloadN X0.here hx rfl (hb hby djdk_65_method_119_code_2) rfl rfl k) ?_
  obtain ⟨T521, X521, e521, st521⟩ := gcls X0 hx hZ hown (hw _ (List.mem_of_getElem? (i := 133) rfl)) (hw _ (List.mem_of_getElem? (i := 134) rfl)) (hw _ (List.mem_of_getElem? (i := 110) rfl)) (hw _ (List.mem_of_getElem? (i := 136) rfl)) (hw _ (List.mem_of_getElem? (i := 135) rfl)) (hw _ (List.mem_of_getElem? (i := 137) rfl)) e0 (E_o0) M_s_mir__Ljava_lang_Object_ (g := (mkF m 3 #[.val (.ref o0), .val (.int (1 : Int32))] [(.ref o0), (.int (1 : Int32)), (.ref o0)])) rfl (by rw [hml]; rfl) rfl (hb hby djdk_65_method_119_code_3) (by decide) (W := 2) (by show 2 * 0 + _ ≤ _; exact Nat.le_of_eq rfl) (by decide)
  refine Go.st (S' := T521.setTop (mkF m 6 #[.val (.ref o0), .val (.int (1 : Int32))] [(.ref s_mir__Ljava_lang_Object_), (.int (1 : Int32)), (.ref o0)])) st521 ?_
  obtain ⟨r537, T537, L537, X537, hQ537, st537⟩ := own_callS (W := 0) X521 hx hZ e521 hown (y := (⟨"java/util/Arrays", "copyOf", "([Ljava/lang/Object;ILjava/lang/Class;)[Ljava/lang/Object;"⟩ : MethodName)) (hw _ (List.mem_of_getElem? (i := 139) rfl)) (hw _ (List.mem_of_getElem? (i := 140) rfl)) (hw _ (List.mem_of_getElem? (i := 131) rfl)) (hw _ (List.mem_of_getElem? (i := 141) rfl)) (by decide) (rm24 l Z a0 hw [] o0 s_mir__Ljava_lang_Object_ k_o0 o_1 h0 n0 Z0 (M_s_mir__Ljava_lang_Object_) (V_o0) (E_o_1)) (by decide) (by decide) (by decide) (by decide) (g := (mkF m 6 #[.val (.ref o0), .val (.int (1 : Int32))] [(.ref s_mir__Ljava_lang_Object_), (.int (1 : Int32)), (.ref o0)])) rfl (by rw [hml]; rfl) (argsL := [(.ref o0), (.int (1 : Int32)), (.ref s_mir__Ljava_lang_Object_)]) (rest := []) rfl (lenOf pd_17 rfl) rfl (by show 2 * 0 + _ ≤ _; exact Nat.le_of_eq rfl) (hb hby djdk_65_method_119_code_6)
  obtain ⟨b538, k539, rfl, N537, K537_, sz_b538_, f540, f541, f542⟩ := hQ537
  have N537_ := Fr.app N0 N537
  have g_b538 : n0 ≤ b538 := Nat.le_trans Z0 sz_b538_
  have sz_b538 : h0.size ≤ b538 := Nat.le_trans (Keep.refl h0 []).1 sz_b538_
  have Z543 : n0 ≤ T537.heap.size := Nat.le_trans Z0 K537_.1
  have K543 : Keep h0 T537.heap [] := (Keep.refl h0 []).trans K537_ all0
  refine Go.st (S' := T537.setTop (mkF m 9 #[.val (.ref o0), .val (.int (1 : Int32))] [(.ref b538)])) st537 ?_
  exact Go.ret X537 (v := some (.ref b538)) (fun h => by rw [Bd.returns] at h; cases h) Bd.notSynchronized (fun fs hr => retOut X537 hx Bd.returns rfl (Or.inr (Or.inr (Or.inr (Or.inr ⟨rfl, rfl, rfl⟩)))) (hb hby djdk_65_method_119_code_9) hr) (by decide) (by decide) (⟨b538, k539, rfl, N537_, K543, sz_b538, f540, f541, f542⟩)
theorem ef_26 (m : MethodId) (o0 : Addr) : entryFrame m #[(.ref o0)] 1 = mkF m 0 #[.val (.ref o0)] [] := by first | (simp [entryFrame, mkF, argsToLocals, Value.category, maxLocals]; done) | rfl
def Q26 (Z : State) (o0 : Addr) (o_1 : Addr) (k_o_1 : ClassId) (o_2 : Addr) (s_mir__Ljava_lang_Object_ : Addr) (h0 : Heap) (n0 : Nat) (v : Option Value) (h : Heap) (L : List Loc) : Prop := (∃ (b545 : Addr) (k546 : ClassId), v = some (.ref b545) ∧ Fr n0 L ∧ Keep h0 h [] ∧ h0.size ≤ b545 ∧ Arv Z h b545 k546 (.object "java/lang/Object") (1 : Int32) [(.ref o_2)] .null ∧ Ovr Z k546 "java/lang/Object" ∧ Exa Z h b545 "[Ljava/lang/Object;")
set_option maxRecDepth 65536 in
set_option maxHeartbeats 40000000 in
theorem rm26 (l : Launch) (Z : State) (a0 : Array Value) (hw : ∀ d ∈ tables_1, d.before a0 Z = true) (ws : List Jvm.Cond) (o0 : Addr) (o_1 : Addr) (k_o_1 : ClassId) (o_2 : Addr) (s_mir__Ljava_lang_Object_ : Addr) (h0 : Heap) (n0 : Nat) (Z0 : n0 ≤ h0.size) (F_o0_elementData : Fld Z h0 o0 "java/util/ArrayList" "elementData" "[Ljava/lang/Object;" (.ref o_1)) (F_o0_size : Fld Z h0 o0 "java/util/ArrayList" "size" "I" (.int (1 : Int32))) (E_o_1 : Exa Z h0 o_1 "[Ljava/lang/Object;") (V_o_1 : Arv Z h0 o_1 k_o_1 (.object "java/lang/Object") (10 : Int32) [(.ref o_2), .null, .null, .null, .null, .null, .null, .null, .null, .null] .null) (E_o_2 : Exa Z h0 o_2 "java/lang/String") (M_s_mir__Ljava_lang_Object_ : Mir Z "[Ljava/lang/Object;" s_mir__Ljava_lang_Object_) :
    Con l Z (⟨"java/util/ArrayList", "toArray", "()[Ljava/lang/Object;"⟩ : MethodName) jdk_38_method_16_code 1 (some (.array (.object "java/lang/Object"))) ws ({ frames := 3, cells := 1, slots := 1, locals := 68 } : Room) #[(.ref o0)] h0 1 1 (Q26 Z o0 o_1 k_o_1 o_2 s_mir__Ljava_lang_Object_ h0 n0) := by
  refine MetFree.of_bodySF (plainFor_of_name pn_6) hisR ?_
  intro p e s m args below meth c s₁ Bd hml0 hP hK
  obtain ⟨rfl, hZ, hh⟩ := hP
  have hx := Bd.exec
  have hby := Bd.bytes
  have hml : c.maxLocals = 1 := hml0
  have hown : s.vm.findClass "java/util/ArrayList" = some m.cls := findClass_of_methodNamed Bd.named
  have hnm := (name_of_methodNamed Bd.named Bd.method).1
  have X0 : Stand p l e ({ frames := 3, cells := 1, slots := 1, locals := 68 } : Room) s m #[(.ref o0)] below meth c s₁ [] 0 0 := Stand.of_body Bd
  have e0 : s₁.heap = h0 := by rw [← hh, Bd.state]; rfl
  have N0 := Fr.nil n0
  refine Go.of ?_
  refine Go.st (S' := s₁.setTop (mkF m 0 #[.val (.ref o0)] [])) (fun t k => castTop (ef_26 m o0) k) ?_
  refine Go.st (S' := s₁.setTop (mkF m 1 #[.val (.ref o0)] [(.ref o0)])) (fun t k => XS.aloadN X0.here hx rfl (hb hby djdk_38_method_16_code_0) rfl rfl k) ?_
  obtain ⟨T518, X518, e518, st518⟩ := getF X0 hx hZ hown (host := "") (Or.inl (hw _ (List.mem_of_getElem? (i := 57) rfl))) Via.refl e0 F_o0_elementData (g := (mkF m 1 #[.val (.ref o0)] [(.ref o0)])) rfl rfl (hb hby djdk_38_method_16_code_1)
  refine Go.st (S' := T518.setTop (mkF m 4 #[.val (.ref o0)] [(.ref o_1)])) st518 ?_
  refine Go.st (S' := T518.setTop (mkF m 5 #[.val (.ref o0)] [(.ref o0), (.ref o_1)])) (fun t k => XS.aloadN X518.here hx rfl (hb hby djdk_38_method_16_code_4) rfl rfl k) ?_
  obtain ⟨T519, X519, e519, st519⟩ := getF X518 hx hZ hown (host := "") (Or.inl (hw _ (List.mem_of_getElem? (i := 66) rfl))) Via.refl e518 F_o0_size (g := (mkF m 5 #[.val (.ref o0)] [(.ref o0), (.ref o_1)])) rfl rfl (hb hby djdk_38_method_16_code_5)
  refine Go.st (S' := T519.setTop (mkF m 8 #[.val (.ref o0)] [(.int (1 : Int32)), (.ref o_1)])) st519 ?_
  obtain ⟨r544, T544, L544, X544, hQ544, st544⟩ := own_callS (W := 0) X519 hx hZ e519 hown (y := (⟨"java/util/Arrays", "copyOf", "([Ljava/lang/Object;I)[Ljava/lang/Object;"⟩ : MethodName)) (hw _ (List.mem_of_getElem? (i := 129) rfl)) (hw _ (List.mem_of_getElem? (i := 130) rfl)) (hw _ (List.mem_of_getElem? (i := 131) rfl)) (hw _ (List.mem_of_getElem? (i := 132) rfl)) (by decide) (rm25 l Z a0 hw [] o_1 s_mir__Ljava_lang_Object_ k_o_1 o_2 h0 n0 Z0 (E_o_1) (M_s_mir__Ljava_lang_Object_) (V_o_1) (E_o_2)) (by decide) (by decide) (by decide) (by decide) (g := (mkF m 8 #[.val (.ref o0)] [(.int (1 : Int32)), (.ref o_1)])) rfl (by rw [hml]; rfl) (argsL := [(.ref o_1), (.int (1 : Int32))]) (rest := []) rfl (lenOf pd_18 rfl) rfl (by show 2 * 0 + _ ≤ _; exact Nat.le_of_eq rfl) (hb hby djdk_38_method_16_code_8)
  obtain ⟨b545, k546, rfl, N544, K544_, sz_b545_, f547, f548, f549⟩ := hQ544
  have N544_ := Fr.app N0 N544
  have g_b545 : n0 ≤ b545 := Nat.le_trans Z0 sz_b545_
  have sz_b545 : h0.size ≤ b545 := Nat.le_trans (Keep.refl h0 []).1 sz_b545_
  have Z550 : n0 ≤ T544.heap.size := Nat.le_trans Z0 K544_.1
  have K550 : Keep h0 T544.heap [] := (Keep.refl h0 []).trans K544_ all0
  refine Go.st (S' := T544.setTop (mkF m 11 #[.val (.ref o0)] [(.ref b545)])) st544 ?_
  exact Go.ret X544 (v := some (.ref b545)) (fun h => by rw [Bd.returns] at h; cases h) Bd.notSynchronized (fun fs hr => retOut X544 hx Bd.returns rfl (Or.inr (Or.inr (Or.inr (Or.inr ⟨rfl, rfl, rfl⟩)))) (hb hby djdk_38_method_16_code_11) hr) (by decide) (by decide) (⟨b545, k546, rfl, N544_, K550, sz_b545, f547, f548, f549⟩)
theorem ef_27 (m : MethodId) (o0 : Addr) : entryFrame m #[(.ref o0)] 1 = mkF m 0 #[.val (.ref o0)] [] := by first | (simp [entryFrame, mkF, argsToLocals, Value.category, maxLocals]; done) | rfl
def Q27 (Z : State) (o0 : Addr) (h0 : Heap) (n0 : Nat) (v : Option Value) (h : Heap) (L : List Loc) : Prop := (v = none ∧ Fr n0 L ∧ h = h0)
set_option maxRecDepth 65536 in
set_option maxHeartbeats 40000000 in
theorem rm27 (l : Launch) (Z : State) (a0 : Array Value) (hw : ∀ d ∈ tables_1, d.before a0 Z = true) (ws : List Jvm.Cond) (o0 : Addr) (h0 : Heap) (n0 : Nat) (Z0 : n0 ≤ h0.size)  :
    Con l Z (⟨"java/util/ImmutableCollections$AbstractImmutableCollection", "<init>", "()V"⟩ : MethodName) jdk_47_method_1_code 1 none ws ({ frames := 2, cells := 0, slots := 0, locals := 24 } : Room) #[(.ref o0)] h0 0 0 (Q27 Z o0 h0 n0) := by
  refine MetFree.of_bodySF (plainFor_of_name pn_8) hisR ?_
  intro p e s m args below meth c s₁ Bd hml0 hP hK
  obtain ⟨rfl, hZ, hh⟩ := hP
  have hx := Bd.exec
  have hby := Bd.bytes
  have hml : c.maxLocals = 1 := hml0
  have hown : s.vm.findClass "java/util/ImmutableCollections$AbstractImmutableCollection" = some m.cls := findClass_of_methodNamed Bd.named
  have hnm := (name_of_methodNamed Bd.named Bd.method).1
  have X0 : Stand p l e ({ frames := 2, cells := 0, slots := 0, locals := 24 } : Room) s m #[(.ref o0)] below meth c s₁ [] 0 0 := Stand.of_body Bd
  have e0 : s₁.heap = h0 := by rw [← hh, Bd.state]; rfl
  have N0 := Fr.nil n0
  refine Go.of ?_
  refine Go.st (S' := s₁.setTop (mkF m 0 #[.val (.ref o0)] [])) (fun t k => castTop (ef_27 m o0) k) ?_
  refine Go.st (S' := s₁.setTop (mkF m 1 #[.val (.ref o0)] [(.ref o0)])) (fun t k => XS.aloadN X0.here hx rfl (hb hby djdk_47_method_1_code_0) rfl rfl k) ?_
  obtain ⟨r564, T564, L564, X564, hQ564, st564⟩ := own_callI (W := 0) (a := o0) X0 hx hZ e0 hown (y := (⟨"java/util/AbstractCollection", "<init>", "()V"⟩ : MethodName)) rfl (hw _ (List.mem_of_getElem? (i := 173) rfl)) (hw _ (List.mem_of_getElem? (i := 48) rfl)) (hw _ (List.mem_of_getElem? (i := 51) rfl)) (hw _ (List.mem_of_getElem? (i := 52) rfl)) (by decide) (rm11 l Z a0 hw [] o0 h0 n0 Z0 ) (by decide) (by decide) (by decide) (by decide) (g := (mkF m 1 #[.val (.ref o0)] [(.ref o0)])) rfl (by rw [hml]; rfl) (argsL := []) (rest := []) rfl (lenOf pd_10 rfl) rfl (by show 2 * 0 + _ ≤ _; exact Nat.le_of_eq rfl) (hb hby djdk_47_method_1_code_1)
  obtain ⟨rfl, N564, e564⟩ := hQ564
  have N564_ := Fr.app N0 N564
  refine Go.st (S' := T564.setTop (mkF m 4 #[.val (.ref o0)] [])) st564 ?_
  exact Go.ret X564 (v := none) (fun _ => rfl) Bd.notSynchronized (fun fs hr => X564.returnOut hx Bd.returns (hb hby djdk_47_method_1_code_4) hr) (by decide) (by decide) (⟨rfl, N564_, (e564)⟩)
theorem ef_28 (m : MethodId) (o0 : Addr) : entryFrame m #[(.ref o0)] 1 = mkF m 0 #[.val (.ref o0)] [] := by first | (simp [entryFrame, mkF, argsToLocals, Value.category, maxLocals]; done) | rfl
def Q28 (Z : State) (o0 : Addr) (h0 : Heap) (n0 : Nat) (v : Option Value) (h : Heap) (L : List Loc) : Prop := (v = none ∧ Fr n0 L ∧ h = h0)
set_option maxRecDepth 65536 in
set_option maxHeartbeats 40000000 in
theorem rm28 (l : Launch) (Z : State) (a0 : Array Value) (hw : ∀ d ∈ tables_1, d.before a0 Z = true) (ws : List Jvm.Cond) (o0 : Addr) (h0 : Heap) (n0 : Nat) (Z0 : n0 ≤ h0.size)  :
    Con l Z (⟨"java/util/ImmutableCollections$AbstractImmutableList", "<init>", "()V"⟩ : MethodName) jdk_46_method_1_code 1 none ws ({ frames := 3, cells := 0, slots := 0, locals := 36 } : Room) #[(.ref o0)] h0 0 0 (Q28 Z o0 h0 n0) := by
  refine MetFree.of_bodySF (plainFor_of_name pn_9) hisR ?_
  intro p e s m args below meth c s₁ Bd hml0 hP hK
  obtain ⟨rfl, hZ, hh⟩ := hP
  have hx := Bd.exec
  have hby := Bd.bytes
  have hml : c.maxLocals = 1 := hml0
  have hown : s.vm.findClass "java/util/ImmutableCollections$AbstractImmutableList" = some m.cls := findClass_of_methodNamed Bd.named
  have hnm := (name_of_methodNamed Bd.named Bd.method).1
  have X0 : Stand p l e ({ frames := 3, cells := 0, slots := 0, locals := 36 } : Room) s m #[(.ref o0)] below meth c s₁ [] 0 0 := Stand.of_body Bd
  have e0 : s₁.heap = h0 := by rw [← hh, Bd.state]; rfl
  have N0 := Fr.nil n0
  refine Go.of ?_
  refine Go.st (S' := s₁.setTop (mkF m 0 #[.val (.ref o0)] [])) (fun t k => castTop (ef_28 m o0) k) ?_
  refine Go.st (S' := s₁.setTop (mkF m 1 #[.val (.ref o0)] [(.ref o0)])) (fun t k => XS.aloadN X0.here hx rfl (hb hby djdk_46_method_1_code_0) rfl rfl k) ?_
  obtain ⟨r565, T565, L565, X565, hQ565, st565⟩ := own_callI (W := 0) (a := o0) X0 hx hZ e0 hown (y := (⟨"java/util/ImmutableCollections$AbstractImmutableCollection", "<init>", "()V"⟩ : MethodName)) rfl (hw _ (List.mem_of_getElem? (i := 167) rfl)) (hw _ (List.mem_of_getElem? (i := 168) rfl)) (hw _ (List.mem_of_getElem? (i := 171) rfl)) (hw _ (List.mem_of_getElem? (i := 172) rfl)) (by decide) (rm27 l Z a0 hw [] o0 h0 n0 Z0 ) (by decide) (by decide) (by decide) (by decide) (g := (mkF m 1 #[.val (.ref o0)] [(.ref o0)])) rfl (by rw [hml]; rfl) (argsL := []) (rest := []) rfl (lenOf pd_10 rfl) rfl (by show 2 * 0 + _ ≤ _; exact Nat.le_of_eq rfl) (hb hby djdk_46_method_1_code_1)
  obtain ⟨rfl, N565, e565⟩ := hQ565
  have N565_ := Fr.app N0 N565
  refine Go.st (S' := T565.setTop (mkF m 4 #[.val (.ref o0)] [])) st565 ?_
  exact Go.ret X565 (v := none) (fun _ => rfl) Bd.notSynchronized (fun fs hr => X565.returnOut hx Bd.returns (hb hby djdk_46_method_1_code_4) hr) (by decide) (by decide) (⟨rfl, N565_, (e565)⟩)
theorem ef_29 (m : MethodId) (o0 : Addr) : entryFrame m #[(.ref o0)] 1 = mkF m 0 #[.val (.ref o0)] [] := by first | (simp [entryFrame, mkF, argsToLocals, Value.category, maxLocals]; done) | rfl
def Q29 (Z : State) (o0 : Addr) (h0 : Heap) (n0 : Nat) (v : Option Value) (h : Heap) (L : List Loc) : Prop := (v = some (.ref o0) ∧ Fr n0 L ∧ h = h0)
set_option maxRecDepth 65536 in
set_option maxHeartbeats 40000000 in
theorem rm29 (l : Launch) (Z : State) (a0 : Array Value) (hw : ∀ d ∈ tables_1, d.before a0 Z = true) (ws : List Jvm.Cond) (o0 : Addr) (h0 : Heap) (n0 : Nat) (Z0 : n0 ≤ h0.size)  :
    Con l Z (⟨"java/util/Objects", "requireNonNull", "(Ljava/lang/Object;)Ljava/lang/Object;"⟩ : MethodName) jdk_31_method_10_code 1 (some (.object "java/lang/Object")) ws ({ frames := 0, cells := 0, slots := 0, locals := 0 } : Room) #[(.ref o0)] h0 0 0 (Q29 Z o0 h0 n0) := by
  refine MetFree.of_bodySF (plainFor_of_name pn_10) hisR ?_
  intro p e s m args below meth c s₁ Bd hml0 hP hK
  obtain ⟨rfl, hZ, hh⟩ := hP
  have hx := Bd.exec
  have hby := Bd.bytes
  have hml : c.maxLocals = 1 := hml0
  have hown : s.vm.findClass "java/util/Objects" = some m.cls := findClass_of_methodNamed Bd.named
  have hnm := (name_of_methodNamed Bd.named Bd.method).1
  have X0 : Stand p l e ({ frames := 0, cells := 0, slots := 0, locals := 0 } : Room) s m #[(.ref o0)] below meth c s₁ [] 0 0 := Stand.of_body Bd
  have e0 : s₁.heap = h0 := by rw [← hh, Bd.state]; rfl
  have N0 := Fr.nil n0
  refine Go.of ?_
  refine Go.st (S' := s₁.setTop (mkF m 0 #[.val (.ref o0)] [])) (fun t k => castTop (ef_29 m o0) k) ?_
  refine Go.st (S' := s₁.setTop (mkF m 1 #[.val (.ref o0)] [(.ref o0)])) (fun t k => XS.aloadN X0.here hx rfl (hb hby djdk_31_method_10_code_0) rfl rfl k) ?_
  refine Go.st (S' := s₁.setTop (mkF m 12 #[.val (.ref o0)] [])) (fun t k => XS.ifnonnullYes X0.here hx rfl (pc0 := 1) (pc' := 12) rfl (hb hby djdk_31_method_10_code_1) rfl (by decide) (by decide) k) ?_
  refine Go.st (S' := s₁.setTop (mkF m 13 #[.val (.ref o0)] [(.ref o0)])) (fun t k => XS.aloadN X0.here hx rfl (hb hby djdk_31_method_10_code_12) rfl rfl k) ?_
  exact Go.ret X0 (v := some (.ref o0)) (fun h => by rw [Bd.returns] at h; cases h) Bd.notSynchronized (fun fs hr => retOut X0 hx Bd.returns rfl (Or.inr (Or.inr (Or.inr (Or.inr ⟨rfl, rfl, rfl⟩)))) (hb hby djdk_31_method_10_code_13) hr) (by decide) (by decide) (⟨rfl, N0, (e0)⟩)
theorem ef_30 (m : MethodId) (o0 : Addr) (o1 : Addr) : entryFrame m #[(.ref o0), (.ref o1)] 2 = mkF m 0 #[.val (.ref o0), .val (.ref o1)] [] := by first | (simp [entryFrame, mkF, argsToLocals, Value.category, maxLocals]; done) | rfl
def Q30 (Z : State) (o0 : Addr) (o1 : Addr) (u_o0_e0 : Value) (s_ImmutableCollections_EMPTY : Addr) (u_o0_e1 : Value) (h0 : Heap) (n0 : Nat) (v : Option Value) (h : Heap) (L : List Loc) : Prop := (v = none ∧ Fr n0 L ∧ Keep h0 h [o0] ∧ Exa Z h o0 "java/util/ImmutableCollections$List12" ∧ Fld Z h o0 "java/util/ImmutableCollections$List12" "e0" "Ljava/lang/Object;" (.ref o1) ∧ Fld Z h o0 "java/util/ImmutableCollections$List12" "e1" "Ljava/lang/Object;" (.ref s_ImmutableCollections_EMPTY))
set_option maxRecDepth 65536 in
set_option maxHeartbeats 40000000 in
theorem rm30 (l : Launch) (Z : State) (a0 : Array Value) (hw : ∀ d ∈ tables_1, d.before a0 Z = true) (ws : List Jvm.Cond) (o0 : Addr) (o1 : Addr) (u_o0_e0 : Value) (s_ImmutableCollections_EMPTY : Addr) (u_o0_e1 : Value) (h0 : Heap) (n0 : Nat) (Z0 : n0 ≤ h0.size) (E_o0 : Exa Z h0 o0 "java/util/ImmutableCollections$List12") (F_o0_e0 : Fld Z h0 o0 "java/util/ImmutableCollections$List12" "e0" "Ljava/lang/Object;" u_o0_e0) (g_o0 : n0 ≤ o0) (S_s_ImmutableCollections_EMPTY : Sta Z h0 "java/util/ImmutableCollections" "EMPTY" "Ljava/lang/Object;" (.ref s_ImmutableCollections_EMPTY)) (F_o0_e1 : Fld Z h0 o0 "java/util/ImmutableCollections$List12" "e1" "Ljava/lang/Object;" u_o0_e1) :
    Con l Z (⟨"java/util/ImmutableCollections$List12", "<init>", "(Ljava/lang/Object;)V"⟩ : MethodName) jdk_44_method_1_code 2 none ws ({ frames := 4, cells := 0, slots := 0, locals := 48 } : Room) #[(.ref o0), (.ref o1)] h0 0 0 (Q30 Z o0 o1 u_o0_e0 s_ImmutableCollections_EMPTY u_o0_e1 h0 n0) := by
  refine MetFree.of_bodySF (plainFor_of_name pn_11) hisR ?_
  intro p e s m args below meth c s₁ Bd hml0 hP hK
  obtain ⟨rfl, hZ, hh⟩ := hP
  have hx := Bd.exec
  have hby := Bd.bytes
  have hml : c.maxLocals = 2 := hml0
  have hown : s.vm.findClass "java/util/ImmutableCollections$List12" = some m.cls := findClass_of_methodNamed Bd.named
  have hnm := (name_of_methodNamed Bd.named Bd.method).1
  have X0 : Stand p l e ({ frames := 4, cells := 0, slots := 0, locals := 48 } : Room) s m #[(.ref o0), (.ref o1)] below meth c s₁ [] 0 0 := Stand.of_body Bd
  have e0 : s₁.heap = h0 := by rw [← hh, Bd.state]; rfl
  have N0 := Fr.nil n0
  refine Go.of ?_
  refine Go.st (S' := s₁.setTop (mkF m 0 #[.val (.ref o0), .val (.ref o1)] [])) (fun t k => castTop (ef_30 m o0 o1) k) ?_
  refine Go.st (S' := s₁.setTop (mkF m 1 #[.val (.ref o0), .val (.ref o1)] [(.ref o0)])) (fun t k => XS.aloadN X0.here hx rfl (hb hby djdk_44_method_1_code_0) rfl rfl k) ?_
  obtain ⟨r566, T566, L566, X566, hQ566, st566⟩ := own_callI (W := 0) (a := o0) X0 hx hZ e0 hown (y := (⟨"java/util/ImmutableCollections$AbstractImmutableList", "<init>", "()V"⟩ : MethodName)) rfl (hw _ (List.mem_of_getElem? (i := 161) rfl)) (hw _ (List.mem_of_getElem? (i := 162) rfl)) (hw _ (List.mem_of_getElem? (i := 165) rfl)) (hw _ (List.mem_of_getElem? (i := 166) rfl)) (by decide) (rm28 l Z a0 hw [] o0 h0 n0 Z0 ) (by decide) (by decide) (by decide) (by decide) (g := (mkF m 1 #[.val (.ref o0), .val (.ref o1)] [(.ref o0)])) rfl (by rw [hml]; rfl) (argsL := []) (rest := []) rfl (lenOf pd_10 rfl) rfl (by show 2 * 0 + _ ≤ _; exact Nat.le_of_eq rfl) (hb hby djdk_44_method_1_code_1)
  obtain ⟨rfl, N566, e566⟩ := hQ566
  have N566_ := Fr.app N0 N566
  refine Go.st (S' := T566.setTop (mkF m 4 #[.val (.ref o0), .val (.ref o1)] [])) st566 ?_
  refine Go.st (S' := T566.setTop (mkF m 5 #[.val (.ref o0), .val (.ref o1)] [(.ref o0)])) (fun t k => XS.aloadN X566.here hx rfl (hb hby djdk_44_method_1_code_4) rfl rfl k) ?_
  refine Go.st (S' := T566.setTop (mkF m 6 #[.val (.ref o0), .val (.ref o1)] [(.ref o1), (.ref o0)])) (fun t k => XS.aloadN X566.here hx rfl (hb hby djdk_44_method_1_code_5) rfl rfl k) ?_
  obtain ⟨r567, T567, L567, X567, hQ567, st567⟩ := own_callS (W := 1) X566 hx hZ e566 hown (y := (⟨"java/util/Objects", "requireNonNull", "(Ljava/lang/Object;)Ljava/lang/Object;"⟩ : MethodName)) (hw _ (List.mem_of_getElem? (i := 175) rfl)) (hw _ (List.mem_of_getElem? (i := 176) rfl)) (hw _ (List.mem_of_getElem? (i := 177) rfl)) (hw _ (List.mem_of_getElem? (i := 178) rfl)) (by decide) (rm29 l Z a0 hw [] o1 h0 n0 Z0 ) (by decide) (by decide) (by decide) (by decide) (g := (mkF m 6 #[.val (.ref o0), .val (.ref o1)] [(.ref o1), (.ref o0)])) rfl (by rw [hml]; rfl) (argsL := [(.ref o1)]) (rest := [(.ref o0)]) rfl (lenOf pd_19 rfl) rfl (by show 2 * 0 + _ ≤ _; exact Nat.le_of_eq rfl) (hb hby djdk_44_method_1_code_6)
  obtain ⟨rfl, N567, e567⟩ := hQ567
  have N567_ := Fr.app N566_ N567
  refine Go.st (S' := T567.setTop (mkF m 9 #[.val (.ref o0), .val (.ref o1)] [(.ref o1), (.ref o0)])) st567 ?_
  obtain ⟨T568, h568, X568, e568, W568, st568⟩ := putF X567 hx hZ hown (host := "") (Or.inl (hw _ (List.mem_of_getElem? (i := 179) rfl))) Via.refl e567 F_o0_e0 E_o0 (Or.inr ⟨(hw _ (List.mem_of_getElem? (i := 180) rfl)), rfl, hnm⟩) (hw _ (List.mem_of_getElem? (i := 155) rfl)) (ty := (.object "java/lang/Object")) (by decide) rfl rfl (g := (mkF m 9 #[.val (.ref o0), .val (.ref o1)] [(.ref o1), (.ref o0)])) rfl rfl (hb hby djdk_44_method_1_code_9)
  have Fw568 := (F_o0_e0).same W568
  have N568 := Fr.snoc X568 N567_ g_o0
  have Z569 : n0 ≤ h568.size := Nat.le_trans Z0 (Keep.of_wr W568).1
  have K569 : Keep h0 h568 [o0] := (Keep.refl h0 [o0]).wr W568 (Or.inl (by simp))
  refine Go.st (S' := T568.setTop (mkF m 12 #[.val (.ref o0), .val (.ref o1)] [])) st568 ?_
  refine Go.st (S' := T568.setTop (mkF m 13 #[.val (.ref o0), .val (.ref o1)] [(.ref o0)])) (fun t k => XS.aloadN X568.here hx rfl (hb hby djdk_44_method_1_code_12) rfl rfl k) ?_
  have f570 := (Sta.wr W568 (S_s_ImmutableCollections_EMPTY))
  obtain ⟨T571, X571, e571, st571⟩ := getS2 X568 hx hZ hown (Or.inr (hw _ (List.mem_of_getElem? (i := 219) rfl))) Via.refl e568 f570 (g := (mkF m 13 #[.val (.ref o0), .val (.ref o1)] [(.ref o0)])) rfl (hb hby djdk_44_method_1_code_13)
  refine Go.st (S' := T571.setTop (mkF m 16 #[.val (.ref o0), .val (.ref o1)] [(.ref s_ImmutableCollections_EMPTY), (.ref o0)])) st571 ?_
  have f572 := ((E_o0).wr W568)
  have f573 := ((F_o0_e1).other W568 (Or.inr (slot_ne (Or.inr (hw _ (List.mem_of_getElem? (i := 182) rfl))) (Or.inr (hw _ (List.mem_of_getElem? (i := 180) rfl))) (by decide) (t := (.object "java/lang/Object")) (t' := (.object "java/lang/Object")) (by decide) (by decide))))
  obtain ⟨T574, h574, X574, e574, W574, st574⟩ := putF X571 hx hZ hown (host := "") (Or.inl (hw _ (List.mem_of_getElem? (i := 181) rfl))) Via.refl e571 f573 f572 (Or.inr ⟨(hw _ (List.mem_of_getElem? (i := 182) rfl)), rfl, hnm⟩) (hw _ (List.mem_of_getElem? (i := 155) rfl)) (ty := (.object "java/lang/Object")) (by decide) rfl rfl (g := (mkF m 16 #[.val (.ref o0), .val (.ref o1)] [(.ref s_ImmutableCollections_EMPTY), (.ref o0)])) rfl rfl (hb hby djdk_44_method_1_code_16)
  have Fw574 := (f573).same W574
  have N574 := Fr.snoc X574 N568 g_o0
  have Z575 : n0 ≤ h574.size := Nat.le_trans Z569 (Keep.of_wr W574).1
  have K575 : Keep h0 h574 [o0] := K569.wr W574 (Or.inl (by simp))
  refine Go.st (S' := T574.setTop (mkF m 19 #[.val (.ref o0), .val (.ref o1)] [])) st574 ?_
  have f576 := ((f572).wr W574)
  have f577 := ((Fw568).other W574 (Or.inr (slot_ne (Or.inr (hw _ (List.mem_of_getElem? (i := 180) rfl))) (Or.inr (hw _ (List.mem_of_getElem? (i := 182) rfl))) (by decide) (t := (.object "java/lang/Object")) (t' := (.object "java/lang/Object")) (by decide) (by decide))))
  exact Go.ret X574 (v := none) (fun _ => rfl) Bd.notSynchronized (fun fs hr => X574.returnOut hx Bd.returns (hb hby djdk_44_method_1_code_19) hr) (by decide) (by decide) (by rw [e574]; exact ⟨rfl, N574, K575, f576, f577, Fw574⟩)
theorem ef_31 (m : MethodId) (o0 : Addr) : entryFrame m #[(.ref o0)] 2 = mkF m 0 #[.val (.ref o0), .unset] [] := by first | (simp [entryFrame, mkF, argsToLocals, Value.category, maxLocals]; done) | rfl
def Q31 (Z : State) (o0 : Addr) (k_o0 : ClassId) (o_1 : Addr) (s_ImmutableCollections_EMPTY : Addr) (h0 : Heap) (n0 : Nat) (v : Option Value) (h : Heap) (L : List Loc) : Prop := (∃ (b560 : Addr), v = some (.ref b560) ∧ Fr n0 L ∧ Keep h0 h [] ∧ h0.size ≤ b560 ∧ Exa Z h b560 "java/util/ImmutableCollections$List12" ∧ Fld Z h b560 "java/util/ImmutableCollections$List12" "e0" "Ljava/lang/Object;" (.ref o_1) ∧ Fld Z h b560 "java/util/ImmutableCollections$List12" "e1" "Ljava/lang/Object;" (.ref s_ImmutableCollections_EMPTY))
set_option maxRecDepth 65536 in
set_option maxHeartbeats 40000000 in
theorem rm31 (l : Launch) (Z : State) (a0 : Array Value) (hw : ∀ d ∈ tables_1, d.before a0 Z = true) (ws : List Jvm.Cond) (o0 : Addr) (k_o0 : ClassId) (o_1 : Addr) (s_ImmutableCollections_EMPTY : Addr) (h0 : Heap) (n0 : Nat) (Z0 : n0 ≤ h0.size) (V_o0 : Arv Z h0 o0 k_o0 (.object "java/lang/Object") (1 : Int32) [(.ref o_1)] .null) (S_s_ImmutableCollections_EMPTY : Sta Z h0 "java/util/ImmutableCollections" "EMPTY" "Ljava/lang/Object;" (.ref s_ImmutableCollections_EMPTY)) :
    Con l Z (⟨"java/util/List", "of", "([Ljava/lang/Object;)Ljava/util/List;"⟩ : MethodName) jdk_40_method_47_code 2 (some (.object "java/util/List")) ws ({ frames := 5, cells := 1, slots := 2, locals := 62 } : Room) #[(.ref o0)] h0 1 2 (Q31 Z o0 k_o0 o_1 s_ImmutableCollections_EMPTY h0 n0) := by
  refine MetFree.of_bodySF (plainFor_of_name pn_12) hisR ?_
  intro p e s m args below meth c s₁ Bd hml0 hP hK
  obtain ⟨rfl, hZ, hh⟩ := hP
  have hx := Bd.exec
  have hby := Bd.bytes
  have hml : c.maxLocals = 2 := hml0
  have hown : s.vm.findClass "java/util/List" = some m.cls := findClass_of_methodNamed Bd.named
  have hnm := (name_of_methodNamed Bd.named Bd.method).1
  have X0 : Stand p l e ({ frames := 5, cells := 1, slots := 2, locals := 62 } : Room) s m #[(.ref o0)] below meth c s₁ [] 0 0 := Stand.of_body Bd
  have e0 : s₁.heap = h0 := by rw [← hh, Bd.state]; rfl
  have N0 := Fr.nil n0
  refine Go.of ?_
  refine Go.st (S' := s₁.setTop (mkF m 0 #[.val (.ref o0), .unset] [])) (fun t k => castTop (ef_31 m o0) k) ?_
  refine Go.st (S' := s₁.setTop (mkF m 1 #[.val (.ref o0), .unset] [(.ref o0)])) (fun t k => XS.aloadN X0.here hx rfl (hb hby djdk_40_method_47_code_0) rfl rfl k) ?_
  obtain ⟨cl558, Ar558, -, S558, N558_, -, -⟩ := id V_o0
  refine Go.op (F := fun z => s₁.setTop (mkF m 2 #[.val (.ref o0), .unset] [(.int z)])) (x := cl558.slots.size.toInt32) (fun t k => X0.arraylength hx (own_eh e0 Ar558.1) (State.isArrayOf_alike hZ.alike Ar558.2.1) (g := (mkF m 1 #[.val (.ref o0), .unset] [(.ref o0)])) rfl rfl (hb hby djdk_40_method_47_code_1) t k) ?_
  intro v559 hv559
  obtain rfl : (1 : Int32) = v559 := (hv559.trans (len_of S558 N558_)).symm
  refine Go.st (S' := s₁.setTop (mkF m 34 #[.val (.ref o0), .unset] [])) (fun t k => XS.tswIn X0.here hx rfl (pc0 := 2) (pc' := 34) (o := 32) rfl (hb hby djdk_40_method_47_code_2) rfl (by decide) (by decide) (by decide) (by decide) k) ?_
  obtain ⟨T560, h560, X560, e560, E560, A560, D560, -, st560⟩ := newO X0 hx hZ hown (hw _ (List.mem_of_getElem? (i := 154) rfl)) (hw _ (List.mem_of_getElem? (i := 155) rfl)) (hw _ (List.mem_of_getElem? (i := 156) rfl)) e0 (g := (mkF m 34 #[.val (.ref o0), .unset] [])) rfl (hb hby djdk_40_method_47_code_34) (by decide) (by decide)
  obtain ⟨b560, gg560⟩ : ∃ z, z = h0.size := ⟨_, rfl⟩
  rw [← gg560] at A560 D560 st560
  have g_b560 : n0 ≤ b560 := Nat.le_trans Z0 (Nat.le_of_eq gg560.symm)
  have sz_b560 : h0.size ≤ b560 := Nat.le_trans (Keep.refl h0 []).1 (Nat.le_of_eq gg560.symm)
  have Z561 : n0 ≤ h560.size := Nat.le_trans Z0 E560.1
  have K561 : Keep h0 h560 [] := (Keep.refl h0 []).ext E560
  have Fb560_e0 : Fld Z h560 b560 "java/util/ImmutableCollections$List12" "e0" "Ljava/lang/Object;" .null := D560 (Or.inr (hw _ (List.mem_of_getElem? (i := 180) rfl))) (ty := (.object "java/lang/Object")) (by decide)
  have Fb560_e1 : Fld Z h560 b560 "java/util/ImmutableCollections$List12" "e1" "Ljava/lang/Object;" .null := D560 (Or.inr (hw _ (List.mem_of_getElem? (i := 182) rfl))) (ty := (.object "java/lang/Object")) (by decide)
  refine Go.st (S' := T560.setTop (mkF m 37 #[.val (.ref o0), .unset] [(.ref b560)])) st560 ?_
  refine Go.st (S' := T560.setTop (mkF m 38 #[.val (.ref o0), .unset] [(.ref b560), (.ref b560)])) (fun t k => XS.dup X560.here hx rfl (hb hby djdk_40_method_47_code_37) rfl rfl k) ?_
  refine Go.st (S' := T560.setTop (mkF m 39 #[.val (.ref o0), .unset] [(.ref o0), (.ref b560), (.ref b560)])) (fun t k => XS.aloadN X560.here hx rfl (hb hby djdk_40_method_47_code_38) rfl rfl k) ?_
  refine Go.st (S' := T560.setTop (mkF m 40 #[.val (.ref o0), .unset] [(.int (0 : Int32)), (.ref o0), (.ref b560), (.ref b560)])) (fun t k => XS.iconst X560.here hx rfl (hb hby djdk_40_method_47_code_39) k) ?_
  have f562 := ((V_o0).ext E560)
  obtain ⟨cl563, Ar563, -, S563, N563_, H563, -⟩ := id f562
  have hin563 : ¬ ((0 : Int32) < 0 ∨ cl563.slots.size ≤ ((0 : Int32)).toNatClampNeg) := inb_of S563 ⟨by decide, by decide⟩
  have hat563 : cl563.slots[((0 : Int32)).toNatClampNeg]? = some (.ref o_1) := Has.at H563 hin563 rfl
  refine Go.st (S' := T560.setTop (mkF m 41 #[.val (.ref o0), .unset] [(.ref o_1), (.ref b560), (.ref b560)])) (fun t k => X560.aaload hx (j := (0 : Int32)) (v := (.ref o_1)) (own_eh e560 Ar563.1) (State.isArrayOf_alike hZ.alike Ar563.2.1) rfl Ar563.2.2 hin563 hat563 (g := (mkF m 40 #[.val (.ref o0), .unset] [(.int (0 : Int32)), (.ref o0), (.ref b560), (.ref b560)])) rfl rfl (hb hby djdk_40_method_47_code_40) t k) ?_
  have f578 := (Sta.ext E560 (S_s_ImmutableCollections_EMPTY))
  obtain ⟨r579, T579, L579, X579, hQ579, st579⟩ := own_callI (W := 1) (a := b560) X560 hx hZ e560 hown (y := (⟨"java/util/ImmutableCollections$List12", "<init>", "(Ljava/lang/Object;)V"⟩ : MethodName)) rfl (hw _ (List.mem_of_getElem? (i := 216) rfl)) (hw _ (List.mem_of_getElem? (i := 217) rfl)) (hw _ (List.mem_of_getElem? (i := 156) rfl)) (hw _ (List.mem_of_getElem? (i := 218) rfl)) (by decide) (rm30 l Z a0 hw [] b560 o_1 (.null) s_ImmutableCollections_EMPTY (.null) h560 n0 Z561 (A560) (Fb560_e0) (g_b560) (f578) (Fb560_e1)) (by decide) (by decide) (by decide) (by decide) (g := (mkF m 41 #[.val (.ref o0), .unset] [(.ref o_1), (.ref b560), (.ref b560)])) rfl (by rw [hml]; rfl) (argsL := [(.ref o_1)]) (rest := [(.ref b560)]) rfl (lenOf pd_20 rfl) rfl (by show 2 * 0 + _ ≤ _; exact Nat.le_of_eq rfl) (hb hby djdk_40_method_47_code_41)
  obtain ⟨rfl, N579, K579_, f580, f581, f582⟩ := hQ579
  have N579_ := Fr.app N0 N579
  have Z583 : n0 ≤ T579.heap.size := Nat.le_trans Z561 K579_.1
  have K583 : Keep h0 T579.heap [] := K561.trans K579_ (allS (Or.inr sz_b560) all0)
  refine Go.st (S' := T579.setTop (mkF m 44 #[.val (.ref o0), .unset] [(.ref b560)])) st579 ?_
  exact Go.ret X579 (v := some (.ref b560)) (fun h => by rw [Bd.returns] at h; cases h) Bd.notSynchronized (fun fs hr => retOut X579 hx Bd.returns rfl (Or.inr (Or.inr (Or.inr (Or.inr ⟨rfl, rfl, rfl⟩)))) (hb hby djdk_40_method_47_code_44) hr) (by decide) (by decide) (⟨b560, rfl, N579_, K583, sz_b560, f580, f581, f582⟩)
theorem ef_32 (m : MethodId) (o0 : Addr) : entryFrame m #[(.ref o0)] 2 = mkF m 0 #[.val (.ref o0), .unset] [] := by first | (simp [entryFrame, mkF, argsToLocals, Value.category, maxLocals]; done) | rfl
def Q32 (Z : State) (o0 : Addr) (o_1 : Addr) (k_o_1 : ClassId) (o_2 : Addr) (s_mir__Ljava_lang_Object_ : Addr) (s_ImmutableCollections_EMPTY : Addr) (h0 : Heap) (n0 : Nat) (v : Option Value) (h : Heap) (L : List Loc) : Prop := (∃ (b552 : Addr) (b586 : Addr) (k553 : ClassId), v = some (.ref b586) ∧ Fr n0 L ∧ Keep h0 h [] ∧ h0.size ≤ b552 ∧ h0.size ≤ b586 ∧ Arv Z h b552 k553 (.object "java/lang/Object") (1 : Int32) [(.ref o_2)] .null ∧ Ovr Z k553 "java/lang/Object" ∧ Exa Z h b552 "[Ljava/lang/Object;" ∧ Exa Z h b586 "java/util/ImmutableCollections$List12" ∧ Fld Z h b586 "java/util/ImmutableCollections$List12" "e0" "Ljava/lang/Object;" (.ref o_2) ∧ Fld Z h b586 "java/util/ImmutableCollections$List12" "e1" "Ljava/lang/Object;" (.ref s_ImmutableCollections_EMPTY) ∧ b552 < b586)
set_option maxRecDepth 65536 in
set_option maxHeartbeats 40000000 in
theorem rm32 (l : Launch) (Z : State) (a0 : Array Value) (hw : ∀ d ∈ tables_1, d.before a0 Z = true) (ws : List Jvm.Cond) (o0 : Addr) (o_1 : Addr) (k_o_1 : ClassId) (o_2 : Addr) (s_mir__Ljava_lang_Object_ : Addr) (s_ImmutableCollections_EMPTY : Addr) (h0 : Heap) (n0 : Nat) (Z0 : n0 ≤ h0.size) (E_o0 : Exa Z h0 o0 "java/util/ArrayList") (F_o0_size : Fld Z h0 o0 "java/util/ArrayList" "size" "I" (.int (1 : Int32))) (F_o0_elementData : Fld Z h0 o0 "java/util/ArrayList" "elementData" "[Ljava/lang/Object;" (.ref o_1)) (E_o_1 : Exa Z h0 o_1 "[Ljava/lang/Object;") (V_o_1 : Arv Z h0 o_1 k_o_1 (.object "java/lang/Object") (10 : Int32) [(.ref o_2), .null, .null, .null, .null, .null, .null, .null, .null, .null] .null) (E_o_2 : Exa Z h0 o_2 "java/lang/String") (M_s_mir__Ljava_lang_Object_ : Mir Z "[Ljava/lang/Object;" s_mir__Ljava_lang_Object_) (S_s_ImmutableCollections_EMPTY : Sta Z h0 "java/util/ImmutableCollections" "EMPTY" "Ljava/lang/Object;" (.ref s_ImmutableCollections_EMPTY)) :
    Con l Z (⟨"java/util/ImmutableCollections", "listCopy", "(Ljava/util/Collection;)Ljava/util/List;"⟩ : MethodName) jdk_56_method_3_code 2 (some (.object "java/util/List")) ws ({ frames := 6, cells := 2, slots := 3, locals := 80 } : Room) #[(.ref o0)] h0 2 3 (Q32 Z o0 o_1 k_o_1 o_2 s_mir__Ljava_lang_Object_ s_ImmutableCollections_EMPTY h0 n0) := by
  refine MetFree.of_bodySF (plainFor_of_name pn_13) hisR ?_
  intro p e s m args below meth c s₁ Bd hml0 hP hK
  obtain ⟨rfl, hZ, hh⟩ := hP
  have hx := Bd.exec
  have hby := Bd.bytes
  have hml : c.maxLocals = 2 := hml0
  have hown : s.vm.findClass "java/util/ImmutableCollections" = some m.cls := findClass_of_methodNamed Bd.named
  have hnm := (name_of_methodNamed Bd.named Bd.method).1
  have X0 : Stand p l e ({ frames := 6, cells := 2, slots := 3, locals := 80 } : Room) s m #[(.ref o0)] below meth c s₁ [] 0 0 := Stand.of_body Bd
  have e0 : s₁.heap = h0 := by rw [← hh, Bd.state]; rfl
  have N0 := Fr.nil n0
  refine Go.of ?_
  refine Go.st (S' := s₁.setTop (mkF m 0 #[.val (.ref o0), .unset] [])) (fun t k => castTop (ef_32 m o0) k) ?_
  refine Go.st (S' := s₁.setTop (mkF m 1 #[.val (.ref o0), .unset] [(.ref o0)])) (fun t k => XS.aloadN X0.here hx rfl (hb hby djdk_56_method_3_code_0) rfl rfl k) ?_
  obtain ⟨T512, X512, e512, st512⟩ := instNo X0 hx hZ hown (hw _ (List.mem_of_getElem? (i := 106) rfl)) e0 E_o0 (own_ns_no (hw _ (List.mem_of_getElem? (i := 107) rfl)) (hw _ (List.mem_of_getElem? (i := 155) rfl)) (NS.step (hw _ (List.mem_of_getElem? (i := 107) rfl)) (NS.step (hw _ (List.mem_of_getElem? (i := 108) rfl)) (NS.step (hw _ (List.mem_of_getElem? (i := 109) rfl)) (own_ns_root (hw _ (List.mem_of_getElem? (i := 110) rfl)) (hw _ (List.mem_of_getElem? (i := 155) rfl)) (by decide)) (by decide)) (by decide)) (by decide)) (by decide)) (g := (mkF m 1 #[.val (.ref o0), .unset] [(.ref o0)])) rfl rfl (hb hby djdk_56_method_3_code_1)
  refine Go.st (S' := T512.setTop (mkF m 4 #[.val (.ref o0), .unset] [(.int (0 : Int32))])) st512 ?_
  refine Go.st (S' := T512.setTop (mkF m 7 #[.val (.ref o0), .unset] [])) (fun t k => XS.ifNo X512.here hx rfl (hb hby djdk_56_method_3_code_4) rfl ((if0 _ _).trans (teq (by decide : ((0 : Int32) = (0 : Int32)))).2) k) ?_
  refine Go.st (S' := T512.setTop (mkF m 8 #[.val (.ref o0), .unset] [(.ref o0)])) (fun t k => XS.aloadN X512.here hx rfl (hb hby djdk_56_method_3_code_7) rfl rfl k) ?_
  obtain ⟨T513, X513, e513, st513⟩ := instNo X512 hx hZ hown (hw _ (List.mem_of_getElem? (i := 111) rfl)) e512 E_o0 (own_ns_no (hw _ (List.mem_of_getElem? (i := 107) rfl)) (hw _ (List.mem_of_getElem? (i := 225) rfl)) (NS.step (hw _ (List.mem_of_getElem? (i := 107) rfl)) (NS.step (hw _ (List.mem_of_getElem? (i := 108) rfl)) (NS.step (hw _ (List.mem_of_getElem? (i := 109) rfl)) (own_ns_root (hw _ (List.mem_of_getElem? (i := 110) rfl)) (hw _ (List.mem_of_getElem? (i := 225) rfl)) (by decide)) (by decide)) (by decide)) (by decide)) (by decide)) (g := (mkF m 8 #[.val (.ref o0), .unset] [(.ref o0)])) rfl rfl (hb hby djdk_56_method_3_code_8)
  refine Go.st (S' := T513.setTop (mkF m 11 #[.val (.ref o0), .unset] [(.int (0 : Int32))])) st513 ?_
  refine Go.st (S' := T513.setTop (mkF m 31 #[.val (.ref o0), .unset] [])) (fun t k => XS.ifYes X513.here hx rfl (pc0 := 11) (pc' := 31) rfl (hb hby djdk_56_method_3_code_11) rfl ((if0 _ _).trans (teq (by decide : ((0 : Int32) = (0 : Int32)))).1) (by decide) (by decide) k) ?_
  refine Go.st (S' := T513.setTop (mkF m 32 #[.val (.ref o0), .unset] [(.ref o0)])) (fun t k => XS.aloadN X513.here hx rfl (hb hby djdk_56_method_3_code_31) rfl rfl k) ?_
  obtain ⟨r516, T516, L516, X516, hQ516, st516⟩ := own_callF (W := 0) (a := o0) (C := "java/util/ArrayList") X513 hx hZ e513 hown (xi := (⟨"java/util/Collection", "isEmpty", "()Z"⟩ : MethodName)) (y := (⟨"java/util/ArrayList", "isEmpty", "()Z"⟩ : MethodName)) (hw _ (List.mem_of_getElem? (i := 112) rfl)) (hw _ (List.mem_of_getElem? (i := 113) rfl)) (mvT hZ (hw _ (List.mem_of_getElem? (i := 114) rfl))) (hw _ (List.mem_of_getElem? (i := 115) rfl)) (hw _ (List.mem_of_getElem? (i := 116) rfl)) (hw _ (List.mem_of_getElem? (i := 117) rfl)) (hw _ (List.mem_of_getElem? (i := 118) rfl)) (hw _ (List.mem_of_getElem? (i := 119) rfl)) (hw _ (List.mem_of_getElem? (i := 37) rfl)) (hw _ (List.mem_of_getElem? (i := 120) rfl)) (by decide) (E_o0) (rm22 l Z a0 hw [] o0 h0 n0 Z0 (F_o0_size)) (by decide) (by decide) (by decide) (by decide) (g := (mkF m 32 #[.val (.ref o0), .unset] [(.ref o0)])) rfl (by rw [hml]; rfl) (argsL := []) (rest := []) rfl (lenOf pd_16 rfl) rfl (by show 2 * 0 + _ ≤ _; exact Nat.le_of_eq rfl) (hb hby djdk_56_method_3_code_32)
  obtain ⟨rfl, N516, e516⟩ := hQ516
  have N516_ := Fr.app N0 N516
  refine Go.st (S' := T516.setTop (mkF m 37 #[.val (.ref o0), .unset] [(.int (0 : Int32))])) st516 ?_
  refine Go.st (S' := T516.setTop (mkF m 44 #[.val (.ref o0), .unset] [])) (fun t k => XS.ifYes X516.here hx rfl (pc0 := 37) (pc' := 44) rfl (hb hby djdk_56_method_3_code_37) rfl ((if0 _ _).trans (teq (by decide : ((0 : Int32) = (0 : Int32)))).1) (by decide) (by decide) k) ?_
  refine Go.st (S' := T516.setTop (mkF m 45 #[.val (.ref o0), .unset] [(.ref o0)])) (fun t k => XS.aloadN X516.here hx rfl (hb hby djdk_56_method_3_code_44) rfl rfl k) ?_
  obtain ⟨r551, T551, L551, X551, hQ551, st551⟩ := own_callF (W := 0) (a := o0) (C := "java/util/ArrayList") X516 hx hZ e516 hown (xi := (⟨"java/util/Collection", "toArray", "()[Ljava/lang/Object;"⟩ : MethodName)) (y := (⟨"java/util/ArrayList", "toArray", "()[Ljava/lang/Object;"⟩ : MethodName)) (hw _ (List.mem_of_getElem? (i := 121) rfl)) (hw _ (List.mem_of_getElem? (i := 122) rfl)) (mvT hZ (hw _ (List.mem_of_getElem? (i := 123) rfl))) (hw _ (List.mem_of_getElem? (i := 124) rfl)) (hw _ (List.mem_of_getElem? (i := 125) rfl)) (hw _ (List.mem_of_getElem? (i := 126) rfl)) (hw _ (List.mem_of_getElem? (i := 127) rfl)) (hw _ (List.mem_of_getElem? (i := 119) rfl)) (hw _ (List.mem_of_getElem? (i := 37) rfl)) (hw _ (List.mem_of_getElem? (i := 128) rfl)) (by decide) (E_o0) (rm26 l Z a0 hw [] o0 o_1 k_o_1 o_2 s_mir__Ljava_lang_Object_ h0 n0 Z0 (F_o0_elementData) (F_o0_size) (E_o_1) (V_o_1) (E_o_2) (M_s_mir__Ljava_lang_Object_)) (by decide) (by decide) (by decide) (by decide) (g := (mkF m 45 #[.val (.ref o0), .unset] [(.ref o0)])) rfl (by rw [hml]; rfl) (argsL := []) (rest := []) rfl (lenOf pd_13 rfl) rfl (by show 2 * 0 + _ ≤ _; exact Nat.le_of_eq rfl) (hb hby djdk_56_method_3_code_45)
  obtain ⟨b552, k553, rfl, N551, K551_, sz_b552_, f554, f555, f556⟩ := hQ551
  have N551_ := Fr.app N516_ N551
  have g_b552 : n0 ≤ b552 := Nat.le_trans Z0 sz_b552_
  have sz_b552 : h0.size ≤ b552 := Nat.le_trans (Keep.refl h0 []).1 sz_b552_
  have Z557 : n0 ≤ T551.heap.size := Nat.le_trans Z0 K551_.1
  have K557 : Keep h0 T551.heap [] := (Keep.refl h0 []).trans K551_ all0
  refine Go.st (S' := T551.setTop (mkF m 50 #[.val (.ref o0), .unset] [(.ref b552)])) st551 ?_
  have f584 := (own_sta_keep (S_s_ImmutableCollections_EMPTY) K551_ all0)
  obtain ⟨r585, T585, L585, X585, hQ585, st585⟩ := own_callS (W := 0) X551 hx hZ rfl hown (y := (⟨"java/util/List", "of", "([Ljava/lang/Object;)Ljava/util/List;"⟩ : MethodName)) (hw _ (List.mem_of_getElem? (i := 151) rfl)) (hw _ (List.mem_of_getElem? (i := 152) rfl)) (hw _ (List.mem_of_getElem? (i := 100) rfl)) (hw _ (List.mem_of_getElem? (i := 153) rfl)) (by decide) (rm31 l Z a0 hw [] b552 k553 o_2 s_ImmutableCollections_EMPTY T551.heap n0 Z557 (f554) (f584)) (by decide) (by decide) (by decide) (by decide) (g := (mkF m 50 #[.val (.ref o0), .unset] [(.ref b552)])) rfl (by rw [hml]; rfl) (argsL := [(.ref b552)]) (rest := []) rfl (lenOf pd_21 rfl) rfl (by show 2 * 0 + _ ≤ _; exact Nat.le_of_eq rfl) (hb hby djdk_56_method_3_code_50)
  obtain ⟨b586, rfl, N585, K585_, sz_b586_, f587, f588, f589⟩ := hQ585
  have N585_ := Fr.app N551_ N585
  have g_b586 : n0 ≤ b586 := Nat.le_trans Z557 sz_b586_
  have sz_b586 : h0.size ≤ b586 := Nat.le_trans K557.1 sz_b586_
  have lt_b552_b586 : b552 < b586 := Nat.lt_of_lt_of_le (f556).lt sz_b586_
  have Z590 : n0 ≤ T585.heap.size := Nat.le_trans Z557 K585_.1
  have K590 : Keep h0 T585.heap [] := K557.trans K585_ all0
  refine Go.st (S' := T585.setTop (mkF m 53 #[.val (.ref o0), .unset] [(.ref b586)])) st585 ?_
  have f591 := ((f554).keep K585_ nin0)
  have f592 := ((f556).keep K585_)
  exact Go.ret X585 (v := some (.ref b586)) (fun h => by rw [Bd.returns] at h; cases h) Bd.notSynchronized (fun fs hr => retOut X585 hx Bd.returns rfl (Or.inr (Or.inr (Or.inr (Or.inr ⟨rfl, rfl, rfl⟩)))) (hb hby djdk_56_method_3_code_53) hr) (by decide) (by decide) (⟨b552, b586, k553, rfl, N585_, K590, sz_b552, sz_b586, f591, f555, f592, f587, f588, f589, lt_b552_b586⟩)
theorem ef_33 (m : MethodId) (o0 : Addr) : entryFrame m #[(.ref o0)] 1 = mkF m 0 #[.val (.ref o0)] [] := by first | (simp [entryFrame, mkF, argsToLocals, Value.category, maxLocals]; done) | rfl
def Q33 (Z : State) (o0 : Addr) (o_1 : Addr) (k_o_1 : ClassId) (o_2 : Addr) (s_mir__Ljava_lang_Object_ : Addr) (s_ImmutableCollections_EMPTY : Addr) (h0 : Heap) (n0 : Nat) (v : Option Value) (h : Heap) (L : List Loc) : Prop := (∃ (b594 : Addr) (b595 : Addr) (k596 : ClassId), v = some (.ref b595) ∧ Fr n0 L ∧ Keep h0 h [] ∧ h0.size ≤ b594 ∧ h0.size ≤ b595 ∧ Arv Z h b594 k596 (.object "java/lang/Object") (1 : Int32) [(.ref o_2)] .null ∧ Ovr Z k596 "java/lang/Object" ∧ Exa Z h b594 "[Ljava/lang/Object;" ∧ Exa Z h b595 "java/util/ImmutableCollections$List12" ∧ Fld Z h b595 "java/util/ImmutableCollections$List12" "e0" "Ljava/lang/Object;" (.ref o_2) ∧ Fld Z h b595 "java/util/ImmutableCollections$List12" "e1" "Ljava/lang/Object;" (.ref s_ImmutableCollections_EMPTY) ∧ b594 < b595)
set_option maxRecDepth 65536 in
set_option maxHeartbeats 40000000 in
theorem rm33 (l : Launch) (Z : State) (a0 : Array Value) (hw : ∀ d ∈ tables_1, d.before a0 Z = true) (ws : List Jvm.Cond) (o0 : Addr) (o_1 : Addr) (k_o_1 : ClassId) (o_2 : Addr) (s_mir__Ljava_lang_Object_ : Addr) (s_ImmutableCollections_EMPTY : Addr) (h0 : Heap) (n0 : Nat) (Z0 : n0 ≤ h0.size) (E_o0 : Exa Z h0 o0 "java/util/ArrayList") (F_o0_size : Fld Z h0 o0 "java/util/ArrayList" "size" "I" (.int (1 : Int32))) (F_o0_elementData : Fld Z h0 o0 "java/util/ArrayList" "elementData" "[Ljava/lang/Object;" (.ref o_1)) (E_o_1 : Exa Z h0 o_1 "[Ljava/lang/Object;") (V_o_1 : Arv Z h0 o_1 k_o_1 (.object "java/lang/Object") (10 : Int32) [(.ref o_2), .null, .null, .null, .null, .null, .null, .null, .null, .null] .null) (E_o_2 : Exa Z h0 o_2 "java/lang/String") (M_s_mir__Ljava_lang_Object_ : Mir Z "[Ljava/lang/Object;" s_mir__Ljava_lang_Object_) (S_s_ImmutableCollections_EMPTY : Sta Z h0 "java/util/ImmutableCollections" "EMPTY" "Ljava/lang/Object;" (.ref s_ImmutableCollections_EMPTY)) :
    Con l Z (⟨"java/util/List", "copyOf", "(Ljava/util/Collection;)Ljava/util/List;"⟩ : MethodName) jdk_40_method_48_code 1 (some (.object "java/util/List")) ws ({ frames := 7, cells := 2, slots := 3, locals := 93 } : Room) #[(.ref o0)] h0 2 3 (Q33 Z o0 o_1 k_o_1 o_2 s_mir__Ljava_lang_Object_ s_ImmutableCollections_EMPTY h0 n0) := by
  refine MetFree.of_bodySF (plainFor_of_name pn_12) hisR ?_
  intro p e s m args below meth c s₁ Bd hml0 hP hK
  obtain ⟨rfl, hZ, hh⟩ := hP
  have hx := Bd.exec
  have hby := Bd.bytes
  have hml : c.maxLocals = 1 := hml0
  have hown : s.vm.findClass "java/util/List" = some m.cls := findClass_of_methodNamed Bd.named
  have hnm := (name_of_methodNamed Bd.named Bd.method).1
  have X0 : Stand p l e ({ frames := 7, cells := 2, slots := 3, locals := 93 } : Room) s m #[(.ref o0)] below meth c s₁ [] 0 0 := Stand.of_body Bd
  have e0 : s₁.heap = h0 := by rw [← hh, Bd.state]; rfl
  have N0 := Fr.nil n0
  refine Go.of ?_
  refine Go.st (S' := s₁.setTop (mkF m 0 #[.val (.ref o0)] [])) (fun t k => castTop (ef_33 m o0) k) ?_
  refine Go.st (S' := s₁.setTop (mkF m 1 #[.val (.ref o0)] [(.ref o0)])) (fun t k => XS.aloadN X0.here hx rfl (hb hby djdk_40_method_48_code_0) rfl rfl k) ?_
  obtain ⟨r593, T593, L593, X593, hQ593, st593⟩ := own_callS (W := 0) X0 hx hZ e0 hown (y := (⟨"java/util/ImmutableCollections", "listCopy", "(Ljava/util/Collection;)Ljava/util/List;"⟩ : MethodName)) (hw _ (List.mem_of_getElem? (i := 102) rfl)) (hw _ (List.mem_of_getElem? (i := 103) rfl)) (hw _ (List.mem_of_getElem? (i := 104) rfl)) (hw _ (List.mem_of_getElem? (i := 105) rfl)) (by decide) (rm32 l Z a0 hw [] o0 o_1 k_o_1 o_2 s_mir__Ljava_lang_Object_ s_ImmutableCollections_EMPTY h0 n0 Z0 (E_o0) (F_o0_size) (F_o0_elementData) (E_o_1) (V_o_1) (E_o_2) (M_s_mir__Ljava_lang_Object_) (S_s_ImmutableCollections_EMPTY)) (by decide) (by decide) (by decide) (by decide) (g := (mkF m 1 #[.val (.ref o0)] [(.ref o0)])) rfl (by rw [hml]; rfl) (argsL := [(.ref o0)]) (rest := []) rfl (lenOf pd_22 rfl) rfl (by show 2 * 0 + _ ≤ _; exact Nat.le_of_eq rfl) (hb hby djdk_40_method_48_code_1)
  obtain ⟨b594, b595, k596, rfl, N593, K593_, sz_b594_, sz_b595_, f597, f598, f599, f600, f601, f602, hlt603⟩ := hQ593
  have N593_ := Fr.app N0 N593
  have g_b594 : n0 ≤ b594 := Nat.le_trans Z0 sz_b594_
  have sz_b594 : h0.size ≤ b594 := Nat.le_trans (Keep.refl h0 []).1 sz_b594_
  have g_b595 : n0 ≤ b595 := Nat.le_trans Z0 sz_b595_
  have sz_b595 : h0.size ≤ b595 := Nat.le_trans (Keep.refl h0 []).1 sz_b595_
  have Z604 : n0 ≤ T593.heap.size := Nat.le_trans Z0 K593_.1
  have K604 : Keep h0 T593.heap [] := (Keep.refl h0 []).trans K593_ all0
  refine Go.st (S' := T593.setTop (mkF m 4 #[.val (.ref o0)] [(.ref b595)])) st593 ?_
  exact Go.ret X593 (v := some (.ref b595)) (fun h => by rw [Bd.returns] at h; cases h) Bd.notSynchronized (fun fs hr => retOut X593 hx Bd.returns rfl (Or.inr (Or.inr (Or.inr (Or.inr ⟨rfl, rfl, rfl⟩)))) (hb hby djdk_40_method_48_code_4) hr) (by decide) (by decide) (⟨b594, b595, k596, rfl, N593_, K604, sz_b594, sz_b595, f597, f598, f599, f600, f601, f602, hlt603⟩)
theorem ef_34 (m : MethodId) (o0 : Addr) (o1 : Addr) (o2 : Addr) : entryFrame m #[(.ref o0), (.ref o1), (.ref o2)] 3 = mkF m 0 #[.val (.ref o0), .val (.ref o1), .val (.ref o2)] [] := by first | (simp [entryFrame, mkF, argsToLocals, Value.category, maxLocals]; done) | rfl
def Q34 (Z : State) (o0 : Addr) (o1 : Addr) (o2 : Addr) (o_3 : Addr) (k_o_3 : ClassId) (o_4 : Addr) (s_mir__Ljava_lang_Object_ : Addr) (s_ImmutableCollections_EMPTY : Addr) (u_o0_names : Value) (k_o2 : ClassId) (e0_o2 : Int32) (u_o0_slots : Value) (h0 : Heap) (n0 : Nat) (v : Option Value) (h : Heap) (L : List Loc) : Prop := (∃ (b606 : Addr) (b607 : Addr) (b625 : Addr) (k608 : ClassId), v = none ∧ Fr n0 L ∧ Keep h0 h [o0] ∧ h0.size ≤ b606 ∧ h0.size ≤ b607 ∧ h0.size ≤ b625 ∧ Arv Z h b606 k608 (.object "java/lang/Object") (1 : Int32) [(.ref o_4)] .null ∧ Ovr Z k608 "java/lang/Object" ∧ Exa Z h b606 "[Ljava/lang/Object;" ∧ Exa Z h b607 "java/util/ImmutableCollections$List12" ∧ Fld Z h b607 "java/util/ImmutableCollections$List12" "e0" "Ljava/lang/Object;" (.ref o_4) ∧ Fld Z h b607 "java/util/ImmutableCollections$List12" "e1" "Ljava/lang/Object;" (.ref s_ImmutableCollections_EMPTY) ∧ Exa Z h o0 "com/example/heaplens/heaplens/cfg/Scope" ∧ Fld Z h o0 "com/example/heaplens/heaplens/cfg/Scope" "names" "Ljava/util/List;" (.ref b607) ∧ Arv Z h b625 k_o2 .int (1 : Int32) [(.int e0_o2)] (.int (0 : Int32)) ∧ Exa Z h b625 "[I" ∧ Fld Z h o0 "com/example/heaplens/heaplens/cfg/Scope" "slots" "[I" (.ref b625) ∧ b606 < b607 ∧ b606 < b625 ∧ b607 < b625)
set_option maxRecDepth 65536 in
set_option maxHeartbeats 40000000 in
theorem rm34 (l : Launch) (Z : State) (a0 : Array Value) (hw : ∀ d ∈ tables_1, d.before a0 Z = true) (ws : List Jvm.Cond) (o0 : Addr) (o1 : Addr) (o2 : Addr) (o_3 : Addr) (k_o_3 : ClassId) (o_4 : Addr) (s_mir__Ljava_lang_Object_ : Addr) (s_ImmutableCollections_EMPTY : Addr) (u_o0_names : Value) (k_o2 : ClassId) (e0_o2 : Int32) (u_o0_slots : Value) (h0 : Heap) (n0 : Nat) (Z0 : n0 ≤ h0.size) (E_o1 : Exa Z h0 o1 "java/util/ArrayList") (F_o1_size : Fld Z h0 o1 "java/util/ArrayList" "size" "I" (.int (1 : Int32))) (F_o1_elementData : Fld Z h0 o1 "java/util/ArrayList" "elementData" "[Ljava/lang/Object;" (.ref o_3)) (E_o_3 : Exa Z h0 o_3 "[Ljava/lang/Object;") (V_o_3 : Arv Z h0 o_3 k_o_3 (.object "java/lang/Object") (10 : Int32) [(.ref o_4), .null, .null, .null, .null, .null, .null, .null, .null, .null] .null) (E_o_4 : Exa Z h0 o_4 "java/lang/String") (M_s_mir__Ljava_lang_Object_ : Mir Z "[Ljava/lang/Object;" s_mir__Ljava_lang_Object_) (S_s_ImmutableCollections_EMPTY : Sta Z h0 "java/util/ImmutableCollections" "EMPTY" "Ljava/lang/Object;" (.ref s_ImmutableCollections_EMPTY)) (E_o0 : Exa Z h0 o0 "com/example/heaplens/heaplens/cfg/Scope") (F_o0_names : Fld Z h0 o0 "com/example/heaplens/heaplens/cfg/Scope" "names" "Ljava/util/List;" u_o0_names) (g_o0 : n0 ≤ o0) (V_o2 : Arv Z h0 o2 k_o2 .int (1 : Int32) [(.int e0_o2)] (.int (0 : Int32))) (ne_o2_o0 : o2 ≠ o0) (E_o2 : Exa Z h0 o2 "[I") (F_o0_slots : Fld Z h0 o0 "com/example/heaplens/heaplens/cfg/Scope" "slots" "[I" u_o0_slots) :
    Con l Z (⟨"com/example/heaplens/heaplens/cfg/Scope", "<init>", "(Ljava/util/List;[I)V"⟩ : MethodName) prog_1_method_1_code 3 none ws ({ frames := 8, cells := 3, slots := 4, locals := 106 } : Room) #[(.ref o0), (.ref o1), (.ref o2)] h0 3 4 (Q34 Z o0 o1 o2 o_3 k_o_3 o_4 s_mir__Ljava_lang_Object_ s_ImmutableCollections_EMPTY u_o0_names k_o2 e0_o2 u_o0_slots h0 n0) := by
  refine MetFree.of_bodySF (plainFor_of_name pn_14) hisR ?_
  intro p e s m args below meth c s₁ Bd hml0 hP hK
  obtain ⟨rfl, hZ, hh⟩ := hP
  have hx := Bd.exec
  have hby := Bd.bytes
  have hml : c.maxLocals = 3 := hml0
  have hown : s.vm.findClass "com/example/heaplens/heaplens/cfg/Scope" = some m.cls := findClass_of_methodNamed Bd.named
  have hnm := (name_of_methodNamed Bd.named Bd.method).1
  have X0 : Stand p l e ({ frames := 8, cells := 3, slots := 4, locals := 106 } : Room) s m #[(.ref o0), (.ref o1), (.ref o2)] below meth c s₁ [] 0 0 := Stand.of_body Bd
  have e0 : s₁.heap = h0 := by rw [← hh, Bd.state]; rfl
  have N0 := Fr.nil n0
  refine Go.of ?_
  refine Go.st (S' := s₁.setTop (mkF m 0 #[.val (.ref o0), .val (.ref o1), .val (.ref o2)] [])) (fun t k => castTop (ef_34 m o0 o1 o2) k) ?_
  refine Go.st (S' := s₁.setTop (mkF m 1 #[.val (.ref o0), .val (.ref o1), .val (.ref o2)] [(.ref o0)])) (fun t k => XS.aloadN X0.here hx rfl (hb hby dprog_1_method_1_code_0) rfl rfl k) ?_
  obtain ⟨T510, X510, e510, st510⟩ := initO X0 hx hZ hown (hw _ (List.mem_of_getElem? (i := 97) rfl)) (hw _ (List.mem_of_getElem? (i := 17) rfl)) (hw _ (List.mem_of_getElem? (i := 18) rfl)) e0 (g := (mkF m 1 #[.val (.ref o0), .val (.ref o1), .val (.ref o2)] [(.ref o0)])) rfl (by rw [hml]; rfl) rfl (hb hby dprog_1_method_1_code_1) (by decide) (W := 0) (by show 2 * 0 + _ ≤ _; exact Nat.le_of_eq rfl) (by decide)
  refine Go.st (S' := T510.setTop (mkF m 4 #[.val (.ref o0), .val (.ref o1), .val (.ref o2)] [])) st510 ?_
  refine Go.st (S' := T510.setTop (mkF m 5 #[.val (.ref o0), .val (.ref o1), .val (.ref o2)] [(.ref o0)])) (fun t k => XS.aloadN X510.here hx rfl (hb hby dprog_1_method_1_code_4) rfl rfl k) ?_
  refine Go.st (S' := T510.setTop (mkF m 6 #[.val (.ref o0), .val (.ref o1), .val (.ref o2)] [(.ref o1), (.ref o0)])) (fun t k => XS.aloadN X510.here hx rfl (hb hby dprog_1_method_1_code_5) rfl rfl k) ?_
  obtain ⟨r605, T605, L605, X605, hQ605, st605⟩ := own_callS (W := 1) X510 hx hZ e510 hown (y := (⟨"java/util/List", "copyOf", "(Ljava/util/Collection;)Ljava/util/List;"⟩ : MethodName)) (hw _ (List.mem_of_getElem? (i := 98) rfl)) (hw _ (List.mem_of_getElem? (i := 99) rfl)) (hw _ (List.mem_of_getElem? (i := 100) rfl)) (hw _ (List.mem_of_getElem? (i := 101) rfl)) (by decide) (rm33 l Z a0 hw [] o1 o_3 k_o_3 o_4 s_mir__Ljava_lang_Object_ s_ImmutableCollections_EMPTY h0 n0 Z0 (E_o1) (F_o1_size) (F_o1_elementData) (E_o_3) (V_o_3) (E_o_4) (M_s_mir__Ljava_lang_Object_) (S_s_ImmutableCollections_EMPTY)) (by decide) (by decide) (by decide) (by decide) (g := (mkF m 6 #[.val (.ref o0), .val (.ref o1), .val (.ref o2)] [(.ref o1), (.ref o0)])) rfl (by rw [hml]; rfl) (argsL := [(.ref o1)]) (rest := [(.ref o0)]) rfl (lenOf pd_22 rfl) rfl (by show 2 * 0 + _ ≤ _; exact Nat.le_of_eq rfl) (hb hby dprog_1_method_1_code_6)
  obtain ⟨b606, b607, k608, rfl, N605, K605_, sz_b606_, sz_b607_, f609, f610, f611, f612, f613, f614, hlt615⟩ := hQ605
  have N605_ := Fr.app N0 N605
  have g_b606 : n0 ≤ b606 := Nat.le_trans Z0 sz_b606_
  have sz_b606 : h0.size ≤ b606 := Nat.le_trans (Keep.refl h0 [o0]).1 sz_b606_
  have g_b607 : n0 ≤ b607 := Nat.le_trans Z0 sz_b607_
  have sz_b607 : h0.size ≤ b607 := Nat.le_trans (Keep.refl h0 [o0]).1 sz_b607_
  have Z616 : n0 ≤ T605.heap.size := Nat.le_trans Z0 K605_.1
  have K616 : Keep h0 T605.heap [o0] := (Keep.refl h0 [o0]).trans K605_ all0
  refine Go.st (S' := T605.setTop (mkF m 9 #[.val (.ref o0), .val (.ref o1), .val (.ref o2)] [(.ref b607), (.ref o0)])) st605 ?_
  have f617 := ((E_o0).keep K605_)
  have f618 := ((F_o0_names).keep K605_ nin0)
  obtain ⟨T619, h619, X619, e619, W619, st619⟩ := putF X605 hx hZ hown (host := "") (Or.inl (hw _ (List.mem_of_getElem? (i := 183) rfl))) Via.refl rfl f618 f617 (Or.inr ⟨(hw _ (List.mem_of_getElem? (i := 184) rfl)), rfl, hnm⟩) (hw _ (List.mem_of_getElem? (i := 92) rfl)) (ty := (.object "java/util/List")) (by decide) rfl rfl (g := (mkF m 9 #[.val (.ref o0), .val (.ref o1), .val (.ref o2)] [(.ref b607), (.ref o0)])) rfl rfl (hb hby dprog_1_method_1_code_9)
  have Fw619 := (f618).same W619
  have N619 := Fr.snoc X619 N605_ g_o0
  have Z620 : n0 ≤ h619.size := Nat.le_trans Z616 (Keep.of_wr W619).1
  have K620 : Keep h0 h619 [o0] := K616.wr W619 (Or.inl (by simp))
  refine Go.st (S' := T619.setTop (mkF m 12 #[.val (.ref o0), .val (.ref o1), .val (.ref o2)] [])) st619 ?_
  refine Go.st (S' := T619.setTop (mkF m 13 #[.val (.ref o0), .val (.ref o1), .val (.ref o2)] [(.ref o0)])) (fun t k => XS.aloadN X619.here hx rfl (hb hby dprog_1_method_1_code_12) rfl rfl k) ?_
  refine Go.st (S' := T619.setTop (mkF m 14 #[.val (.ref o0), .val (.ref o1), .val (.ref o2)] [(.ref o2), (.ref o0)])) (fun t k => XS.aloadN X619.here hx rfl (hb hby dprog_1_method_1_code_13) rfl rfl k) ?_
  have f622 := ((((V_o2).keep K605_ nin0)).other W619 ne_o2_o0)
  have f624 := ((((E_o2).keep K605_)).wr W619)
  obtain ⟨T625, h625, X625, e625, E625, A625, B625, st625⟩ := cloneH X619 hx hZ hown (ad := "[I") (hw _ (List.mem_of_getElem? (i := 185) rfl)) (hw _ (List.mem_of_getElem? (i := 186) rfl)) (hw _ (List.mem_of_getElem? (i := 190) rfl)) (hw _ (List.mem_of_getElem? (i := 188) rfl)) (hw _ (List.mem_of_getElem? (i := 189) rfl)) (hw _ (List.mem_of_getElem? (i := 191) rfl)) e619 (Arv.arh f622) (f624) (g := (mkF m 14 #[.val (.ref o0), .val (.ref o1), .val (.ref o2)] [(.ref o2), (.ref o0)])) rfl (by rw [hml]; rfl) rfl (hb hby dprog_1_method_1_code_14) (by decide) (W := 1) (cap := 1) (by show 2 * 0 + _ ≤ _; exact Nat.le_of_eq rfl) (by decide) (by decide) (by decide) (by decide)
  obtain ⟨b625, gg625⟩ : ∃ z, z = h619.size := ⟨_, rfl⟩
  rw [← gg625] at A625 B625 st625
  have g_b625 : n0 ≤ b625 := Nat.le_trans Z620 (Nat.le_of_eq gg625.symm)
  have sz_b625 : h0.size ≤ b625 := Nat.le_trans K620.1 (Nat.le_of_eq gg625.symm)
  have f626 := ((f611).wr W619)
  have lt_b606_b625 : b606 < b625 := Nat.lt_of_lt_of_le (f626).lt (Nat.le_of_eq gg625.symm)
  have f627 := ((f612).wr W619)
  have lt_b607_b625 : b607 < b625 := Nat.lt_of_lt_of_le (f627).lt (Nat.le_of_eq gg625.symm)
  have Z628 : n0 ≤ h625.size := Nat.le_trans Z620 E625.1
  have K628 : Keep h0 h625 [o0] := K620.ext E625
  have V625 : Arv Z h625 b625 k_o2 .int (1 : Int32) [(.int e0_o2)] (.int (0 : Int32)) := A625
  refine Go.st (S' := T625.setTop (mkF m 17 #[.val (.ref o0), .val (.ref o1), .val (.ref o2)] [(.ref b625), (.ref o0)])) st625 ?_
  obtain ⟨T629, X629, e629, st629⟩ := castY X625 hx hZ hown (hw _ (List.mem_of_getElem? (i := 192) rfl)) e625 (Ins.self B625) (g := (mkF m 17 #[.val (.ref o0), .val (.ref o1), .val (.ref o2)] [(.ref b625), (.ref o0)])) rfl rfl (hb hby dprog_1_method_1_code_17)
  refine Go.st (S' := T629.setTop (mkF m 20 #[.val (.ref o0), .val (.ref o1), .val (.ref o2)] [(.ref b625), (.ref o0)])) st629 ?_
  have f630 := ((((f617).wr W619)).ext E625)
  have f631 := ((((((F_o0_slots).keep K605_ nin0)).other W619 (Or.inr (slot_ne (Or.inr (hw _ (List.mem_of_getElem? (i := 195) rfl))) (Or.inr (hw _ (List.mem_of_getElem? (i := 184) rfl))) (by decide) (t := (.array .int)) (t' := (.object "java/util/List")) (by decide) (by decide))))).ext E625)
  obtain ⟨T632, h632, X632, e632, W632, st632⟩ := putF X629 hx hZ hown (host := "") (Or.inl (hw _ (List.mem_of_getElem? (i := 194) rfl))) Via.refl e629 f631 f630 (Or.inr ⟨(hw _ (List.mem_of_getElem? (i := 195) rfl)), rfl, hnm⟩) (hw _ (List.mem_of_getElem? (i := 92) rfl)) (ty := (.array .int)) (by decide) rfl rfl (g := (mkF m 20 #[.val (.ref o0), .val (.ref o1), .val (.ref o2)] [(.ref b625), (.ref o0)])) rfl rfl (hb hby dprog_1_method_1_code_20)
  have Fw632 := (f631).same W632
  have N632 := Fr.snoc X632 N619 g_o0
  have Z633 : n0 ≤ h632.size := Nat.le_trans Z628 (Keep.of_wr W632).1
  have K633 : Keep h0 h632 [o0] := K628.wr W632 (Or.inl (by simp))
  refine Go.st (S' := T632.setTop (mkF m 23 #[.val (.ref o0), .val (.ref o1), .val (.ref o2)] [])) st632 ?_
  have f634 := ((((((f609).other W619 (Ne.symm (Nat.ne_of_lt (Nat.lt_of_lt_of_le (E_o0).lt sz_b606))))).ext E625)).other W632 (Ne.symm (Nat.ne_of_lt (Nat.lt_of_lt_of_le (E_o0).lt sz_b606))))
  have f635 := ((((f626).ext E625)).wr W632)
  have f636 := ((((f627).ext E625)).wr W632)
  have f637 := ((((((f613).other W619 (Or.inl (Ne.symm (Nat.ne_of_lt (Nat.lt_of_lt_of_le (E_o0).lt sz_b607)))))).ext E625)).other W632 (Or.inl (Ne.symm (Nat.ne_of_lt (Nat.lt_of_lt_of_le (E_o0).lt sz_b607)))))
  have f638 := ((((((f614).other W619 (Or.inl (Ne.symm (Nat.ne_of_lt (Nat.lt_of_lt_of_le (E_o0).lt sz_b607)))))).ext E625)).other W632 (Or.inl (Ne.symm (Nat.ne_of_lt (Nat.lt_of_lt_of_le (E_o0).lt sz_b607)))))
  have f639 := ((f630).wr W632)
  have f640 := ((((Fw619).ext E625)).other W632 (Or.inr (slot_ne (Or.inr (hw _ (List.mem_of_getElem? (i := 184) rfl))) (Or.inr (hw _ (List.mem_of_getElem? (i := 195) rfl))) (by decide) (t := (.object "java/util/List")) (t' := (.array .int)) (by decide) (by decide))))
  have f641 := ((V625).other W632 (Ne.symm (Nat.ne_of_lt (Nat.lt_of_lt_of_le (E_o0).lt sz_b625))))
  have f642 := ((B625).wr W632)
  exact Go.ret X632 (v := none) (fun _ => rfl) Bd.notSynchronized (fun fs hr => X632.returnOut hx Bd.returns (hb hby dprog_1_method_1_code_23) hr) (by decide) (by decide) (by rw [e632]; exact ⟨b606, b607, b625, k608, rfl, N632, K633, sz_b606, sz_b607, sz_b625, f634, f610, f635, f636, f637, f638, f639, f640, f641, f642, Fw632, hlt615, lt_b606_b625, lt_b607_b625⟩)
theorem ef_35 (m : MethodId) (o0 : Addr) (p1 : Int32) : entryFrame m #[(.ref o0), (.int p1)] 2 = mkF m 0 #[.val (.ref o0), .val (.int p1)] [] := by first | (simp [entryFrame, mkF, argsToLocals, Value.category, maxLocals]; done) | rfl
def Q35 (Z : State) (o0 : Addr) (p1 : Int32) (o_1 : Addr) (s_ImmutableCollections_EMPTY : Addr) (h0 : Heap) (n0 : Nat) (v : Option Value) (h : Heap) (L : List Loc) : Prop := ((p1 = (0 : Int32)) ∧ v = some (.ref o_1) ∧ Fr n0 L ∧ h = h0)
set_option maxRecDepth 65536 in
set_option maxHeartbeats 40000000 in
theorem rm35 (l : Launch) (Z : State) (a0 : Array Value) (hw : ∀ d ∈ tables_1, d.before a0 Z = true) (ws : List Jvm.Cond) (o0 : Addr) (p1 : Int32) (o_1 : Addr) (s_ImmutableCollections_EMPTY : Addr) (h0 : Heap) (n0 : Nat) (Z0 : n0 ≤ h0.size) (F_o0_e0 : Fld Z h0 o0 "java/util/ImmutableCollections$List12" "e0" "Ljava/lang/Object;" (.ref o_1)) (F_o0_e1 : Fld Z h0 o0 "java/util/ImmutableCollections$List12" "e1" "Ljava/lang/Object;" (.ref s_ImmutableCollections_EMPTY)) (S_s_ImmutableCollections_EMPTY : Sta Z h0 "java/util/ImmutableCollections" "EMPTY" "Ljava/lang/Object;" (.ref s_ImmutableCollections_EMPTY)) (no3 : ¬ ((¬ (p1 = (0 : Int32))) ∧ (p1 = (1 : Int32)))) (no4 : ¬ ((¬ (p1 = (0 : Int32))) ∧ (¬ (p1 = (1 : Int32))))) :
    Con l Z (⟨"java/util/ImmutableCollections$List12", "get", "(I)Ljava/lang/Object;"⟩ : MethodName) jdk_44_method_5_code 2 (some (.object "java/lang/Object")) ws ({ frames := 0, cells := 0, slots := 0, locals := 0 } : Room) #[(.ref o0), (.int p1)] h0 0 0 (Q35 Z o0 p1 o_1 s_ImmutableCollections_EMPTY h0 n0) := by
  refine MetFree.of_bodySF (plainFor_of_name pn_11) hisR ?_
  intro p e s m args below meth c s₁ Bd hml0 hP hK
  obtain ⟨rfl, hZ, hh⟩ := hP
  have hx := Bd.exec
  have hby := Bd.bytes
  have hml : c.maxLocals = 2 := hml0
  have hown : s.vm.findClass "java/util/ImmutableCollections$List12" = some m.cls := findClass_of_methodNamed Bd.named
  have hnm := (name_of_methodNamed Bd.named Bd.method).1
  have X0 : Stand p l e ({ frames := 0, cells := 0, slots := 0, locals := 0 } : Room) s m #[(.ref o0), (.int p1)] below meth c s₁ [] 0 0 := Stand.of_body Bd
  have e0 : s₁.heap = h0 := by rw [← hh, Bd.state]; rfl
  have N0 := Fr.nil n0
  refine Go.of ?_
  refine Go.st (S' := s₁.setTop (mkF m 0 #[.val (.ref o0), .val (.int p1)] [])) (fun t k => castTop (ef_35 m o0 p1) k) ?_
  refine Go.st (S' := s₁.setTop (mkF m 1 #[.val (.ref o0), .val (.int p1)] [(.int p1)])) (fun t k => XS.iloadN X0.here hx rfl (hb hby djdk_44_method_5_code_0) rfl k) ?_
  by_cases hc678 : (p1 = (0 : Int32))
  · refine Go.st (S' := s₁.setTop (mkF m 4 #[.val (.ref o0), .val (.int p1)] [])) (fun t k => XS.ifNo X0.here hx rfl (hb hby djdk_44_method_5_code_1) rfl ((if0 _ _).trans (teq hc678).2) k) ?_
    refine Go.st (S' := s₁.setTop (mkF m 5 #[.val (.ref o0), .val (.int p1)] [(.ref o0)])) (fun t k => XS.aloadN X0.here hx rfl (hb hby djdk_44_method_5_code_4) rfl rfl k) ?_
    obtain ⟨T679, X679, e679, st679⟩ := getF X0 hx hZ hown (host := "") (Or.inl (hw _ (List.mem_of_getElem? (i := 179) rfl))) Via.refl e0 F_o0_e0 (g := (mkF m 5 #[.val (.ref o0), .val (.int p1)] [(.ref o0)])) rfl rfl (hb hby djdk_44_method_5_code_5)
    refine Go.st (S' := T679.setTop (mkF m 8 #[.val (.ref o0), .val (.int p1)] [(.ref o_1)])) st679 ?_
    exact Go.ret X679 (v := some (.ref o_1)) (fun h => by rw [Bd.returns] at h; cases h) Bd.notSynchronized (fun fs hr => retOut X679 hx Bd.returns rfl (Or.inr (Or.inr (Or.inr (Or.inr ⟨rfl, rfl, rfl⟩)))) (hb hby djdk_44_method_5_code_8) hr) (by decide) (by decide) (⟨hc678, rfl, N0, (e679)⟩)
  · refine Go.st (S' := s₁.setTop (mkF m 9 #[.val (.ref o0), .val (.int p1)] [])) (fun t k => XS.ifYes X0.here hx rfl (pc0 := 1) (pc' := 9) rfl (hb hby djdk_44_method_5_code_1) rfl ((if0 _ _).trans (feq hc678).2) (by decide) (by decide) k) ?_
    refine Go.st (S' := s₁.setTop (mkF m 10 #[.val (.ref o0), .val (.int p1)] [(.int p1)])) (fun t k => XS.iloadN X0.here hx rfl (hb hby djdk_44_method_5_code_9) rfl k) ?_
    refine Go.st (S' := s₁.setTop (mkF m 11 #[.val (.ref o0), .val (.int p1)] [(.int (1 : Int32)), (.int p1)])) (fun t k => XS.iconst X0.here hx rfl (hb hby djdk_44_method_5_code_10) k) ?_
    by_cases hc683 : (p1 = (1 : Int32))
    · refine Go.st (S' := s₁.setTop (mkF m 14 #[.val (.ref o0), .val (.int p1)] [])) (fun t k => XS.icmpNo X0.here hx rfl (hb hby djdk_44_method_5_code_11) rfl (teq hc683).2 k) ?_
      refine Go.st (S' := s₁.setTop (mkF m 15 #[.val (.ref o0), .val (.int p1)] [(.ref o0)])) (fun t k => XS.aloadN X0.here hx rfl (hb hby djdk_44_method_5_code_14) rfl rfl k) ?_
      obtain ⟨T684, X684, e684, st684⟩ := getF X0 hx hZ hown (host := "") (Or.inl (hw _ (List.mem_of_getElem? (i := 181) rfl))) Via.refl e0 F_o0_e1 (g := (mkF m 15 #[.val (.ref o0), .val (.int p1)] [(.ref o0)])) rfl rfl (hb hby djdk_44_method_5_code_15)
      refine Go.st (S' := T684.setTop (mkF m 18 #[.val (.ref o0), .val (.int p1)] [(.ref s_ImmutableCollections_EMPTY)])) st684 ?_
      obtain ⟨T685, X685, e685, st685⟩ := getS2 X684 hx hZ hown (Or.inr (hw _ (List.mem_of_getElem? (i := 219) rfl))) Via.refl e684 S_s_ImmutableCollections_EMPTY (g := (mkF m 18 #[.val (.ref o0), .val (.int p1)] [(.ref s_ImmutableCollections_EMPTY)])) rfl (hb hby djdk_44_method_5_code_18)
      refine Go.st (S' := T685.setTop (mkF m 21 #[.val (.ref o0), .val (.int p1)] [(.ref s_ImmutableCollections_EMPTY), (.ref s_ImmutableCollections_EMPTY)])) st685 ?_
      refine Go.st (S' := T685.setTop (mkF m 29 #[.val (.ref o0), .val (.int p1)] [])) (fun t k => acmp X685 hx rfl rfl rfl (pc0 := 21) (pc' := 29) (same := true) rfl (hb hby djdk_44_method_5_code_21) rfl (by simp) (by decide) (by decide) k) ?_
      refine Go.st (S' := T685.setTop (mkF m 30 #[.val (.ref o0), .val (.int p1)] [(.ref o0)])) (fun t k => XS.aloadN X685.here hx rfl (hb hby djdk_44_method_5_code_29) rfl rfl k) ?_
      refine Go.st (S' := T685.setTop (mkF m 31 #[.val (.ref o0), .val (.int p1)] [(.int p1), (.ref o0)])) (fun t k => XS.iloadN X685.here hx rfl (hb hby djdk_44_method_5_code_30) rfl k) ?_
      exact absurd ⟨hc678, hc683⟩ no3
    · refine Go.st (S' := s₁.setTop (mkF m 29 #[.val (.ref o0), .val (.int p1)] [])) (fun t k => XS.icmpYes X0.here hx rfl (pc0 := 11) (pc' := 29) rfl (hb hby djdk_44_method_5_code_11) rfl (feq hc683).2 (by decide) (by decide) k) ?_
      refine Go.st (S' := s₁.setTop (mkF m 30 #[.val (.ref o0), .val (.int p1)] [(.ref o0)])) (fun t k => XS.aloadN X0.here hx rfl (hb hby djdk_44_method_5_code_29) rfl rfl k) ?_
      refine Go.st (S' := s₁.setTop (mkF m 31 #[.val (.ref o0), .val (.int p1)] [(.int p1), (.ref o0)])) (fun t k => XS.iloadN X0.here hx rfl (hb hby djdk_44_method_5_code_30) rfl k) ?_
      exact absurd ⟨hc678, hc683⟩ no4
theorem ef_36 (m : MethodId) (o0 : Addr) (p1 : Int32) : entryFrame m #[(.ref o0), (.int p1)] 2 = mkF m 0 #[.val (.ref o0), .val (.int p1)] [] := by first | (simp [entryFrame, mkF, argsToLocals, Value.category, maxLocals]; done) | rfl
def Q36 (Z : State) (o0 : Addr) (p1 : Int32) (o_1 : Addr) (o_2 : Addr) (s_ImmutableCollections_EMPTY : Addr) (h0 : Heap) (n0 : Nat) (v : Option Value) (h : Heap) (L : List Loc) : Prop := ((p1 = (0 : Int32)) ∧ v = some (.ref o_2) ∧ Fr n0 L ∧ h = h0)
set_option maxRecDepth 65536 in
set_option maxHeartbeats 40000000 in
theorem rm36 (l : Launch) (Z : State) (a0 : Array Value) (hw : ∀ d ∈ tables_1, d.before a0 Z = true) (ws : List Jvm.Cond) (o0 : Addr) (p1 : Int32) (o_1 : Addr) (o_2 : Addr) (s_ImmutableCollections_EMPTY : Addr) (h0 : Heap) (n0 : Nat) (Z0 : n0 ≤ h0.size) (F_o0_names : Fld Z h0 o0 "com/example/heaplens/heaplens/cfg/Scope" "names" "Ljava/util/List;" (.ref o_1)) (E_o_1 : Exa Z h0 o_1 "java/util/ImmutableCollections$List12") (F_o_1_e0 : Fld Z h0 o_1 "java/util/ImmutableCollections$List12" "e0" "Ljava/lang/Object;" (.ref o_2)) (F_o_1_e1 : Fld Z h0 o_1 "java/util/ImmutableCollections$List12" "e1" "Ljava/lang/Object;" (.ref s_ImmutableCollections_EMPTY)) (S_s_ImmutableCollections_EMPTY : Sta Z h0 "java/util/ImmutableCollections" "EMPTY" "Ljava/lang/Object;" (.ref s_ImmutableCollections_EMPTY)) (no5 : ¬ ((¬ (p1 = (0 : Int32))) ∧ (p1 = (1 : Int32)))) (no6 : ¬ ((¬ (p1 = (0 : Int32))) ∧ (¬ (p1 = (1 : Int32))))) (E_o_2 : Exa Z h0 o_2 "java/lang/String") :
    Con l Z (⟨"com/example/heaplens/heaplens/cfg/Scope", "name", "(I)Ljava/lang/String;"⟩ : MethodName) prog_1_method_3_code 2 (some (.object "java/lang/String")) ws ({ frames := 1, cells := 0, slots := 0, locals := 13 } : Room) #[(.ref o0), (.int p1)] h0 0 0 (Q36 Z o0 p1 o_1 o_2 s_ImmutableCollections_EMPTY h0 n0) := by
  refine MetFree.of_bodySF (plainFor_of_name pn_14) hisR ?_
  intro p e s m args below meth c s₁ Bd hml0 hP hK
  obtain ⟨rfl, hZ, hh⟩ := hP
  have hx := Bd.exec
  have hby := Bd.bytes
  have hml : c.maxLocals = 2 := hml0
  have hown : s.vm.findClass "com/example/heaplens/heaplens/cfg/Scope" = some m.cls := findClass_of_methodNamed Bd.named
  have hnm := (name_of_methodNamed Bd.named Bd.method).1
  have X0 : Stand p l e ({ frames := 1, cells := 0, slots := 0, locals := 13 } : Room) s m #[(.ref o0), (.int p1)] below meth c s₁ [] 0 0 := Stand.of_body Bd
  have e0 : s₁.heap = h0 := by rw [← hh, Bd.state]; rfl
  have N0 := Fr.nil n0
  refine Go.of ?_
  refine Go.st (S' := s₁.setTop (mkF m 0 #[.val (.ref o0), .val (.int p1)] [])) (fun t k => castTop (ef_36 m o0 p1) k) ?_
  refine Go.st (S' := s₁.setTop (mkF m 1 #[.val (.ref o0), .val (.int p1)] [(.ref o0)])) (fun t k => XS.aloadN X0.here hx rfl (hb hby dprog_1_method_3_code_0) rfl rfl k) ?_
  obtain ⟨T677, X677, e677, st677⟩ := getF X0 hx hZ hown (host := "") (Or.inl (hw _ (List.mem_of_getElem? (i := 183) rfl))) Via.refl e0 F_o0_names (g := (mkF m 1 #[.val (.ref o0), .val (.int p1)] [(.ref o0)])) rfl rfl (hb hby dprog_1_method_3_code_1)
  refine Go.st (S' := T677.setTop (mkF m 4 #[.val (.ref o0), .val (.int p1)] [(.ref o_1)])) st677 ?_
  refine Go.st (S' := T677.setTop (mkF m 5 #[.val (.ref o0), .val (.int p1)] [(.int p1), (.ref o_1)])) (fun t k => XS.iloadN X677.here hx rfl (hb hby dprog_1_method_3_code_4) rfl k) ?_
  have no686 : ¬ ((¬ (p1 = (0 : Int32))) ∧ (p1 = (1 : Int32))) := by
    rintro ⟨hc687, hc688⟩
    exact absurd ⟨hc687, hc688⟩ no5
  have no689 : ¬ ((¬ (p1 = (0 : Int32))) ∧ (¬ (p1 = (1 : Int32)))) := by
    rintro ⟨hc690, hc691⟩
    exact absurd ⟨hc690, hc691⟩ no6
  obtain ⟨r692, T692, L692, X692, hQ692, st692⟩ := own_callF (W := 0) (a := o_1) (C := "java/util/ImmutableCollections$List12") X677 hx hZ e677 hown (xi := (⟨"java/util/List", "get", "(I)Ljava/lang/Object;"⟩ : MethodName)) (y := (⟨"java/util/ImmutableCollections$List12", "get", "(I)Ljava/lang/Object;"⟩ : MethodName)) (hw _ (List.mem_of_getElem? (i := 201) rfl)) (hw _ (List.mem_of_getElem? (i := 202) rfl)) (mvT hZ (hw _ (List.mem_of_getElem? (i := 203) rfl))) (hw _ (List.mem_of_getElem? (i := 204) rfl)) (hw _ (List.mem_of_getElem? (i := 205) rfl)) (hw _ (List.mem_of_getElem? (i := 206) rfl)) (hw _ (List.mem_of_getElem? (i := 207) rfl)) (hw _ (List.mem_of_getElem? (i := 208) rfl)) (hw _ (List.mem_of_getElem? (i := 156) rfl)) (hw _ (List.mem_of_getElem? (i := 209) rfl)) (by decide) (E_o_1) (rm35 l Z a0 hw [] o_1 p1 o_2 s_ImmutableCollections_EMPTY h0 n0 Z0 (F_o_1_e0) (F_o_1_e1) (S_s_ImmutableCollections_EMPTY) (no686) (no689)) (by decide) (by decide) (by decide) (by decide) (g := (mkF m 5 #[.val (.ref o0), .val (.int p1)] [(.int p1), (.ref o_1)])) rfl (by rw [hml]; rfl) (argsL := [(.int p1)]) (rest := []) rfl (lenOf pd_24 rfl) rfl (by show 2 * 0 + _ ≤ _; exact Nat.le_of_eq rfl) (hb hby dprog_1_method_3_code_5)
  obtain ⟨hc693, rfl, N692, e692⟩ := hQ692
  have N692_ := Fr.app N0 N692
  refine Go.st (S' := T692.setTop (mkF m 10 #[.val (.ref o0), .val (.int p1)] [(.ref o_2)])) st692 ?_
  obtain ⟨T695, X695, e695, st695⟩ := castY X692 hx hZ hown (hw _ (List.mem_of_getElem? (i := 210) rfl)) e692 (Ins.self E_o_2) (g := (mkF m 10 #[.val (.ref o0), .val (.int p1)] [(.ref o_2)])) rfl rfl (hb hby dprog_1_method_3_code_10)
  refine Go.st (S' := T695.setTop (mkF m 13 #[.val (.ref o0), .val (.int p1)] [(.ref o_2)])) st695 ?_
  exact Go.ret X695 (v := some (.ref o_2)) (fun h => by rw [Bd.returns] at h; cases h) Bd.notSynchronized (fun fs hr => retOut X695 hx Bd.returns rfl (Or.inr (Or.inr (Or.inr (Or.inr ⟨rfl, rfl, rfl⟩)))) (hb hby dprog_1_method_3_code_13) hr) (by decide) (by decide) (⟨hc693, rfl, N692_, (e695)⟩)
theorem ef_37 (m : MethodId) (o0 : Addr) : entryFrame m #[(.ref o0), (.ref o0)] 3 = mkF m 0 #[.val (.ref o0), .val (.ref o0), .unset] [] := by first | (simp [entryFrame, mkF, argsToLocals, Value.category, maxLocals]; done) | rfl
def Q37 (Z : State) (o0 : Addr) (h0 : Heap) (n0 : Nat) (v : Option Value) (h : Heap) (L : List Loc) : Prop := (v = some (.int (1 : Int32)) ∧ Fr n0 L ∧ h = h0)
set_option maxRecDepth 65536 in
set_option maxHeartbeats 40000000 in
theorem rm37 (l : Launch) (Z : State) (a0 : Array Value) (hw : ∀ d ∈ tables_1, d.before a0 Z = true) (ws : List Jvm.Cond) (o0 : Addr) (h0 : Heap) (n0 : Nat) (Z0 : n0 ≤ h0.size)  :
    Con l Z (⟨"java/lang/String", "equals", "(Ljava/lang/Object;)Z"⟩ : MethodName) jdk_42_method_66_code 3 (some .boolean) ws ({ frames := 0, cells := 0, slots := 0, locals := 0 } : Room) #[(.ref o0), (.ref o0)] h0 0 0 (Q37 Z o0 h0 n0) := by
  refine MetFree.of_bodySF (plainFor_of_name pn_1) hisR ?_
  intro p e s m args below meth c s₁ Bd hml0 hP hK
  obtain ⟨rfl, hZ, hh⟩ := hP
  have hx := Bd.exec
  have hby := Bd.bytes
  have hml : c.maxLocals = 3 := hml0
  have hown : s.vm.findClass "java/lang/String" = some m.cls := findClass_of_methodNamed Bd.named
  have hnm := (name_of_methodNamed Bd.named Bd.method).1
  have X0 : Stand p l e ({ frames := 0, cells := 0, slots := 0, locals := 0 } : Room) s m #[(.ref o0), (.ref o0)] below meth c s₁ [] 0 0 := Stand.of_body Bd
  have e0 : s₁.heap = h0 := by rw [← hh, Bd.state]; rfl
  have N0 := Fr.nil n0
  refine Go.of ?_
  refine Go.st (S' := s₁.setTop (mkF m 0 #[.val (.ref o0), .val (.ref o0), .unset] [])) (fun t k => castTop (ef_37 m o0) k) ?_
  refine Go.st (S' := s₁.setTop (mkF m 1 #[.val (.ref o0), .val (.ref o0), .unset] [(.ref o0)])) (fun t k => XS.aloadN X0.here hx rfl (hb hby djdk_42_method_66_code_0) rfl rfl k) ?_
  refine Go.st (S' := s₁.setTop (mkF m 2 #[.val (.ref o0), .val (.ref o0), .unset] [(.ref o0), (.ref o0)])) (fun t k => XS.aloadN X0.here hx rfl (hb hby djdk_42_method_66_code_1) rfl rfl k) ?_
  refine Go.st (S' := s₁.setTop (mkF m 5 #[.val (.ref o0), .val (.ref o0), .unset] [])) (fun t k => acmp X0 hx rfl rfl rfl (pc0 := 2) (pc' := 5) (same := true) rfl (hb hby djdk_42_method_66_code_2) rfl (by simp) (by decide) (by decide) k) ?_
  refine Go.st (S' := s₁.setTop (mkF m 6 #[.val (.ref o0), .val (.ref o0), .unset] [(.int (1 : Int32))])) (fun t k => XS.iconst X0.here hx rfl (hb hby djdk_42_method_66_code_5) k) ?_
  exact Go.ret X0 (v := some (.int (1 : Int32))) (fun h => by rw [Bd.returns] at h; cases h) Bd.notSynchronized (fun fs hr => retN X0 hx (t := .boolean) Bd.returns (by simp) (hb hby djdk_42_method_66_code_6) hr) (by decide) (by decide) (⟨rfl, N0, (e0)⟩)
theorem ef_38 (m : MethodId) (o0 : Addr) (o1 : Addr) (o2 : Addr) : entryFrame m #[(.ref o0), (.ref o1), (.ref o2), (.int (1 : Int32))] 4 = mkF m 0 #[.val (.ref o0), .val (.ref o1), .val (.ref o2), .val (.int (1 : Int32))] [] := by first | (simp [entryFrame, mkF, argsToLocals, Value.category, maxLocals]; done) | rfl
def Q38 (Z : State) (o0 : Addr) (o1 : Addr) (o2 : Addr) (k_o2 : ClassId) (o_3 : Addr) (u_o0_size : Value) (u_o0_modCount : Value) (u_o0_elementData : Value) (h0 : Heap) (n0 : Nat) (v : Option Value) (h : Heap) (L : List Loc) : Prop := (v = none ∧ Fr n0 L ∧ Keep h0 h [o2, o0] ∧ Arv Z h o2 k_o2 (.object "java/lang/Object") (10 : Int32) [(.ref o_3), (.ref o1), .null, .null, .null, .null, .null, .null, .null, .null] .null ∧ Ovr Z k_o2 "java/lang/Object" ∧ Exa Z h o0 "java/util/ArrayList" ∧ Fld Z h o0 "java/util/ArrayList" "size" "I" (.int (2 : Int32)) ∧ Fld Z h o0 "java/util/AbstractList" "modCount" "I" u_o0_modCount ∧ Fld Z h o0 "java/util/ArrayList" "elementData" "[Ljava/lang/Object;" u_o0_elementData)
set_option maxRecDepth 65536 in
set_option maxHeartbeats 40000000 in
theorem rm38 (l : Launch) (Z : State) (a0 : Array Value) (hw : ∀ d ∈ tables_1, d.before a0 Z = true) (ws : List Jvm.Cond) (o0 : Addr) (o1 : Addr) (o2 : Addr) (k_o2 : ClassId) (o_3 : Addr) (u_o0_size : Value) (u_o0_modCount : Value) (u_o0_elementData : Value) (h0 : Heap) (n0 : Nat) (Z0 : n0 ≤ h0.size) (V_o2 : Arv Z h0 o2 k_o2 (.object "java/lang/Object") (10 : Int32) [(.ref o_3), .null, .null, .null, .null, .null, .null, .null, .null, .null] .null) (g_o2 : n0 ≤ o2) (E_o1 : Exa Z h0 o1 "java/lang/String") (O_o2 : Ovr Z k_o2 "java/lang/Object") (E_o0 : Exa Z h0 o0 "java/util/ArrayList") (F_o0_size : Fld Z h0 o0 "java/util/ArrayList" "size" "I" u_o0_size) (ne_o0_o2 : o0 ≠ o2) (g_o0 : n0 ≤ o0) (F_o0_modCount : Fld Z h0 o0 "java/util/AbstractList" "modCount" "I" u_o0_modCount) (F_o0_elementData : Fld Z h0 o0 "java/util/ArrayList" "elementData" "[Ljava/lang/Object;" u_o0_elementData) :
    Con l Z (⟨"java/util/ArrayList", "add", "(Ljava/lang/Object;[Ljava/lang/Object;I)V"⟩ : MethodName) jdk_38_method_24_code 4 none ws ({ frames := 0, cells := 0, slots := 0, locals := 0 } : Room) #[(.ref o0), (.ref o1), (.ref o2), (.int (1 : Int32))] h0 0 0 (Q38 Z o0 o1 o2 k_o2 o_3 u_o0_size u_o0_modCount u_o0_elementData h0 n0) := by
  refine MetFree.of_bodySF (plainFor_of_name pn_6) hisR ?_
  intro p e s m args below meth c s₁ Bd hml0 hP hK
  obtain ⟨rfl, hZ, hh⟩ := hP
  have hx := Bd.exec
  have hby := Bd.bytes
  have hml : c.maxLocals = 4 := hml0
  have hown : s.vm.findClass "java/util/ArrayList" = some m.cls := findClass_of_methodNamed Bd.named
  have hnm := (name_of_methodNamed Bd.named Bd.method).1
  have X0 : Stand p l e ({ frames := 0, cells := 0, slots := 0, locals := 0 } : Room) s m #[(.ref o0), (.ref o1), (.ref o2), (.int (1 : Int32))] below meth c s₁ [] 0 0 := Stand.of_body Bd
  have e0 : s₁.heap = h0 := by rw [← hh, Bd.state]; rfl
  have N0 := Fr.nil n0
  refine Go.of ?_
  refine Go.st (S' := s₁.setTop (mkF m 0 #[.val (.ref o0), .val (.ref o1), .val (.ref o2), .val (.int (1 : Int32))] [])) (fun t k => castTop (ef_38 m o0 o1 o2) k) ?_
  let A717 : Array Slot := #[.val (.ref o0), .val (.ref o1), .val (.ref o2), .val (.int (1 : Int32))]
  refine Go.st (S' := s₁.setTop (mkF m 1 A717 [(.int (1 : Int32))])) (fun t k => XS.iloadN X0.here hx rfl (hb hby djdk_38_method_24_code_0) rfl k) ?_
  refine Go.st (S' := s₁.setTop (mkF m 2 A717 [(.ref o2), (.int (1 : Int32))])) (fun t k => XS.aloadN X0.here hx rfl (hb hby djdk_38_method_24_code_1) rfl rfl k) ?_
  obtain ⟨cl719, Ar719, -, S719, N719_, -, -⟩ := id V_o2
  refine Go.op (F := fun z => s₁.setTop (mkF m 3 A717 [(.int z), (.int (1 : Int32))])) (x := cl719.slots.size.toInt32) (fun t k => X0.arraylength hx (own_eh e0 Ar719.1) (State.isArrayOf_alike hZ.alike Ar719.2.1) (g := (mkF m 2 A717 [(.ref o2), (.int (1 : Int32))])) rfl rfl (hb hby djdk_38_method_24_code_2) t k) ?_
  intro v720 hv720
  obtain rfl : (10 : Int32) = v720 := (hv720.trans (len_of S719 N719_)).symm
  refine Go.st (S' := s₁.setTop (mkF m 11 A717 [])) (fun t k => XS.icmpYes X0.here hx rfl (pc0 := 3) (pc' := 11) rfl (hb hby djdk_38_method_24_code_3) rfl (feq (by decide : (¬ ((1 : Int32) = (10 : Int32))))).2 (by decide) (by decide) k) ?_
  refine Go.st (S' := s₁.setTop (mkF m 12 A717 [(.ref o2)])) (fun t k => XS.aloadN X0.here hx rfl (hb hby djdk_38_method_24_code_11) rfl rfl k) ?_
  refine Go.st (S' := s₁.setTop (mkF m 13 A717 [(.int (1 : Int32)), (.ref o2)])) (fun t k => XS.iloadN X0.here hx rfl (hb hby djdk_38_method_24_code_12) rfl k) ?_
  refine Go.st (S' := s₁.setTop (mkF m 14 A717 [(.ref o1), (.int (1 : Int32)), (.ref o2)])) (fun t k => XS.aloadN X0.here hx rfl (hb hby djdk_38_method_24_code_13) rfl rfl k) ?_
  obtain ⟨cl721, Ar721, q721, S721, N721_, H721, G721⟩ := id V_o2
  have hin721 : ¬ ((1 : Int32) < 0 ∨ cl721.slots.size ≤ ((1 : Int32)).toNatClampNeg) := inb_of S721 ⟨by decide, by decide⟩
  obtain ⟨T721, h721, X721, e721, W721, st721⟩ := stR X0 hx hZ e0 Ar721 (j := (1 : Int32)) hin721 rfl (Sto.ofV Ar721 q721 O_o2 (Ins.of_exa E_o1 (hw _ (List.mem_of_getElem? (i := 89) rfl)))) (g := (mkF m 14 A717 [(.ref o1), (.int (1 : Int32)), (.ref o2)])) rfl rfl (hb hby djdk_38_method_24_code_14)
  have V721 : Arv Z h721 o2 k_o2 (.object "java/lang/Object") (10 : Int32) [(.ref o_3), (.ref o1), .null, .null, .null, .null, .null, .null, .null, .null] .null := Arv.set Ar721 q721 S721 N721_ H721 G721 rfl W721 1 rfl (Nat.le_of_ble_eq_true rfl)
  have N721 := Fr.snoc X721 N0 g_o2
  have Z725 : n0 ≤ h721.size := Nat.le_trans Z0 (Keep.of_wr W721).1
  have K725 : Keep h0 h721 [o2, o0] := (Keep.refl h0 [o2, o0]).wr W721 (Or.inl (by simp))
  refine Go.st (S' := T721.setTop (mkF m 15 A717 [])) st721 ?_
  refine Go.st (S' := T721.setTop (mkF m 16 A717 [(.ref o0)])) (fun t k => XS.aloadN X721.here hx rfl (hb hby djdk_38_method_24_code_15) rfl rfl k) ?_
  refine Go.st (S' := T721.setTop (mkF m 17 A717 [(.int (1 : Int32)), (.ref o0)])) (fun t k => XS.iloadN X721.here hx rfl (hb hby djdk_38_method_24_code_16) rfl k) ?_
  refine Go.st (S' := T721.setTop (mkF m 18 A717 [(.int (1 : Int32)), (.int (1 : Int32)), (.ref o0)])) (fun t k => XS.iconst X721.here hx rfl (hb hby djdk_38_method_24_code_17) k) ?_
  refine Go.op (F := fun z => T721.setTop (mkF m 19 A717 [(.int z), (.ref o0)])) (x := ((1 : Int32) + (1 : Int32))) (fun t k => XS.iadd X721.here hx rfl (hb hby djdk_38_method_24_code_18) rfl k) ?_
  intro v726 hv726
  obtain rfl : (2 : Int32) = v726 := (hv726.trans (by decide)).symm
  have f727 := ((E_o0).wr W721)
  have f728 := ((F_o0_size).other W721 (Or.inl ne_o0_o2))
  obtain ⟨T729, h729, X729, e729, W729, st729⟩ := putF X721 hx hZ hown (host := "") (Or.inl (hw _ (List.mem_of_getElem? (i := 66) rfl))) Via.refl e721 f728 f727 (Or.inl (hw _ (List.mem_of_getElem? (i := 67) rfl))) (hw _ (List.mem_of_getElem? (i := 36) rfl)) (ty := .int) (by decide) rfl rfl (g := (mkF m 19 A717 [(.int (2 : Int32)), (.ref o0)])) rfl rfl (hb hby djdk_38_method_24_code_19)
  have Fw729 := (f728).same W729
  have N729 := Fr.snoc X729 N721 g_o0
  have Z730 : n0 ≤ h729.size := Nat.le_trans Z725 (Keep.of_wr W729).1
  have K730 : Keep h0 h729 [o2, o0] := K725.wr W729 (Or.inl (by simp))
  refine Go.st (S' := T729.setTop (mkF m 22 A717 [])) st729 ?_
  have f731 := ((((F_o0_modCount).other W721 (Or.inl ne_o0_o2))).other W729 (Or.inr (slot_ne (Or.inl (hw _ (List.mem_of_getElem? (i := 55) rfl))) (Or.inl (hw _ (List.mem_of_getElem? (i := 67) rfl))) (by decide) (t := .int) (t' := .int) (by decide) (by decide))))
  have f732 := ((((F_o0_elementData).other W721 (Or.inl ne_o0_o2))).other W729 (Or.inr (slot_ne (Or.inl (hw _ (List.mem_of_getElem? (i := 58) rfl))) (Or.inl (hw _ (List.mem_of_getElem? (i := 67) rfl))) (by decide) (t := (.array (.object "java/lang/Object"))) (t' := .int) (by decide) (by decide))))
  have f733 := ((V721).other W729 (Ne.symm ne_o0_o2))
  have f734 := ((f727).wr W729)
  exact Go.ret X729 (v := none) (fun _ => rfl) Bd.notSynchronized (fun fs hr => X729.returnOut hx Bd.returns (hb hby djdk_38_method_24_code_22) hr) (by decide) (by decide) (by rw [e729]; exact ⟨rfl, N729, K730, f733, O_o2, f734, Fw729, f731, f732⟩)
theorem ef_39 (m : MethodId) (o0 : Addr) (o1 : Addr) : entryFrame m #[(.ref o0), (.ref o1)] 2 = mkF m 0 #[.val (.ref o0), .val (.ref o1)] [] := by first | (simp [entryFrame, mkF, argsToLocals, Value.category, maxLocals]; done) | rfl
def Q39 (Z : State) (o0 : Addr) (o1 : Addr) (o_2 : Addr) (k_o_2 : ClassId) (o_3 : Addr) (h0 : Heap) (n0 : Nat) (v : Option Value) (h : Heap) (L : List Loc) : Prop := (v = some (.int (1 : Int32)) ∧ Fr n0 L ∧ Keep h0 h [o0, o_2] ∧ Fld Z h o0 "java/util/AbstractList" "modCount" "I" (.int (2 : Int32)) ∧ Exa Z h o0 "java/util/ArrayList" ∧ Fld Z h o0 "java/util/ArrayList" "elementData" "[Ljava/lang/Object;" (.ref o_2) ∧ Fld Z h o0 "java/util/ArrayList" "size" "I" (.int (2 : Int32)) ∧ Arv Z h o_2 k_o_2 (.object "java/lang/Object") (10 : Int32) [(.ref o_3), (.ref o1), .null, .null, .null, .null, .null, .null, .null, .null] .null ∧ Ovr Z k_o_2 "java/lang/Object" ∧ Exa Z h o_2 "[Ljava/lang/Object;")
set_option maxRecDepth 65536 in
set_option maxHeartbeats 40000000 in
theorem rm39 (l : Launch) (Z : State) (a0 : Array Value) (hw : ∀ d ∈ tables_1, d.before a0 Z = true) (ws : List Jvm.Cond) (o0 : Addr) (o1 : Addr) (o_2 : Addr) (k_o_2 : ClassId) (o_3 : Addr) (h0 : Heap) (n0 : Nat) (Z0 : n0 ≤ h0.size) (F_o0_modCount : Fld Z h0 o0 "java/util/AbstractList" "modCount" "I" (.int (1 : Int32))) (E_o0 : Exa Z h0 o0 "java/util/ArrayList") (g_o0 : n0 ≤ o0) (F_o0_elementData : Fld Z h0 o0 "java/util/ArrayList" "elementData" "[Ljava/lang/Object;" (.ref o_2)) (F_o0_size : Fld Z h0 o0 "java/util/ArrayList" "size" "I" (.int (1 : Int32))) (V_o_2 : Arv Z h0 o_2 k_o_2 (.object "java/lang/Object") (10 : Int32) [(.ref o_3), .null, .null, .null, .null, .null, .null, .null, .null, .null] .null) (ne_o_2_o0 : o_2 ≠ o0) (E_o1 : Exa Z h0 o1 "java/lang/String") (O_o_2 : Ovr Z k_o_2 "java/lang/Object") (g_o_2 : n0 ≤ o_2) (E_o_2 : Exa Z h0 o_2 "[Ljava/lang/Object;") :
    Con l Z (⟨"java/util/ArrayList", "add", "(Ljava/lang/Object;)Z"⟩ : MethodName) jdk_38_method_25_code 2 (some .boolean) ws ({ frames := 1, cells := 0, slots := 0, locals := 15 } : Room) #[(.ref o0), (.ref o1)] h0 0 0 (Q39 Z o0 o1 o_2 k_o_2 o_3 h0 n0) := by
  refine MetFree.of_bodySF (plainFor_of_name pn_6) hisR ?_
  intro p e s m args below meth c s₁ Bd hml0 hP hK
  obtain ⟨rfl, hZ, hh⟩ := hP
  have hx := Bd.exec
  have hby := Bd.bytes
  have hml : c.maxLocals = 2 := hml0
  have hown : s.vm.findClass "java/util/ArrayList" = some m.cls := findClass_of_methodNamed Bd.named
  have hnm := (name_of_methodNamed Bd.named Bd.method).1
  have X0 : Stand p l e ({ frames := 1, cells := 0, slots := 0, locals := 15 } : Room) s m #[(.ref o0), (.ref o1)] below meth c s₁ [] 0 0 := Stand.of_body Bd
  have e0 : s₁.heap = h0 := by rw [← hh, Bd.state]; rfl
  have N0 := Fr.nil n0
  refine Go.of ?_
  refine Go.st (S' := s₁.setTop (mkF m 0 #[.val (.ref o0), .val (.ref o1)] [])) (fun t k => castTop (ef_39 m o0 o1) k) ?_
  refine Go.st (S' := s₁.setTop (mkF m 1 #[.val (.ref o0), .val (.ref o1)] [(.ref o0)])) (fun t k => XS.aloadN X0.here hx rfl (hb hby djdk_38_method_25_code_0) rfl rfl k) ?_
  refine Go.st (S' := s₁.setTop (mkF m 2 #[.val (.ref o0), .val (.ref o1)] [(.ref o0), (.ref o0)])) (fun t k => XS.dup X0.here hx rfl (hb hby djdk_38_method_25_code_1) rfl rfl k) ?_
  obtain ⟨T708, X708, e708, st708⟩ := getF X0 hx hZ hown (host := "") (Or.inl (hw _ (List.mem_of_getElem? (i := 64) rfl))) (Via.of (hw _ (List.mem_of_getElem? (i := 65) rfl))) e0 F_o0_modCount (g := (mkF m 2 #[.val (.ref o0), .val (.ref o1)] [(.ref o0), (.ref o0)])) rfl rfl (hb hby djdk_38_method_25_code_2)
  refine Go.st (S' := T708.setTop (mkF m 5 #[.val (.ref o0), .val (.ref o1)] [(.int (1 : Int32)), (.ref o0)])) st708 ?_
  refine Go.st (S' := T708.setTop (mkF m 6 #[.val (.ref o0), .val (.ref o1)] [(.int (1 : Int32)), (.int (1 : Int32)), (.ref o0)])) (fun t k => XS.iconst X708.here hx rfl (hb hby djdk_38_method_25_code_5) k) ?_
  refine Go.op (F := fun z => T708.setTop (mkF m 7 #[.val (.ref o0), .val (.ref o1)] [(.int z), (.ref o0)])) (x := ((1 : Int32) + (1 : Int32))) (fun t k => XS.iadd X708.here hx rfl (hb hby djdk_38_method_25_code_6) rfl k) ?_
  intro v709 hv709
  obtain rfl : (2 : Int32) = v709 := (hv709.trans (by decide)).symm
  obtain ⟨T710, h710, X710, e710, W710, st710⟩ := putF X708 hx hZ hown (host := "") (Or.inl (hw _ (List.mem_of_getElem? (i := 64) rfl))) (Via.of (hw _ (List.mem_of_getElem? (i := 65) rfl))) e708 F_o0_modCount E_o0 (Or.inl (hw _ (List.mem_of_getElem? (i := 55) rfl))) (hw _ (List.mem_of_getElem? (i := 36) rfl)) (ty := .int) (by decide) rfl rfl (g := (mkF m 7 #[.val (.ref o0), .val (.ref o1)] [(.int (2 : Int32)), (.ref o0)])) rfl rfl (hb hby djdk_38_method_25_code_7)
  have Fw710 := (F_o0_modCount).same W710
  have N710 := Fr.snoc X710 N0 g_o0
  have Z711 : n0 ≤ h710.size := Nat.le_trans Z0 (Keep.of_wr W710).1
  have K711 : Keep h0 h710 [o0, o_2] := (Keep.refl h0 [o0, o_2]).wr W710 (Or.inl (by simp))
  refine Go.st (S' := T710.setTop (mkF m 10 #[.val (.ref o0), .val (.ref o1)] [])) st710 ?_
  refine Go.st (S' := T710.setTop (mkF m 11 #[.val (.ref o0), .val (.ref o1)] [(.ref o0)])) (fun t k => XS.aloadN X710.here hx rfl (hb hby djdk_38_method_25_code_10) rfl rfl k) ?_
  refine Go.st (S' := T710.setTop (mkF m 12 #[.val (.ref o0), .val (.ref o1)] [(.ref o1), (.ref o0)])) (fun t k => XS.aloadN X710.here hx rfl (hb hby djdk_38_method_25_code_11) rfl rfl k) ?_
  refine Go.st (S' := T710.setTop (mkF m 13 #[.val (.ref o0), .val (.ref o1)] [(.ref o0), (.ref o1), (.ref o0)])) (fun t k => XS.aloadN X710.here hx rfl (hb hby djdk_38_method_25_code_12) rfl rfl k) ?_
  have f712 := ((F_o0_elementData).other W710 (Or.inr (slot_ne (Or.inl (hw _ (List.mem_of_getElem? (i := 58) rfl))) (Or.inl (hw _ (List.mem_of_getElem? (i := 55) rfl))) (by decide) (t := (.array (.object "java/lang/Object"))) (t' := .int) (by decide) (by decide))))
  obtain ⟨T713, X713, e713, st713⟩ := getF X710 hx hZ hown (host := "") (Or.inl (hw _ (List.mem_of_getElem? (i := 57) rfl))) Via.refl e710 f712 (g := (mkF m 13 #[.val (.ref o0), .val (.ref o1)] [(.ref o0), (.ref o1), (.ref o0)])) rfl rfl (hb hby djdk_38_method_25_code_13)
  refine Go.st (S' := T713.setTop (mkF m 16 #[.val (.ref o0), .val (.ref o1)] [(.ref o_2), (.ref o1), (.ref o0)])) st713 ?_
  refine Go.st (S' := T713.setTop (mkF m 17 #[.val (.ref o0), .val (.ref o1)] [(.ref o0), (.ref o_2), (.ref o1), (.ref o0)])) (fun t k => XS.aloadN X713.here hx rfl (hb hby djdk_38_method_25_code_16) rfl rfl k) ?_
  have f714 := ((F_o0_size).other W710 (Or.inr (slot_ne (Or.inl (hw _ (List.mem_of_getElem? (i := 67) rfl))) (Or.inl (hw _ (List.mem_of_getElem? (i := 55) rfl))) (by decide) (t := .int) (t' := .int) (by decide) (by decide))))
  obtain ⟨T715, X715, e715, st715⟩ := getF X713 hx hZ hown (host := "") (Or.inl (hw _ (List.mem_of_getElem? (i := 66) rfl))) Via.refl e713 f714 (g := (mkF m 17 #[.val (.ref o0), .val (.ref o1)] [(.ref o0), (.ref o_2), (.ref o1), (.ref o0)])) rfl rfl (hb hby djdk_38_method_25_code_17)
  refine Go.st (S' := T715.setTop (mkF m 20 #[.val (.ref o0), .val (.ref o1)] [(.int (1 : Int32)), (.ref o_2), (.ref o1), (.ref o0)])) st715 ?_
  have f716 := ((E_o0).wr W710)
  have f735 := ((V_o_2).other W710 ne_o_2_o0)
  have f736 := ((E_o1).wr W710)
  obtain ⟨r737, T737, L737, X737, hQ737, st737⟩ := own_callP (W := 0) (a := o0) X715 hx hZ e715 hown (y := (⟨"java/util/ArrayList", "add", "(Ljava/lang/Object;[Ljava/lang/Object;I)V"⟩ : MethodName)) (hw _ (List.mem_of_getElem? (i := 68) rfl)) (hw _ (List.mem_of_getElem? (i := 69) rfl)) (hw _ (List.mem_of_getElem? (i := 71) rfl)) (hw _ (List.mem_of_getElem? (i := 70) rfl)) (hw _ (List.mem_of_getElem? (i := 37) rfl)) (hw _ (List.mem_of_getElem? (i := 72) rfl)) (by decide) (f716) (rm38 l Z a0 hw [] o0 o1 o_2 k_o_2 o_3 ((.int (1 : Int32))) ((.int (2 : Int32))) ((.ref o_2)) h710 n0 Z711 (f735) (g_o_2) (f736) (O_o_2) (f716) (f714) ((Ne.symm ne_o_2_o0)) (g_o0) (Fw710) (f712)) (by decide) (by decide) (by decide) (by decide) (g := (mkF m 20 #[.val (.ref o0), .val (.ref o1)] [(.int (1 : Int32)), (.ref o_2), (.ref o1), (.ref o0)])) rfl (by rw [hml]; rfl) (argsL := [(.ref o1), (.ref o_2), (.int (1 : Int32))]) (rest := []) rfl (lenOf pd_14 rfl) rfl (by show 2 * 0 + _ ≤ _; exact Nat.le_of_eq rfl) (hb hby djdk_38_method_25_code_20)
  obtain ⟨rfl, N737, K737_, f738, f739, f740, f741, f742, f743⟩ := hQ737
  have N737_ := Fr.app N710 N737
  have Z744 : n0 ≤ T737.heap.size := Nat.le_trans Z711 K737_.1
  have K744 : Keep h0 T737.heap [o0, o_2] := K711.trans K737_ (allS (Or.inl (by simp)) (allS (Or.inl (by simp)) all0))
  refine Go.st (S' := T737.setTop (mkF m 23 #[.val (.ref o0), .val (.ref o1)] [])) st737 ?_
  refine Go.st (S' := T737.setTop (mkF m 24 #[.val (.ref o0), .val (.ref o1)] [(.int (1 : Int32))])) (fun t k => XS.iconst X737.here hx rfl (hb hby djdk_38_method_25_code_23) k) ?_
  have f745 := ((((E_o_2).wr W710)).keep K737_)
  exact Go.ret X737 (v := some (.int (1 : Int32))) (fun h => by rw [Bd.returns] at h; cases h) Bd.notSynchronized (fun fs hr => retN X737 hx (t := .boolean) Bd.returns (by simp) (hb hby djdk_38_method_25_code_24) hr) (by decide) (by decide) (⟨rfl, N737_, K744, f742, f740, f743, f741, f738, f739, f745⟩)
theorem ef_40 (m : MethodId) (o0 : Addr) : entryFrame m #[(.ref o0)] 1 = mkF m 0 #[.val (.ref o0)] [] := by first | (simp [entryFrame, mkF, argsToLocals, Value.category, maxLocals]; done) | rfl
def Q40 (Z : State) (o0 : Addr) (h0 : Heap) (n0 : Nat) (v : Option Value) (h : Heap) (L : List Loc) : Prop := (v = some (.int (0 : Int32)) ∧ Fr n0 L ∧ h = h0)
set_option maxRecDepth 65536 in
set_option maxHeartbeats 40000000 in
theorem rm40 (l : Launch) (Z : State) (a0 : Array Value) (hw : ∀ d ∈ tables_1, d.before a0 Z = true) (ws : List Jvm.Cond) (o0 : Addr) (h0 : Heap) (n0 : Nat) (Z0 : n0 ≤ h0.size) (F_o0_size : Fld Z h0 o0 "java/util/ArrayList" "size" "I" (.int (2 : Int32))) :
    Con l Z (⟨"java/util/ArrayList", "isEmpty", "()Z"⟩ : MethodName) jdk_38_method_9_code 1 (some .boolean) ws ({ frames := 0, cells := 0, slots := 0, locals := 0 } : Room) #[(.ref o0)] h0 0 0 (Q40 Z o0 h0 n0) := by
  refine MetFree.of_bodySF (plainFor_of_name pn_6) hisR ?_
  intro p e s m args below meth c s₁ Bd hml0 hP hK
  obtain ⟨rfl, hZ, hh⟩ := hP
  have hx := Bd.exec
  have hby := Bd.bytes
  have hml : c.maxLocals = 1 := hml0
  have hown : s.vm.findClass "java/util/ArrayList" = some m.cls := findClass_of_methodNamed Bd.named
  have hnm := (name_of_methodNamed Bd.named Bd.method).1
  have X0 : Stand p l e ({ frames := 0, cells := 0, slots := 0, locals := 0 } : Room) s m #[(.ref o0)] below meth c s₁ [] 0 0 := Stand.of_body Bd
  have e0 : s₁.heap = h0 := by rw [← hh, Bd.state]; rfl
  have N0 := Fr.nil n0
  refine Go.of ?_
  refine Go.st (S' := s₁.setTop (mkF m 0 #[.val (.ref o0)] [])) (fun t k => castTop (ef_40 m o0) k) ?_
  refine Go.st (S' := s₁.setTop (mkF m 1 #[.val (.ref o0)] [(.ref o0)])) (fun t k => XS.aloadN X0.here hx rfl (hb hby djdk_38_method_9_code_0) rfl rfl k) ?_
  obtain ⟨T928, X928, e928, st928⟩ := getF X0 hx hZ hown (host := "") (Or.inl (hw _ (List.mem_of_getElem? (i := 66) rfl))) Via.refl e0 F_o0_size (g := (mkF m 1 #[.val (.ref o0)] [(.ref o0)])) rfl rfl (hb hby djdk_38_method_9_code_1)
  refine Go.st (S' := T928.setTop (mkF m 4 #[.val (.ref o0)] [(.int (2 : Int32))])) st928 ?_
  refine Go.st (S' := T928.setTop (mkF m 11 #[.val (.ref o0)] [])) (fun t k => XS.ifYes X928.here hx rfl (pc0 := 4) (pc' := 11) rfl (hb hby djdk_38_method_9_code_4) rfl ((if0 _ _).trans (feq (by decide : (¬ ((2 : Int32) = (0 : Int32))))).2) (by decide) (by decide) k) ?_
  refine Go.st (S' := T928.setTop (mkF m 12 #[.val (.ref o0)] [(.int (0 : Int32))])) (fun t k => XS.iconst X928.here hx rfl (hb hby djdk_38_method_9_code_11) k) ?_
  exact Go.ret X928 (v := some (.int (0 : Int32))) (fun h => by rw [Bd.returns] at h; cases h) Bd.notSynchronized (fun fs hr => retN X928 hx (t := .boolean) Bd.returns (by simp) (hb hby djdk_38_method_9_code_12) hr) (by decide) (by decide) (⟨rfl, N0, (e928)⟩)
theorem ef_41 (m : MethodId)  : entryFrame m #[(.int (10 : Int32)), (.int (2 : Int32))] 2 = mkF m 0 #[.val (.int (10 : Int32)), .val (.int (2 : Int32))] [] := by first | (simp [entryFrame, mkF, argsToLocals, Value.category, maxLocals]; done) | rfl
def Q41 (Z : State)  (h0 : Heap) (n0 : Nat) (v : Option Value) (h : Heap) (L : List Loc) : Prop := (v = some (.int (2 : Int32)) ∧ Fr n0 L ∧ h = h0)
set_option maxRecDepth 65536 in
set_option maxHeartbeats 40000000 in
theorem rm41 (l : Launch) (Z : State) (a0 : Array Value) (hw : ∀ d ∈ tables_1, d.before a0 Z = true) (ws : List Jvm.Cond)  (h0 : Heap) (n0 : Nat) (Z0 : n0 ≤ h0.size)  :
    Con l Z (⟨"java/lang/Math", "min", "(II)I"⟩ : MethodName) jdk_29_method_69_code 2 (some .int) ws ({ frames := 0, cells := 0, slots := 0, locals := 0 } : Room) #[(.int (10 : Int32)), (.int (2 : Int32))] h0 0 0 (Q41 Z  h0 n0) := by
  refine MetFree.of_bodySF (Jvm.Free.JP.mathPlain rfl (by decide +kernel)) hisR ?_
  intro p e s m args below meth c s₁ Bd hml0 hP hK
  obtain ⟨rfl, hZ, hh⟩ := hP
  have hx := Bd.exec
  have hby := Bd.bytes
  have hml : c.maxLocals = 2 := hml0
  have hown : s.vm.findClass "java/lang/Math" = some m.cls := findClass_of_methodNamed Bd.named
  have hnm := (name_of_methodNamed Bd.named Bd.method).1
  have X0 : Stand p l e ({ frames := 0, cells := 0, slots := 0, locals := 0 } : Room) s m #[(.int (10 : Int32)), (.int (2 : Int32))] below meth c s₁ [] 0 0 := Stand.of_body Bd
  have e0 : s₁.heap = h0 := by rw [← hh, Bd.state]; rfl
  have N0 := Fr.nil n0
  refine Go.of ?_
  refine Go.st (S' := s₁.setTop (mkF m 0 #[.val (.int (10 : Int32)), .val (.int (2 : Int32))] [])) (fun t k => castTop (ef_41 m ) k) ?_
  refine Go.st (S' := s₁.setTop (mkF m 1 #[.val (.int (10 : Int32)), .val (.int (2 : Int32))] [(.int (10 : Int32))])) (fun t k => XS.iloadN X0.here hx rfl (hb hby djdk_29_method_69_code_0) rfl k) ?_
  refine Go.st (S' := s₁.setTop (mkF m 2 #[.val (.int (10 : Int32)), .val (.int (2 : Int32))] [(.int (2 : Int32)), (.int (10 : Int32))])) (fun t k => XS.iloadN X0.here hx rfl (hb hby djdk_29_method_69_code_1) rfl k) ?_
  refine Go.st (S' := s₁.setTop (mkF m 9 #[.val (.int (10 : Int32)), .val (.int (2 : Int32))] [])) (fun t k => XS.icmpYes X0.here hx rfl (pc0 := 2) (pc' := 9) rfl (hb hby djdk_29_method_69_code_2) rfl (tlt (by decide : ((2 : Int32) < (10 : Int32)))).2.2.1 (by decide) (by decide) k) ?_
  refine Go.st (S' := s₁.setTop (mkF m 10 #[.val (.int (10 : Int32)), .val (.int (2 : Int32))] [(.int (2 : Int32))])) (fun t k => XS.iloadN X0.here hx rfl (hb hby djdk_29_method_69_code_9) rfl k) ?_
  exact Go.ret X0 (v := some (.int (2 : Int32))) (fun h => by rw [Bd.returns] at h; cases h) Bd.notSynchronized (fun fs hr => retI X0 hx Bd.returns (hb hby djdk_29_method_69_code_10) hr) (by decide) (by decide) (⟨rfl, N0, (e0)⟩)
theorem ef_42 (m : MethodId) (o0 : Addr) (s_mir__Ljava_lang_Object_ : Addr) : entryFrame m #[(.ref o0), (.int (2 : Int32)), (.ref s_mir__Ljava_lang_Object_)] 4 = mkF m 0 #[.val (.ref o0), .val (.int (2 : Int32)), .val (.ref s_mir__Ljava_lang_Object_), .unset] [] := by first | (simp [entryFrame, mkF, argsToLocals, Value.category, maxLocals]; done) | rfl
def Q42 (Z : State) (o0 : Addr) (s_mir__Ljava_lang_Object_ : Addr) (k_o0 : ClassId) (o_2 : Addr) (o_3 : Addr) (h0 : Heap) (n0 : Nat) (v : Option Value) (h : Heap) (L : List Loc) : Prop := (∃ (b937 : Addr) (k937 : ClassId), v = some (.ref b937) ∧ Fr n0 L ∧ Keep h0 h [] ∧ h0.size ≤ b937 ∧ Arv Z h b937 k937 (.object "java/lang/Object") (2 : Int32) [(.ref o_2), (.ref o_3)] .null ∧ Ovr Z k937 "java/lang/Object" ∧ Exa Z h b937 "[Ljava/lang/Object;")
set_option maxRecDepth 65536 in
set_option maxHeartbeats 40000000 in
theorem rm42 (l : Launch) (Z : State) (a0 : Array Value) (hw : ∀ d ∈ tables_1, d.before a0 Z = true) (ws : List Jvm.Cond) (o0 : Addr) (s_mir__Ljava_lang_Object_ : Addr) (k_o0 : ClassId) (o_2 : Addr) (o_3 : Addr) (h0 : Heap) (n0 : Nat) (Z0 : n0 ≤ h0.size) (M_s_mir__Ljava_lang_Object_ : Mir Z "[Ljava/lang/Object;" s_mir__Ljava_lang_Object_) (V_o0 : Arv Z h0 o0 k_o0 (.object "java/lang/Object") (10 : Int32) [(.ref o_2), (.ref o_3), .null, .null, .null, .null, .null, .null, .null, .null] .null) (E_o_3 : Exa Z h0 o_3 "java/lang/String") (E_o_2 : Exa Z h0 o_2 "java/lang/String") :
    Con l Z (⟨"java/util/Arrays", "copyOf", "([Ljava/lang/Object;ILjava/lang/Class;)[Ljava/lang/Object;"⟩ : MethodName) jdk_65_method_120_code 4 (some (.array (.object "java/lang/Object"))) ws ({ frames := 1, cells := 1, slots := 2, locals := 40 } : Room) #[(.ref o0), (.int (2 : Int32)), (.ref s_mir__Ljava_lang_Object_)] h0 1 2 (Q42 Z o0 s_mir__Ljava_lang_Object_ k_o0 o_2 o_3 h0 n0) := by
  refine MetFree.of_bodySF (plainFor_of_name pn_7) hisR ?_
  intro p e s m args below meth c s₁ Bd hml0 hP hK
  obtain ⟨rfl, hZ, hh⟩ := hP
  have hx := Bd.exec
  have hby := Bd.bytes
  have hml : c.maxLocals = 4 := hml0
  have hown : s.vm.findClass "java/util/Arrays" = some m.cls := findClass_of_methodNamed Bd.named
  have hnm := (name_of_methodNamed Bd.named Bd.method).1
  have X0 : Stand p l e ({ frames := 1, cells := 1, slots := 2, locals := 40 } : Room) s m #[(.ref o0), (.int (2 : Int32)), (.ref s_mir__Ljava_lang_Object_)] below meth c s₁ [] 0 0 := Stand.of_body Bd
  have e0 : s₁.heap = h0 := by rw [← hh, Bd.state]; rfl
  have N0 := Fr.nil n0
  refine Go.of ?_
  refine Go.st (S' := s₁.setTop (mkF m 0 #[.val (.ref o0), .val (.int (2 : Int32)), .val (.ref s_mir__Ljava_lang_Object_), .unset] [])) (fun t k => castTop (ef_42 m o0 s_mir__Ljava_lang_Object_) k) ?_
  let A935 : Array Slot := #[.val (.ref o0), .val (.int (2 : Int32)), .val (.ref s_mir__Ljava_lang_Object_), .unset]
  refine Go.st (S' := s₁.setTop (mkF m 1 A935 [(.ref s_mir__Ljava_lang_Object_)])) (fun t k => XS.aloadN X0.here hx rfl (hb hby djdk_65_method_120_code_0) rfl rfl k) ?_
  obtain ⟨T936, X936, e936, st936⟩ := own_ldcM X0 hx hZ hown (hw _ (List.mem_of_getElem? (i := 142) rfl)) e0 M_s_mir__Ljava_lang_Object_ (g := (mkF m 1 A935 [(.ref s_mir__Ljava_lang_Object_)])) rfl (hb hby djdk_65_method_120_code_1)
  refine Go.st (S' := T936.setTop (mkF m 3 A935 [(.ref s_mir__Ljava_lang_Object_), (.ref s_mir__Ljava_lang_Object_)])) st936 ?_
  refine Go.st (S' := T936.setTop (mkF m 6 A935 [])) (fun t k => acmp X936 hx rfl rfl rfl (pc0 := 3) (pc' := 6) (same := true) rfl (hb hby djdk_65_method_120_code_3) rfl (by simp) (by decide) (by decide) k) ?_
  refine Go.st (S' := T936.setTop (mkF m 7 A935 [(.int (2 : Int32))])) (fun t k => XS.iloadN X936.here hx rfl (hb hby djdk_65_method_120_code_6) rfl k) ?_
  obtain ⟨T937, h937, k937, X937, e937, E937, A937, B937, O937, st937⟩ := newRE X936 hx hZ hown (hw _ (List.mem_of_getElem? (i := 143) rfl)) (hw _ (List.mem_of_getElem? (i := 88) rfl)) e936 (g := (mkF m 7 A935 [(.int (2 : Int32))])) rfl (hb hby djdk_65_method_120_code_7) rfl (by decide) (cap := 2) (by decide) (by decide) (by decide) (by decide) (ad := "[Ljava/lang/Object;") (by decide)
  obtain ⟨b937, gg937⟩ : ∃ z, z = h0.size := ⟨_, rfl⟩
  rw [← gg937] at A937 B937 st937
  have g_b937 : n0 ≤ b937 := Nat.le_trans Z0 (Nat.le_of_eq gg937.symm)
  have sz_b937 : h0.size ≤ b937 := Nat.le_trans (Keep.refl h0 []).1 (Nat.le_of_eq gg937.symm)
  have Z938 : n0 ≤ h937.size := Nat.le_trans Z0 E937.1
  have K938 : Keep h0 h937 [] := (Keep.refl h0 []).ext E937
  have V937 : Arv Z h937 b937 k937 (.object "java/lang/Object") (2 : Int32) [.null, .null] .null := (Arv.new A937 (by decide)).pad (pad_rep [] .null 2)
  refine Go.st (S' := T937.setTop (mkF m 10 A935 [(.ref b937)])) st937 ?_
  refine Go.st (S' := T937.setTop (mkF m 24 A935 [(.ref b937)])) (fun t k => XS.goto X937.here hx rfl (pc0 := 10) (pc' := 24) rfl (hb hby djdk_65_method_120_code_10) (by decide) (by decide) k) ?_
  let A939 : Array Slot := #[.val (.ref o0), .val (.int (2 : Int32)), .val (.ref s_mir__Ljava_lang_Object_), .val (.ref b937)]
  refine Go.st (S' := T937.setTop (mkF m 25 A939 [])) (fun t k => XS.astoreN X937.here hx rfl (hb hby djdk_65_method_120_code_24) rfl rfl (l' := A939) rfl k) ?_
  refine Go.st (S' := T937.setTop (mkF m 26 A939 [(.ref o0)])) (fun t k => XS.aloadN X937.here hx rfl (hb hby djdk_65_method_120_code_25) rfl rfl k) ?_
  refine Go.st (S' := T937.setTop (mkF m 27 A939 [(.int (0 : Int32)), (.ref o0)])) (fun t k => XS.iconst X937.here hx rfl (hb hby djdk_65_method_120_code_26) k) ?_
  refine Go.st (S' := T937.setTop (mkF m 28 A939 [(.ref b937), (.int (0 : Int32)), (.ref o0)])) (fun t k => XS.aloadN X937.here hx rfl (hb hby djdk_65_method_120_code_27) rfl rfl k) ?_
  refine Go.st (S' := T937.setTop (mkF m 29 A939 [(.int (0 : Int32)), (.ref b937), (.int (0 : Int32)), (.ref o0)])) (fun t k => XS.iconst X937.here hx rfl (hb hby djdk_65_method_120_code_28) k) ?_
  refine Go.st (S' := T937.setTop (mkF m 30 A939 [(.ref o0), (.int (0 : Int32)), (.ref b937), (.int (0 : Int32)), (.ref o0)])) (fun t k => XS.aloadN X937.here hx rfl (hb hby djdk_65_method_120_code_29) rfl rfl k) ?_
  have f941 := ((V_o0).ext E937)
  obtain ⟨cl942, Ar942, -, S942, N942_, -, -⟩ := id f941
  refine Go.op (F := fun z => T937.setTop (mkF m 31 A939 [(.int z), (.int (0 : Int32)), (.ref b937), (.int (0 : Int32)), (.ref o0)])) (x := cl942.slots.size.toInt32) (fun t k => X937.arraylength hx (own_eh e937 Ar942.1) (State.isArrayOf_alike hZ.alike Ar942.2.1) (g := (mkF m 30 A939 [(.ref o0), (.int (0 : Int32)), (.ref b937), (.int (0 : Int32)), (.ref o0)])) rfl rfl (hb hby djdk_65_method_120_code_30) t k) ?_
  intro v943 hv943
  obtain rfl : (10 : Int32) = v943 := (hv943.trans (len_of S942 N942_)).symm
  refine Go.st (S' := T937.setTop (mkF m 32 A939 [(.int (2 : Int32)), (.int (10 : Int32)), (.int (0 : Int32)), (.ref b937), (.int (0 : Int32)), (.ref o0)])) (fun t k => XS.iloadN X937.here hx rfl (hb hby djdk_65_method_120_code_31) rfl k) ?_
  obtain ⟨r944, T944, L944, X944, hQ944, st944⟩ := own_callS (W := 4) X937 hx hZ e937 hown (y := (⟨"java/lang/Math", "min", "(II)I"⟩ : MethodName)) (hw _ (List.mem_of_getElem? (i := 144) rfl)) (hw _ (List.mem_of_getElem? (i := 145) rfl)) (hw _ (List.mem_of_getElem? (i := 85) rfl)) (hw _ (List.mem_of_getElem? (i := 146) rfl)) (by decide) (rm41 l Z a0 hw []  h937 n0 Z938 ) (by decide) (by decide) (by decide) (by decide) (g := (mkF m 32 A939 [(.int (2 : Int32)), (.int (10 : Int32)), (.int (0 : Int32)), (.ref b937), (.int (0 : Int32)), (.ref o0)])) rfl (by rw [hml]; rfl) (argsL := [(.int (10 : Int32)), (.int (2 : Int32))]) (rest := [(.int (0 : Int32)), (.ref b937), (.int (0 : Int32)), (.ref o0)]) rfl (lenOf pd_11 rfl) rfl (by show 2 * 0 + _ ≤ _; exact Nat.le_of_eq rfl) (hb hby djdk_65_method_120_code_32)
  obtain ⟨rfl, N944, e944⟩ := hQ944
  have N944_ := Fr.app N0 N944
  refine Go.st (S' := T944.setTop (mkF m 35 A939 [(.int (2 : Int32)), (.int (0 : Int32)), (.ref b937), (.int (0 : Int32)), (.ref o0)])) st944 ?_
  obtain ⟨cl945, Ar945, q945, -⟩ := id V937
  have f947 := ((E_o_3).ext E937)
  have f949 := ((E_o_2).ext E937)
  obtain ⟨T945, h945, L945, X945, e945, N945, K945_, V945, st945⟩ := cpA X944 hx hZ hown (hw _ (List.mem_of_getElem? (i := 147) rfl)) (hw _ (List.mem_of_getElem? (i := 150) rfl)) (hw _ (List.mem_of_getElem? (i := 148) rfl)) (hw _ (List.mem_of_getElem? (i := 149) rfl)) e944 (f941) (V937) (sp := (0 : Int32)) (dp := (0 : Int32)) (nn := (2 : Int32)) (us := [(.ref o_2), (.ref o_3)]) (Or.inr ⟨rfl, rfl, ⟨(Sto.ofV Ar945 q945 O937 (Ins.of_exa f949 (hw _ (List.mem_of_getElem? (i := 89) rfl)))), ⟨(Sto.ofV Ar945 q945 O937 (Ins.of_exa f947 (hw _ (List.mem_of_getElem? (i := 89) rfl)))), trivial⟩⟩⟩) (by decide) (by decide) (by decide) (by decide) (by decide) rfl (Nat.le_of_ble_eq_true rfl) N944_ g_b937 (g := (mkF m 35 A939 [(.int (2 : Int32)), (.int (0 : Int32)), (.ref b937), (.int (0 : Int32)), (.ref o0)])) rfl (by rw [hml]; rfl) rfl (hb hby djdk_65_method_120_code_35) (by decide) (W := 0) (by show 2 * 0 + _ ≤ _; exact Nat.le_of_eq rfl) (by decide)
  have V945 : Arv Z h945 b937 k937 (.object "java/lang/Object") (2 : Int32) [(.ref o_2), (.ref o_3)] .null := V945
  have Z950 : n0 ≤ h945.size := Nat.le_trans Z938 K945_.1
  have K950 : Keep h0 h945 [] := K938.trans K945_ (allS (Or.inr sz_b937) all0)
  refine Go.st (S' := T945.setTop (mkF m 38 A939 [])) st945 ?_
  refine Go.st (S' := T945.setTop (mkF m 39 A939 [(.ref b937)])) (fun t k => XS.aloadN X945.here hx rfl (hb hby djdk_65_method_120_code_38) rfl rfl k) ?_
  have f951 := ((B937).keep K945_)
  exact Go.ret X945 (v := some (.ref b937)) (fun h => by rw [Bd.returns] at h; cases h) Bd.notSynchronized (fun fs hr => retOut X945 hx Bd.returns rfl (Or.inr (Or.inr (Or.inr (Or.inr ⟨rfl, rfl, rfl⟩)))) (hb hby djdk_65_method_120_code_39) hr) (by decide) (by decide) (by rw [e945]; exact ⟨b937, k937, rfl, N945, K950, sz_b937, V945, O937, f951⟩)
theorem ef_43 (m : MethodId) (o0 : Addr) : entryFrame m #[(.ref o0), (.int (2 : Int32))] 2 = mkF m 0 #[.val (.ref o0), .val (.int (2 : Int32))] [] := by first | (simp [entryFrame, mkF, argsToLocals, Value.category, maxLocals]; done) | rfl
def Q43 (Z : State) (o0 : Addr) (s_mir__Ljava_lang_Object_ : Addr) (k_o0 : ClassId) (o_1 : Addr) (o_2 : Addr) (h0 : Heap) (n0 : Nat) (v : Option Value) (h : Heap) (L : List Loc) : Prop := (∃ (b953 : Addr) (k954 : ClassId), v = some (.ref b953) ∧ Fr n0 L ∧ Keep h0 h [] ∧ h0.size ≤ b953 ∧ Arv Z h b953 k954 (.object "java/lang/Object") (2 : Int32) [(.ref o_1), (.ref o_2)] .null ∧ Ovr Z k954 "java/lang/Object" ∧ Exa Z h b953 "[Ljava/lang/Object;")
set_option maxRecDepth 65536 in
set_option maxHeartbeats 40000000 in
theorem rm43 (l : Launch) (Z : State) (a0 : Array Value) (hw : ∀ d ∈ tables_1, d.before a0 Z = true) (ws : List Jvm.Cond) (o0 : Addr) (s_mir__Ljava_lang_Object_ : Addr) (k_o0 : ClassId) (o_1 : Addr) (o_2 : Addr) (h0 : Heap) (n0 : Nat) (Z0 : n0 ≤ h0.size) (E_o0 : Exa Z h0 o0 "[Ljava/lang/Object;") (M_s_mir__Ljava_lang_Object_ : Mir Z "[Ljava/lang/Object;" s_mir__Ljava_lang_Object_) (V_o0 : Arv Z h0 o0 k_o0 (.object "java/lang/Object") (10 : Int32) [(.ref o_1), (.ref o_2), .null, .null, .null, .null, .null, .null, .null, .null] .null) (E_o_2 : Exa Z h0 o_2 "java/lang/String") (E_o_1 : Exa Z h0 o_1 "java/lang/String") :
    Con l Z (⟨"java/util/Arrays", "copyOf", "([Ljava/lang/Object;I)[Ljava/lang/Object;"⟩ : MethodName) jdk_65_method_119_code 2 (some (.array (.object "java/lang/Object"))) ws ({ frames := 2, cells := 1, slots := 2, locals := 55 } : Room) #[(.ref o0), (.int (2 : Int32))] h0 1 2 (Q43 Z o0 s_mir__Ljava_lang_Object_ k_o0 o_1 o_2 h0 n0) := by
  refine MetFree.of_bodySF (plainFor_of_name pn_7) hisR ?_
  intro p e s m args below meth c s₁ Bd hml0 hP hK
  obtain ⟨rfl, hZ, hh⟩ := hP
  have hx := Bd.exec
  have hby := Bd.bytes
  have hml : c.maxLocals = 2 := hml0
  have hown : s.vm.findClass "java/util/Arrays" = some m.cls := findClass_of_methodNamed Bd.named
  have hnm := (name_of_methodNamed Bd.named Bd.method).1
  have X0 : Stand p l e ({ frames := 2, cells := 1, slots := 2, locals := 55 } : Room) s m #[(.ref o0), (.int (2 : Int32))] below meth c s₁ [] 0 0 := Stand.of_body Bd
  have e0 : s₁.heap = h0 := by rw [← hh, Bd.state]; rfl
  have N0 := Fr.nil n0
  refine Go.of ?_
  refine Go.st (S' := s₁.setTop (mkF m 0 #[.val (.ref o0), .val (.int (2 : Int32))] [])) (fun t k => castTop (ef_43 m o0) k) ?_
  refine Go.st (S' := s₁.setTop (mkF m 1 #[.val (.ref o0), .val (.int (2 : Int32))] [(.ref o0)])) (fun t k => XS.aloadN X0.here hx rfl (hb hby djdk_65_method_119_code_0) rfl rfl k) ?_
  refine Go.st (S' := s₁.setTop (mkF m 2 #[.val (.ref o0), .val (.int (2 : Int32))] [(.int (2 : Int32)), (.ref o0)])) (fun t k => XS.iloadN X0.here hx rfl (hb hby djdk_65_method_119_code_1) rfl k) ?_
  refine Go.st (S' := s₁.setTop (mkF m 3 #[.val (.ref o0), .val (.int (2 : Int32))] [(.ref o0), (.int (2 : Int32)), (.ref o0)])) (fun t k => XS.aloadN X0.here hx rfl (hb hby djdk_65_method_119_code_2) rfl rfl k) ?_
  obtain ⟨T934, X934, e934, st934⟩ := gcls X0 hx hZ hown (hw _ (List.mem_of_getElem? (i := 133) rfl)) (hw _ (List.mem_of_getElem? (i := 134) rfl)) (hw _ (List.mem_of_getElem? (i := 110) rfl)) (hw _ (List.mem_of_getElem? (i := 136) rfl)) (hw _ (List.mem_of_getElem? (i := 135) rfl)) (hw _ (List.mem_of_getElem? (i := 137) rfl)) e0 (E_o0) M_s_mir__Ljava_lang_Object_ (g := (mkF m 3 #[.val (.ref o0), .val (.int (2 : Int32))] [(.ref o0), (.int (2 : Int32)), (.ref o0)])) rfl (by rw [hml]; rfl) rfl (hb hby djdk_65_method_119_code_3) (by decide) (W := 2) (by show 2 * 0 + _ ≤ _; exact Nat.le_of_eq rfl) (by decide)
  refine Go.st (S' := T934.setTop (mkF m 6 #[.val (.ref o0), .val (.int (2 : Int32))] [(.ref s_mir__Ljava_lang_Object_), (.int (2 : Int32)), (.ref o0)])) st934 ?_
  obtain ⟨r952, T952, L952, X952, hQ952, st952⟩ := own_callS (W := 0) X934 hx hZ e934 hown (y := (⟨"java/util/Arrays", "copyOf", "([Ljava/lang/Object;ILjava/lang/Class;)[Ljava/lang/Object;"⟩ : MethodName)) (hw _ (List.mem_of_getElem? (i := 139) rfl)) (hw _ (List.mem_of_getElem? (i := 140) rfl)) (hw _ (List.mem_of_getElem? (i := 131) rfl)) (hw _ (List.mem_of_getElem? (i := 141) rfl)) (by decide) (rm42 l Z a0 hw [] o0 s_mir__Ljava_lang_Object_ k_o0 o_1 o_2 h0 n0 Z0 (M_s_mir__Ljava_lang_Object_) (V_o0) (E_o_2) (E_o_1)) (by decide) (by decide) (by decide) (by decide) (g := (mkF m 6 #[.val (.ref o0), .val (.int (2 : Int32))] [(.ref s_mir__Ljava_lang_Object_), (.int (2 : Int32)), (.ref o0)])) rfl (by rw [hml]; rfl) (argsL := [(.ref o0), (.int (2 : Int32)), (.ref s_mir__Ljava_lang_Object_)]) (rest := []) rfl (lenOf pd_17 rfl) rfl (by show 2 * 0 + _ ≤ _; exact Nat.le_of_eq rfl) (hb hby djdk_65_method_119_code_6)
  obtain ⟨b953, k954, rfl, N952, K952_, sz_b953_, f955, f956, f957⟩ := hQ952
  have N952_ := Fr.app N0 N952
  have g_b953 : n0 ≤ b953 := Nat.le_trans Z0 sz_b953_
  have sz_b953 : h0.size ≤ b953 := Nat.le_trans (Keep.refl h0 []).1 sz_b953_
  have Z958 : n0 ≤ T952.heap.size := Nat.le_trans Z0 K952_.1
  have K958 : Keep h0 T952.heap [] := (Keep.refl h0 []).trans K952_ all0
  refine Go.st (S' := T952.setTop (mkF m 9 #[.val (.ref o0), .val (.int (2 : Int32))] [(.ref b953)])) st952 ?_
  exact Go.ret X952 (v := some (.ref b953)) (fun h => by rw [Bd.returns] at h; cases h) Bd.notSynchronized (fun fs hr => retOut X952 hx Bd.returns rfl (Or.inr (Or.inr (Or.inr (Or.inr ⟨rfl, rfl, rfl⟩)))) (hb hby djdk_65_method_119_code_9) hr) (by decide) (by decide) (⟨b953, k954, rfl, N952_, K958, sz_b953, f955, f956, f957⟩)
theorem ef_44 (m : MethodId) (o0 : Addr) : entryFrame m #[(.ref o0)] 1 = mkF m 0 #[.val (.ref o0)] [] := by first | (simp [entryFrame, mkF, argsToLocals, Value.category, maxLocals]; done) | rfl
def Q44 (Z : State) (o0 : Addr) (o_1 : Addr) (k_o_1 : ClassId) (o_2 : Addr) (o_3 : Addr) (s_mir__Ljava_lang_Object_ : Addr) (h0 : Heap) (n0 : Nat) (v : Option Value) (h : Heap) (L : List Loc) : Prop := (∃ (b960 : Addr) (k961 : ClassId), v = some (.ref b960) ∧ Fr n0 L ∧ Keep h0 h [] ∧ h0.size ≤ b960 ∧ Arv Z h b960 k961 (.object "java/lang/Object") (2 : Int32) [(.ref o_2), (.ref o_3)] .null ∧ Ovr Z k961 "java/lang/Object" ∧ Exa Z h b960 "[Ljava/lang/Object;")
set_option maxRecDepth 65536 in
set_option maxHeartbeats 40000000 in
theorem rm44 (l : Launch) (Z : State) (a0 : Array Value) (hw : ∀ d ∈ tables_1, d.before a0 Z = true) (ws : List Jvm.Cond) (o0 : Addr) (o_1 : Addr) (k_o_1 : ClassId) (o_2 : Addr) (o_3 : Addr) (s_mir__Ljava_lang_Object_ : Addr) (h0 : Heap) (n0 : Nat) (Z0 : n0 ≤ h0.size) (F_o0_elementData : Fld Z h0 o0 "java/util/ArrayList" "elementData" "[Ljava/lang/Object;" (.ref o_1)) (F_o0_size : Fld Z h0 o0 "java/util/ArrayList" "size" "I" (.int (2 : Int32))) (E_o_1 : Exa Z h0 o_1 "[Ljava/lang/Object;") (V_o_1 : Arv Z h0 o_1 k_o_1 (.object "java/lang/Object") (10 : Int32) [(.ref o_2), (.ref o_3), .null, .null, .null, .null, .null, .null, .null, .null] .null) (E_o_3 : Exa Z h0 o_3 "java/lang/String") (E_o_2 : Exa Z h0 o_2 "java/lang/String") (M_s_mir__Ljava_lang_Object_ : Mir Z "[Ljava/lang/Object;" s_mir__Ljava_lang_Object_) :
    Con l Z (⟨"java/util/ArrayList", "toArray", "()[Ljava/lang/Object;"⟩ : MethodName) jdk_38_method_16_code 1 (some (.array (.object "java/lang/Object"))) ws ({ frames := 3, cells := 1, slots := 2, locals := 68 } : Room) #[(.ref o0)] h0 1 2 (Q44 Z o0 o_1 k_o_1 o_2 o_3 s_mir__Ljava_lang_Object_ h0 n0) := by
  refine MetFree.of_bodySF (plainFor_of_name pn_6) hisR ?_
  intro p e s m args below meth c s₁ Bd hml0 hP hK
  obtain ⟨rfl, hZ, hh⟩ := hP
  have hx := Bd.exec
  have hby := Bd.bytes
  have hml : c.maxLocals = 1 := hml0
  have hown : s.vm.findClass "java/util/ArrayList" = some m.cls := findClass_of_methodNamed Bd.named
  have hnm := (name_of_methodNamed Bd.named Bd.method).1
  have X0 : Stand p l e ({ frames := 3, cells := 1, slots := 2, locals := 68 } : Room) s m #[(.ref o0)] below meth c s₁ [] 0 0 := Stand.of_body Bd
  have e0 : s₁.heap = h0 := by rw [← hh, Bd.state]; rfl
  have N0 := Fr.nil n0
  refine Go.of ?_
  refine Go.st (S' := s₁.setTop (mkF m 0 #[.val (.ref o0)] [])) (fun t k => castTop (ef_44 m o0) k) ?_
  refine Go.st (S' := s₁.setTop (mkF m 1 #[.val (.ref o0)] [(.ref o0)])) (fun t k => XS.aloadN X0.here hx rfl (hb hby djdk_38_method_16_code_0) rfl rfl k) ?_
  obtain ⟨T931, X931, e931, st931⟩ := getF X0 hx hZ hown (host := "") (Or.inl (hw _ (List.mem_of_getElem? (i := 57) rfl))) Via.refl e0 F_o0_elementData (g := (mkF m 1 #[.val (.ref o0)] [(.ref o0)])) rfl rfl (hb hby djdk_38_method_16_code_1)
  refine Go.st (S' := T931.setTop (mkF m 4 #[.val (.ref o0)] [(.ref o_1)])) st931 ?_
  refine Go.st (S' := T931.setTop (mkF m 5 #[.val (.ref o0)] [(.ref o0), (.ref o_1)])) (fun t k => XS.aloadN X931.here hx rfl (hb hby djdk_38_method_16_code_4) rfl rfl k) ?_
  obtain ⟨T932, X932, e932, st932⟩ := getF X931 hx hZ hown (host := "") (Or.inl (hw _ (List.mem_of_getElem? (i := 66) rfl))) Via.refl e931 F_o0_size (g := (mkF m 5 #[.val (.ref o0)] [(.ref o0), (.ref o_1)])) rfl rfl (hb hby djdk_38_method_16_code_5)
  refine Go.st (S' := T932.setTop (mkF m 8 #[.val (.ref o0)] [(.int (2 : Int32)), (.ref o_1)])) st932 ?_
  obtain ⟨r959, T959, L959, X959, hQ959, st959⟩ := own_callS (W := 0) X932 hx hZ e932 hown (y := (⟨"java/util/Arrays", "copyOf", "([Ljava/lang/Object;I)[Ljava/lang/Object;"⟩ : MethodName)) (hw _ (List.mem_of_getElem? (i := 129) rfl)) (hw _ (List.mem_of_getElem? (i := 130) rfl)) (hw _ (List.mem_of_getElem? (i := 131) rfl)) (hw _ (List.mem_of_getElem? (i := 132) rfl)) (by decide) (rm43 l Z a0 hw [] o_1 s_mir__Ljava_lang_Object_ k_o_1 o_2 o_3 h0 n0 Z0 (E_o_1) (M_s_mir__Ljava_lang_Object_) (V_o_1) (E_o_3) (E_o_2)) (by decide) (by decide) (by decide) (by decide) (g := (mkF m 8 #[.val (.ref o0)] [(.int (2 : Int32)), (.ref o_1)])) rfl (by rw [hml]; rfl) (argsL := [(.ref o_1), (.int (2 : Int32))]) (rest := []) rfl (lenOf pd_18 rfl) rfl (by show 2 * 0 + _ ≤ _; exact Nat.le_of_eq rfl) (hb hby djdk_38_method_16_code_8)
  obtain ⟨b960, k961, rfl, N959, K959_, sz_b960_, f962, f963, f964⟩ := hQ959
  have N959_ := Fr.app N0 N959
  have g_b960 : n0 ≤ b960 := Nat.le_trans Z0 sz_b960_
  have sz_b960 : h0.size ≤ b960 := Nat.le_trans (Keep.refl h0 []).1 sz_b960_
  have Z965 : n0 ≤ T959.heap.size := Nat.le_trans Z0 K959_.1
  have K965 : Keep h0 T959.heap [] := (Keep.refl h0 []).trans K959_ all0
  refine Go.st (S' := T959.setTop (mkF m 11 #[.val (.ref o0)] [(.ref b960)])) st959 ?_
  exact Go.ret X959 (v := some (.ref b960)) (fun h => by rw [Bd.returns] at h; cases h) Bd.notSynchronized (fun fs hr => retOut X959 hx Bd.returns rfl (Or.inr (Or.inr (Or.inr (Or.inr ⟨rfl, rfl, rfl⟩)))) (hb hby djdk_38_method_16_code_11) hr) (by decide) (by decide) (⟨b960, k961, rfl, N959_, K965, sz_b960, f962, f963, f964⟩)
theorem ef_45 (m : MethodId) (o0 : Addr) (o1 : Addr) (o2 : Addr) : entryFrame m #[(.ref o0), (.ref o1), (.ref o2)] 3 = mkF m 0 #[.val (.ref o0), .val (.ref o1), .val (.ref o2)] [] := by first | (simp [entryFrame, mkF, argsToLocals, Value.category, maxLocals]; done) | rfl
def Q45 (Z : State) (o0 : Addr) (o1 : Addr) (o2 : Addr) (u_o0_e0 : Value) (u_o0_e1 : Value) (h0 : Heap) (n0 : Nat) (v : Option Value) (h : Heap) (L : List Loc) : Prop := (v = none ∧ Fr n0 L ∧ Keep h0 h [o0] ∧ Exa Z h o0 "java/util/ImmutableCollections$List12" ∧ Fld Z h o0 "java/util/ImmutableCollections$List12" "e0" "Ljava/lang/Object;" (.ref o1) ∧ Fld Z h o0 "java/util/ImmutableCollections$List12" "e1" "Ljava/lang/Object;" (.ref o2))
set_option maxRecDepth 65536 in
set_option maxHeartbeats 40000000 in
theorem rm45 (l : Launch) (Z : State) (a0 : Array Value) (hw : ∀ d ∈ tables_1, d.before a0 Z = true) (ws : List Jvm.Cond) (o0 : Addr) (o1 : Addr) (o2 : Addr) (u_o0_e0 : Value) (u_o0_e1 : Value) (h0 : Heap) (n0 : Nat) (Z0 : n0 ≤ h0.size) (E_o0 : Exa Z h0 o0 "java/util/ImmutableCollections$List12") (F_o0_e0 : Fld Z h0 o0 "java/util/ImmutableCollections$List12" "e0" "Ljava/lang/Object;" u_o0_e0) (g_o0 : n0 ≤ o0) (F_o0_e1 : Fld Z h0 o0 "java/util/ImmutableCollections$List12" "e1" "Ljava/lang/Object;" u_o0_e1) :
    Con l Z (⟨"java/util/ImmutableCollections$List12", "<init>", "(Ljava/lang/Object;Ljava/lang/Object;)V"⟩ : MethodName) jdk_44_method_2_code 3 none ws ({ frames := 4, cells := 0, slots := 0, locals := 48 } : Room) #[(.ref o0), (.ref o1), (.ref o2)] h0 0 0 (Q45 Z o0 o1 o2 u_o0_e0 u_o0_e1 h0 n0) := by
  refine MetFree.of_bodySF (plainFor_of_name pn_11) hisR ?_
  intro p e s m args below meth c s₁ Bd hml0 hP hK
  obtain ⟨rfl, hZ, hh⟩ := hP
  have hx := Bd.exec
  have hby := Bd.bytes
  have hml : c.maxLocals = 3 := hml0
  have hown : s.vm.findClass "java/util/ImmutableCollections$List12" = some m.cls := findClass_of_methodNamed Bd.named
  have hnm := (name_of_methodNamed Bd.named Bd.method).1
  have X0 : Stand p l e ({ frames := 4, cells := 0, slots := 0, locals := 48 } : Room) s m #[(.ref o0), (.ref o1), (.ref o2)] below meth c s₁ [] 0 0 := Stand.of_body Bd
  have e0 : s₁.heap = h0 := by rw [← hh, Bd.state]; rfl
  have N0 := Fr.nil n0
  refine Go.of ?_
  refine Go.st (S' := s₁.setTop (mkF m 0 #[.val (.ref o0), .val (.ref o1), .val (.ref o2)] [])) (fun t k => castTop (ef_45 m o0 o1 o2) k) ?_
  refine Go.st (S' := s₁.setTop (mkF m 1 #[.val (.ref o0), .val (.ref o1), .val (.ref o2)] [(.ref o0)])) (fun t k => XS.aloadN X0.here hx rfl (hb hby djdk_44_method_2_code_0) rfl rfl k) ?_
  obtain ⟨r980, T980, L980, X980, hQ980, st980⟩ := own_callI (W := 0) (a := o0) X0 hx hZ e0 hown (y := (⟨"java/util/ImmutableCollections$AbstractImmutableList", "<init>", "()V"⟩ : MethodName)) rfl (hw _ (List.mem_of_getElem? (i := 161) rfl)) (hw _ (List.mem_of_getElem? (i := 162) rfl)) (hw _ (List.mem_of_getElem? (i := 165) rfl)) (hw _ (List.mem_of_getElem? (i := 166) rfl)) (by decide) (rm28 l Z a0 hw [] o0 h0 n0 Z0 ) (by decide) (by decide) (by decide) (by decide) (g := (mkF m 1 #[.val (.ref o0), .val (.ref o1), .val (.ref o2)] [(.ref o0)])) rfl (by rw [hml]; rfl) (argsL := []) (rest := []) rfl (lenOf pd_10 rfl) rfl (by show 2 * 0 + _ ≤ _; exact Nat.le_of_eq rfl) (hb hby djdk_44_method_2_code_1)
  obtain ⟨rfl, N980, e980⟩ := hQ980
  have N980_ := Fr.app N0 N980
  refine Go.st (S' := T980.setTop (mkF m 4 #[.val (.ref o0), .val (.ref o1), .val (.ref o2)] [])) st980 ?_
  refine Go.st (S' := T980.setTop (mkF m 5 #[.val (.ref o0), .val (.ref o1), .val (.ref o2)] [(.ref o0)])) (fun t k => XS.aloadN X980.here hx rfl (hb hby djdk_44_method_2_code_4) rfl rfl k) ?_
  refine Go.st (S' := T980.setTop (mkF m 6 #[.val (.ref o0), .val (.ref o1), .val (.ref o2)] [(.ref o1), (.ref o0)])) (fun t k => XS.aloadN X980.here hx rfl (hb hby djdk_44_method_2_code_5) rfl rfl k) ?_
  obtain ⟨r981, T981, L981, X981, hQ981, st981⟩ := own_callS (W := 1) X980 hx hZ e980 hown (y := (⟨"java/util/Objects", "requireNonNull", "(Ljava/lang/Object;)Ljava/lang/Object;"⟩ : MethodName)) (hw _ (List.mem_of_getElem? (i := 175) rfl)) (hw _ (List.mem_of_getElem? (i := 176) rfl)) (hw _ (List.mem_of_getElem? (i := 177) rfl)) (hw _ (List.mem_of_getElem? (i := 178) rfl)) (by decide) (rm29 l Z a0 hw [] o1 h0 n0 Z0 ) (by decide) (by decide) (by decide) (by decide) (g := (mkF m 6 #[.val (.ref o0), .val (.ref o1), .val (.ref o2)] [(.ref o1), (.ref o0)])) rfl (by rw [hml]; rfl) (argsL := [(.ref o1)]) (rest := [(.ref o0)]) rfl (lenOf pd_19 rfl) rfl (by show 2 * 0 + _ ≤ _; exact Nat.le_of_eq rfl) (hb hby djdk_44_method_2_code_6)
  obtain ⟨rfl, N981, e981⟩ := hQ981
  have N981_ := Fr.app N980_ N981
  refine Go.st (S' := T981.setTop (mkF m 9 #[.val (.ref o0), .val (.ref o1), .val (.ref o2)] [(.ref o1), (.ref o0)])) st981 ?_
  obtain ⟨T982, h982, X982, e982, W982, st982⟩ := putF X981 hx hZ hown (host := "") (Or.inl (hw _ (List.mem_of_getElem? (i := 179) rfl))) Via.refl e981 F_o0_e0 E_o0 (Or.inr ⟨(hw _ (List.mem_of_getElem? (i := 180) rfl)), rfl, hnm⟩) (hw _ (List.mem_of_getElem? (i := 155) rfl)) (ty := (.object "java/lang/Object")) (by decide) rfl rfl (g := (mkF m 9 #[.val (.ref o0), .val (.ref o1), .val (.ref o2)] [(.ref o1), (.ref o0)])) rfl rfl (hb hby djdk_44_method_2_code_9)
  have Fw982 := (F_o0_e0).same W982
  have N982 := Fr.snoc X982 N981_ g_o0
  have Z983 : n0 ≤ h982.size := Nat.le_trans Z0 (Keep.of_wr W982).1
  have K983 : Keep h0 h982 [o0] := (Keep.refl h0 [o0]).wr W982 (Or.inl (by simp))
  refine Go.st (S' := T982.setTop (mkF m 12 #[.val (.ref o0), .val (.ref o1), .val (.ref o2)] [])) st982 ?_
  refine Go.st (S' := T982.setTop (mkF m 13 #[.val (.ref o0), .val (.ref o1), .val (.ref o2)] [(.ref o0)])) (fun t k => XS.aloadN X982.here hx rfl (hb hby djdk_44_method_2_code_12) rfl rfl k) ?_
  refine Go.st (S' := T982.setTop (mkF m 14 #[.val (.ref o0), .val (.ref o1), .val (.ref o2)] [(.ref o2), (.ref o0)])) (fun t k => XS.aloadN X982.here hx rfl (hb hby djdk_44_method_2_code_13) rfl rfl k) ?_
  obtain ⟨r984, T984, L984, X984, hQ984, st984⟩ := own_callS (W := 1) X982 hx hZ e982 hown (y := (⟨"java/util/Objects", "requireNonNull", "(Ljava/lang/Object;)Ljava/lang/Object;"⟩ : MethodName)) (hw _ (List.mem_of_getElem? (i := 175) rfl)) (hw _ (List.mem_of_getElem? (i := 176) rfl)) (hw _ (List.mem_of_getElem? (i := 177) rfl)) (hw _ (List.mem_of_getElem? (i := 178) rfl)) (by decide) (rm29 l Z a0 hw [] o2 h982 n0 Z983 ) (by decide) (by decide) (by decide) (by decide) (g := (mkF m 14 #[.val (.ref o0), .val (.ref o1), .val (.ref o2)] [(.ref o2), (.ref o0)])) rfl (by rw [hml]; rfl) (argsL := [(.ref o2)]) (rest := [(.ref o0)]) rfl (lenOf pd_19 rfl) rfl (by show 2 * 0 + _ ≤ _; exact Nat.le_of_eq rfl) (hb hby djdk_44_method_2_code_14)
  obtain ⟨rfl, N984, e984⟩ := hQ984
  have N984_ := Fr.app N982 N984
  refine Go.st (S' := T984.setTop (mkF m 17 #[.val (.ref o0), .val (.ref o1), .val (.ref o2)] [(.ref o2), (.ref o0)])) st984 ?_
  have f985 := ((E_o0).wr W982)
  have f986 := ((F_o0_e1).other W982 (Or.inr (slot_ne (Or.inr (hw _ (List.mem_of_getElem? (i := 182) rfl))) (Or.inr (hw _ (List.mem_of_getElem? (i := 180) rfl))) (by decide) (t := (.object "java/lang/Object")) (t' := (.object "java/lang/Object")) (by decide) (by decide))))
  obtain ⟨T987, h987, X987, e987, W987, st987⟩ := putF X984 hx hZ hown (host := "") (Or.inl (hw _ (List.mem_of_getElem? (i := 181) rfl))) Via.refl e984 f986 f985 (Or.inr ⟨(hw _ (List.mem_of_getElem? (i := 182) rfl)), rfl, hnm⟩) (hw _ (List.mem_of_getElem? (i := 155) rfl)) (ty := (.object "java/lang/Object")) (by decide) rfl rfl (g := (mkF m 17 #[.val (.ref o0), .val (.ref o1), .val (.ref o2)] [(.ref o2), (.ref o0)])) rfl rfl (hb hby djdk_44_method_2_code_17)
  have Fw987 := (f986).same W987
  have N987 := Fr.snoc X987 N984_ g_o0
  have Z988 : n0 ≤ h987.size := Nat.le_trans Z983 (Keep.of_wr W987).1
  have K988 : Keep h0 h987 [o0] := K983.wr W987 (Or.inl (by simp))
  refine Go.st (S' := T987.setTop (mkF m 20 #[.val (.ref o0), .val (.ref o1), .val (.ref o2)] [])) st987 ?_
  have f989 := ((f985).wr W987)
  have f990 := ((Fw982).other W987 (Or.inr (slot_ne (Or.inr (hw _ (List.mem_of_getElem? (i := 180) rfl))) (Or.inr (hw _ (List.mem_of_getElem? (i := 182) rfl))) (by decide) (t := (.object "java/lang/Object")) (t' := (.object "java/lang/Object")) (by decide) (by decide))))
  exact Go.ret X987 (v := none) (fun _ => rfl) Bd.notSynchronized (fun fs hr => X987.returnOut hx Bd.returns (hb hby djdk_44_method_2_code_20) hr) (by decide) (by decide) (by rw [e987]; exact ⟨rfl, N987, K988, f989, f990, Fw987⟩)
theorem ef_46 (m : MethodId) (o0 : Addr) : entryFrame m #[(.ref o0)] 2 = mkF m 0 #[.val (.ref o0), .unset] [] := by first | (simp [entryFrame, mkF, argsToLocals, Value.category, maxLocals]; done) | rfl
def Q46 (Z : State) (o0 : Addr) (k_o0 : ClassId) (o_1 : Addr) (o_2 : Addr) (h0 : Heap) (n0 : Nat) (v : Option Value) (h : Heap) (L : List Loc) : Prop := (∃ (b975 : Addr), v = some (.ref b975) ∧ Fr n0 L ∧ Keep h0 h [] ∧ h0.size ≤ b975 ∧ Exa Z h b975 "java/util/ImmutableCollections$List12" ∧ Fld Z h b975 "java/util/ImmutableCollections$List12" "e0" "Ljava/lang/Object;" (.ref o_1) ∧ Fld Z h b975 "java/util/ImmutableCollections$List12" "e1" "Ljava/lang/Object;" (.ref o_2))
set_option maxRecDepth 65536 in
set_option maxHeartbeats 40000000 in
theorem rm46 (l : Launch) (Z : State) (a0 : Array Value) (hw : ∀ d ∈ tables_1, d.before a0 Z = true) (ws : List Jvm.Cond) (o0 : Addr) (k_o0 : ClassId) (o_1 : Addr) (o_2 : Addr) (h0 : Heap) (n0 : Nat) (Z0 : n0 ≤ h0.size) (V_o0 : Arv Z h0 o0 k_o0 (.object "java/lang/Object") (2 : Int32) [(.ref o_1), (.ref o_2)] .null) :
    Con l Z (⟨"java/util/List", "of", "([Ljava/lang/Object;)Ljava/util/List;"⟩ : MethodName) jdk_40_method_47_code 2 (some (.object "java/util/List")) ws ({ frames := 5, cells := 1, slots := 2, locals := 63 } : Room) #[(.ref o0)] h0 1 2 (Q46 Z o0 k_o0 o_1 o_2 h0 n0) := by
  refine MetFree.of_bodySF (plainFor_of_name pn_12) hisR ?_
  intro p e s m args below meth c s₁ Bd hml0 hP hK
  obtain ⟨rfl, hZ, hh⟩ := hP
  have hx := Bd.exec
  have hby := Bd.bytes
  have hml : c.maxLocals = 2 := hml0
  have hown : s.vm.findClass "java/util/List" = some m.cls := findClass_of_methodNamed Bd.named
  have hnm := (name_of_methodNamed Bd.named Bd.method).1
  have X0 : Stand p l e ({ frames := 5, cells := 1, slots := 2, locals := 63 } : Room) s m #[(.ref o0)] below meth c s₁ [] 0 0 := Stand.of_body Bd
  have e0 : s₁.heap = h0 := by rw [← hh, Bd.state]; rfl
  have N0 := Fr.nil n0
  refine Go.of ?_
  refine Go.st (S' := s₁.setTop (mkF m 0 #[.val (.ref o0), .unset] [])) (fun t k => castTop (ef_46 m o0) k) ?_
  refine Go.st (S' := s₁.setTop (mkF m 1 #[.val (.ref o0), .unset] [(.ref o0)])) (fun t k => XS.aloadN X0.here hx rfl (hb hby djdk_40_method_47_code_0) rfl rfl k) ?_
  obtain ⟨cl973, Ar973, -, S973, N973_, -, -⟩ := id V_o0
  refine Go.op (F := fun z => s₁.setTop (mkF m 2 #[.val (.ref o0), .unset] [(.int z)])) (x := cl973.slots.size.toInt32) (fun t k => X0.arraylength hx (own_eh e0 Ar973.1) (State.isArrayOf_alike hZ.alike Ar973.2.1) (g := (mkF m 1 #[.val (.ref o0), .unset] [(.ref o0)])) rfl rfl (hb hby djdk_40_method_47_code_1) t k) ?_
  intro v974 hv974
  obtain rfl : (2 : Int32) = v974 := (hv974.trans (len_of S973 N973_)).symm
  refine Go.st (S' := s₁.setTop (mkF m 45 #[.val (.ref o0), .unset] [])) (fun t k => XS.tswIn X0.here hx rfl (pc0 := 2) (pc' := 45) (o := 43) rfl (hb hby djdk_40_method_47_code_2) rfl (by decide) (by decide) (by decide) (by decide) k) ?_
  obtain ⟨T975, h975, X975, e975, E975, A975, D975, -, st975⟩ := newO X0 hx hZ hown (hw _ (List.mem_of_getElem? (i := 154) rfl)) (hw _ (List.mem_of_getElem? (i := 155) rfl)) (hw _ (List.mem_of_getElem? (i := 156) rfl)) e0 (g := (mkF m 45 #[.val (.ref o0), .unset] [])) rfl (hb hby djdk_40_method_47_code_45) (by decide) (by decide)
  obtain ⟨b975, gg975⟩ : ∃ z, z = h0.size := ⟨_, rfl⟩
  rw [← gg975] at A975 D975 st975
  have g_b975 : n0 ≤ b975 := Nat.le_trans Z0 (Nat.le_of_eq gg975.symm)
  have sz_b975 : h0.size ≤ b975 := Nat.le_trans (Keep.refl h0 []).1 (Nat.le_of_eq gg975.symm)
  have Z976 : n0 ≤ h975.size := Nat.le_trans Z0 E975.1
  have K976 : Keep h0 h975 [] := (Keep.refl h0 []).ext E975
  have Fb975_e0 : Fld Z h975 b975 "java/util/ImmutableCollections$List12" "e0" "Ljava/lang/Object;" .null := D975 (Or.inr (hw _ (List.mem_of_getElem? (i := 180) rfl))) (ty := (.object "java/lang/Object")) (by decide)
  have Fb975_e1 : Fld Z h975 b975 "java/util/ImmutableCollections$List12" "e1" "Ljava/lang/Object;" .null := D975 (Or.inr (hw _ (List.mem_of_getElem? (i := 182) rfl))) (ty := (.object "java/lang/Object")) (by decide)
  refine Go.st (S' := T975.setTop (mkF m 48 #[.val (.ref o0), .unset] [(.ref b975)])) st975 ?_
  refine Go.st (S' := T975.setTop (mkF m 49 #[.val (.ref o0), .unset] [(.ref b975), (.ref b975)])) (fun t k => XS.dup X975.here hx rfl (hb hby djdk_40_method_47_code_48) rfl rfl k) ?_
  refine Go.st (S' := T975.setTop (mkF m 50 #[.val (.ref o0), .unset] [(.ref o0), (.ref b975), (.ref b975)])) (fun t k => XS.aloadN X975.here hx rfl (hb hby djdk_40_method_47_code_49) rfl rfl k) ?_
  refine Go.st (S' := T975.setTop (mkF m 51 #[.val (.ref o0), .unset] [(.int (0 : Int32)), (.ref o0), (.ref b975), (.ref b975)])) (fun t k => XS.iconst X975.here hx rfl (hb hby djdk_40_method_47_code_50) k) ?_
  have f977 := ((V_o0).ext E975)
  obtain ⟨cl978, Ar978, -, S978, N978_, H978, -⟩ := id f977
  have hin978 : ¬ ((0 : Int32) < 0 ∨ cl978.slots.size ≤ ((0 : Int32)).toNatClampNeg) := inb_of S978 ⟨by decide, by decide⟩
  have hat978 : cl978.slots[((0 : Int32)).toNatClampNeg]? = some (.ref o_1) := Has.at H978 hin978 rfl
  refine Go.st (S' := T975.setTop (mkF m 52 #[.val (.ref o0), .unset] [(.ref o_1), (.ref b975), (.ref b975)])) (fun t k => X975.aaload hx (j := (0 : Int32)) (v := (.ref o_1)) (own_eh e975 Ar978.1) (State.isArrayOf_alike hZ.alike Ar978.2.1) rfl Ar978.2.2 hin978 hat978 (g := (mkF m 51 #[.val (.ref o0), .unset] [(.int (0 : Int32)), (.ref o0), (.ref b975), (.ref b975)])) rfl rfl (hb hby djdk_40_method_47_code_51) t k) ?_
  refine Go.st (S' := T975.setTop (mkF m 53 #[.val (.ref o0), .unset] [(.ref o0), (.ref o_1), (.ref b975), (.ref b975)])) (fun t k => XS.aloadN X975.here hx rfl (hb hby djdk_40_method_47_code_52) rfl rfl k) ?_
  refine Go.st (S' := T975.setTop (mkF m 54 #[.val (.ref o0), .unset] [(.int (1 : Int32)), (.ref o0), (.ref o_1), (.ref b975), (.ref b975)])) (fun t k => XS.iconst X975.here hx rfl (hb hby djdk_40_method_47_code_53) k) ?_
  obtain ⟨cl979, Ar979, -, S979, N979_, H979, -⟩ := id f977
  have hin979 : ¬ ((1 : Int32) < 0 ∨ cl979.slots.size ≤ ((1 : Int32)).toNatClampNeg) := inb_of S979 ⟨by decide, by decide⟩
  have hat979 : cl979.slots[((1 : Int32)).toNatClampNeg]? = some (.ref o_2) := Has.at H979 hin979 rfl
  refine Go.st (S' := T975.setTop (mkF m 55 #[.val (.ref o0), .unset] [(.ref o_2), (.ref o_1), (.ref b975), (.ref b975)])) (fun t k => X975.aaload hx (j := (1 : Int32)) (v := (.ref o_2)) (own_eh e975 Ar979.1) (State.isArrayOf_alike hZ.alike Ar979.2.1) rfl Ar979.2.2 hin979 hat979 (g := (mkF m 54 #[.val (.ref o0), .unset] [(.int (1 : Int32)), (.ref o0), (.ref o_1), (.ref b975), (.ref b975)])) rfl rfl (hb hby djdk_40_method_47_code_54) t k) ?_
  obtain ⟨r991, T991, L991, X991, hQ991, st991⟩ := own_callI (W := 1) (a := b975) X975 hx hZ e975 hown (y := (⟨"java/util/ImmutableCollections$List12", "<init>", "(Ljava/lang/Object;Ljava/lang/Object;)V"⟩ : MethodName)) rfl (hw _ (List.mem_of_getElem? (i := 157) rfl)) (hw _ (List.mem_of_getElem? (i := 158) rfl)) (hw _ (List.mem_of_getElem? (i := 156) rfl)) (hw _ (List.mem_of_getElem? (i := 160) rfl)) (by decide) (rm45 l Z a0 hw [] b975 o_1 o_2 (.null) (.null) h975 n0 Z976 (A975) (Fb975_e0) (g_b975) (Fb975_e1)) (by decide) (by decide) (by decide) (by decide) (g := (mkF m 55 #[.val (.ref o0), .unset] [(.ref o_2), (.ref o_1), (.ref b975), (.ref b975)])) rfl (by rw [hml]; rfl) (argsL := [(.ref o_1), (.ref o_2)]) (rest := [(.ref b975)]) rfl (lenOf pd_25 rfl) rfl (by show 2 * 0 + _ ≤ _; exact Nat.le_of_eq rfl) (hb hby djdk_40_method_47_code_55)
  obtain ⟨rfl, N991, K991_, f992, f993, f994⟩ := hQ991
  have N991_ := Fr.app N0 N991
  have Z995 : n0 ≤ T991.heap.size := Nat.le_trans Z976 K991_.1
  have K995 : Keep h0 T991.heap [] := K976.trans K991_ (allS (Or.inr sz_b975) all0)
  refine Go.st (S' := T991.setTop (mkF m 58 #[.val (.ref o0), .unset] [(.ref b975)])) st991 ?_
  exact Go.ret X991 (v := some (.ref b975)) (fun h => by rw [Bd.returns] at h; cases h) Bd.notSynchronized (fun fs hr => retOut X991 hx Bd.returns rfl (Or.inr (Or.inr (Or.inr (Or.inr ⟨rfl, rfl, rfl⟩)))) (hb hby djdk_40_method_47_code_58) hr) (by decide) (by decide) (⟨b975, rfl, N991_, K995, sz_b975, f992, f993, f994⟩)
theorem ef_47 (m : MethodId) (o0 : Addr) : entryFrame m #[(.ref o0)] 2 = mkF m 0 #[.val (.ref o0), .unset] [] := by first | (simp [entryFrame, mkF, argsToLocals, Value.category, maxLocals]; done) | rfl
def Q47 (Z : State) (o0 : Addr) (o_1 : Addr) (k_o_1 : ClassId) (o_2 : Addr) (o_3 : Addr) (s_mir__Ljava_lang_Object_ : Addr) (h0 : Heap) (n0 : Nat) (v : Option Value) (h : Heap) (L : List Loc) : Prop := (∃ (b967 : Addr) (b997 : Addr) (k968 : ClassId), v = some (.ref b997) ∧ Fr n0 L ∧ Keep h0 h [] ∧ h0.size ≤ b967 ∧ h0.size ≤ b997 ∧ Arv Z h b967 k968 (.object "java/lang/Object") (2 : Int32) [(.ref o_2), (.ref o_3)] .null ∧ Ovr Z k968 "java/lang/Object" ∧ Exa Z h b967 "[Ljava/lang/Object;" ∧ Exa Z h b997 "java/util/ImmutableCollections$List12" ∧ Fld Z h b997 "java/util/ImmutableCollections$List12" "e0" "Ljava/lang/Object;" (.ref o_2) ∧ Fld Z h b997 "java/util/ImmutableCollections$List12" "e1" "Ljava/lang/Object;" (.ref o_3) ∧ b967 < b997)
set_option maxRecDepth 65536 in
set_option maxHeartbeats 40000000 in
theorem rm47 (l : Launch) (Z : State) (a0 : Array Value) (hw : ∀ d ∈ tables_1, d.before a0 Z = true) (ws : List Jvm.Cond) (o0 : Addr) (o_1 : Addr) (k_o_1 : ClassId) (o_2 : Addr) (o_3 : Addr) (s_mir__Ljava_lang_Object_ : Addr) (h0 : Heap) (n0 : Nat) (Z0 : n0 ≤ h0.size) (E_o0 : Exa Z h0 o0 "java/util/ArrayList") (F_o0_size : Fld Z h0 o0 "java/util/ArrayList" "size" "I" (.int (2 : Int32))) (F_o0_elementData : Fld Z h0 o0 "java/util/ArrayList" "elementData" "[Ljava/lang/Object;" (.ref o_1)) (E_o_1 : Exa Z h0 o_1 "[Ljava/lang/Object;") (V_o_1 : Arv Z h0 o_1 k_o_1 (.object "java/lang/Object") (10 : Int32) [(.ref o_2), (.ref o_3), .null, .null, .null, .null, .null, .null, .null, .null] .null) (E_o_3 : Exa Z h0 o_3 "java/lang/String") (E_o_2 : Exa Z h0 o_2 "java/lang/String") (M_s_mir__Ljava_lang_Object_ : Mir Z "[Ljava/lang/Object;" s_mir__Ljava_lang_Object_) :
    Con l Z (⟨"java/util/ImmutableCollections", "listCopy", "(Ljava/util/Collection;)Ljava/util/List;"⟩ : MethodName) jdk_56_method_3_code 2 (some (.object "java/util/List")) ws ({ frames := 6, cells := 2, slots := 4, locals := 80 } : Room) #[(.ref o0)] h0 2 4 (Q47 Z o0 o_1 k_o_1 o_2 o_3 s_mir__Ljava_lang_Object_ h0 n0) := by
  refine MetFree.of_bodySF (plainFor_of_name pn_13) hisR ?_
  intro p e s m args below meth c s₁ Bd hml0 hP hK
  obtain ⟨rfl, hZ, hh⟩ := hP
  have hx := Bd.exec
  have hby := Bd.bytes
  have hml : c.maxLocals = 2 := hml0
  have hown : s.vm.findClass "java/util/ImmutableCollections" = some m.cls := findClass_of_methodNamed Bd.named
  have hnm := (name_of_methodNamed Bd.named Bd.method).1
  have X0 : Stand p l e ({ frames := 6, cells := 2, slots := 4, locals := 80 } : Room) s m #[(.ref o0)] below meth c s₁ [] 0 0 := Stand.of_body Bd
  have e0 : s₁.heap = h0 := by rw [← hh, Bd.state]; rfl
  have N0 := Fr.nil n0
  refine Go.of ?_
  refine Go.st (S' := s₁.setTop (mkF m 0 #[.val (.ref o0), .unset] [])) (fun t k => castTop (ef_47 m o0) k) ?_
  refine Go.st (S' := s₁.setTop (mkF m 1 #[.val (.ref o0), .unset] [(.ref o0)])) (fun t k => XS.aloadN X0.here hx rfl (hb hby djdk_56_method_3_code_0) rfl rfl k) ?_
  obtain ⟨T926, X926, e926, st926⟩ := instNo X0 hx hZ hown (hw _ (List.mem_of_getElem? (i := 106) rfl)) e0 E_o0 (own_ns_no (hw _ (List.mem_of_getElem? (i := 107) rfl)) (hw _ (List.mem_of_getElem? (i := 155) rfl)) (NS.step (hw _ (List.mem_of_getElem? (i := 107) rfl)) (NS.step (hw _ (List.mem_of_getElem? (i := 108) rfl)) (NS.step (hw _ (List.mem_of_getElem? (i := 109) rfl)) (own_ns_root (hw _ (List.mem_of_getElem? (i := 110) rfl)) (hw _ (List.mem_of_getElem? (i := 155) rfl)) (by decide)) (by decide)) (by decide)) (by decide)) (by decide)) (g := (mkF m 1 #[.val (.ref o0), .unset] [(.ref o0)])) rfl rfl (hb hby djdk_56_method_3_code_1)
  refine Go.st (S' := T926.setTop (mkF m 4 #[.val (.ref o0), .unset] [(.int (0 : Int32))])) st926 ?_
  refine Go.st (S' := T926.setTop (mkF m 7 #[.val (.ref o0), .unset] [])) (fun t k => XS.ifNo X926.here hx rfl (hb hby djdk_56_method_3_code_4) rfl ((if0 _ _).trans (teq (by decide : ((0 : Int32) = (0 : Int32)))).2) k) ?_
  refine Go.st (S' := T926.setTop (mkF m 8 #[.val (.ref o0), .unset] [(.ref o0)])) (fun t k => XS.aloadN X926.here hx rfl (hb hby djdk_56_method_3_code_7) rfl rfl k) ?_
  obtain ⟨T927, X927, e927, st927⟩ := instNo X926 hx hZ hown (hw _ (List.mem_of_getElem? (i := 111) rfl)) e926 E_o0 (own_ns_no (hw _ (List.mem_of_getElem? (i := 107) rfl)) (hw _ (List.mem_of_getElem? (i := 225) rfl)) (NS.step (hw _ (List.mem_of_getElem? (i := 107) rfl)) (NS.step (hw _ (List.mem_of_getElem? (i := 108) rfl)) (NS.step (hw _ (List.mem_of_getElem? (i := 109) rfl)) (own_ns_root (hw _ (List.mem_of_getElem? (i := 110) rfl)) (hw _ (List.mem_of_getElem? (i := 225) rfl)) (by decide)) (by decide)) (by decide)) (by decide)) (by decide)) (g := (mkF m 8 #[.val (.ref o0), .unset] [(.ref o0)])) rfl rfl (hb hby djdk_56_method_3_code_8)
  refine Go.st (S' := T927.setTop (mkF m 11 #[.val (.ref o0), .unset] [(.int (0 : Int32))])) st927 ?_
  refine Go.st (S' := T927.setTop (mkF m 31 #[.val (.ref o0), .unset] [])) (fun t k => XS.ifYes X927.here hx rfl (pc0 := 11) (pc' := 31) rfl (hb hby djdk_56_method_3_code_11) rfl ((if0 _ _).trans (teq (by decide : ((0 : Int32) = (0 : Int32)))).1) (by decide) (by decide) k) ?_
  refine Go.st (S' := T927.setTop (mkF m 32 #[.val (.ref o0), .unset] [(.ref o0)])) (fun t k => XS.aloadN X927.here hx rfl (hb hby djdk_56_method_3_code_31) rfl rfl k) ?_
  obtain ⟨r929, T929, L929, X929, hQ929, st929⟩ := own_callF (W := 0) (a := o0) (C := "java/util/ArrayList") X927 hx hZ e927 hown (xi := (⟨"java/util/Collection", "isEmpty", "()Z"⟩ : MethodName)) (y := (⟨"java/util/ArrayList", "isEmpty", "()Z"⟩ : MethodName)) (hw _ (List.mem_of_getElem? (i := 112) rfl)) (hw _ (List.mem_of_getElem? (i := 113) rfl)) (mvT hZ (hw _ (List.mem_of_getElem? (i := 114) rfl))) (hw _ (List.mem_of_getElem? (i := 115) rfl)) (hw _ (List.mem_of_getElem? (i := 116) rfl)) (hw _ (List.mem_of_getElem? (i := 117) rfl)) (hw _ (List.mem_of_getElem? (i := 118) rfl)) (hw _ (List.mem_of_getElem? (i := 119) rfl)) (hw _ (List.mem_of_getElem? (i := 37) rfl)) (hw _ (List.mem_of_getElem? (i := 120) rfl)) (by decide) (E_o0) (rm40 l Z a0 hw [] o0 h0 n0 Z0 (F_o0_size)) (by decide) (by decide) (by decide) (by decide) (g := (mkF m 32 #[.val (.ref o0), .unset] [(.ref o0)])) rfl (by rw [hml]; rfl) (argsL := []) (rest := []) rfl (lenOf pd_16 rfl) rfl (by show 2 * 0 + _ ≤ _; exact Nat.le_of_eq rfl) (hb hby djdk_56_method_3_code_32)
  obtain ⟨rfl, N929, e929⟩ := hQ929
  have N929_ := Fr.app N0 N929
  refine Go.st (S' := T929.setTop (mkF m 37 #[.val (.ref o0), .unset] [(.int (0 : Int32))])) st929 ?_
  refine Go.st (S' := T929.setTop (mkF m 44 #[.val (.ref o0), .unset] [])) (fun t k => XS.ifYes X929.here hx rfl (pc0 := 37) (pc' := 44) rfl (hb hby djdk_56_method_3_code_37) rfl ((if0 _ _).trans (teq (by decide : ((0 : Int32) = (0 : Int32)))).1) (by decide) (by decide) k) ?_
  refine Go.st (S' := T929.setTop (mkF m 45 #[.val (.ref o0), .unset] [(.ref o0)])) (fun t k => XS.aloadN X929.here hx rfl (hb hby djdk_56_method_3_code_44) rfl rfl k) ?_
  obtain ⟨r966, T966, L966, X966, hQ966, st966⟩ := own_callF (W := 0) (a := o0) (C := "java/util/ArrayList") X929 hx hZ e929 hown (xi := (⟨"java/util/Collection", "toArray", "()[Ljava/lang/Object;"⟩ : MethodName)) (y := (⟨"java/util/ArrayList", "toArray", "()[Ljava/lang/Object;"⟩ : MethodName)) (hw _ (List.mem_of_getElem? (i := 121) rfl)) (hw _ (List.mem_of_getElem? (i := 122) rfl)) (mvT hZ (hw _ (List.mem_of_getElem? (i := 123) rfl))) (hw _ (List.mem_of_getElem? (i := 124) rfl)) (hw _ (List.mem_of_getElem? (i := 125) rfl)) (hw _ (List.mem_of_getElem? (i := 126) rfl)) (hw _ (List.mem_of_getElem? (i := 127) rfl)) (hw _ (List.mem_of_getElem? (i := 119) rfl)) (hw _ (List.mem_of_getElem? (i := 37) rfl)) (hw _ (List.mem_of_getElem? (i := 128) rfl)) (by decide) (E_o0) (rm44 l Z a0 hw [] o0 o_1 k_o_1 o_2 o_3 s_mir__Ljava_lang_Object_ h0 n0 Z0 (F_o0_elementData) (F_o0_size) (E_o_1) (V_o_1) (E_o_3) (E_o_2) (M_s_mir__Ljava_lang_Object_)) (by decide) (by decide) (by decide) (by decide) (g := (mkF m 45 #[.val (.ref o0), .unset] [(.ref o0)])) rfl (by rw [hml]; rfl) (argsL := []) (rest := []) rfl (lenOf pd_13 rfl) rfl (by show 2 * 0 + _ ≤ _; exact Nat.le_of_eq rfl) (hb hby djdk_56_method_3_code_45)
  obtain ⟨b967, k968, rfl, N966, K966_, sz_b967_, f969, f970, f971⟩ := hQ966
  have N966_ := Fr.app N929_ N966
  have g_b967 : n0 ≤ b967 := Nat.le_trans Z0 sz_b967_
  have sz_b967 : h0.size ≤ b967 := Nat.le_trans (Keep.refl h0 []).1 sz_b967_
  have Z972 : n0 ≤ T966.heap.size := Nat.le_trans Z0 K966_.1
  have K972 : Keep h0 T966.heap [] := (Keep.refl h0 []).trans K966_ all0
  refine Go.st (S' := T966.setTop (mkF m 50 #[.val (.ref o0), .unset] [(.ref b967)])) st966 ?_
  obtain ⟨r996, T996, L996, X996, hQ996, st996⟩ := own_callS (W := 0) X966 hx hZ rfl hown (y := (⟨"java/util/List", "of", "([Ljava/lang/Object;)Ljava/util/List;"⟩ : MethodName)) (hw _ (List.mem_of_getElem? (i := 151) rfl)) (hw _ (List.mem_of_getElem? (i := 152) rfl)) (hw _ (List.mem_of_getElem? (i := 100) rfl)) (hw _ (List.mem_of_getElem? (i := 153) rfl)) (by decide) (rm46 l Z a0 hw [] b967 k968 o_2 o_3 T966.heap n0 Z972 (f969)) (by decide) (by decide) (by decide) (by decide) (g := (mkF m 50 #[.val (.ref o0), .unset] [(.ref b967)])) rfl (by rw [hml]; rfl) (argsL := [(.ref b967)]) (rest := []) rfl (lenOf pd_21 rfl) rfl (by show 2 * 0 + _ ≤ _; exact Nat.le_of_eq rfl) (hb hby djdk_56_method_3_code_50)
  obtain ⟨b997, rfl, N996, K996_, sz_b997_, f998, f999, f1000⟩ := hQ996
  have N996_ := Fr.app N966_ N996
  have g_b997 : n0 ≤ b997 := Nat.le_trans Z972 sz_b997_
  have sz_b997 : h0.size ≤ b997 := Nat.le_trans K972.1 sz_b997_
  have lt_b967_b997 : b967 < b997 := Nat.lt_of_lt_of_le (f971).lt sz_b997_
  have Z1001 : n0 ≤ T996.heap.size := Nat.le_trans Z972 K996_.1
  have K1001 : Keep h0 T996.heap [] := K972.trans K996_ all0
  refine Go.st (S' := T996.setTop (mkF m 53 #[.val (.ref o0), .unset] [(.ref b997)])) st996 ?_
  have f1002 := ((f969).keep K996_ nin0)
  have f1003 := ((f971).keep K996_)
  exact Go.ret X996 (v := some (.ref b997)) (fun h => by rw [Bd.returns] at h; cases h) Bd.notSynchronized (fun fs hr => retOut X996 hx Bd.returns rfl (Or.inr (Or.inr (Or.inr (Or.inr ⟨rfl, rfl, rfl⟩)))) (hb hby djdk_56_method_3_code_53) hr) (by decide) (by decide) (⟨b967, b997, k968, rfl, N996_, K1001, sz_b967, sz_b997, f1002, f970, f1003, f998, f999, f1000, lt_b967_b997⟩)
theorem ef_48 (m : MethodId) (o0 : Addr) : entryFrame m #[(.ref o0)] 1 = mkF m 0 #[.val (.ref o0)] [] := by first | (simp [entryFrame, mkF, argsToLocals, Value.category, maxLocals]; done) | rfl
def Q48 (Z : State) (o0 : Addr) (o_1 : Addr) (k_o_1 : ClassId) (o_2 : Addr) (o_3 : Addr) (s_mir__Ljava_lang_Object_ : Addr) (h0 : Heap) (n0 : Nat) (v : Option Value) (h : Heap) (L : List Loc) : Prop := (∃ (b1005 : Addr) (b1006 : Addr) (k1007 : ClassId), v = some (.ref b1006) ∧ Fr n0 L ∧ Keep h0 h [] ∧ h0.size ≤ b1005 ∧ h0.size ≤ b1006 ∧ Arv Z h b1005 k1007 (.object "java/lang/Object") (2 : Int32) [(.ref o_2), (.ref o_3)] .null ∧ Ovr Z k1007 "java/lang/Object" ∧ Exa Z h b1005 "[Ljava/lang/Object;" ∧ Exa Z h b1006 "java/util/ImmutableCollections$List12" ∧ Fld Z h b1006 "java/util/ImmutableCollections$List12" "e0" "Ljava/lang/Object;" (.ref o_2) ∧ Fld Z h b1006 "java/util/ImmutableCollections$List12" "e1" "Ljava/lang/Object;" (.ref o_3) ∧ b1005 < b1006)
set_option maxRecDepth 65536 in
set_option maxHeartbeats 40000000 in
theorem rm48 (l : Launch) (Z : State) (a0 : Array Value) (hw : ∀ d ∈ tables_1, d.before a0 Z = true) (ws : List Jvm.Cond) (o0 : Addr) (o_1 : Addr) (k_o_1 : ClassId) (o_2 : Addr) (o_3 : Addr) (s_mir__Ljava_lang_Object_ : Addr) (h0 : Heap) (n0 : Nat) (Z0 : n0 ≤ h0.size) (E_o0 : Exa Z h0 o0 "java/util/ArrayList") (F_o0_size : Fld Z h0 o0 "java/util/ArrayList" "size" "I" (.int (2 : Int32))) (F_o0_elementData : Fld Z h0 o0 "java/util/ArrayList" "elementData" "[Ljava/lang/Object;" (.ref o_1)) (E_o_1 : Exa Z h0 o_1 "[Ljava/lang/Object;") (V_o_1 : Arv Z h0 o_1 k_o_1 (.object "java/lang/Object") (10 : Int32) [(.ref o_2), (.ref o_3), .null, .null, .null, .null, .null, .null, .null, .null] .null) (E_o_3 : Exa Z h0 o_3 "java/lang/String") (E_o_2 : Exa Z h0 o_2 "java/lang/String") (M_s_mir__Ljava_lang_Object_ : Mir Z "[Ljava/lang/Object;" s_mir__Ljava_lang_Object_) :
    Con l Z (⟨"java/util/List", "copyOf", "(Ljava/util/Collection;)Ljava/util/List;"⟩ : MethodName) jdk_40_method_48_code 1 (some (.object "java/util/List")) ws ({ frames := 7, cells := 2, slots := 4, locals := 93 } : Room) #[(.ref o0)] h0 2 4 (Q48 Z o0 o_1 k_o_1 o_2 o_3 s_mir__Ljava_lang_Object_ h0 n0) := by
  refine MetFree.of_bodySF (plainFor_of_name pn_12) hisR ?_
  intro p e s m args below meth c s₁ Bd hml0 hP hK
  obtain ⟨rfl, hZ, hh⟩ := hP
  have hx := Bd.exec
  have hby := Bd.bytes
  have hml : c.maxLocals = 1 := hml0
  have hown : s.vm.findClass "java/util/List" = some m.cls := findClass_of_methodNamed Bd.named
  have hnm := (name_of_methodNamed Bd.named Bd.method).1
  have X0 : Stand p l e ({ frames := 7, cells := 2, slots := 4, locals := 93 } : Room) s m #[(.ref o0)] below meth c s₁ [] 0 0 := Stand.of_body Bd
  have e0 : s₁.heap = h0 := by rw [← hh, Bd.state]; rfl
  have N0 := Fr.nil n0
  refine Go.of ?_
  refine Go.st (S' := s₁.setTop (mkF m 0 #[.val (.ref o0)] [])) (fun t k => castTop (ef_48 m o0) k) ?_
  refine Go.st (S' := s₁.setTop (mkF m 1 #[.val (.ref o0)] [(.ref o0)])) (fun t k => XS.aloadN X0.here hx rfl (hb hby djdk_40_method_48_code_0) rfl rfl k) ?_
  obtain ⟨r1004, T1004, L1004, X1004, hQ1004, st1004⟩ := own_callS (W := 0) X0 hx hZ e0 hown (y := (⟨"java/util/ImmutableCollections", "listCopy", "(Ljava/util/Collection;)Ljava/util/List;"⟩ : MethodName)) (hw _ (List.mem_of_getElem? (i := 102) rfl)) (hw _ (List.mem_of_getElem? (i := 103) rfl)) (hw _ (List.mem_of_getElem? (i := 104) rfl)) (hw _ (List.mem_of_getElem? (i := 105) rfl)) (by decide) (rm47 l Z a0 hw [] o0 o_1 k_o_1 o_2 o_3 s_mir__Ljava_lang_Object_ h0 n0 Z0 (E_o0) (F_o0_size) (F_o0_elementData) (E_o_1) (V_o_1) (E_o_3) (E_o_2) (M_s_mir__Ljava_lang_Object_)) (by decide) (by decide) (by decide) (by decide) (g := (mkF m 1 #[.val (.ref o0)] [(.ref o0)])) rfl (by rw [hml]; rfl) (argsL := [(.ref o0)]) (rest := []) rfl (lenOf pd_22 rfl) rfl (by show 2 * 0 + _ ≤ _; exact Nat.le_of_eq rfl) (hb hby djdk_40_method_48_code_1)
  obtain ⟨b1005, b1006, k1007, rfl, N1004, K1004_, sz_b1005_, sz_b1006_, f1008, f1009, f1010, f1011, f1012, f1013, hlt1014⟩ := hQ1004
  have N1004_ := Fr.app N0 N1004
  have g_b1005 : n0 ≤ b1005 := Nat.le_trans Z0 sz_b1005_
  have sz_b1005 : h0.size ≤ b1005 := Nat.le_trans (Keep.refl h0 []).1 sz_b1005_
  have g_b1006 : n0 ≤ b1006 := Nat.le_trans Z0 sz_b1006_
  have sz_b1006 : h0.size ≤ b1006 := Nat.le_trans (Keep.refl h0 []).1 sz_b1006_
  have Z1015 : n0 ≤ T1004.heap.size := Nat.le_trans Z0 K1004_.1
  have K1015 : Keep h0 T1004.heap [] := (Keep.refl h0 []).trans K1004_ all0
  refine Go.st (S' := T1004.setTop (mkF m 4 #[.val (.ref o0)] [(.ref b1006)])) st1004 ?_
  exact Go.ret X1004 (v := some (.ref b1006)) (fun h => by rw [Bd.returns] at h; cases h) Bd.notSynchronized (fun fs hr => retOut X1004 hx Bd.returns rfl (Or.inr (Or.inr (Or.inr (Or.inr ⟨rfl, rfl, rfl⟩)))) (hb hby djdk_40_method_48_code_4) hr) (by decide) (by decide) (⟨b1005, b1006, k1007, rfl, N1004_, K1015, sz_b1005, sz_b1006, f1008, f1009, f1010, f1011, f1012, f1013, hlt1014⟩)
theorem ef_49 (m : MethodId) (o0 : Addr) (o1 : Addr) (o2 : Addr) : entryFrame m #[(.ref o0), (.ref o1), (.ref o2)] 3 = mkF m 0 #[.val (.ref o0), .val (.ref o1), .val (.ref o2)] [] := by first | (simp [entryFrame, mkF, argsToLocals, Value.category, maxLocals]; done) | rfl
def Q49 (Z : State) (o0 : Addr) (o1 : Addr) (o2 : Addr) (o_3 : Addr) (k_o_3 : ClassId) (o_4 : Addr) (o_5 : Addr) (s_mir__Ljava_lang_Object_ : Addr) (u_o0_names : Value) (k_o2 : ClassId) (e0_o2 : Int32) (e1_o2 : Int32) (u_o0_slots : Value) (h0 : Heap) (n0 : Nat) (v : Option Value) (h : Heap) (L : List Loc) : Prop := (∃ (b1017 : Addr) (b1018 : Addr) (b1036 : Addr) (k1019 : ClassId), v = none ∧ Fr n0 L ∧ Keep h0 h [o0] ∧ h0.size ≤ b1017 ∧ h0.size ≤ b1018 ∧ h0.size ≤ b1036 ∧ Arv Z h b1017 k1019 (.object "java/lang/Object") (2 : Int32) [(.ref o_4), (.ref o_5)] .null ∧ Ovr Z k1019 "java/lang/Object" ∧ Exa Z h b1017 "[Ljava/lang/Object;" ∧ Exa Z h b1018 "java/util/ImmutableCollections$List12" ∧ Fld Z h b1018 "java/util/ImmutableCollections$List12" "e0" "Ljava/lang/Object;" (.ref o_4) ∧ Fld Z h b1018 "java/util/ImmutableCollections$List12" "e1" "Ljava/lang/Object;" (.ref o_5) ∧ Exa Z h o0 "com/example/heaplens/heaplens/cfg/Scope" ∧ Fld Z h o0 "com/example/heaplens/heaplens/cfg/Scope" "names" "Ljava/util/List;" (.ref b1018) ∧ Arv Z h b1036 k_o2 .int (2 : Int32) [(.int e0_o2), (.int e1_o2)] (.int (0 : Int32)) ∧ Exa Z h b1036 "[I" ∧ Fld Z h o0 "com/example/heaplens/heaplens/cfg/Scope" "slots" "[I" (.ref b1036) ∧ b1017 < b1018 ∧ b1017 < b1036 ∧ b1018 < b1036)
set_option maxRecDepth 65536 in
set_option maxHeartbeats 40000000 in
theorem rm49 (l : Launch) (Z : State) (a0 : Array Value) (hw : ∀ d ∈ tables_1, d.before a0 Z = true) (ws : List Jvm.Cond) (o0 : Addr) (o1 : Addr) (o2 : Addr) (o_3 : Addr) (k_o_3 : ClassId) (o_4 : Addr) (o_5 : Addr) (s_mir__Ljava_lang_Object_ : Addr) (u_o0_names : Value) (k_o2 : ClassId) (e0_o2 : Int32) (e1_o2 : Int32) (u_o0_slots : Value) (h0 : Heap) (n0 : Nat) (Z0 : n0 ≤ h0.size) (E_o1 : Exa Z h0 o1 "java/util/ArrayList") (F_o1_size : Fld Z h0 o1 "java/util/ArrayList" "size" "I" (.int (2 : Int32))) (F_o1_elementData : Fld Z h0 o1 "java/util/ArrayList" "elementData" "[Ljava/lang/Object;" (.ref o_3)) (E_o_3 : Exa Z h0 o_3 "[Ljava/lang/Object;") (V_o_3 : Arv Z h0 o_3 k_o_3 (.object "java/lang/Object") (10 : Int32) [(.ref o_4), (.ref o_5), .null, .null, .null, .null, .null, .null, .null, .null] .null) (E_o_5 : Exa Z h0 o_5 "java/lang/String") (E_o_4 : Exa Z h0 o_4 "java/lang/String") (M_s_mir__Ljava_lang_Object_ : Mir Z "[Ljava/lang/Object;" s_mir__Ljava_lang_Object_) (E_o0 : Exa Z h0 o0 "com/example/heaplens/heaplens/cfg/Scope") (F_o0_names : Fld Z h0 o0 "com/example/heaplens/heaplens/cfg/Scope" "names" "Ljava/util/List;" u_o0_names) (g_o0 : n0 ≤ o0) (V_o2 : Arv Z h0 o2 k_o2 .int (2 : Int32) [(.int e0_o2), (.int e1_o2)] (.int (0 : Int32))) (ne_o2_o0 : o2 ≠ o0) (E_o2 : Exa Z h0 o2 "[I") (F_o0_slots : Fld Z h0 o0 "com/example/heaplens/heaplens/cfg/Scope" "slots" "[I" u_o0_slots) :
    Con l Z (⟨"com/example/heaplens/heaplens/cfg/Scope", "<init>", "(Ljava/util/List;[I)V"⟩ : MethodName) prog_1_method_1_code 3 none ws ({ frames := 8, cells := 3, slots := 6, locals := 106 } : Room) #[(.ref o0), (.ref o1), (.ref o2)] h0 3 6 (Q49 Z o0 o1 o2 o_3 k_o_3 o_4 o_5 s_mir__Ljava_lang_Object_ u_o0_names k_o2 e0_o2 e1_o2 u_o0_slots h0 n0) := by
  refine MetFree.of_bodySF (plainFor_of_name pn_14) hisR ?_
  intro p e s m args below meth c s₁ Bd hml0 hP hK
  obtain ⟨rfl, hZ, hh⟩ := hP
  have hx := Bd.exec
  have hby := Bd.bytes
  have hml : c.maxLocals = 3 := hml0
  have hown : s.vm.findClass "com/example/heaplens/heaplens/cfg/Scope" = some m.cls := findClass_of_methodNamed Bd.named
  have hnm := (name_of_methodNamed Bd.named Bd.method).1
  have X0 : Stand p l e ({ frames := 8, cells := 3, slots := 6, locals := 106 } : Room) s m #[(.ref o0), (.ref o1), (.ref o2)] below meth c s₁ [] 0 0 := Stand.of_body Bd
  have e0 : s₁.heap = h0 := by rw [← hh, Bd.state]; rfl
  have N0 := Fr.nil n0
  refine Go.of ?_
  refine Go.st (S' := s₁.setTop (mkF m 0 #[.val (.ref o0), .val (.ref o1), .val (.ref o2)] [])) (fun t k => castTop (ef_49 m o0 o1 o2) k) ?_
  refine Go.st (S' := s₁.setTop (mkF m 1 #[.val (.ref o0), .val (.ref o1), .val (.ref o2)] [(.ref o0)])) (fun t k => XS.aloadN X0.here hx rfl (hb hby dprog_1_method_1_code_0) rfl rfl k) ?_
  obtain ⟨T923, X923, e923, st923⟩ := initO X0 hx hZ hown (hw _ (List.mem_of_getElem? (i := 97) rfl)) (hw _ (List.mem_of_getElem? (i := 17) rfl)) (hw _ (List.mem_of_getElem? (i := 18) rfl)) e0 (g := (mkF m 1 #[.val (.ref o0), .val (.ref o1), .val (.ref o2)] [(.ref o0)])) rfl (by rw [hml]; rfl) rfl (hb hby dprog_1_method_1_code_1) (by decide) (W := 0) (by show 2 * 0 + _ ≤ _; exact Nat.le_of_eq rfl) (by decide)
  refine Go.st (S' := T923.setTop (mkF m 4 #[.val (.ref o0), .val (.ref o1), .val (.ref o2)] [])) st923 ?_
  refine Go.st (S' := T923.setTop (mkF m 5 #[.val (.ref o0), .val (.ref o1), .val (.ref o2)] [(.ref o0)])) (fun t k => XS.aloadN X923.here hx rfl (hb hby dprog_1_method_1_code_4) rfl rfl k) ?_
  refine Go.st (S' := T923.setTop (mkF m 6 #[.val (.ref o0), .val (.ref o1), .val (.ref o2)] [(.ref o1), (.ref o0)])) (fun t k => XS.aloadN X923.here hx rfl (hb hby dprog_1_method_1_code_5) rfl rfl k) ?_
  obtain ⟨r1016, T1016, L1016, X1016, hQ1016, st1016⟩ := own_callS (W := 1) X923 hx hZ e923 hown (y := (⟨"java/util/List", "copyOf", "(Ljava/util/Collection;)Ljava/util/List;"⟩ : MethodName)) (hw _ (List.mem_of_getElem? (i := 98) rfl)) (hw _ (List.mem_of_getElem? (i := 99) rfl)) (hw _ (List.mem_of_getElem? (i := 100) rfl)) (hw _ (List.mem_of_getElem? (i := 101) rfl)) (by decide) (rm48 l Z a0 hw [] o1 o_3 k_o_3 o_4 o_5 s_mir__Ljava_lang_Object_ h0 n0 Z0 (E_o1) (F_o1_size) (F_o1_elementData) (E_o_3) (V_o_3) (E_o_5) (E_o_4) (M_s_mir__Ljava_lang_Object_)) (by decide) (by decide) (by decide) (by decide) (g := (mkF m 6 #[.val (.ref o0), .val (.ref o1), .val (.ref o2)] [(.ref o1), (.ref o0)])) rfl (by rw [hml]; rfl) (argsL := [(.ref o1)]) (rest := [(.ref o0)]) rfl (lenOf pd_22 rfl) rfl (by show 2 * 0 + _ ≤ _; exact Nat.le_of_eq rfl) (hb hby dprog_1_method_1_code_6)
  obtain ⟨b1017, b1018, k1019, rfl, N1016, K1016_, sz_b1017_, sz_b1018_, f1020, f1021, f1022, f1023, f1024, f1025, hlt1026⟩ := hQ1016
  have N1016_ := Fr.app N0 N1016
  have g_b1017 : n0 ≤ b1017 := Nat.le_trans Z0 sz_b1017_
  have sz_b1017 : h0.size ≤ b1017 := Nat.le_trans (Keep.refl h0 [o0]).1 sz_b1017_
  have g_b1018 : n0 ≤ b1018 := Nat.le_trans Z0 sz_b1018_
  have sz_b1018 : h0.size ≤ b1018 := Nat.le_trans (Keep.refl h0 [o0]).1 sz_b1018_
  have Z1027 : n0 ≤ T1016.heap.size := Nat.le_trans Z0 K1016_.1
  have K1027 : Keep h0 T1016.heap [o0] := (Keep.refl h0 [o0]).trans K1016_ all0
  refine Go.st (S' := T1016.setTop (mkF m 9 #[.val (.ref o0), .val (.ref o1), .val (.ref o2)] [(.ref b1018), (.ref o0)])) st1016 ?_
  have f1028 := ((E_o0).keep K1016_)
  have f1029 := ((F_o0_names).keep K1016_ nin0)
  obtain ⟨T1030, h1030, X1030, e1030, W1030, st1030⟩ := putF X1016 hx hZ hown (host := "") (Or.inl (hw _ (List.mem_of_getElem? (i := 183) rfl))) Via.refl rfl f1029 f1028 (Or.inr ⟨(hw _ (List.mem_of_getElem? (i := 184) rfl)), rfl, hnm⟩) (hw _ (List.mem_of_getElem? (i := 92) rfl)) (ty := (.object "java/util/List")) (by decide) rfl rfl (g := (mkF m 9 #[.val (.ref o0), .val (.ref o1), .val (.ref o2)] [(.ref b1018), (.ref o0)])) rfl rfl (hb hby dprog_1_method_1_code_9)
  have Fw1030 := (f1029).same W1030
  have N1030 := Fr.snoc X1030 N1016_ g_o0
  have Z1031 : n0 ≤ h1030.size := Nat.le_trans Z1027 (Keep.of_wr W1030).1
  have K1031 : Keep h0 h1030 [o0] := K1027.wr W1030 (Or.inl (by simp))
  refine Go.st (S' := T1030.setTop (mkF m 12 #[.val (.ref o0), .val (.ref o1), .val (.ref o2)] [])) st1030 ?_
  refine Go.st (S' := T1030.setTop (mkF m 13 #[.val (.ref o0), .val (.ref o1), .val (.ref o2)] [(.ref o0)])) (fun t k => XS.aloadN X1030.here hx rfl (hb hby dprog_1_method_1_code_12) rfl rfl k) ?_
  refine Go.st (S' := T1030.setTop (mkF m 14 #[.val (.ref o0), .val (.ref o1), .val (.ref o2)] [(.ref o2), (.ref o0)])) (fun t k => XS.aloadN X1030.here hx rfl (hb hby dprog_1_method_1_code_13) rfl rfl k) ?_
  have f1033 := ((((V_o2).keep K1016_ nin0)).other W1030 ne_o2_o0)
  have f1035 := ((((E_o2).keep K1016_)).wr W1030)
  obtain ⟨T1036, h1036, X1036, e1036, E1036, A1036, B1036, st1036⟩ := cloneH X1030 hx hZ hown (ad := "[I") (hw _ (List.mem_of_getElem? (i := 185) rfl)) (hw _ (List.mem_of_getElem? (i := 186) rfl)) (hw _ (List.mem_of_getElem? (i := 190) rfl)) (hw _ (List.mem_of_getElem? (i := 188) rfl)) (hw _ (List.mem_of_getElem? (i := 189) rfl)) (hw _ (List.mem_of_getElem? (i := 191) rfl)) e1030 (Arv.arh f1033) (f1035) (g := (mkF m 14 #[.val (.ref o0), .val (.ref o1), .val (.ref o2)] [(.ref o2), (.ref o0)])) rfl (by rw [hml]; rfl) rfl (hb hby dprog_1_method_1_code_14) (by decide) (W := 1) (cap := 2) (by show 2 * 0 + _ ≤ _; exact Nat.le_of_eq rfl) (by decide) (by decide) (by decide) (by decide)
  obtain ⟨b1036, gg1036⟩ : ∃ z, z = h1030.size := ⟨_, rfl⟩
  rw [← gg1036] at A1036 B1036 st1036
  have g_b1036 : n0 ≤ b1036 := Nat.le_trans Z1031 (Nat.le_of_eq gg1036.symm)
  have sz_b1036 : h0.size ≤ b1036 := Nat.le_trans K1031.1 (Nat.le_of_eq gg1036.symm)
  have f1037 := ((f1022).wr W1030)
  have lt_b1017_b1036 : b1017 < b1036 := Nat.lt_of_lt_of_le (f1037).lt (Nat.le_of_eq gg1036.symm)
  have f1038 := ((f1023).wr W1030)
  have lt_b1018_b1036 : b1018 < b1036 := Nat.lt_of_lt_of_le (f1038).lt (Nat.le_of_eq gg1036.symm)
  have Z1039 : n0 ≤ h1036.size := Nat.le_trans Z1031 E1036.1
  have K1039 : Keep h0 h1036 [o0] := K1031.ext E1036
  have V1036 : Arv Z h1036 b1036 k_o2 .int (2 : Int32) [(.int e0_o2), (.int e1_o2)] (.int (0 : Int32)) := A1036
  refine Go.st (S' := T1036.setTop (mkF m 17 #[.val (.ref o0), .val (.ref o1), .val (.ref o2)] [(.ref b1036), (.ref o0)])) st1036 ?_
  obtain ⟨T1040, X1040, e1040, st1040⟩ := castY X1036 hx hZ hown (hw _ (List.mem_of_getElem? (i := 192) rfl)) e1036 (Ins.self B1036) (g := (mkF m 17 #[.val (.ref o0), .val (.ref o1), .val (.ref o2)] [(.ref b1036), (.ref o0)])) rfl rfl (hb hby dprog_1_method_1_code_17)
  refine Go.st (S' := T1040.setTop (mkF m 20 #[.val (.ref o0), .val (.ref o1), .val (.ref o2)] [(.ref b1036), (.ref o0)])) st1040 ?_
  have f1041 := ((((f1028).wr W1030)).ext E1036)
  have f1042 := ((((((F_o0_slots).keep K1016_ nin0)).other W1030 (Or.inr (slot_ne (Or.inr (hw _ (List.mem_of_getElem? (i := 195) rfl))) (Or.inr (hw _ (List.mem_of_getElem? (i := 184) rfl))) (by decide) (t := (.array .int)) (t' := (.object "java/util/List")) (by decide) (by decide))))).ext E1036)
  obtain ⟨T1043, h1043, X1043, e1043, W1043, st1043⟩ := putF X1040 hx hZ hown (host := "") (Or.inl (hw _ (List.mem_of_getElem? (i := 194) rfl))) Via.refl e1040 f1042 f1041 (Or.inr ⟨(hw _ (List.mem_of_getElem? (i := 195) rfl)), rfl, hnm⟩) (hw _ (List.mem_of_getElem? (i := 92) rfl)) (ty := (.array .int)) (by decide) rfl rfl (g := (mkF m 20 #[.val (.ref o0), .val (.ref o1), .val (.ref o2)] [(.ref b1036), (.ref o0)])) rfl rfl (hb hby dprog_1_method_1_code_20)
  have Fw1043 := (f1042).same W1043
  have N1043 := Fr.snoc X1043 N1030 g_o0
  have Z1044 : n0 ≤ h1043.size := Nat.le_trans Z1039 (Keep.of_wr W1043).1
  have K1044 : Keep h0 h1043 [o0] := K1039.wr W1043 (Or.inl (by simp))
  refine Go.st (S' := T1043.setTop (mkF m 23 #[.val (.ref o0), .val (.ref o1), .val (.ref o2)] [])) st1043 ?_
  have f1045 := ((((((f1020).other W1030 (Ne.symm (Nat.ne_of_lt (Nat.lt_of_lt_of_le (E_o0).lt sz_b1017))))).ext E1036)).other W1043 (Ne.symm (Nat.ne_of_lt (Nat.lt_of_lt_of_le (E_o0).lt sz_b1017))))
  have f1046 := ((((f1037).ext E1036)).wr W1043)
  have f1047 := ((((f1038).ext E1036)).wr W1043)
  have f1048 := ((((((f1024).other W1030 (Or.inl (Ne.symm (Nat.ne_of_lt (Nat.lt_of_lt_of_le (E_o0).lt sz_b1018)))))).ext E1036)).other W1043 (Or.inl (Ne.symm (Nat.ne_of_lt (Nat.lt_of_lt_of_le (E_o0).lt sz_b1018)))))
  have f1049 := ((((((f1025).other W1030 (Or.inl (Ne.symm (Nat.ne_of_lt (Nat.lt_of_lt_of_le (E_o0).lt sz_b1018)))))).ext E1036)).other W1043 (Or.inl (Ne.symm (Nat.ne_of_lt (Nat.lt_of_lt_of_le (E_o0).lt sz_b1018)))))
  have f1050 := ((f1041).wr W1043)
  have f1051 := ((((Fw1030).ext E1036)).other W1043 (Or.inr (slot_ne (Or.inr (hw _ (List.mem_of_getElem? (i := 184) rfl))) (Or.inr (hw _ (List.mem_of_getElem? (i := 195) rfl))) (by decide) (t := (.object "java/util/List")) (t' := (.array .int)) (by decide) (by decide))))
  have f1052 := ((V1036).other W1043 (Ne.symm (Nat.ne_of_lt (Nat.lt_of_lt_of_le (E_o0).lt sz_b1036))))
  have f1053 := ((B1036).wr W1043)
  exact Go.ret X1043 (v := none) (fun _ => rfl) Bd.notSynchronized (fun fs hr => X1043.returnOut hx Bd.returns (hb hby dprog_1_method_1_code_23) hr) (by decide) (by decide) (by rw [e1043]; exact ⟨b1017, b1018, b1036, k1019, rfl, N1043, K1044, sz_b1017, sz_b1018, sz_b1036, f1045, f1021, f1046, f1047, f1048, f1049, f1050, f1051, f1052, f1053, Fw1043, hlt1026, lt_b1017_b1036, lt_b1018_b1036⟩)
theorem ef_50 (m : MethodId) (o0 : Addr) (p1 : Int32) : entryFrame m #[(.ref o0), (.int p1)] 2 = mkF m 0 #[.val (.ref o0), .val (.int p1)] [] := by first | (simp [entryFrame, mkF, argsToLocals, Value.category, maxLocals]; done) | rfl
def Q50 (Z : State) (o0 : Addr) (p1 : Int32) (o_1 : Addr) (o_2 : Addr) (s_ImmutableCollections_EMPTY : Addr) (h0 : Heap) (n0 : Nat) (v : Option Value) (h : Heap) (L : List Loc) : Prop := ((p1 = (0 : Int32)) ∧ v = some (.ref o_1) ∧ Fr n0 L ∧ h = h0) ∨ ((¬ (p1 = (0 : Int32))) ∧ (p1 = (1 : Int32)) ∧ v = some (.ref o_2) ∧ Fr n0 L ∧ h = h0)
set_option maxRecDepth 65536 in
set_option maxHeartbeats 40000000 in
theorem rm50 (l : Launch) (Z : State) (a0 : Array Value) (hw : ∀ d ∈ tables_1, d.before a0 Z = true) (ws : List Jvm.Cond) (o0 : Addr) (p1 : Int32) (o_1 : Addr) (o_2 : Addr) (s_ImmutableCollections_EMPTY : Addr) (h0 : Heap) (n0 : Nat) (Z0 : n0 ≤ h0.size) (F_o0_e0 : Fld Z h0 o0 "java/util/ImmutableCollections$List12" "e0" "Ljava/lang/Object;" (.ref o_1)) (F_o0_e1 : Fld Z h0 o0 "java/util/ImmutableCollections$List12" "e1" "Ljava/lang/Object;" (.ref o_2)) (S_s_ImmutableCollections_EMPTY : Sta Z h0 "java/util/ImmutableCollections" "EMPTY" "Ljava/lang/Object;" (.ref s_ImmutableCollections_EMPTY)) (ne_o_2_s_ImmutableCollections_EMPTY : o_2 ≠ s_ImmutableCollections_EMPTY) (no4 : ¬ ((¬ (p1 = (0 : Int32))) ∧ (¬ (p1 = (1 : Int32))))) :
    Con l Z (⟨"java/util/ImmutableCollections$List12", "get", "(I)Ljava/lang/Object;"⟩ : MethodName) jdk_44_method_5_code 2 (some (.object "java/lang/Object")) ws ({ frames := 0, cells := 0, slots := 0, locals := 0 } : Room) #[(.ref o0), (.int p1)] h0 0 0 (Q50 Z o0 p1 o_1 o_2 s_ImmutableCollections_EMPTY h0 n0) := by
  refine MetFree.of_bodySF (plainFor_of_name pn_11) hisR ?_
  intro p e s m args below meth c s₁ Bd hml0 hP hK
  obtain ⟨rfl, hZ, hh⟩ := hP
  have hx := Bd.exec
  have hby := Bd.bytes
  have hml : c.maxLocals = 2 := hml0
  have hown : s.vm.findClass "java/util/ImmutableCollections$List12" = some m.cls := findClass_of_methodNamed Bd.named
  have hnm := (name_of_methodNamed Bd.named Bd.method).1
  have X0 : Stand p l e ({ frames := 0, cells := 0, slots := 0, locals := 0 } : Room) s m #[(.ref o0), (.int p1)] below meth c s₁ [] 0 0 := Stand.of_body Bd
  have e0 : s₁.heap = h0 := by rw [← hh, Bd.state]; rfl
  have N0 := Fr.nil n0
  refine Go.of ?_
  refine Go.st (S' := s₁.setTop (mkF m 0 #[.val (.ref o0), .val (.int p1)] [])) (fun t k => castTop (ef_50 m o0 p1) k) ?_
  refine Go.st (S' := s₁.setTop (mkF m 1 #[.val (.ref o0), .val (.int p1)] [(.int p1)])) (fun t k => XS.iloadN X0.here hx rfl (hb hby djdk_44_method_5_code_0) rfl k) ?_
  by_cases hc1089 : (p1 = (0 : Int32))
  · refine Go.st (S' := s₁.setTop (mkF m 4 #[.val (.ref o0), .val (.int p1)] [])) (fun t k => XS.ifNo X0.here hx rfl (hb hby djdk_44_method_5_code_1) rfl ((if0 _ _).trans (teq hc1089).2) k) ?_
    refine Go.st (S' := s₁.setTop (mkF m 5 #[.val (.ref o0), .val (.int p1)] [(.ref o0)])) (fun t k => XS.aloadN X0.here hx rfl (hb hby djdk_44_method_5_code_4) rfl rfl k) ?_
    obtain ⟨T1090, X1090, e1090, st1090⟩ := getF X0 hx hZ hown (host := "") (Or.inl (hw _ (List.mem_of_getElem? (i := 179) rfl))) Via.refl e0 F_o0_e0 (g := (mkF m 5 #[.val (.ref o0), .val (.int p1)] [(.ref o0)])) rfl rfl (hb hby djdk_44_method_5_code_5)
    refine Go.st (S' := T1090.setTop (mkF m 8 #[.val (.ref o0), .val (.int p1)] [(.ref o_1)])) st1090 ?_
    exact Go.ret X1090 (v := some (.ref o_1)) (fun h => by rw [Bd.returns] at h; cases h) Bd.notSynchronized (fun fs hr => retOut X1090 hx Bd.returns rfl (Or.inr (Or.inr (Or.inr (Or.inr ⟨rfl, rfl, rfl⟩)))) (hb hby djdk_44_method_5_code_8) hr) (by decide) (by decide) ((Or.inl ⟨hc1089, rfl, N0, (e1090)⟩))
  · refine Go.st (S' := s₁.setTop (mkF m 9 #[.val (.ref o0), .val (.int p1)] [])) (fun t k => XS.ifYes X0.here hx rfl (pc0 := 1) (pc' := 9) rfl (hb hby djdk_44_method_5_code_1) rfl ((if0 _ _).trans (feq hc1089).2) (by decide) (by decide) k) ?_
    refine Go.st (S' := s₁.setTop (mkF m 10 #[.val (.ref o0), .val (.int p1)] [(.int p1)])) (fun t k => XS.iloadN X0.here hx rfl (hb hby djdk_44_method_5_code_9) rfl k) ?_
    refine Go.st (S' := s₁.setTop (mkF m 11 #[.val (.ref o0), .val (.int p1)] [(.int (1 : Int32)), (.int p1)])) (fun t k => XS.iconst X0.here hx rfl (hb hby djdk_44_method_5_code_10) k) ?_
    by_cases hc1095 : (p1 = (1 : Int32))
    · refine Go.st (S' := s₁.setTop (mkF m 14 #[.val (.ref o0), .val (.int p1)] [])) (fun t k => XS.icmpNo X0.here hx rfl (hb hby djdk_44_method_5_code_11) rfl (teq hc1095).2 k) ?_
      refine Go.st (S' := s₁.setTop (mkF m 15 #[.val (.ref o0), .val (.int p1)] [(.ref o0)])) (fun t k => XS.aloadN X0.here hx rfl (hb hby djdk_44_method_5_code_14) rfl rfl k) ?_
      obtain ⟨T1096, X1096, e1096, st1096⟩ := getF X0 hx hZ hown (host := "") (Or.inl (hw _ (List.mem_of_getElem? (i := 181) rfl))) Via.refl e0 F_o0_e1 (g := (mkF m 15 #[.val (.ref o0), .val (.int p1)] [(.ref o0)])) rfl rfl (hb hby djdk_44_method_5_code_15)
      refine Go.st (S' := T1096.setTop (mkF m 18 #[.val (.ref o0), .val (.int p1)] [(.ref o_2)])) st1096 ?_
      obtain ⟨T1097, X1097, e1097, st1097⟩ := getS2 X1096 hx hZ hown (Or.inr (hw _ (List.mem_of_getElem? (i := 219) rfl))) Via.refl e1096 S_s_ImmutableCollections_EMPTY (g := (mkF m 18 #[.val (.ref o0), .val (.int p1)] [(.ref o_2)])) rfl (hb hby djdk_44_method_5_code_18)
      refine Go.st (S' := T1097.setTop (mkF m 21 #[.val (.ref o0), .val (.int p1)] [(.ref s_ImmutableCollections_EMPTY), (.ref o_2)])) st1097 ?_
      refine Go.st (S' := T1097.setTop (mkF m 24 #[.val (.ref o0), .val (.int p1)] [])) (fun t k => acmp X1097 hx rfl rfl rfl (pc0 := 21) (pc' := 24) (same := false) rfl (hb hby djdk_44_method_5_code_21) rfl (by simp [ne_o_2_s_ImmutableCollections_EMPTY]) (by decide) (by decide) k) ?_
      refine Go.st (S' := T1097.setTop (mkF m 25 #[.val (.ref o0), .val (.int p1)] [(.ref o0)])) (fun t k => XS.aloadN X1097.here hx rfl (hb hby djdk_44_method_5_code_24) rfl rfl k) ?_
      obtain ⟨T1098, X1098, e1098, st1098⟩ := getF X1097 hx hZ hown (host := "") (Or.inl (hw _ (List.mem_of_getElem? (i := 181) rfl))) Via.refl e1097 F_o0_e1 (g := (mkF m 25 #[.val (.ref o0), .val (.int p1)] [(.ref o0)])) rfl rfl (hb hby djdk_44_method_5_code_25)
      refine Go.st (S' := T1098.setTop (mkF m 28 #[.val (.ref o0), .val (.int p1)] [(.ref o_2)])) st1098 ?_
      exact Go.ret X1098 (v := some (.ref o_2)) (fun h => by rw [Bd.returns] at h; cases h) Bd.notSynchronized (fun fs hr => retOut X1098 hx Bd.returns rfl (Or.inr (Or.inr (Or.inr (Or.inr ⟨rfl, rfl, rfl⟩)))) (hb hby djdk_44_method_5_code_28) hr) (by decide) (by decide) ((Or.inr ⟨hc1089, hc1095, rfl, N0, (e1098)⟩))
    · refine Go.st (S' := s₁.setTop (mkF m 29 #[.val (.ref o0), .val (.int p1)] [])) (fun t k => XS.icmpYes X0.here hx rfl (pc0 := 11) (pc' := 29) rfl (hb hby djdk_44_method_5_code_11) rfl (feq hc1095).2 (by decide) (by decide) k) ?_
      refine Go.st (S' := s₁.setTop (mkF m 30 #[.val (.ref o0), .val (.int p1)] [(.ref o0)])) (fun t k => XS.aloadN X0.here hx rfl (hb hby djdk_44_method_5_code_29) rfl rfl k) ?_
      refine Go.st (S' := s₁.setTop (mkF m 31 #[.val (.ref o0), .val (.int p1)] [(.int p1), (.ref o0)])) (fun t k => XS.iloadN X0.here hx rfl (hb hby djdk_44_method_5_code_30) rfl k) ?_
      exact absurd ⟨hc1089, hc1095⟩ no4
theorem ef_51 (m : MethodId) (o0 : Addr) (p1 : Int32) : entryFrame m #[(.ref o0), (.int p1)] 2 = mkF m 0 #[.val (.ref o0), .val (.int p1)] [] := by first | (simp [entryFrame, mkF, argsToLocals, Value.category, maxLocals]; done) | rfl
def Q51 (Z : State) (o0 : Addr) (p1 : Int32) (o_1 : Addr) (o_2 : Addr) (o_3 : Addr) (s_ImmutableCollections_EMPTY : Addr) (h0 : Heap) (n0 : Nat) (v : Option Value) (h : Heap) (L : List Loc) : Prop := ((p1 = (0 : Int32)) ∧ v = some (.ref o_2) ∧ Fr n0 L ∧ h = h0) ∨ ((¬ (p1 = (0 : Int32))) ∧ (p1 = (1 : Int32)) ∧ v = some (.ref o_3) ∧ Fr n0 L ∧ h = h0)
set_option maxRecDepth 65536 in
set_option maxHeartbeats 40000000 in
theorem rm51 (l : Launch) (Z : State) (a0 : Array Value) (hw : ∀ d ∈ tables_1, d.before a0 Z = true) (ws : List Jvm.Cond) (o0 : Addr) (p1 : Int32) (o_1 : Addr) (o_2 : Addr) (o_3 : Addr) (s_ImmutableCollections_EMPTY : Addr) (h0 : Heap) (n0 : Nat) (Z0 : n0 ≤ h0.size) (F_o0_names : Fld Z h0 o0 "com/example/heaplens/heaplens/cfg/Scope" "names" "Ljava/util/List;" (.ref o_1)) (E_o_1 : Exa Z h0 o_1 "java/util/ImmutableCollections$List12") (F_o_1_e0 : Fld Z h0 o_1 "java/util/ImmutableCollections$List12" "e0" "Ljava/lang/Object;" (.ref o_2)) (F_o_1_e1 : Fld Z h0 o_1 "java/util/ImmutableCollections$List12" "e1" "Ljava/lang/Object;" (.ref o_3)) (S_s_ImmutableCollections_EMPTY : Sta Z h0 "java/util/ImmutableCollections" "EMPTY" "Ljava/lang/Object;" (.ref s_ImmutableCollections_EMPTY)) (ne_o_3_s_ImmutableCollections_EMPTY : o_3 ≠ s_ImmutableCollections_EMPTY) (no6 : ¬ ((¬ (p1 = (0 : Int32))) ∧ (¬ (p1 = (1 : Int32))))) (E_o_2 : Exa Z h0 o_2 "java/lang/String") (E_o_3 : Exa Z h0 o_3 "java/lang/String") :
    Con l Z (⟨"com/example/heaplens/heaplens/cfg/Scope", "name", "(I)Ljava/lang/String;"⟩ : MethodName) prog_1_method_3_code 2 (some (.object "java/lang/String")) ws ({ frames := 1, cells := 0, slots := 0, locals := 13 } : Room) #[(.ref o0), (.int p1)] h0 0 0 (Q51 Z o0 p1 o_1 o_2 o_3 s_ImmutableCollections_EMPTY h0 n0) := by
  refine MetFree.of_bodySF (plainFor_of_name pn_14) hisR ?_
  intro p e s m args below meth c s₁ Bd hml0 hP hK
  obtain ⟨rfl, hZ, hh⟩ := hP
  have hx := Bd.exec
  have hby := Bd.bytes
  have hml : c.maxLocals = 2 := hml0
  have hown : s.vm.findClass "com/example/heaplens/heaplens/cfg/Scope" = some m.cls := findClass_of_methodNamed Bd.named
  have hnm := (name_of_methodNamed Bd.named Bd.method).1
  have X0 : Stand p l e ({ frames := 1, cells := 0, slots := 0, locals := 13 } : Room) s m #[(.ref o0), (.int p1)] below meth c s₁ [] 0 0 := Stand.of_body Bd
  have e0 : s₁.heap = h0 := by rw [← hh, Bd.state]; rfl
  have N0 := Fr.nil n0
  refine Go.of ?_
  refine Go.st (S' := s₁.setTop (mkF m 0 #[.val (.ref o0), .val (.int p1)] [])) (fun t k => castTop (ef_51 m o0 p1) k) ?_
  refine Go.st (S' := s₁.setTop (mkF m 1 #[.val (.ref o0), .val (.int p1)] [(.ref o0)])) (fun t k => XS.aloadN X0.here hx rfl (hb hby dprog_1_method_3_code_0) rfl rfl k) ?_
  obtain ⟨T1088, X1088, e1088, st1088⟩ := getF X0 hx hZ hown (host := "") (Or.inl (hw _ (List.mem_of_getElem? (i := 183) rfl))) Via.refl e0 F_o0_names (g := (mkF m 1 #[.val (.ref o0), .val (.int p1)] [(.ref o0)])) rfl rfl (hb hby dprog_1_method_3_code_1)
  refine Go.st (S' := T1088.setTop (mkF m 4 #[.val (.ref o0), .val (.int p1)] [(.ref o_1)])) st1088 ?_
  refine Go.st (S' := T1088.setTop (mkF m 5 #[.val (.ref o0), .val (.int p1)] [(.int p1), (.ref o_1)])) (fun t k => XS.iloadN X1088.here hx rfl (hb hby dprog_1_method_3_code_4) rfl k) ?_
  have no1099 : ¬ ((¬ (p1 = (0 : Int32))) ∧ (¬ (p1 = (1 : Int32)))) := by
    rintro ⟨hc1100, hc1101⟩
    exact absurd ⟨hc1100, hc1101⟩ no6
  obtain ⟨r1102, T1102, L1102, X1102, hQ1102, st1102⟩ := own_callF (W := 0) (a := o_1) (C := "java/util/ImmutableCollections$List12") X1088 hx hZ e1088 hown (xi := (⟨"java/util/List", "get", "(I)Ljava/lang/Object;"⟩ : MethodName)) (y := (⟨"java/util/ImmutableCollections$List12", "get", "(I)Ljava/lang/Object;"⟩ : MethodName)) (hw _ (List.mem_of_getElem? (i := 201) rfl)) (hw _ (List.mem_of_getElem? (i := 202) rfl)) (mvT hZ (hw _ (List.mem_of_getElem? (i := 203) rfl))) (hw _ (List.mem_of_getElem? (i := 204) rfl)) (hw _ (List.mem_of_getElem? (i := 205) rfl)) (hw _ (List.mem_of_getElem? (i := 206) rfl)) (hw _ (List.mem_of_getElem? (i := 207) rfl)) (hw _ (List.mem_of_getElem? (i := 208) rfl)) (hw _ (List.mem_of_getElem? (i := 156) rfl)) (hw _ (List.mem_of_getElem? (i := 209) rfl)) (by decide) (E_o_1) (rm50 l Z a0 hw [] o_1 p1 o_2 o_3 s_ImmutableCollections_EMPTY h0 n0 Z0 (F_o_1_e0) (F_o_1_e1) (S_s_ImmutableCollections_EMPTY) (ne_o_3_s_ImmutableCollections_EMPTY) (no1099)) (by decide) (by decide) (by decide) (by decide) (g := (mkF m 5 #[.val (.ref o0), .val (.int p1)] [(.int p1), (.ref o_1)])) rfl (by rw [hml]; rfl) (argsL := [(.int p1)]) (rest := []) rfl (lenOf pd_24 rfl) rfl (by show 2 * 0 + _ ≤ _; exact Nat.le_of_eq rfl) (hb hby dprog_1_method_3_code_5)
  rcases hQ1102 with hQ1102 | hQ1102
  · obtain ⟨hc1103, rfl, N1102, e1102⟩ := hQ1102
    have N1102_ := Fr.app N0 N1102
    refine Go.st (S' := T1102.setTop (mkF m 10 #[.val (.ref o0), .val (.int p1)] [(.ref o_2)])) st1102 ?_
    obtain ⟨T1105, X1105, e1105, st1105⟩ := castY X1102 hx hZ hown (hw _ (List.mem_of_getElem? (i := 210) rfl)) e1102 (Ins.self E_o_2) (g := (mkF m 10 #[.val (.ref o0), .val (.int p1)] [(.ref o_2)])) rfl rfl (hb hby dprog_1_method_3_code_10)
    refine Go.st (S' := T1105.setTop (mkF m 13 #[.val (.ref o0), .val (.int p1)] [(.ref o_2)])) st1105 ?_
    exact Go.ret X1105 (v := some (.ref o_2)) (fun h => by rw [Bd.returns] at h; cases h) Bd.notSynchronized (fun fs hr => retOut X1105 hx Bd.returns rfl (Or.inr (Or.inr (Or.inr (Or.inr ⟨rfl, rfl, rfl⟩)))) (hb hby dprog_1_method_3_code_13) hr) (by decide) (by decide) ((Or.inl ⟨hc1103, rfl, N1102_, (e1105)⟩))
  · obtain ⟨hc1106, hc1107, rfl, N1102, e1102⟩ := hQ1102
    have N1102_ := Fr.app N0 N1102
    refine Go.st (S' := T1102.setTop (mkF m 10 #[.val (.ref o0), .val (.int p1)] [(.ref o_3)])) st1102 ?_
    obtain ⟨T1109, X1109, e1109, st1109⟩ := castY X1102 hx hZ hown (hw _ (List.mem_of_getElem? (i := 210) rfl)) e1102 (Ins.self E_o_3) (g := (mkF m 10 #[.val (.ref o0), .val (.int p1)] [(.ref o_3)])) rfl rfl (hb hby dprog_1_method_3_code_10)
    refine Go.st (S' := T1109.setTop (mkF m 13 #[.val (.ref o0), .val (.int p1)] [(.ref o_3)])) st1109 ?_
    exact Go.ret X1109 (v := some (.ref o_3)) (fun h => by rw [Bd.returns] at h; cases h) Bd.notSynchronized (fun fs hr => retOut X1109 hx Bd.returns rfl (Or.inr (Or.inr (Or.inr (Or.inr ⟨rfl, rfl, rfl⟩)))) (hb hby dprog_1_method_3_code_13) hr) (by decide) (by decide) ((Or.inr ⟨hc1106, hc1107, rfl, N1102_, (e1109)⟩))
theorem ef_52 (m : MethodId) (o0 : Addr) (o1 : Addr) (o2 : Addr) : entryFrame m #[(.ref o0), (.ref o1), (.ref o2), (.int (2 : Int32))] 4 = mkF m 0 #[.val (.ref o0), .val (.ref o1), .val (.ref o2), .val (.int (2 : Int32))] [] := by first | (simp [entryFrame, mkF, argsToLocals, Value.category, maxLocals]; done) | rfl
def Q52 (Z : State) (o0 : Addr) (o1 : Addr) (o2 : Addr) (k_o2 : ClassId) (o_3 : Addr) (o_4 : Addr) (u_o0_size : Value) (u_o0_modCount : Value) (u_o0_elementData : Value) (h0 : Heap) (n0 : Nat) (v : Option Value) (h : Heap) (L : List Loc) : Prop := (v = none ∧ Fr n0 L ∧ Keep h0 h [o2, o0] ∧ Arv Z h o2 k_o2 (.object "java/lang/Object") (10 : Int32) [(.ref o_3), (.ref o_4), (.ref o1), .null, .null, .null, .null, .null, .null, .null] .null ∧ Ovr Z k_o2 "java/lang/Object" ∧ Exa Z h o0 "java/util/ArrayList" ∧ Fld Z h o0 "java/util/ArrayList" "size" "I" (.int (3 : Int32)) ∧ Fld Z h o0 "java/util/AbstractList" "modCount" "I" u_o0_modCount ∧ Fld Z h o0 "java/util/ArrayList" "elementData" "[Ljava/lang/Object;" u_o0_elementData)
set_option maxRecDepth 65536 in
set_option maxHeartbeats 40000000 in
theorem rm52 (l : Launch) (Z : State) (a0 : Array Value) (hw : ∀ d ∈ tables_1, d.before a0 Z = true) (ws : List Jvm.Cond) (o0 : Addr) (o1 : Addr) (o2 : Addr) (k_o2 : ClassId) (o_3 : Addr) (o_4 : Addr) (u_o0_size : Value) (u_o0_modCount : Value) (u_o0_elementData : Value) (h0 : Heap) (n0 : Nat) (Z0 : n0 ≤ h0.size) (V_o2 : Arv Z h0 o2 k_o2 (.object "java/lang/Object") (10 : Int32) [(.ref o_3), (.ref o_4), .null, .null, .null, .null, .null, .null, .null, .null] .null) (g_o2 : n0 ≤ o2) (E_o1 : Exa Z h0 o1 "java/lang/String") (O_o2 : Ovr Z k_o2 "java/lang/Object") (E_o0 : Exa Z h0 o0 "java/util/ArrayList") (F_o0_size : Fld Z h0 o0 "java/util/ArrayList" "size" "I" u_o0_size) (ne_o0_o2 : o0 ≠ o2) (g_o0 : n0 ≤ o0) (F_o0_modCount : Fld Z h0 o0 "java/util/AbstractList" "modCount" "I" u_o0_modCount) (F_o0_elementData : Fld Z h0 o0 "java/util/ArrayList" "elementData" "[Ljava/lang/Object;" u_o0_elementData) :
    Con l Z (⟨"java/util/ArrayList", "add", "(Ljava/lang/Object;[Ljava/lang/Object;I)V"⟩ : MethodName) jdk_38_method_24_code 4 none ws ({ frames := 0, cells := 0, slots := 0, locals := 0 } : Room) #[(.ref o0), (.ref o1), (.ref o2), (.int (2 : Int32))] h0 0 0 (Q52 Z o0 o1 o2 k_o2 o_3 o_4 u_o0_size u_o0_modCount u_o0_elementData h0 n0) := by
  refine MetFree.of_bodySF (plainFor_of_name pn_6) hisR ?_
  intro p e s m args below meth c s₁ Bd hml0 hP hK
  obtain ⟨rfl, hZ, hh⟩ := hP
  have hx := Bd.exec
  have hby := Bd.bytes
  have hml : c.maxLocals = 4 := hml0
  have hown : s.vm.findClass "java/util/ArrayList" = some m.cls := findClass_of_methodNamed Bd.named
  have hnm := (name_of_methodNamed Bd.named Bd.method).1
  have X0 : Stand p l e ({ frames := 0, cells := 0, slots := 0, locals := 0 } : Room) s m #[(.ref o0), (.ref o1), (.ref o2), (.int (2 : Int32))] below meth c s₁ [] 0 0 := Stand.of_body Bd
  have e0 : s₁.heap = h0 := by rw [← hh, Bd.state]; rfl
  have N0 := Fr.nil n0
  refine Go.of ?_
  refine Go.st (S' := s₁.setTop (mkF m 0 #[.val (.ref o0), .val (.ref o1), .val (.ref o2), .val (.int (2 : Int32))] [])) (fun t k => castTop (ef_52 m o0 o1 o2) k) ?_
  let A1147 : Array Slot := #[.val (.ref o0), .val (.ref o1), .val (.ref o2), .val (.int (2 : Int32))]
  refine Go.st (S' := s₁.setTop (mkF m 1 A1147 [(.int (2 : Int32))])) (fun t k => XS.iloadN X0.here hx rfl (hb hby djdk_38_method_24_code_0) rfl k) ?_
  refine Go.st (S' := s₁.setTop (mkF m 2 A1147 [(.ref o2), (.int (2 : Int32))])) (fun t k => XS.aloadN X0.here hx rfl (hb hby djdk_38_method_24_code_1) rfl rfl k) ?_
  obtain ⟨cl1149, Ar1149, -, S1149, N1149_, -, -⟩ := id V_o2
  refine Go.op (F := fun z => s₁.setTop (mkF m 3 A1147 [(.int z), (.int (2 : Int32))])) (x := cl1149.slots.size.toInt32) (fun t k => X0.arraylength hx (own_eh e0 Ar1149.1) (State.isArrayOf_alike hZ.alike Ar1149.2.1) (g := (mkF m 2 A1147 [(.ref o2), (.int (2 : Int32))])) rfl rfl (hb hby djdk_38_method_24_code_2) t k) ?_
  intro v1150 hv1150
  obtain rfl : (10 : Int32) = v1150 := (hv1150.trans (len_of S1149 N1149_)).symm
  refine Go.st (S' := s₁.setTop (mkF m 11 A1147 [])) (fun t k => XS.icmpYes X0.here hx rfl (pc0 := 3) (pc' := 11) rfl (hb hby djdk_38_method_24_code_3) rfl (feq (by decide : (¬ ((2 : Int32) = (10 : Int32))))).2 (by decide) (by decide) k) ?_
  refine Go.st (S' := s₁.setTop (mkF m 12 A1147 [(.ref o2)])) (fun t k => XS.aloadN X0.here hx rfl (hb hby djdk_38_method_24_code_11) rfl rfl k) ?_
  refine Go.st (S' := s₁.setTop (mkF m 13 A1147 [(.int (2 : Int32)), (.ref o2)])) (fun t k => XS.iloadN X0.here hx rfl (hb hby djdk_38_method_24_code_12) rfl k) ?_
  refine Go.st (S' := s₁.setTop (mkF m 14 A1147 [(.ref o1), (.int (2 : Int32)), (.ref o2)])) (fun t k => XS.aloadN X0.here hx rfl (hb hby djdk_38_method_24_code_13) rfl rfl k) ?_
  obtain ⟨cl1151, Ar1151, q1151, S1151, N1151_, H1151, G1151⟩ := id V_o2
  have hin1151 : ¬ ((2 : Int32) < 0 ∨ cl1151.slots.size ≤ ((2 : Int32)).toNatClampNeg) := inb_of S1151 ⟨by decide, by decide⟩
  obtain ⟨T1151, h1151, X1151, e1151, W1151, st1151⟩ := stR X0 hx hZ e0 Ar1151 (j := (2 : Int32)) hin1151 rfl (Sto.ofV Ar1151 q1151 O_o2 (Ins.of_exa E_o1 (hw _ (List.mem_of_getElem? (i := 89) rfl)))) (g := (mkF m 14 A1147 [(.ref o1), (.int (2 : Int32)), (.ref o2)])) rfl rfl (hb hby djdk_38_method_24_code_14)
  have V1151 : Arv Z h1151 o2 k_o2 (.object "java/lang/Object") (10 : Int32) [(.ref o_3), (.ref o_4), (.ref o1), .null, .null, .null, .null, .null, .null, .null] .null := Arv.set Ar1151 q1151 S1151 N1151_ H1151 G1151 rfl W1151 2 rfl (Nat.le_of_ble_eq_true rfl)
  have N1151 := Fr.snoc X1151 N0 g_o2
  have Z1155 : n0 ≤ h1151.size := Nat.le_trans Z0 (Keep.of_wr W1151).1
  have K1155 : Keep h0 h1151 [o2, o0] := (Keep.refl h0 [o2, o0]).wr W1151 (Or.inl (by simp))
  refine Go.st (S' := T1151.setTop (mkF m 15 A1147 [])) st1151 ?_
  refine Go.st (S' := T1151.setTop (mkF m 16 A1147 [(.ref o0)])) (fun t k => XS.aloadN X1151.here hx rfl (hb hby djdk_38_method_24_code_15) rfl rfl k) ?_
  refine Go.st (S' := T1151.setTop (mkF m 17 A1147 [(.int (2 : Int32)), (.ref o0)])) (fun t k => XS.iloadN X1151.here hx rfl (hb hby djdk_38_method_24_code_16) rfl k) ?_
  refine Go.st (S' := T1151.setTop (mkF m 18 A1147 [(.int (1 : Int32)), (.int (2 : Int32)), (.ref o0)])) (fun t k => XS.iconst X1151.here hx rfl (hb hby djdk_38_method_24_code_17) k) ?_
  refine Go.op (F := fun z => T1151.setTop (mkF m 19 A1147 [(.int z), (.ref o0)])) (x := ((2 : Int32) + (1 : Int32))) (fun t k => XS.iadd X1151.here hx rfl (hb hby djdk_38_method_24_code_18) rfl k) ?_
  intro v1156 hv1156
  obtain rfl : (3 : Int32) = v1156 := (hv1156.trans (by decide)).symm
  have f1157 := ((E_o0).wr W1151)
  have f1158 := ((F_o0_size).other W1151 (Or.inl ne_o0_o2))
  obtain ⟨T1159, h1159, X1159, e1159, W1159, st1159⟩ := putF X1151 hx hZ hown (host := "") (Or.inl (hw _ (List.mem_of_getElem? (i := 66) rfl))) Via.refl e1151 f1158 f1157 (Or.inl (hw _ (List.mem_of_getElem? (i := 67) rfl))) (hw _ (List.mem_of_getElem? (i := 36) rfl)) (ty := .int) (by decide) rfl rfl (g := (mkF m 19 A1147 [(.int (3 : Int32)), (.ref o0)])) rfl rfl (hb hby djdk_38_method_24_code_19)
  have Fw1159 := (f1158).same W1159
  have N1159 := Fr.snoc X1159 N1151 g_o0
  have Z1160 : n0 ≤ h1159.size := Nat.le_trans Z1155 (Keep.of_wr W1159).1
  have K1160 : Keep h0 h1159 [o2, o0] := K1155.wr W1159 (Or.inl (by simp))
  refine Go.st (S' := T1159.setTop (mkF m 22 A1147 [])) st1159 ?_
  have f1161 := ((((F_o0_modCount).other W1151 (Or.inl ne_o0_o2))).other W1159 (Or.inr (slot_ne (Or.inl (hw _ (List.mem_of_getElem? (i := 55) rfl))) (Or.inl (hw _ (List.mem_of_getElem? (i := 67) rfl))) (by decide) (t := .int) (t' := .int) (by decide) (by decide))))
  have f1162 := ((((F_o0_elementData).other W1151 (Or.inl ne_o0_o2))).other W1159 (Or.inr (slot_ne (Or.inl (hw _ (List.mem_of_getElem? (i := 58) rfl))) (Or.inl (hw _ (List.mem_of_getElem? (i := 67) rfl))) (by decide) (t := (.array (.object "java/lang/Object"))) (t' := .int) (by decide) (by decide))))
  have f1163 := ((V1151).other W1159 (Ne.symm ne_o0_o2))
  have f1164 := ((f1157).wr W1159)
  exact Go.ret X1159 (v := none) (fun _ => rfl) Bd.notSynchronized (fun fs hr => X1159.returnOut hx Bd.returns (hb hby djdk_38_method_24_code_22) hr) (by decide) (by decide) (by rw [e1159]; exact ⟨rfl, N1159, K1160, f1163, O_o2, f1164, Fw1159, f1161, f1162⟩)
theorem ef_53 (m : MethodId) (o0 : Addr) (o1 : Addr) : entryFrame m #[(.ref o0), (.ref o1)] 2 = mkF m 0 #[.val (.ref o0), .val (.ref o1)] [] := by first | (simp [entryFrame, mkF, argsToLocals, Value.category, maxLocals]; done) | rfl
def Q53 (Z : State) (o0 : Addr) (o1 : Addr) (o_2 : Addr) (k_o_2 : ClassId) (o_3 : Addr) (o_4 : Addr) (h0 : Heap) (n0 : Nat) (v : Option Value) (h : Heap) (L : List Loc) : Prop := (v = some (.int (1 : Int32)) ∧ Fr n0 L ∧ Keep h0 h [o0, o_2] ∧ Fld Z h o0 "java/util/AbstractList" "modCount" "I" (.int (3 : Int32)) ∧ Exa Z h o0 "java/util/ArrayList" ∧ Fld Z h o0 "java/util/ArrayList" "elementData" "[Ljava/lang/Object;" (.ref o_2) ∧ Fld Z h o0 "java/util/ArrayList" "size" "I" (.int (3 : Int32)) ∧ Arv Z h o_2 k_o_2 (.object "java/lang/Object") (10 : Int32) [(.ref o_3), (.ref o_4), (.ref o1), .null, .null, .null, .null, .null, .null, .null] .null ∧ Ovr Z k_o_2 "java/lang/Object" ∧ Exa Z h o_2 "[Ljava/lang/Object;")
set_option maxRecDepth 65536 in
set_option maxHeartbeats 40000000 in
theorem rm53 (l : Launch) (Z : State) (a0 : Array Value) (hw : ∀ d ∈ tables_1, d.before a0 Z = true) (ws : List Jvm.Cond) (o0 : Addr) (o1 : Addr) (o_2 : Addr) (k_o_2 : ClassId) (o_3 : Addr) (o_4 : Addr) (h0 : Heap) (n0 : Nat) (Z0 : n0 ≤ h0.size) (F_o0_modCount : Fld Z h0 o0 "java/util/AbstractList" "modCount" "I" (.int (2 : Int32))) (E_o0 : Exa Z h0 o0 "java/util/ArrayList") (g_o0 : n0 ≤ o0) (F_o0_elementData : Fld Z h0 o0 "java/util/ArrayList" "elementData" "[Ljava/lang/Object;" (.ref o_2)) (F_o0_size : Fld Z h0 o0 "java/util/ArrayList" "size" "I" (.int (2 : Int32))) (V_o_2 : Arv Z h0 o_2 k_o_2 (.object "java/lang/Object") (10 : Int32) [(.ref o_3), (.ref o_4), .null, .null, .null, .null, .null, .null, .null, .null] .null) (ne_o_2_o0 : o_2 ≠ o0) (E_o1 : Exa Z h0 o1 "java/lang/String") (O_o_2 : Ovr Z k_o_2 "java/lang/Object") (g_o_2 : n0 ≤ o_2) (E_o_2 : Exa Z h0 o_2 "[Ljava/lang/Object;") :
    Con l Z (⟨"java/util/ArrayList", "add", "(Ljava/lang/Object;)Z"⟩ : MethodName) jdk_38_method_25_code 2 (some .boolean) ws ({ frames := 1, cells := 0, slots := 0, locals := 15 } : Room) #[(.ref o0), (.ref o1)] h0 0 0 (Q53 Z o0 o1 o_2 k_o_2 o_3 o_4 h0 n0) := by
  refine MetFree.of_bodySF (plainFor_of_name pn_6) hisR ?_
  intro p e s m args below meth c s₁ Bd hml0 hP hK
  obtain ⟨rfl, hZ, hh⟩ := hP
  have hx := Bd.exec
  have hby := Bd.bytes
  have hml : c.maxLocals = 2 := hml0
  have hown : s.vm.findClass "java/util/ArrayList" = some m.cls := findClass_of_methodNamed Bd.named
  have hnm := (name_of_methodNamed Bd.named Bd.method).1
  have X0 : Stand p l e ({ frames := 1, cells := 0, slots := 0, locals := 15 } : Room) s m #[(.ref o0), (.ref o1)] below meth c s₁ [] 0 0 := Stand.of_body Bd
  have e0 : s₁.heap = h0 := by rw [← hh, Bd.state]; rfl
  have N0 := Fr.nil n0
  refine Go.of ?_
  refine Go.st (S' := s₁.setTop (mkF m 0 #[.val (.ref o0), .val (.ref o1)] [])) (fun t k => castTop (ef_53 m o0 o1) k) ?_
  refine Go.st (S' := s₁.setTop (mkF m 1 #[.val (.ref o0), .val (.ref o1)] [(.ref o0)])) (fun t k => XS.aloadN X0.here hx rfl (hb hby djdk_38_method_25_code_0) rfl rfl k) ?_
  refine Go.st (S' := s₁.setTop (mkF m 2 #[.val (.ref o0), .val (.ref o1)] [(.ref o0), (.ref o0)])) (fun t k => XS.dup X0.here hx rfl (hb hby djdk_38_method_25_code_1) rfl rfl k) ?_
  obtain ⟨T1138, X1138, e1138, st1138⟩ := getF X0 hx hZ hown (host := "") (Or.inl (hw _ (List.mem_of_getElem? (i := 64) rfl))) (Via.of (hw _ (List.mem_of_getElem? (i := 65) rfl))) e0 F_o0_modCount (g := (mkF m 2 #[.val (.ref o0), .val (.ref o1)] [(.ref o0), (.ref o0)])) rfl rfl (hb hby djdk_38_method_25_code_2)
  refine Go.st (S' := T1138.setTop (mkF m 5 #[.val (.ref o0), .val (.ref o1)] [(.int (2 : Int32)), (.ref o0)])) st1138 ?_
  refine Go.st (S' := T1138.setTop (mkF m 6 #[.val (.ref o0), .val (.ref o1)] [(.int (1 : Int32)), (.int (2 : Int32)), (.ref o0)])) (fun t k => XS.iconst X1138.here hx rfl (hb hby djdk_38_method_25_code_5) k) ?_
  refine Go.op (F := fun z => T1138.setTop (mkF m 7 #[.val (.ref o0), .val (.ref o1)] [(.int z), (.ref o0)])) (x := ((2 : Int32) + (1 : Int32))) (fun t k => XS.iadd X1138.here hx rfl (hb hby djdk_38_method_25_code_6) rfl k) ?_
  intro v1139 hv1139
  obtain rfl : (3 : Int32) = v1139 := (hv1139.trans (by decide)).symm
  obtain ⟨T1140, h1140, X1140, e1140, W1140, st1140⟩ := putF X1138 hx hZ hown (host := "") (Or.inl (hw _ (List.mem_of_getElem? (i := 64) rfl))) (Via.of (hw _ (List.mem_of_getElem? (i := 65) rfl))) e1138 F_o0_modCount E_o0 (Or.inl (hw _ (List.mem_of_getElem? (i := 55) rfl))) (hw _ (List.mem_of_getElem? (i := 36) rfl)) (ty := .int) (by decide) rfl rfl (g := (mkF m 7 #[.val (.ref o0), .val (.ref o1)] [(.int (3 : Int32)), (.ref o0)])) rfl rfl (hb hby djdk_38_method_25_code_7)
  have Fw1140 := (F_o0_modCount).same W1140
  have N1140 := Fr.snoc X1140 N0 g_o0
  have Z1141 : n0 ≤ h1140.size := Nat.le_trans Z0 (Keep.of_wr W1140).1
  have K1141 : Keep h0 h1140 [o0, o_2] := (Keep.refl h0 [o0, o_2]).wr W1140 (Or.inl (by simp))
  refine Go.st (S' := T1140.setTop (mkF m 10 #[.val (.ref o0), .val (.ref o1)] [])) st1140 ?_
  refine Go.st (S' := T1140.setTop (mkF m 11 #[.val (.ref o0), .val (.ref o1)] [(.ref o0)])) (fun t k => XS.aloadN X1140.here hx rfl (hb hby djdk_38_method_25_code_10) rfl rfl k) ?_
  refine Go.st (S' := T1140.setTop (mkF m 12 #[.val (.ref o0), .val (.ref o1)] [(.ref o1), (.ref o0)])) (fun t k => XS.aloadN X1140.here hx rfl (hb hby djdk_38_method_25_code_11) rfl rfl k) ?_
  refine Go.st (S' := T1140.setTop (mkF m 13 #[.val (.ref o0), .val (.ref o1)] [(.ref o0), (.ref o1), (.ref o0)])) (fun t k => XS.aloadN X1140.here hx rfl (hb hby djdk_38_method_25_code_12) rfl rfl k) ?_
  have f1142 := ((F_o0_elementData).other W1140 (Or.inr (slot_ne (Or.inl (hw _ (List.mem_of_getElem? (i := 58) rfl))) (Or.inl (hw _ (List.mem_of_getElem? (i := 55) rfl))) (by decide) (t := (.array (.object "java/lang/Object"))) (t' := .int) (by decide) (by decide))))
  obtain ⟨T1143, X1143, e1143, st1143⟩ := getF X1140 hx hZ hown (host := "") (Or.inl (hw _ (List.mem_of_getElem? (i := 57) rfl))) Via.refl e1140 f1142 (g := (mkF m 13 #[.val (.ref o0), .val (.ref o1)] [(.ref o0), (.ref o1), (.ref o0)])) rfl rfl (hb hby djdk_38_method_25_code_13)
  refine Go.st (S' := T1143.setTop (mkF m 16 #[.val (.ref o0), .val (.ref o1)] [(.ref o_2), (.ref o1), (.ref o0)])) st1143 ?_
  refine Go.st (S' := T1143.setTop (mkF m 17 #[.val (.ref o0), .val (.ref o1)] [(.ref o0), (.ref o_2), (.ref o1), (.ref o0)])) (fun t k => XS.aloadN X1143.here hx rfl (hb hby djdk_38_method_25_code_16) rfl rfl k) ?_
  have f1144 := ((F_o0_size).other W1140 (Or.inr (slot_ne (Or.inl (hw _ (List.mem_of_getElem? (i := 67) rfl))) (Or.inl (hw _ (List.mem_of_getElem? (i := 55) rfl))) (by decide) (t := .int) (t' := .int) (by decide) (by decide))))
  obtain ⟨T1145, X1145, e1145, st1145⟩ := getF X1143 hx hZ hown (host := "") (Or.inl (hw _ (List.mem_of_getElem? (i := 66) rfl))) Via.refl e1143 f1144 (g := (mkF m 17 #[.val (.ref o0), .val (.ref o1)] [(.ref o0), (.ref o_2), (.ref o1), (.ref o0)])) rfl rfl (hb hby djdk_38_method_25_code_17)
  refine Go.st (S' := T1145.setTop (mkF m 20 #[.val (.ref o0), .val (.ref o1)] [(.int (2 : Int32)), (.ref o_2), (.ref o1), (.ref o0)])) st1145 ?_
  have f1146 := ((E_o0).wr W1140)
  have f1165 := ((V_o_2).other W1140 ne_o_2_o0)
  have f1166 := ((E_o1).wr W1140)
  obtain ⟨r1167, T1167, L1167, X1167, hQ1167, st1167⟩ := own_callP (W := 0) (a := o0) X1145 hx hZ e1145 hown (y := (⟨"java/util/ArrayList", "add", "(Ljava/lang/Object;[Ljava/lang/Object;I)V"⟩ : MethodName)) (hw _ (List.mem_of_getElem? (i := 68) rfl)) (hw _ (List.mem_of_getElem? (i := 69) rfl)) (hw _ (List.mem_of_getElem? (i := 71) rfl)) (hw _ (List.mem_of_getElem? (i := 70) rfl)) (hw _ (List.mem_of_getElem? (i := 37) rfl)) (hw _ (List.mem_of_getElem? (i := 72) rfl)) (by decide) (f1146) (rm52 l Z a0 hw [] o0 o1 o_2 k_o_2 o_3 o_4 ((.int (2 : Int32))) ((.int (3 : Int32))) ((.ref o_2)) h1140 n0 Z1141 (f1165) (g_o_2) (f1166) (O_o_2) (f1146) (f1144) ((Ne.symm ne_o_2_o0)) (g_o0) (Fw1140) (f1142)) (by decide) (by decide) (by decide) (by decide) (g := (mkF m 20 #[.val (.ref o0), .val (.ref o1)] [(.int (2 : Int32)), (.ref o_2), (.ref o1), (.ref o0)])) rfl (by rw [hml]; rfl) (argsL := [(.ref o1), (.ref o_2), (.int (2 : Int32))]) (rest := []) rfl (lenOf pd_14 rfl) rfl (by show 2 * 0 + _ ≤ _; exact Nat.le_of_eq rfl) (hb hby djdk_38_method_25_code_20)
  obtain ⟨rfl, N1167, K1167_, f1168, f1169, f1170, f1171, f1172, f1173⟩ := hQ1167
  have N1167_ := Fr.app N1140 N1167
  have Z1174 : n0 ≤ T1167.heap.size := Nat.le_trans Z1141 K1167_.1
  have K1174 : Keep h0 T1167.heap [o0, o_2] := K1141.trans K1167_ (allS (Or.inl (by simp)) (allS (Or.inl (by simp)) all0))
  refine Go.st (S' := T1167.setTop (mkF m 23 #[.val (.ref o0), .val (.ref o1)] [])) st1167 ?_
  refine Go.st (S' := T1167.setTop (mkF m 24 #[.val (.ref o0), .val (.ref o1)] [(.int (1 : Int32))])) (fun t k => XS.iconst X1167.here hx rfl (hb hby djdk_38_method_25_code_23) k) ?_
  have f1175 := ((((E_o_2).wr W1140)).keep K1167_)
  exact Go.ret X1167 (v := some (.int (1 : Int32))) (fun h => by rw [Bd.returns] at h; cases h) Bd.notSynchronized (fun fs hr => retN X1167 hx (t := .boolean) Bd.returns (by simp) (hb hby djdk_38_method_25_code_24) hr) (by decide) (by decide) (⟨rfl, N1167_, K1174, f1172, f1170, f1173, f1171, f1168, f1169, f1175⟩)
theorem ef_54 (m : MethodId) (o0 : Addr) : entryFrame m #[(.ref o0)] 1 = mkF m 0 #[.val (.ref o0)] [] := by first | (simp [entryFrame, mkF, argsToLocals, Value.category, maxLocals]; done) | rfl
def Q54 (Z : State) (o0 : Addr) (h0 : Heap) (n0 : Nat) (v : Option Value) (h : Heap) (L : List Loc) : Prop := (v = some (.int (0 : Int32)) ∧ Fr n0 L ∧ h = h0)
set_option maxRecDepth 65536 in
set_option maxHeartbeats 40000000 in
theorem rm54 (l : Launch) (Z : State) (a0 : Array Value) (hw : ∀ d ∈ tables_1, d.before a0 Z = true) (ws : List Jvm.Cond) (o0 : Addr) (h0 : Heap) (n0 : Nat) (Z0 : n0 ≤ h0.size) (F_o0_size : Fld Z h0 o0 "java/util/ArrayList" "size" "I" (.int (3 : Int32))) :
    Con l Z (⟨"java/util/ArrayList", "isEmpty", "()Z"⟩ : MethodName) jdk_38_method_9_code 1 (some .boolean) ws ({ frames := 0, cells := 0, slots := 0, locals := 0 } : Room) #[(.ref o0)] h0 0 0 (Q54 Z o0 h0 n0) := by
  refine MetFree.of_bodySF (plainFor_of_name pn_6) hisR ?_
  intro p e s m args below meth c s₁ Bd hml0 hP hK
  obtain ⟨rfl, hZ, hh⟩ := hP
  have hx := Bd.exec
  have hby := Bd.bytes
  have hml : c.maxLocals = 1 := hml0
  have hown : s.vm.findClass "java/util/ArrayList" = some m.cls := findClass_of_methodNamed Bd.named
  have hnm := (name_of_methodNamed Bd.named Bd.method).1
  have X0 : Stand p l e ({ frames := 0, cells := 0, slots := 0, locals := 0 } : Room) s m #[(.ref o0)] below meth c s₁ [] 0 0 := Stand.of_body Bd
  have e0 : s₁.heap = h0 := by rw [← hh, Bd.state]; rfl
  have N0 := Fr.nil n0
  refine Go.of ?_
  refine Go.st (S' := s₁.setTop (mkF m 0 #[.val (.ref o0)] [])) (fun t k => castTop (ef_54 m o0) k) ?_
  refine Go.st (S' := s₁.setTop (mkF m 1 #[.val (.ref o0)] [(.ref o0)])) (fun t k => XS.aloadN X0.here hx rfl (hb hby djdk_38_method_9_code_0) rfl rfl k) ?_
  obtain ⟨T1317, X1317, e1317, st1317⟩ := getF X0 hx hZ hown (host := "") (Or.inl (hw _ (List.mem_of_getElem? (i := 66) rfl))) Via.refl e0 F_o0_size (g := (mkF m 1 #[.val (.ref o0)] [(.ref o0)])) rfl rfl (hb hby djdk_38_method_9_code_1)
  refine Go.st (S' := T1317.setTop (mkF m 4 #[.val (.ref o0)] [(.int (3 : Int32))])) st1317 ?_
  refine Go.st (S' := T1317.setTop (mkF m 11 #[.val (.ref o0)] [])) (fun t k => XS.ifYes X1317.here hx rfl (pc0 := 4) (pc' := 11) rfl (hb hby djdk_38_method_9_code_4) rfl ((if0 _ _).trans (feq (by decide : (¬ ((3 : Int32) = (0 : Int32))))).2) (by decide) (by decide) k) ?_
  refine Go.st (S' := T1317.setTop (mkF m 12 #[.val (.ref o0)] [(.int (0 : Int32))])) (fun t k => XS.iconst X1317.here hx rfl (hb hby djdk_38_method_9_code_11) k) ?_
  exact Go.ret X1317 (v := some (.int (0 : Int32))) (fun h => by rw [Bd.returns] at h; cases h) Bd.notSynchronized (fun fs hr => retN X1317 hx (t := .boolean) Bd.returns (by simp) (hb hby djdk_38_method_9_code_12) hr) (by decide) (by decide) (⟨rfl, N0, (e1317)⟩)
theorem ef_55 (m : MethodId)  : entryFrame m #[(.int (10 : Int32)), (.int (3 : Int32))] 2 = mkF m 0 #[.val (.int (10 : Int32)), .val (.int (3 : Int32))] [] := by first | (simp [entryFrame, mkF, argsToLocals, Value.category, maxLocals]; done) | rfl
def Q55 (Z : State)  (h0 : Heap) (n0 : Nat) (v : Option Value) (h : Heap) (L : List Loc) : Prop := (v = some (.int (3 : Int32)) ∧ Fr n0 L ∧ h = h0)
set_option maxRecDepth 65536 in
set_option maxHeartbeats 40000000 in
theorem rm55 (l : Launch) (Z : State) (a0 : Array Value) (hw : ∀ d ∈ tables_1, d.before a0 Z = true) (ws : List Jvm.Cond)  (h0 : Heap) (n0 : Nat) (Z0 : n0 ≤ h0.size)  :
    Con l Z (⟨"java/lang/Math", "min", "(II)I"⟩ : MethodName) jdk_29_method_69_code 2 (some .int) ws ({ frames := 0, cells := 0, slots := 0, locals := 0 } : Room) #[(.int (10 : Int32)), (.int (3 : Int32))] h0 0 0 (Q55 Z  h0 n0) := by
  refine MetFree.of_bodySF (Jvm.Free.JP.mathPlain rfl (by decide +kernel)) hisR ?_
  intro p e s m args below meth c s₁ Bd hml0 hP hK
  obtain ⟨rfl, hZ, hh⟩ := hP
  have hx := Bd.exec
  have hby := Bd.bytes
  have hml : c.maxLocals = 2 := hml0
  have hown : s.vm.findClass "java/lang/Math" = some m.cls := findClass_of_methodNamed Bd.named
  have hnm := (name_of_methodNamed Bd.named Bd.method).1
  have X0 : Stand p l e ({ frames := 0, cells := 0, slots := 0, locals := 0 } : Room) s m #[(.int (10 : Int32)), (.int (3 : Int32))] below meth c s₁ [] 0 0 := Stand.of_body Bd
  have e0 : s₁.heap = h0 := by rw [← hh, Bd.state]; rfl
  have N0 := Fr.nil n0
  refine Go.of ?_
  refine Go.st (S' := s₁.setTop (mkF m 0 #[.val (.int (10 : Int32)), .val (.int (3 : Int32))] [])) (fun t k => castTop (ef_55 m ) k) ?_
  refine Go.st (S' := s₁.setTop (mkF m 1 #[.val (.int (10 : Int32)), .val (.int (3 : Int32))] [(.int (10 : Int32))])) (fun t k => XS.iloadN X0.here hx rfl (hb hby djdk_29_method_69_code_0) rfl k) ?_
  refine Go.st (S' := s₁.setTop (mkF m 2 #[.val (.int (10 : Int32)), .val (.int (3 : Int32))] [(.int (3 : Int32)), (.int (10 : Int32))])) (fun t k => XS.iloadN X0.here hx rfl (hb hby djdk_29_method_69_code_1) rfl k) ?_
  refine Go.st (S' := s₁.setTop (mkF m 9 #[.val (.int (10 : Int32)), .val (.int (3 : Int32))] [])) (fun t k => XS.icmpYes X0.here hx rfl (pc0 := 2) (pc' := 9) rfl (hb hby djdk_29_method_69_code_2) rfl (tlt (by decide : ((3 : Int32) < (10 : Int32)))).2.2.1 (by decide) (by decide) k) ?_
  refine Go.st (S' := s₁.setTop (mkF m 10 #[.val (.int (10 : Int32)), .val (.int (3 : Int32))] [(.int (3 : Int32))])) (fun t k => XS.iloadN X0.here hx rfl (hb hby djdk_29_method_69_code_9) rfl k) ?_
  exact Go.ret X0 (v := some (.int (3 : Int32))) (fun h => by rw [Bd.returns] at h; cases h) Bd.notSynchronized (fun fs hr => retI X0 hx Bd.returns (hb hby djdk_29_method_69_code_10) hr) (by decide) (by decide) (⟨rfl, N0, (e0)⟩)
theorem ef_56 (m : MethodId) (o0 : Addr) (s_mir__Ljava_lang_Object_ : Addr) : entryFrame m #[(.ref o0), (.int (3 : Int32)), (.ref s_mir__Ljava_lang_Object_)] 4 = mkF m 0 #[.val (.ref o0), .val (.int (3 : Int32)), .val (.ref s_mir__Ljava_lang_Object_), .unset] [] := by first | (simp [entryFrame, mkF, argsToLocals, Value.category, maxLocals]; done) | rfl
def Q56 (Z : State) (o0 : Addr) (s_mir__Ljava_lang_Object_ : Addr) (k_o0 : ClassId) (o_2 : Addr) (o_3 : Addr) (o_4 : Addr) (h0 : Heap) (n0 : Nat) (v : Option Value) (h : Heap) (L : List Loc) : Prop := (∃ (b1326 : Addr) (k1326 : ClassId), v = some (.ref b1326) ∧ Fr n0 L ∧ Keep h0 h [] ∧ h0.size ≤ b1326 ∧ Arv Z h b1326 k1326 (.object "java/lang/Object") (3 : Int32) [(.ref o_2), (.ref o_3), (.ref o_4)] .null ∧ Ovr Z k1326 "java/lang/Object" ∧ Exa Z h b1326 "[Ljava/lang/Object;")
set_option maxRecDepth 65536 in
set_option maxHeartbeats 40000000 in
theorem rm56 (l : Launch) (Z : State) (a0 : Array Value) (hw : ∀ d ∈ tables_1, d.before a0 Z = true) (ws : List Jvm.Cond) (o0 : Addr) (s_mir__Ljava_lang_Object_ : Addr) (k_o0 : ClassId) (o_2 : Addr) (o_3 : Addr) (o_4 : Addr) (h0 : Heap) (n0 : Nat) (Z0 : n0 ≤ h0.size) (M_s_mir__Ljava_lang_Object_ : Mir Z "[Ljava/lang/Object;" s_mir__Ljava_lang_Object_) (V_o0 : Arv Z h0 o0 k_o0 (.object "java/lang/Object") (10 : Int32) [(.ref o_2), (.ref o_3), (.ref o_4), .null, .null, .null, .null, .null, .null, .null] .null) (E_o_4 : Exa Z h0 o_4 "java/lang/String") (E_o_3 : Exa Z h0 o_3 "java/lang/String") (E_o_2 : Exa Z h0 o_2 "java/lang/String") :
    Con l Z (⟨"java/util/Arrays", "copyOf", "([Ljava/lang/Object;ILjava/lang/Class;)[Ljava/lang/Object;"⟩ : MethodName) jdk_65_method_120_code 4 (some (.array (.object "java/lang/Object"))) ws ({ frames := 1, cells := 1, slots := 3, locals := 40 } : Room) #[(.ref o0), (.int (3 : Int32)), (.ref s_mir__Ljava_lang_Object_)] h0 1 3 (Q56 Z o0 s_mir__Ljava_lang_Object_ k_o0 o_2 o_3 o_4 h0 n0) := by
  refine MetFree.of_bodySF (plainFor_of_name pn_7) hisR ?_
  intro p e s m args below meth c s₁ Bd hml0 hP hK
  obtain ⟨rfl, hZ, hh⟩ := hP
  have hx := Bd.exec
  have hby := Bd.bytes
  have hml : c.maxLocals = 4 := hml0
  have hown : s.vm.findClass "java/util/Arrays" = some m.cls := findClass_of_methodNamed Bd.named
  have hnm := (name_of_methodNamed Bd.named Bd.method).1
  have X0 : Stand p l e ({ frames := 1, cells := 1, slots := 3, locals := 40 } : Room) s m #[(.ref o0), (.int (3 : Int32)), (.ref s_mir__Ljava_lang_Object_)] below meth c s₁ [] 0 0 := Stand.of_body Bd
  have e0 : s₁.heap = h0 := by rw [← hh, Bd.state]; rfl
  have N0 := Fr.nil n0
  refine Go.of ?_
  refine Go.st (S' := s₁.setTop (mkF m 0 #[.val (.ref o0), .val (.int (3 : Int32)), .val (.ref s_mir__Ljava_lang_Object_), .unset] [])) (fun t k => castTop (ef_56 m o0 s_mir__Ljava_lang_Object_) k) ?_
  let A1324 : Array Slot := #[.val (.ref o0), .val (.int (3 : Int32)), .val (.ref s_mir__Ljava_lang_Object_), .unset]
  refine Go.st (S' := s₁.setTop (mkF m 1 A1324 [(.ref s_mir__Ljava_lang_Object_)])) (fun t k => XS.aloadN X0.here hx rfl (hb hby djdk_65_method_120_code_0) rfl rfl k) ?_
  obtain ⟨T1325, X1325, e1325, st1325⟩ := own_ldcM X0 hx hZ hown (hw _ (List.mem_of_getElem? (i := 142) rfl)) e0 M_s_mir__Ljava_lang_Object_ (g := (mkF m 1 A1324 [(.ref s_mir__Ljava_lang_Object_)])) rfl (hb hby djdk_65_method_120_code_1)
  refine Go.st (S' := T1325.setTop (mkF m 3 A1324 [(.ref s_mir__Ljava_lang_Object_), (.ref s_mir__Ljava_lang_Object_)])) st1325 ?_
  refine Go.st (S' := T1325.setTop (mkF m 6 A1324 [])) (fun t k => acmp X1325 hx rfl rfl rfl (pc0 := 3) (pc' := 6) (same := true) rfl (hb hby djdk_65_method_120_code_3) rfl (by simp) (by decide) (by decide) k) ?_
  refine Go.st (S' := T1325.setTop (mkF m 7 A1324 [(.int (3 : Int32))])) (fun t k => XS.iloadN X1325.here hx rfl (hb hby djdk_65_method_120_code_6) rfl k) ?_
  obtain ⟨T1326, h1326, k1326, X1326, e1326, E1326, A1326, B1326, O1326, st1326⟩ := newRE X1325 hx hZ hown (hw _ (List.mem_of_getElem? (i := 143) rfl)) (hw _ (List.mem_of_getElem? (i := 88) rfl)) e1325 (g := (mkF m 7 A1324 [(.int (3 : Int32))])) rfl (hb hby djdk_65_method_120_code_7) rfl (by decide) (cap := 3) (by decide) (by decide) (by decide) (by decide) (ad := "[Ljava/lang/Object;") (by decide)
  obtain ⟨b1326, gg1326⟩ : ∃ z, z = h0.size := ⟨_, rfl⟩
  rw [← gg1326] at A1326 B1326 st1326
  have g_b1326 : n0 ≤ b1326 := Nat.le_trans Z0 (Nat.le_of_eq gg1326.symm)
  have sz_b1326 : h0.size ≤ b1326 := Nat.le_trans (Keep.refl h0 []).1 (Nat.le_of_eq gg1326.symm)
  have Z1327 : n0 ≤ h1326.size := Nat.le_trans Z0 E1326.1
  have K1327 : Keep h0 h1326 [] := (Keep.refl h0 []).ext E1326
  have V1326 : Arv Z h1326 b1326 k1326 (.object "java/lang/Object") (3 : Int32) [.null, .null, .null] .null := (Arv.new A1326 (by decide)).pad (pad_rep [] .null 3)
  refine Go.st (S' := T1326.setTop (mkF m 10 A1324 [(.ref b1326)])) st1326 ?_
  refine Go.st (S' := T1326.setTop (mkF m 24 A1324 [(.ref b1326)])) (fun t k => XS.goto X1326.here hx rfl (pc0 := 10) (pc' := 24) rfl (hb hby djdk_65_method_120_code_10) (by decide) (by decide) k) ?_
  let A1328 : Array Slot := #[.val (.ref o0), .val (.int (3 : Int32)), .val (.ref s_mir__Ljava_lang_Object_), .val (.ref b1326)]
  refine Go.st (S' := T1326.setTop (mkF m 25 A1328 [])) (fun t k => XS.astoreN X1326.here hx rfl (hb hby djdk_65_method_120_code_24) rfl rfl (l' := A1328) rfl k) ?_
  refine Go.st (S' := T1326.setTop (mkF m 26 A1328 [(.ref o0)])) (fun t k => XS.aloadN X1326.here hx rfl (hb hby djdk_65_method_120_code_25) rfl rfl k) ?_
  refine Go.st (S' := T1326.setTop (mkF m 27 A1328 [(.int (0 : Int32)), (.ref o0)])) (fun t k => XS.iconst X1326.here hx rfl (hb hby djdk_65_method_120_code_26) k) ?_
  refine Go.st (S' := T1326.setTop (mkF m 28 A1328 [(.ref b1326), (.int (0 : Int32)), (.ref o0)])) (fun t k => XS.aloadN X1326.here hx rfl (hb hby djdk_65_method_120_code_27) rfl rfl k) ?_
  refine Go.st (S' := T1326.setTop (mkF m 29 A1328 [(.int (0 : Int32)), (.ref b1326), (.int (0 : Int32)), (.ref o0)])) (fun t k => XS.iconst X1326.here hx rfl (hb hby djdk_65_method_120_code_28) k) ?_
  refine Go.st (S' := T1326.setTop (mkF m 30 A1328 [(.ref o0), (.int (0 : Int32)), (.ref b1326), (.int (0 : Int32)), (.ref o0)])) (fun t k => XS.aloadN X1326.here hx rfl (hb hby djdk_65_method_120_code_29) rfl rfl k) ?_
  have f1330 := ((V_o0).ext E1326)
  obtain ⟨cl1331, Ar1331, -, S1331, N1331_, -, -⟩ := id f1330
  refine Go.op (F := fun z => T1326.setTop (mkF m 31 A1328 [(.int z), (.int (0 : Int32)), (.ref b1326), (.int (0 : Int32)), (.ref o0)])) (x := cl1331.slots.size.toInt32) (fun t k => X1326.arraylength hx (own_eh e1326 Ar1331.1) (State.isArrayOf_alike hZ.alike Ar1331.2.1) (g := (mkF m 30 A1328 [(.ref o0), (.int (0 : Int32)), (.ref b1326), (.int (0 : Int32)), (.ref o0)])) rfl rfl (hb hby djdk_65_method_120_code_30) t k) ?_
  intro v1332 hv1332
  obtain rfl : (10 : Int32) = v1332 := (hv1332.trans (len_of S1331 N1331_)).symm
  refine Go.st (S' := T1326.setTop (mkF m 32 A1328 [(.int (3 : Int32)), (.int (10 : Int32)), (.int (0 : Int32)), (.ref b1326), (.int (0 : Int32)), (.ref o0)])) (fun t k => XS.iloadN X1326.here hx rfl (hb hby djdk_65_method_120_code_31) rfl k) ?_
  obtain ⟨r1333, T1333, L1333, X1333, hQ1333, st1333⟩ := own_callS (W := 4) X1326 hx hZ e1326 hown (y := (⟨"java/lang/Math", "min", "(II)I"⟩ : MethodName)) (hw _ (List.mem_of_getElem? (i := 144) rfl)) (hw _ (List.mem_of_getElem? (i := 145) rfl)) (hw _ (List.mem_of_getElem? (i := 85) rfl)) (hw _ (List.mem_of_getElem? (i := 146) rfl)) (by decide) (rm55 l Z a0 hw []  h1326 n0 Z1327 ) (by decide) (by decide) (by decide) (by decide) (g := (mkF m 32 A1328 [(.int (3 : Int32)), (.int (10 : Int32)), (.int (0 : Int32)), (.ref b1326), (.int (0 : Int32)), (.ref o0)])) rfl (by rw [hml]; rfl) (argsL := [(.int (10 : Int32)), (.int (3 : Int32))]) (rest := [(.int (0 : Int32)), (.ref b1326), (.int (0 : Int32)), (.ref o0)]) rfl (lenOf pd_11 rfl) rfl (by show 2 * 0 + _ ≤ _; exact Nat.le_of_eq rfl) (hb hby djdk_65_method_120_code_32)
  obtain ⟨rfl, N1333, e1333⟩ := hQ1333
  have N1333_ := Fr.app N0 N1333
  refine Go.st (S' := T1333.setTop (mkF m 35 A1328 [(.int (3 : Int32)), (.int (0 : Int32)), (.ref b1326), (.int (0 : Int32)), (.ref o0)])) st1333 ?_
  obtain ⟨cl1334, Ar1334, q1334, -⟩ := id V1326
  have f1336 := ((E_o_4).ext E1326)
  have f1338 := ((E_o_3).ext E1326)
  have f1340 := ((E_o_2).ext E1326)
  obtain ⟨T1334, h1334, L1334, X1334, e1334, N1334, K1334_, V1334, st1334⟩ := cpA X1333 hx hZ hown (hw _ (List.mem_of_getElem? (i := 147) rfl)) (hw _ (List.mem_of_getElem? (i := 150) rfl)) (hw _ (List.mem_of_getElem? (i := 148) rfl)) (hw _ (List.mem_of_getElem? (i := 149) rfl)) e1333 (f1330) (V1326) (sp := (0 : Int32)) (dp := (0 : Int32)) (nn := (3 : Int32)) (us := [(.ref o_2), (.ref o_3), (.ref o_4)]) (Or.inr ⟨rfl, rfl, ⟨(Sto.ofV Ar1334 q1334 O1326 (Ins.of_exa f1340 (hw _ (List.mem_of_getElem? (i := 89) rfl)))), ⟨(Sto.ofV Ar1334 q1334 O1326 (Ins.of_exa f1338 (hw _ (List.mem_of_getElem? (i := 89) rfl)))), ⟨(Sto.ofV Ar1334 q1334 O1326 (Ins.of_exa f1336 (hw _ (List.mem_of_getElem? (i := 89) rfl)))), trivial⟩⟩⟩⟩) (by decide) (by decide) (by decide) (by decide) (by decide) rfl (Nat.le_of_ble_eq_true rfl) N1333_ g_b1326 (g := (mkF m 35 A1328 [(.int (3 : Int32)), (.int (0 : Int32)), (.ref b1326), (.int (0 : Int32)), (.ref o0)])) rfl (by rw [hml]; rfl) rfl (hb hby djdk_65_method_120_code_35) (by decide) (W := 0) (by show 2 * 0 + _ ≤ _; exact Nat.le_of_eq rfl) (by decide)
  have V1334 : Arv Z h1334 b1326 k1326 (.object "java/lang/Object") (3 : Int32) [(.ref o_2), (.ref o_3), (.ref o_4)] .null := V1334
  have Z1341 : n0 ≤ h1334.size := Nat.le_trans Z1327 K1334_.1
  have K1341 : Keep h0 h1334 [] := K1327.trans K1334_ (allS (Or.inr sz_b1326) all0)
  refine Go.st (S' := T1334.setTop (mkF m 38 A1328 [])) st1334 ?_
  refine Go.st (S' := T1334.setTop (mkF m 39 A1328 [(.ref b1326)])) (fun t k => XS.aloadN X1334.here hx rfl (hb hby djdk_65_method_120_code_38) rfl rfl k) ?_
  have f1342 := ((B1326).keep K1334_)
  exact Go.ret X1334 (v := some (.ref b1326)) (fun h => by rw [Bd.returns] at h; cases h) Bd.notSynchronized (fun fs hr => retOut X1334 hx Bd.returns rfl (Or.inr (Or.inr (Or.inr (Or.inr ⟨rfl, rfl, rfl⟩)))) (hb hby djdk_65_method_120_code_39) hr) (by decide) (by decide) (by rw [e1334]; exact ⟨b1326, k1326, rfl, N1334, K1341, sz_b1326, V1334, O1326, f1342⟩)
theorem ef_57 (m : MethodId) (o0 : Addr) : entryFrame m #[(.ref o0), (.int (3 : Int32))] 2 = mkF m 0 #[.val (.ref o0), .val (.int (3 : Int32))] [] := by first | (simp [entryFrame, mkF, argsToLocals, Value.category, maxLocals]; done) | rfl
def Q57 (Z : State) (o0 : Addr) (s_mir__Ljava_lang_Object_ : Addr) (k_o0 : ClassId) (o_1 : Addr) (o_2 : Addr) (o_3 : Addr) (h0 : Heap) (n0 : Nat) (v : Option Value) (h : Heap) (L : List Loc) : Prop := (∃ (b1344 : Addr) (k1345 : ClassId), v = some (.ref b1344) ∧ Fr n0 L ∧ Keep h0 h [] ∧ h0.size ≤ b1344 ∧ Arv Z h b1344 k1345 (.object "java/lang/Object") (3 : Int32) [(.ref o_1), (.ref o_2), (.ref o_3)] .null ∧ Ovr Z k1345 "java/lang/Object" ∧ Exa Z h b1344 "[Ljava/lang/Object;")
set_option maxRecDepth 65536 in
set_option maxHeartbeats 40000000 in
theorem rm57 (l : Launch) (Z : State) (a0 : Array Value) (hw : ∀ d ∈ tables_1, d.before a0 Z = true) (ws : List Jvm.Cond) (o0 : Addr) (s_mir__Ljava_lang_Object_ : Addr) (k_o0 : ClassId) (o_1 : Addr) (o_2 : Addr) (o_3 : Addr) (h0 : Heap) (n0 : Nat) (Z0 : n0 ≤ h0.size) (E_o0 : Exa Z h0 o0 "[Ljava/lang/Object;") (M_s_mir__Ljava_lang_Object_ : Mir Z "[Ljava/lang/Object;" s_mir__Ljava_lang_Object_) (V_o0 : Arv Z h0 o0 k_o0 (.object "java/lang/Object") (10 : Int32) [(.ref o_1), (.ref o_2), (.ref o_3), .null, .null, .null, .null, .null, .null, .null] .null) (E_o_3 : Exa Z h0 o_3 "java/lang/String") (E_o_2 : Exa Z h0 o_2 "java/lang/String") (E_o_1 : Exa Z h0 o_1 "java/lang/String") :
    Con l Z (⟨"java/util/Arrays", "copyOf", "([Ljava/lang/Object;I)[Ljava/lang/Object;"⟩ : MethodName) jdk_65_method_119_code 2 (some (.array (.object "java/lang/Object"))) ws ({ frames := 2, cells := 1, slots := 3, locals := 55 } : Room) #[(.ref o0), (.int (3 : Int32))] h0 1 3 (Q57 Z o0 s_mir__Ljava_lang_Object_ k_o0 o_1 o_2 o_3 h0 n0) := by
  refine MetFree.of_bodySF (plainFor_of_name pn_7) hisR ?_
  intro p e s m args below meth c s₁ Bd hml0 hP hK
  obtain ⟨rfl, hZ, hh⟩ := hP
  have hx := Bd.exec
  have hby := Bd.bytes
  have hml : c.maxLocals = 2 := hml0
  have hown : s.vm.findClass "java/util/Arrays" = some m.cls := findClass_of_methodNamed Bd.named
  have hnm := (name_of_methodNamed Bd.named Bd.method).1
  have X0 : Stand p l e ({ frames := 2, cells := 1, slots := 3, locals := 55 } : Room) s m #[(.ref o0), (.int (3 : Int32))] below meth c s₁ [] 0 0 := Stand.of_body Bd
  have e0 : s₁.heap = h0 := by rw [← hh, Bd.state]; rfl
  have N0 := Fr.nil n0
  refine Go.of ?_
  refine Go.st (S' := s₁.setTop (mkF m 0 #[.val (.ref o0), .val (.int (3 : Int32))] [])) (fun t k => castTop (ef_57 m o0) k) ?_
  refine Go.st (S' := s₁.setTop (mkF m 1 #[.val (.ref o0), .val (.int (3 : Int32))] [(.ref o0)])) (fun t k => XS.aloadN X0.here hx rfl (hb hby djdk_65_method_119_code_0) rfl rfl k) ?_
  refine Go.st (S' := s₁.setTop (mkF m 2 #[.val (.ref o0), .val (.int (3 : Int32))] [(.int (3 : Int32)), (.ref o0)])) (fun t k => XS.iloadN X0.here hx rfl (hb hby djdk_65_method_119_code_1) rfl k) ?_
  refine Go.st (S' := s₁.setTop (mkF m 3 #[.val (.ref o0), .val (.int (3 : Int32))] [(.ref o0), (.int (3 : Int32)), (.ref o0)])) (fun t k => XS.aloadN X0.here hx rfl (hb hby djdk_65_method_119_code_2) rfl rfl k) ?_
  obtain ⟨T1323, X1323, e1323, st1323⟩ := gcls X0 hx hZ hown (hw _ (List.mem_of_getElem? (i := 133) rfl)) (hw _ (List.mem_of_getElem? (i := 134) rfl)) (hw _ (List.mem_of_getElem? (i := 110) rfl)) (hw _ (List.mem_of_getElem? (i := 136) rfl)) (hw _ (List.mem_of_getElem? (i := 135) rfl)) (hw _ (List.mem_of_getElem? (i := 137) rfl)) e0 (E_o0) M_s_mir__Ljava_lang_Object_ (g := (mkF m 3 #[.val (.ref o0), .val (.int (3 : Int32))] [(.ref o0), (.int (3 : Int32)), (.ref o0)])) rfl (by rw [hml]; rfl) rfl (hb hby djdk_65_method_119_code_3) (by decide) (W := 2) (by show 2 * 0 + _ ≤ _; exact Nat.le_of_eq rfl) (by decide)
  refine Go.st (S' := T1323.setTop (mkF m 6 #[.val (.ref o0), .val (.int (3 : Int32))] [(.ref s_mir__Ljava_lang_Object_), (.int (3 : Int32)), (.ref o0)])) st1323 ?_
  obtain ⟨r1343, T1343, L1343, X1343, hQ1343, st1343⟩ := own_callS (W := 0) X1323 hx hZ e1323 hown (y := (⟨"java/util/Arrays", "copyOf", "([Ljava/lang/Object;ILjava/lang/Class;)[Ljava/lang/Object;"⟩ : MethodName)) (hw _ (List.mem_of_getElem? (i := 139) rfl)) (hw _ (List.mem_of_getElem? (i := 140) rfl)) (hw _ (List.mem_of_getElem? (i := 131) rfl)) (hw _ (List.mem_of_getElem? (i := 141) rfl)) (by decide) (rm56 l Z a0 hw [] o0 s_mir__Ljava_lang_Object_ k_o0 o_1 o_2 o_3 h0 n0 Z0 (M_s_mir__Ljava_lang_Object_) (V_o0) (E_o_3) (E_o_2) (E_o_1)) (by decide) (by decide) (by decide) (by decide) (g := (mkF m 6 #[.val (.ref o0), .val (.int (3 : Int32))] [(.ref s_mir__Ljava_lang_Object_), (.int (3 : Int32)), (.ref o0)])) rfl (by rw [hml]; rfl) (argsL := [(.ref o0), (.int (3 : Int32)), (.ref s_mir__Ljava_lang_Object_)]) (rest := []) rfl (lenOf pd_17 rfl) rfl (by show 2 * 0 + _ ≤ _; exact Nat.le_of_eq rfl) (hb hby djdk_65_method_119_code_6)
  obtain ⟨b1344, k1345, rfl, N1343, K1343_, sz_b1344_, f1346, f1347, f1348⟩ := hQ1343
  have N1343_ := Fr.app N0 N1343
  have g_b1344 : n0 ≤ b1344 := Nat.le_trans Z0 sz_b1344_
  have sz_b1344 : h0.size ≤ b1344 := Nat.le_trans (Keep.refl h0 []).1 sz_b1344_
  have Z1349 : n0 ≤ T1343.heap.size := Nat.le_trans Z0 K1343_.1
  have K1349 : Keep h0 T1343.heap [] := (Keep.refl h0 []).trans K1343_ all0
  refine Go.st (S' := T1343.setTop (mkF m 9 #[.val (.ref o0), .val (.int (3 : Int32))] [(.ref b1344)])) st1343 ?_
  exact Go.ret X1343 (v := some (.ref b1344)) (fun h => by rw [Bd.returns] at h; cases h) Bd.notSynchronized (fun fs hr => retOut X1343 hx Bd.returns rfl (Or.inr (Or.inr (Or.inr (Or.inr ⟨rfl, rfl, rfl⟩)))) (hb hby djdk_65_method_119_code_9) hr) (by decide) (by decide) (⟨b1344, k1345, rfl, N1343_, K1349, sz_b1344, f1346, f1347, f1348⟩)
theorem ef_58 (m : MethodId) (o0 : Addr) : entryFrame m #[(.ref o0)] 1 = mkF m 0 #[.val (.ref o0)] [] := by first | (simp [entryFrame, mkF, argsToLocals, Value.category, maxLocals]; done) | rfl
def Q58 (Z : State) (o0 : Addr) (o_1 : Addr) (k_o_1 : ClassId) (o_2 : Addr) (o_3 : Addr) (o_4 : Addr) (s_mir__Ljava_lang_Object_ : Addr) (h0 : Heap) (n0 : Nat) (v : Option Value) (h : Heap) (L : List Loc) : Prop := (∃ (b1351 : Addr) (k1352 : ClassId), v = some (.ref b1351) ∧ Fr n0 L ∧ Keep h0 h [] ∧ h0.size ≤ b1351 ∧ Arv Z h b1351 k1352 (.object "java/lang/Object") (3 : Int32) [(.ref o_2), (.ref o_3), (.ref o_4)] .null ∧ Ovr Z k1352 "java/lang/Object" ∧ Exa Z h b1351 "[Ljava/lang/Object;")
set_option maxRecDepth 65536 in
set_option maxHeartbeats 40000000 in
theorem rm58 (l : Launch) (Z : State) (a0 : Array Value) (hw : ∀ d ∈ tables_1, d.before a0 Z = true) (ws : List Jvm.Cond) (o0 : Addr) (o_1 : Addr) (k_o_1 : ClassId) (o_2 : Addr) (o_3 : Addr) (o_4 : Addr) (s_mir__Ljava_lang_Object_ : Addr) (h0 : Heap) (n0 : Nat) (Z0 : n0 ≤ h0.size) (F_o0_elementData : Fld Z h0 o0 "java/util/ArrayList" "elementData" "[Ljava/lang/Object;" (.ref o_1)) (F_o0_size : Fld Z h0 o0 "java/util/ArrayList" "size" "I" (.int (3 : Int32))) (E_o_1 : Exa Z h0 o_1 "[Ljava/lang/Object;") (V_o_1 : Arv Z h0 o_1 k_o_1 (.object "java/lang/Object") (10 : Int32) [(.ref o_2), (.ref o_3), (.ref o_4), .null, .null, .null, .null, .null, .null, .null] .null) (E_o_4 : Exa Z h0 o_4 "java/lang/String") (E_o_3 : Exa Z h0 o_3 "java/lang/String") (E_o_2 : Exa Z h0 o_2 "java/lang/String") (M_s_mir__Ljava_lang_Object_ : Mir Z "[Ljava/lang/Object;" s_mir__Ljava_lang_Object_) :
    Con l Z (⟨"java/util/ArrayList", "toArray", "()[Ljava/lang/Object;"⟩ : MethodName) jdk_38_method_16_code 1 (some (.array (.object "java/lang/Object"))) ws ({ frames := 3, cells := 1, slots := 3, locals := 68 } : Room) #[(.ref o0)] h0 1 3 (Q58 Z o0 o_1 k_o_1 o_2 o_3 o_4 s_mir__Ljava_lang_Object_ h0 n0) := by
  refine MetFree.of_bodySF (plainFor_of_name pn_6) hisR ?_
  intro p e s m args below meth c s₁ Bd hml0 hP hK
  obtain ⟨rfl, hZ, hh⟩ := hP
  have hx := Bd.exec
  have hby := Bd.bytes
  have hml : c.maxLocals = 1 := hml0
  have hown : s.vm.findClass "java/util/ArrayList" = some m.cls := findClass_of_methodNamed Bd.named
  have hnm := (name_of_methodNamed Bd.named Bd.method).1
  have X0 : Stand p l e ({ frames := 3, cells := 1, slots := 3, locals := 68 } : Room) s m #[(.ref o0)] below meth c s₁ [] 0 0 := Stand.of_body Bd
  have e0 : s₁.heap = h0 := by rw [← hh, Bd.state]; rfl
  have N0 := Fr.nil n0
  refine Go.of ?_
  refine Go.st (S' := s₁.setTop (mkF m 0 #[.val (.ref o0)] [])) (fun t k => castTop (ef_58 m o0) k) ?_
  refine Go.st (S' := s₁.setTop (mkF m 1 #[.val (.ref o0)] [(.ref o0)])) (fun t k => XS.aloadN X0.here hx rfl (hb hby djdk_38_method_16_code_0) rfl rfl k) ?_
  obtain ⟨T1320, X1320, e1320, st1320⟩ := getF X0 hx hZ hown (host := "") (Or.inl (hw _ (List.mem_of_getElem? (i := 57) rfl))) Via.refl e0 F_o0_elementData (g := (mkF m 1 #[.val (.ref o0)] [(.ref o0)])) rfl rfl (hb hby djdk_38_method_16_code_1)
  refine Go.st (S' := T1320.setTop (mkF m 4 #[.val (.ref o0)] [(.ref o_1)])) st1320 ?_
  refine Go.st (S' := T1320.setTop (mkF m 5 #[.val (.ref o0)] [(.ref o0), (.ref o_1)])) (fun t k => XS.aloadN X1320.here hx rfl (hb hby djdk_38_method_16_code_4) rfl rfl k) ?_
  obtain ⟨T1321, X1321, e1321, st1321⟩ := getF X1320 hx hZ hown (host := "") (Or.inl (hw _ (List.mem_of_getElem? (i := 66) rfl))) Via.refl e1320 F_o0_size (g := (mkF m 5 #[.val (.ref o0)] [(.ref o0), (.ref o_1)])) rfl rfl (hb hby djdk_38_method_16_code_5)
  refine Go.st (S' := T1321.setTop (mkF m 8 #[.val (.ref o0)] [(.int (3 : Int32)), (.ref o_1)])) st1321 ?_
  obtain ⟨r1350, T1350, L1350, X1350, hQ1350, st1350⟩ := own_callS (W := 0) X1321 hx hZ e1321 hown (y := (⟨"java/util/Arrays", "copyOf", "([Ljava/lang/Object;I)[Ljava/lang/Object;"⟩ : MethodName)) (hw _ (List.mem_of_getElem? (i := 129) rfl)) (hw _ (List.mem_of_getElem? (i := 130) rfl)) (hw _ (List.mem_of_getElem? (i := 131) rfl)) (hw _ (List.mem_of_getElem? (i := 132) rfl)) (by decide) (rm57 l Z a0 hw [] o_1 s_mir__Ljava_lang_Object_ k_o_1 o_2 o_3 o_4 h0 n0 Z0 (E_o_1) (M_s_mir__Ljava_lang_Object_) (V_o_1) (E_o_4) (E_o_3) (E_o_2)) (by decide) (by decide) (by decide) (by decide) (g := (mkF m 8 #[.val (.ref o0)] [(.int (3 : Int32)), (.ref o_1)])) rfl (by rw [hml]; rfl) (argsL := [(.ref o_1), (.int (3 : Int32))]) (rest := []) rfl (lenOf pd_18 rfl) rfl (by show 2 * 0 + _ ≤ _; exact Nat.le_of_eq rfl) (hb hby djdk_38_method_16_code_8)
  obtain ⟨b1351, k1352, rfl, N1350, K1350_, sz_b1351_, f1353, f1354, f1355⟩ := hQ1350
  have N1350_ := Fr.app N0 N1350
  have g_b1351 : n0 ≤ b1351 := Nat.le_trans Z0 sz_b1351_
  have sz_b1351 : h0.size ≤ b1351 := Nat.le_trans (Keep.refl h0 []).1 sz_b1351_
  have Z1356 : n0 ≤ T1350.heap.size := Nat.le_trans Z0 K1350_.1
  have K1356 : Keep h0 T1350.heap [] := (Keep.refl h0 []).trans K1350_ all0
  refine Go.st (S' := T1350.setTop (mkF m 11 #[.val (.ref o0)] [(.ref b1351)])) st1350 ?_
  exact Go.ret X1350 (v := some (.ref b1351)) (fun h => by rw [Bd.returns] at h; cases h) Bd.notSynchronized (fun fs hr => retOut X1350 hx Bd.returns rfl (Or.inr (Or.inr (Or.inr (Or.inr ⟨rfl, rfl, rfl⟩)))) (hb hby djdk_38_method_16_code_11) hr) (by decide) (by decide) (⟨b1351, k1352, rfl, N1350_, K1356, sz_b1351, f1353, f1354, f1355⟩)
theorem ef_59 (m : MethodId) (o0 : Addr) (o1 : Addr) : entryFrame m #[(.ref o0), (.ref o1), (.int (0 : Int32))] 3 = mkF m 0 #[.val (.ref o0), .val (.ref o1), .val (.int (0 : Int32))] [] := by first | (simp [entryFrame, mkF, argsToLocals, Value.category, maxLocals]; done) | rfl
def Q59 (Z : State) (o0 : Addr) (o1 : Addr) (u_o0_elements : Value) (u_o0_allowNulls : Value) (h0 : Heap) (n0 : Nat) (v : Option Value) (h : Heap) (L : List Loc) : Prop := (v = none ∧ Fr n0 L ∧ Keep h0 h [o0] ∧ Exa Z h o0 "java/util/ImmutableCollections$ListN" ∧ Fld Z h o0 "java/util/ImmutableCollections$ListN" "elements" "[Ljava/lang/Object;" (.ref o1) ∧ Fld Z h o0 "java/util/ImmutableCollections$ListN" "allowNulls" "Z" (.int (0 : Int32)))
set_option maxRecDepth 65536 in
set_option maxHeartbeats 40000000 in
theorem rm59 (l : Launch) (Z : State) (a0 : Array Value) (hw : ∀ d ∈ tables_1, d.before a0 Z = true) (ws : List Jvm.Cond) (o0 : Addr) (o1 : Addr) (u_o0_elements : Value) (u_o0_allowNulls : Value) (h0 : Heap) (n0 : Nat) (Z0 : n0 ≤ h0.size) (E_o0 : Exa Z h0 o0 "java/util/ImmutableCollections$ListN") (F_o0_elements : Fld Z h0 o0 "java/util/ImmutableCollections$ListN" "elements" "[Ljava/lang/Object;" u_o0_elements) (g_o0 : n0 ≤ o0) (F_o0_allowNulls : Fld Z h0 o0 "java/util/ImmutableCollections$ListN" "allowNulls" "Z" u_o0_allowNulls) :
    Con l Z (⟨"java/util/ImmutableCollections$ListN", "<init>", "([Ljava/lang/Object;Z)V"⟩ : MethodName) jdk_45_method_1_code 3 none ws ({ frames := 4, cells := 0, slots := 0, locals := 48 } : Room) #[(.ref o0), (.ref o1), (.int (0 : Int32))] h0 0 0 (Q59 Z o0 o1 u_o0_elements u_o0_allowNulls h0 n0) := by
  refine MetFree.of_bodySF (plainFor_of_name pn_15) hisR ?_
  intro p e s m args below meth c s₁ Bd hml0 hP hK
  obtain ⟨rfl, hZ, hh⟩ := hP
  have hx := Bd.exec
  have hby := Bd.bytes
  have hml : c.maxLocals = 3 := hml0
  have hown : s.vm.findClass "java/util/ImmutableCollections$ListN" = some m.cls := findClass_of_methodNamed Bd.named
  have hnm := (name_of_methodNamed Bd.named Bd.method).1
  have X0 : Stand p l e ({ frames := 4, cells := 0, slots := 0, locals := 48 } : Room) s m #[(.ref o0), (.ref o1), (.int (0 : Int32))] below meth c s₁ [] 0 0 := Stand.of_body Bd
  have e0 : s₁.heap = h0 := by rw [← hh, Bd.state]; rfl
  have N0 := Fr.nil n0
  refine Go.of ?_
  refine Go.st (S' := s₁.setTop (mkF m 0 #[.val (.ref o0), .val (.ref o1), .val (.int (0 : Int32))] [])) (fun t k => castTop (ef_59 m o0 o1) k) ?_
  refine Go.st (S' := s₁.setTop (mkF m 1 #[.val (.ref o0), .val (.ref o1), .val (.int (0 : Int32))] [(.ref o0)])) (fun t k => XS.aloadN X0.here hx rfl (hb hby djdk_45_method_1_code_0) rfl rfl k) ?_
  obtain ⟨r1406, T1406, L1406, X1406, hQ1406, st1406⟩ := own_callI (W := 0) (a := o0) X0 hx hZ e0 hown (y := (⟨"java/util/ImmutableCollections$AbstractImmutableList", "<init>", "()V"⟩ : MethodName)) rfl (hw _ (List.mem_of_getElem? (i := 231) rfl)) (hw _ (List.mem_of_getElem? (i := 162) rfl)) (hw _ (List.mem_of_getElem? (i := 165) rfl)) (hw _ (List.mem_of_getElem? (i := 166) rfl)) (by decide) (rm28 l Z a0 hw [] o0 h0 n0 Z0 ) (by decide) (by decide) (by decide) (by decide) (g := (mkF m 1 #[.val (.ref o0), .val (.ref o1), .val (.int (0 : Int32))] [(.ref o0)])) rfl (by rw [hml]; rfl) (argsL := []) (rest := []) rfl (lenOf pd_10 rfl) rfl (by show 2 * 0 + _ ≤ _; exact Nat.le_of_eq rfl) (hb hby djdk_45_method_1_code_1)
  obtain ⟨rfl, N1406, e1406⟩ := hQ1406
  have N1406_ := Fr.app N0 N1406
  refine Go.st (S' := T1406.setTop (mkF m 4 #[.val (.ref o0), .val (.ref o1), .val (.int (0 : Int32))] [])) st1406 ?_
  refine Go.st (S' := T1406.setTop (mkF m 5 #[.val (.ref o0), .val (.ref o1), .val (.int (0 : Int32))] [(.ref o0)])) (fun t k => XS.aloadN X1406.here hx rfl (hb hby djdk_45_method_1_code_4) rfl rfl k) ?_
  refine Go.st (S' := T1406.setTop (mkF m 6 #[.val (.ref o0), .val (.ref o1), .val (.int (0 : Int32))] [(.ref o1), (.ref o0)])) (fun t k => XS.aloadN X1406.here hx rfl (hb hby djdk_45_method_1_code_5) rfl rfl k) ?_
  obtain ⟨T1407, h1407, X1407, e1407, W1407, st1407⟩ := putF X1406 hx hZ hown (host := "") (Or.inl (hw _ (List.mem_of_getElem? (i := 235) rfl))) Via.refl e1406 F_o0_elements E_o0 (Or.inr ⟨(hw _ (List.mem_of_getElem? (i := 236) rfl)), rfl, hnm⟩) (hw _ (List.mem_of_getElem? (i := 225) rfl)) (ty := (.array (.object "java/lang/Object"))) (by decide) rfl rfl (g := (mkF m 6 #[.val (.ref o0), .val (.ref o1), .val (.int (0 : Int32))] [(.ref o1), (.ref o0)])) rfl rfl (hb hby djdk_45_method_1_code_6)
  have Fw1407 := (F_o0_elements).same W1407
  have N1407 := Fr.snoc X1407 N1406_ g_o0
  have Z1408 : n0 ≤ h1407.size := Nat.le_trans Z0 (Keep.of_wr W1407).1
  have K1408 : Keep h0 h1407 [o0] := (Keep.refl h0 [o0]).wr W1407 (Or.inl (by simp))
  refine Go.st (S' := T1407.setTop (mkF m 9 #[.val (.ref o0), .val (.ref o1), .val (.int (0 : Int32))] [])) st1407 ?_
  refine Go.st (S' := T1407.setTop (mkF m 10 #[.val (.ref o0), .val (.ref o1), .val (.int (0 : Int32))] [(.ref o0)])) (fun t k => XS.aloadN X1407.here hx rfl (hb hby djdk_45_method_1_code_9) rfl rfl k) ?_
  refine Go.st (S' := T1407.setTop (mkF m 11 #[.val (.ref o0), .val (.ref o1), .val (.int (0 : Int32))] [(.int (0 : Int32)), (.ref o0)])) (fun t k => XS.iloadN X1407.here hx rfl (hb hby djdk_45_method_1_code_10) rfl k) ?_
  have f1409 := ((E_o0).wr W1407)
  have f1410 := ((F_o0_allowNulls).other W1407 (Or.inr (slot_ne (Or.inr (hw _ (List.mem_of_getElem? (i := 238) rfl))) (Or.inr (hw _ (List.mem_of_getElem? (i := 236) rfl))) (by decide) (t := .boolean) (t' := (.array (.object "java/lang/Object"))) (by decide) (by decide))))
  obtain ⟨T1411, h1411, X1411, e1411, W1411, st1411⟩ := putF X1407 hx hZ hown (host := "") (Or.inl (hw _ (List.mem_of_getElem? (i := 237) rfl))) Via.refl e1407 f1410 f1409 (Or.inr ⟨(hw _ (List.mem_of_getElem? (i := 238) rfl)), rfl, hnm⟩) (hw _ (List.mem_of_getElem? (i := 225) rfl)) (ty := .boolean) (by decide) rfl (by decide) (g := (mkF m 11 #[.val (.ref o0), .val (.ref o1), .val (.int (0 : Int32))] [(.int (0 : Int32)), (.ref o0)])) rfl rfl (hb hby djdk_45_method_1_code_11)
  have Fw1411 := (f1410).same W1411
  have N1411 := Fr.snoc X1411 N1407 g_o0
  have Z1412 : n0 ≤ h1411.size := Nat.le_trans Z1408 (Keep.of_wr W1411).1
  have K1412 : Keep h0 h1411 [o0] := K1408.wr W1411 (Or.inl (by simp))
  refine Go.st (S' := T1411.setTop (mkF m 14 #[.val (.ref o0), .val (.ref o1), .val (.int (0 : Int32))] [])) st1411 ?_
  have f1413 := ((f1409).wr W1411)
  have f1414 := ((Fw1407).other W1411 (Or.inr (slot_ne (Or.inr (hw _ (List.mem_of_getElem? (i := 236) rfl))) (Or.inr (hw _ (List.mem_of_getElem? (i := 238) rfl))) (by decide) (t := (.array (.object "java/lang/Object"))) (t' := .boolean) (by decide) (by decide))))
  exact Go.ret X1411 (v := none) (fun _ => rfl) Bd.notSynchronized (fun fs hr => X1411.returnOut hx Bd.returns (hb hby djdk_45_method_1_code_14) hr) (by decide) (by decide) (by rw [e1411]; exact ⟨rfl, N1411, K1412, f1413, f1414, Fw1411⟩)
theorem ef_60 (m : MethodId) (o0 : Addr) : entryFrame m #[(.ref o0)] 3 = mkF m 0 #[.val (.ref o0), .unset, .unset] [] := by first | (simp [entryFrame, mkF, argsToLocals, Value.category, maxLocals]; done) | rfl
def Q60 (Z : State) (o0 : Addr) (k_o0 : ClassId) (o_1 : Addr) (o_2 : Addr) (o_3 : Addr) (h0 : Heap) (n0 : Nat) (v : Option Value) (h : Heap) (L : List Loc) : Prop := (∃ (b1368 : Addr) (b1403 : Addr) (k1368 : ClassId), v = some (.ref b1403) ∧ Fr n0 L ∧ Keep h0 h [] ∧ h0.size ≤ b1368 ∧ h0.size ≤ b1403 ∧ Arv Z h b1368 k1368 (.object "java/lang/Object") (3 : Int32) [(.ref o_1), (.ref o_2), (.ref o_3)] .null ∧ Ovr Z k1368 "java/lang/Object" ∧ Exa Z h b1368 "[Ljava/lang/Object;" ∧ Exa Z h b1403 "java/util/ImmutableCollections$ListN" ∧ Fld Z h b1403 "java/util/ImmutableCollections$ListN" "elements" "[Ljava/lang/Object;" (.ref b1368) ∧ Fld Z h b1403 "java/util/ImmutableCollections$ListN" "allowNulls" "Z" (.int (0 : Int32)) ∧ b1368 < b1403)
set_option maxRecDepth 65536 in
set_option maxHeartbeats 40000000 in
theorem rm60 (l : Launch) (Z : State) (a0 : Array Value) (hw : ∀ d ∈ tables_1, d.before a0 Z = true) (ws : List Jvm.Cond) (o0 : Addr) (k_o0 : ClassId) (o_1 : Addr) (o_2 : Addr) (o_3 : Addr) (h0 : Heap) (n0 : Nat) (Z0 : n0 ≤ h0.size) (V_o0 : Arv Z h0 o0 k_o0 (.object "java/lang/Object") (3 : Int32) [(.ref o_1), (.ref o_2), (.ref o_3)] .null) (E_o_1 : Exa Z h0 o_1 "java/lang/String") (E_o_2 : Exa Z h0 o_2 "java/lang/String") (E_o_3 : Exa Z h0 o_3 "java/lang/String") :
    Con l Z (⟨"java/util/ImmutableCollections", "listFromArray", "([Ljava/lang/Object;)Ljava/util/List;"⟩ : MethodName) jdk_56_method_4_code 3 (some (.object "java/util/List")) ws ({ frames := 5, cells := 2, slots := 5, locals := 63 } : Room) #[(.ref o0)] h0 2 5 (Q60 Z o0 k_o0 o_1 o_2 o_3 h0 n0) := by
  refine MetFree.of_bodySF (plainFor_of_name pn_13) hisR ?_
  intro p e s m args below meth c s₁ Bd hml0 hP hK
  obtain ⟨rfl, hZ, hh⟩ := hP
  have hx := Bd.exec
  have hby := Bd.bytes
  have hml : c.maxLocals = 3 := hml0
  have hown : s.vm.findClass "java/util/ImmutableCollections" = some m.cls := findClass_of_methodNamed Bd.named
  have hnm := (name_of_methodNamed Bd.named Bd.method).1
  have X0 : Stand p l e ({ frames := 5, cells := 2, slots := 5, locals := 63 } : Room) s m #[(.ref o0)] below meth c s₁ [] 0 0 := Stand.of_body Bd
  have e0 : s₁.heap = h0 := by rw [← hh, Bd.state]; rfl
  have N0 := Fr.nil n0
  refine Go.of ?_
  refine Go.st (S' := s₁.setTop (mkF m 0 #[.val (.ref o0), .unset, .unset] [])) (fun t k => castTop (ef_60 m o0) k) ?_
  refine Go.st (S' := s₁.setTop (mkF m 1 #[.val (.ref o0), .unset, .unset] [(.ref o0)])) (fun t k => XS.aloadN X0.here hx rfl (hb hby djdk_56_method_4_code_0) rfl rfl k) ?_
  obtain ⟨cl1366, Ar1366, -, S1366, N1366_, -, -⟩ := id V_o0
  refine Go.op (F := fun z => s₁.setTop (mkF m 2 #[.val (.ref o0), .unset, .unset] [(.int z)])) (x := cl1366.slots.size.toInt32) (fun t k => X0.arraylength hx (own_eh e0 Ar1366.1) (State.isArrayOf_alike hZ.alike Ar1366.2.1) (g := (mkF m 1 #[.val (.ref o0), .unset, .unset] [(.ref o0)])) rfl rfl (hb hby djdk_56_method_4_code_1) t k) ?_
  intro v1367 hv1367
  obtain rfl : (3 : Int32) = v1367 := (hv1367.trans (len_of S1366 N1366_)).symm
  obtain ⟨T1368, h1368, k1368, X1368, e1368, E1368, A1368, B1368, O1368, st1368⟩ := newRE X0 hx hZ hown (hw _ (List.mem_of_getElem? (i := 223) rfl)) (hw _ (List.mem_of_getElem? (i := 88) rfl)) e0 (g := (mkF m 2 #[.val (.ref o0), .unset, .unset] [(.int (3 : Int32))])) rfl (hb hby djdk_56_method_4_code_2) rfl (by decide) (cap := 3) (by decide) (by decide) (by decide) (by decide) (ad := "[Ljava/lang/Object;") (by decide)
  obtain ⟨b1368, gg1368⟩ : ∃ z, z = h0.size := ⟨_, rfl⟩
  rw [← gg1368] at A1368 B1368 st1368
  have g_b1368 : n0 ≤ b1368 := Nat.le_trans Z0 (Nat.le_of_eq gg1368.symm)
  have sz_b1368 : h0.size ≤ b1368 := Nat.le_trans (Keep.refl h0 []).1 (Nat.le_of_eq gg1368.symm)
  have Z1369 : n0 ≤ h1368.size := Nat.le_trans Z0 E1368.1
  have K1369 : Keep h0 h1368 [] := (Keep.refl h0 []).ext E1368
  have V1368 : Arv Z h1368 b1368 k1368 (.object "java/lang/Object") (3 : Int32) [.null, .null, .null] .null := (Arv.new A1368 (by decide)).pad (pad_rep [] .null 3)
  refine Go.st (S' := T1368.setTop (mkF m 5 #[.val (.ref o0), .unset, .unset] [(.ref b1368)])) st1368 ?_
  refine Go.st (S' := T1368.setTop (mkF m 6 #[.val (.ref o0), .val (.ref b1368), .unset] [])) (fun t k => XS.astoreN X1368.here hx rfl (hb hby djdk_56_method_4_code_5) rfl rfl (l' := #[.val (.ref o0), .val (.ref b1368), .unset]) rfl k) ?_
  refine Go.st (S' := T1368.setTop (mkF m 7 #[.val (.ref o0), .val (.ref b1368), .unset] [(.int (0 : Int32))])) (fun t k => XS.iconst X1368.here hx rfl (hb hby djdk_56_method_4_code_6) k) ?_
  refine Go.st (S' := T1368.setTop (mkF m 8 #[.val (.ref o0), .val (.ref b1368), .val (.int (0 : Int32))] [])) (fun t k => XS.istoreN X1368.here hx rfl (hb hby djdk_56_method_4_code_7) rfl (l' := #[.val (.ref o0), .val (.ref b1368), .val (.int (0 : Int32))]) rfl k) ?_
  refine Go.st (S' := T1368.setTop (mkF m 9 #[.val (.ref o0), .val (.ref b1368), .val (.int (0 : Int32))] [(.int (0 : Int32))])) (fun t k => XS.iloadN X1368.here hx rfl (hb hby djdk_56_method_4_code_8) rfl k) ?_
  refine Go.st (S' := T1368.setTop (mkF m 10 #[.val (.ref o0), .val (.ref b1368), .val (.int (0 : Int32))] [(.ref o0), (.int (0 : Int32))])) (fun t k => XS.aloadN X1368.here hx rfl (hb hby djdk_56_method_4_code_9) rfl rfl k) ?_
  have f1370 := ((V_o0).ext E1368)
  obtain ⟨cl1371, Ar1371, -, S1371, N1371_, -, -⟩ := id f1370
  refine Go.op (F := fun z => T1368.setTop (mkF m 11 #[.val (.ref o0), .val (.ref b1368), .val (.int (0 : Int32))] [(.int z), (.int (0 : Int32))])) (x := cl1371.slots.size.toInt32) (fun t k => X1368.arraylength hx (own_eh e1368 Ar1371.1) (State.isArrayOf_alike hZ.alike Ar1371.2.1) (g := (mkF m 10 #[.val (.ref o0), .val (.ref b1368), .val (.int (0 : Int32))] [(.ref o0), (.int (0 : Int32))])) rfl rfl (hb hby djdk_56_method_4_code_10) t k) ?_
  intro v1372 hv1372
  obtain rfl : (3 : Int32) = v1372 := (hv1372.trans (len_of S1371 N1371_)).symm
  refine Go.st (S' := T1368.setTop (mkF m 14 #[.val (.ref o0), .val (.ref b1368), .val (.int (0 : Int32))] [])) (fun t k => XS.icmpNo X1368.here hx rfl (hb hby djdk_56_method_4_code_11) rfl (tlt (by decide : ((0 : Int32) < (3 : Int32)))).2.1 k) ?_
  refine Go.st (S' := T1368.setTop (mkF m 15 #[.val (.ref o0), .val (.ref b1368), .val (.int (0 : Int32))] [(.ref b1368)])) (fun t k => XS.aloadN X1368.here hx rfl (hb hby djdk_56_method_4_code_14) rfl rfl k) ?_
  refine Go.st (S' := T1368.setTop (mkF m 16 #[.val (.ref o0), .val (.ref b1368), .val (.int (0 : Int32))] [(.int (0 : Int32)), (.ref b1368)])) (fun t k => XS.iloadN X1368.here hx rfl (hb hby djdk_56_method_4_code_15) rfl k) ?_
  refine Go.st (S' := T1368.setTop (mkF m 17 #[.val (.ref o0), .val (.ref b1368), .val (.int (0 : Int32))] [(.ref o0), (.int (0 : Int32)), (.ref b1368)])) (fun t k => XS.aloadN X1368.here hx rfl (hb hby djdk_56_method_4_code_16) rfl rfl k) ?_
  refine Go.st (S' := T1368.setTop (mkF m 18 #[.val (.ref o0), .val (.ref b1368), .val (.int (0 : Int32))] [(.int (0 : Int32)), (.ref o0), (.int (0 : Int32)), (.ref b1368)])) (fun t k => XS.iloadN X1368.here hx rfl (hb hby djdk_56_method_4_code_17) rfl k) ?_
  obtain ⟨cl1373, Ar1373, -, S1373, N1373_, H1373, -⟩ := id f1370
  have hin1373 : ¬ ((0 : Int32) < 0 ∨ cl1373.slots.size ≤ ((0 : Int32)).toNatClampNeg) := inb_of S1373 ⟨by decide, by decide⟩
  have hat1373 : cl1373.slots[((0 : Int32)).toNatClampNeg]? = some (.ref o_1) := Has.at H1373 hin1373 rfl
  refine Go.st (S' := T1368.setTop (mkF m 19 #[.val (.ref o0), .val (.ref b1368), .val (.int (0 : Int32))] [(.ref o_1), (.int (0 : Int32)), (.ref b1368)])) (fun t k => X1368.aaload hx (j := (0 : Int32)) (v := (.ref o_1)) (own_eh e1368 Ar1373.1) (State.isArrayOf_alike hZ.alike Ar1373.2.1) rfl Ar1373.2.2 hin1373 hat1373 (g := (mkF m 18 #[.val (.ref o0), .val (.ref b1368), .val (.int (0 : Int32))] [(.int (0 : Int32)), (.ref o0), (.int (0 : Int32)), (.ref b1368)])) rfl rfl (hb hby djdk_56_method_4_code_18) t k) ?_
  obtain ⟨r1374, T1374, L1374, X1374, hQ1374, st1374⟩ := own_callS (W := 2) X1368 hx hZ e1368 hown (y := (⟨"java/util/Objects", "requireNonNull", "(Ljava/lang/Object;)Ljava/lang/Object;"⟩ : MethodName)) (hw _ (List.mem_of_getElem? (i := 224) rfl)) (hw _ (List.mem_of_getElem? (i := 176) rfl)) (hw _ (List.mem_of_getElem? (i := 177) rfl)) (hw _ (List.mem_of_getElem? (i := 178) rfl)) (by decide) (rm29 l Z a0 hw [] o_1 h1368 n0 Z1369 ) (by decide) (by decide) (by decide) (by decide) (g := (mkF m 19 #[.val (.ref o0), .val (.ref b1368), .val (.int (0 : Int32))] [(.ref o_1), (.int (0 : Int32)), (.ref b1368)])) rfl (by rw [hml]; rfl) (argsL := [(.ref o_1)]) (rest := [(.int (0 : Int32)), (.ref b1368)]) rfl (lenOf pd_19 rfl) rfl (by show 2 * 0 + _ ≤ _; exact Nat.le_of_eq rfl) (hb hby djdk_56_method_4_code_19)
  obtain ⟨rfl, N1374, e1374⟩ := hQ1374
  have N1374_ := Fr.app N0 N1374
  refine Go.st (S' := T1374.setTop (mkF m 22 #[.val (.ref o0), .val (.ref b1368), .val (.int (0 : Int32))] [(.ref o_1), (.int (0 : Int32)), (.ref b1368)])) st1374 ?_
  obtain ⟨cl1375, Ar1375, q1375, S1375, N1375_, H1375, G1375⟩ := id V1368
  have hin1375 : ¬ ((0 : Int32) < 0 ∨ cl1375.slots.size ≤ ((0 : Int32)).toNatClampNeg) := inb_of S1375 ⟨by decide, by decide⟩
  have f1377 := ((E_o_1).ext E1368)
  obtain ⟨T1375, h1375, X1375, e1375, W1375, st1375⟩ := stR X1374 hx hZ e1374 Ar1375 (j := (0 : Int32)) hin1375 rfl (Sto.ofV Ar1375 q1375 O1368 (Ins.of_exa f1377 (hw _ (List.mem_of_getElem? (i := 89) rfl)))) (g := (mkF m 22 #[.val (.ref o0), .val (.ref b1368), .val (.int (0 : Int32))] [(.ref o_1), (.int (0 : Int32)), (.ref b1368)])) rfl rfl (hb hby djdk_56_method_4_code_22)
  have V1375 : Arv Z h1375 b1368 k1368 (.object "java/lang/Object") (3 : Int32) [(.ref o_1), .null, .null] .null := Arv.set Ar1375 q1375 S1375 N1375_ H1375 G1375 rfl W1375 0 rfl (Nat.le_of_ble_eq_true rfl)
  have N1375 := Fr.snoc X1375 N1374_ g_b1368
  have Z1378 : n0 ≤ h1375.size := Nat.le_trans Z1369 (Keep.of_wr W1375).1
  have K1378 : Keep h0 h1375 [] := K1369.wr W1375 (Or.inr sz_b1368)
  refine Go.st (S' := T1375.setTop (mkF m 23 #[.val (.ref o0), .val (.ref b1368), .val (.int (0 : Int32))] [])) st1375 ?_
  refine Go.op (F := fun z => T1375.setTop (mkF m 26 #[.val (.ref o0), .val (.ref b1368), .val (.int z)] [])) (x := ((0 : Int32) + (1 : Int32))) (fun t k => XS.iinc X1375.here hx rfl (hb hby djdk_56_method_4_code_23) rfl rfl k) ?_
  intro v1379 hv1379
  obtain rfl : (1 : Int32) = v1379 := (hv1379.trans (by decide)).symm
  refine Go.st (S' := T1375.setTop (mkF m 8 #[.val (.ref o0), .val (.ref b1368), .val (.int (1 : Int32))] [])) (fun t k => XS.goto X1375.here hx rfl (pc0 := 26) (pc' := 8) rfl (hb hby djdk_56_method_4_code_26) (by decide) (by decide) k) ?_
  refine Go.st (S' := T1375.setTop (mkF m 9 #[.val (.ref o0), .val (.ref b1368), .val (.int (1 : Int32))] [(.int (1 : Int32))])) (fun t k => XS.iloadN X1375.here hx rfl (hb hby djdk_56_method_4_code_8) rfl k) ?_
  refine Go.st (S' := T1375.setTop (mkF m 10 #[.val (.ref o0), .val (.ref b1368), .val (.int (1 : Int32))] [(.ref o0), (.int (1 : Int32))])) (fun t k => XS.aloadN X1375.here hx rfl (hb hby djdk_56_method_4_code_9) rfl rfl k) ?_
  have f1380 := ((f1370).other W1375 (Nat.ne_of_lt (Nat.lt_of_lt_of_le (V_o0).lt sz_b1368)))
  obtain ⟨cl1381, Ar1381, -, S1381, N1381_, -, -⟩ := id f1380
  refine Go.op (F := fun z => T1375.setTop (mkF m 11 #[.val (.ref o0), .val (.ref b1368), .val (.int (1 : Int32))] [(.int z), (.int (1 : Int32))])) (x := cl1381.slots.size.toInt32) (fun t k => X1375.arraylength hx (own_eh e1375 Ar1381.1) (State.isArrayOf_alike hZ.alike Ar1381.2.1) (g := (mkF m 10 #[.val (.ref o0), .val (.ref b1368), .val (.int (1 : Int32))] [(.ref o0), (.int (1 : Int32))])) rfl rfl (hb hby djdk_56_method_4_code_10) t k) ?_
  intro v1382 hv1382
  obtain rfl : (3 : Int32) = v1382 := (hv1382.trans (len_of S1381 N1381_)).symm
  refine Go.st (S' := T1375.setTop (mkF m 14 #[.val (.ref o0), .val (.ref b1368), .val (.int (1 : Int32))] [])) (fun t k => XS.icmpNo X1375.here hx rfl (hb hby djdk_56_method_4_code_11) rfl (tlt (by decide : ((1 : Int32) < (3 : Int32)))).2.1 k) ?_
  refine Go.st (S' := T1375.setTop (mkF m 15 #[.val (.ref o0), .val (.ref b1368), .val (.int (1 : Int32))] [(.ref b1368)])) (fun t k => XS.aloadN X1375.here hx rfl (hb hby djdk_56_method_4_code_14) rfl rfl k) ?_
  refine Go.st (S' := T1375.setTop (mkF m 16 #[.val (.ref o0), .val (.ref b1368), .val (.int (1 : Int32))] [(.int (1 : Int32)), (.ref b1368)])) (fun t k => XS.iloadN X1375.here hx rfl (hb hby djdk_56_method_4_code_15) rfl k) ?_
  refine Go.st (S' := T1375.setTop (mkF m 17 #[.val (.ref o0), .val (.ref b1368), .val (.int (1 : Int32))] [(.ref o0), (.int (1 : Int32)), (.ref b1368)])) (fun t k => XS.aloadN X1375.here hx rfl (hb hby djdk_56_method_4_code_16) rfl rfl k) ?_
  refine Go.st (S' := T1375.setTop (mkF m 18 #[.val (.ref o0), .val (.ref b1368), .val (.int (1 : Int32))] [(.int (1 : Int32)), (.ref o0), (.int (1 : Int32)), (.ref b1368)])) (fun t k => XS.iloadN X1375.here hx rfl (hb hby djdk_56_method_4_code_17) rfl k) ?_
  obtain ⟨cl1383, Ar1383, -, S1383, N1383_, H1383, -⟩ := id f1380
  have hin1383 : ¬ ((1 : Int32) < 0 ∨ cl1383.slots.size ≤ ((1 : Int32)).toNatClampNeg) := inb_of S1383 ⟨by decide, by decide⟩
  have hat1383 : cl1383.slots[((1 : Int32)).toNatClampNeg]? = some (.ref o_2) := Has.at H1383 hin1383 rfl
  refine Go.st (S' := T1375.setTop (mkF m 19 #[.val (.ref o0), .val (.ref b1368), .val (.int (1 : Int32))] [(.ref o_2), (.int (1 : Int32)), (.ref b1368)])) (fun t k => X1375.aaload hx (j := (1 : Int32)) (v := (.ref o_2)) (own_eh e1375 Ar1383.1) (State.isArrayOf_alike hZ.alike Ar1383.2.1) rfl Ar1383.2.2 hin1383 hat1383 (g := (mkF m 18 #[.val (.ref o0), .val (.ref b1368), .val (.int (1 : Int32))] [(.int (1 : Int32)), (.ref o0), (.int (1 : Int32)), (.ref b1368)])) rfl rfl (hb hby djdk_56_method_4_code_18) t k) ?_
  obtain ⟨r1384, T1384, L1384, X1384, hQ1384, st1384⟩ := own_callS (W := 2) X1375 hx hZ e1375 hown (y := (⟨"java/util/Objects", "requireNonNull", "(Ljava/lang/Object;)Ljava/lang/Object;"⟩ : MethodName)) (hw _ (List.mem_of_getElem? (i := 224) rfl)) (hw _ (List.mem_of_getElem? (i := 176) rfl)) (hw _ (List.mem_of_getElem? (i := 177) rfl)) (hw _ (List.mem_of_getElem? (i := 178) rfl)) (by decide) (rm29 l Z a0 hw [] o_2 h1375 n0 Z1378 ) (by decide) (by decide) (by decide) (by decide) (g := (mkF m 19 #[.val (.ref o0), .val (.ref b1368), .val (.int (1 : Int32))] [(.ref o_2), (.int (1 : Int32)), (.ref b1368)])) rfl (by rw [hml]; rfl) (argsL := [(.ref o_2)]) (rest := [(.int (1 : Int32)), (.ref b1368)]) rfl (lenOf pd_19 rfl) rfl (by show 2 * 0 + _ ≤ _; exact Nat.le_of_eq rfl) (hb hby djdk_56_method_4_code_19)
  obtain ⟨rfl, N1384, e1384⟩ := hQ1384
  have N1384_ := Fr.app N1375 N1384
  refine Go.st (S' := T1384.setTop (mkF m 22 #[.val (.ref o0), .val (.ref b1368), .val (.int (1 : Int32))] [(.ref o_2), (.int (1 : Int32)), (.ref b1368)])) st1384 ?_
  obtain ⟨cl1385, Ar1385, q1385, S1385, N1385_, H1385, G1385⟩ := id V1375
  have hin1385 : ¬ ((1 : Int32) < 0 ∨ cl1385.slots.size ≤ ((1 : Int32)).toNatClampNeg) := inb_of S1385 ⟨by decide, by decide⟩
  have f1387 := ((((E_o_2).ext E1368)).wr W1375)
  obtain ⟨T1385, h1385, X1385, e1385, W1385, st1385⟩ := stR X1384 hx hZ e1384 Ar1385 (j := (1 : Int32)) hin1385 rfl (Sto.ofV Ar1385 q1385 O1368 (Ins.of_exa f1387 (hw _ (List.mem_of_getElem? (i := 89) rfl)))) (g := (mkF m 22 #[.val (.ref o0), .val (.ref b1368), .val (.int (1 : Int32))] [(.ref o_2), (.int (1 : Int32)), (.ref b1368)])) rfl rfl (hb hby djdk_56_method_4_code_22)
  have V1385 : Arv Z h1385 b1368 k1368 (.object "java/lang/Object") (3 : Int32) [(.ref o_1), (.ref o_2), .null] .null := Arv.set Ar1385 q1385 S1385 N1385_ H1385 G1385 rfl W1385 1 rfl (Nat.le_of_ble_eq_true rfl)
  have N1385 := Fr.snoc X1385 N1384_ g_b1368
  have Z1388 : n0 ≤ h1385.size := Nat.le_trans Z1378 (Keep.of_wr W1385).1
  have K1388 : Keep h0 h1385 [] := K1378.wr W1385 (Or.inr sz_b1368)
  refine Go.st (S' := T1385.setTop (mkF m 23 #[.val (.ref o0), .val (.ref b1368), .val (.int (1 : Int32))] [])) st1385 ?_
  refine Go.op (F := fun z => T1385.setTop (mkF m 26 #[.val (.ref o0), .val (.ref b1368), .val (.int z)] [])) (x := ((1 : Int32) + (1 : Int32))) (fun t k => XS.iinc X1385.here hx rfl (hb hby djdk_56_method_4_code_23) rfl rfl k) ?_
  intro v1389 hv1389
  obtain rfl : (2 : Int32) = v1389 := (hv1389.trans (by decide)).symm
  refine Go.st (S' := T1385.setTop (mkF m 8 #[.val (.ref o0), .val (.ref b1368), .val (.int (2 : Int32))] [])) (fun t k => XS.goto X1385.here hx rfl (pc0 := 26) (pc' := 8) rfl (hb hby djdk_56_method_4_code_26) (by decide) (by decide) k) ?_
  refine Go.st (S' := T1385.setTop (mkF m 9 #[.val (.ref o0), .val (.ref b1368), .val (.int (2 : Int32))] [(.int (2 : Int32))])) (fun t k => XS.iloadN X1385.here hx rfl (hb hby djdk_56_method_4_code_8) rfl k) ?_
  refine Go.st (S' := T1385.setTop (mkF m 10 #[.val (.ref o0), .val (.ref b1368), .val (.int (2 : Int32))] [(.ref o0), (.int (2 : Int32))])) (fun t k => XS.aloadN X1385.here hx rfl (hb hby djdk_56_method_4_code_9) rfl rfl k) ?_
  have f1390 := ((f1380).other W1385 (Nat.ne_of_lt (Nat.lt_of_lt_of_le (V_o0).lt sz_b1368)))
  obtain ⟨cl1391, Ar1391, -, S1391, N1391_, -, -⟩ := id f1390
  refine Go.op (F := fun z => T1385.setTop (mkF m 11 #[.val (.ref o0), .val (.ref b1368), .val (.int (2 : Int32))] [(.int z), (.int (2 : Int32))])) (x := cl1391.slots.size.toInt32) (fun t k => X1385.arraylength hx (own_eh e1385 Ar1391.1) (State.isArrayOf_alike hZ.alike Ar1391.2.1) (g := (mkF m 10 #[.val (.ref o0), .val (.ref b1368), .val (.int (2 : Int32))] [(.ref o0), (.int (2 : Int32))])) rfl rfl (hb hby djdk_56_method_4_code_10) t k) ?_
  intro v1392 hv1392
  obtain rfl : (3 : Int32) = v1392 := (hv1392.trans (len_of S1391 N1391_)).symm
  refine Go.st (S' := T1385.setTop (mkF m 14 #[.val (.ref o0), .val (.ref b1368), .val (.int (2 : Int32))] [])) (fun t k => XS.icmpNo X1385.here hx rfl (hb hby djdk_56_method_4_code_11) rfl (tlt (by decide : ((2 : Int32) < (3 : Int32)))).2.1 k) ?_
  refine Go.st (S' := T1385.setTop (mkF m 15 #[.val (.ref o0), .val (.ref b1368), .val (.int (2 : Int32))] [(.ref b1368)])) (fun t k => XS.aloadN X1385.here hx rfl (hb hby djdk_56_method_4_code_14) rfl rfl k) ?_
  refine Go.st (S' := T1385.setTop (mkF m 16 #[.val (.ref o0), .val (.ref b1368), .val (.int (2 : Int32))] [(.int (2 : Int32)), (.ref b1368)])) (fun t k => XS.iloadN X1385.here hx rfl (hb hby djdk_56_method_4_code_15) rfl k) ?_
  refine Go.st (S' := T1385.setTop (mkF m 17 #[.val (.ref o0), .val (.ref b1368), .val (.int (2 : Int32))] [(.ref o0), (.int (2 : Int32)), (.ref b1368)])) (fun t k => XS.aloadN X1385.here hx rfl (hb hby djdk_56_method_4_code_16) rfl rfl k) ?_
  refine Go.st (S' := T1385.setTop (mkF m 18 #[.val (.ref o0), .val (.ref b1368), .val (.int (2 : Int32))] [(.int (2 : Int32)), (.ref o0), (.int (2 : Int32)), (.ref b1368)])) (fun t k => XS.iloadN X1385.here hx rfl (hb hby djdk_56_method_4_code_17) rfl k) ?_
  obtain ⟨cl1393, Ar1393, -, S1393, N1393_, H1393, -⟩ := id f1390
  have hin1393 : ¬ ((2 : Int32) < 0 ∨ cl1393.slots.size ≤ ((2 : Int32)).toNatClampNeg) := inb_of S1393 ⟨by decide, by decide⟩
  have hat1393 : cl1393.slots[((2 : Int32)).toNatClampNeg]? = some (.ref o_3) := Has.at H1393 hin1393 rfl
  refine Go.st (S' := T1385.setTop (mkF m 19 #[.val (.ref o0), .val (.ref b1368), .val (.int (2 : Int32))] [(.ref o_3), (.int (2 : Int32)), (.ref b1368)])) (fun t k => X1385.aaload hx (j := (2 : Int32)) (v := (.ref o_3)) (own_eh e1385 Ar1393.1) (State.isArrayOf_alike hZ.alike Ar1393.2.1) rfl Ar1393.2.2 hin1393 hat1393 (g := (mkF m 18 #[.val (.ref o0), .val (.ref b1368), .val (.int (2 : Int32))] [(.int (2 : Int32)), (.ref o0), (.int (2 : Int32)), (.ref b1368)])) rfl rfl (hb hby djdk_56_method_4_code_18) t k) ?_
  obtain ⟨r1394, T1394, L1394, X1394, hQ1394, st1394⟩ := own_callS (W := 2) X1385 hx hZ e1385 hown (y := (⟨"java/util/Objects", "requireNonNull", "(Ljava/lang/Object;)Ljava/lang/Object;"⟩ : MethodName)) (hw _ (List.mem_of_getElem? (i := 224) rfl)) (hw _ (List.mem_of_getElem? (i := 176) rfl)) (hw _ (List.mem_of_getElem? (i := 177) rfl)) (hw _ (List.mem_of_getElem? (i := 178) rfl)) (by decide) (rm29 l Z a0 hw [] o_3 h1385 n0 Z1388 ) (by decide) (by decide) (by decide) (by decide) (g := (mkF m 19 #[.val (.ref o0), .val (.ref b1368), .val (.int (2 : Int32))] [(.ref o_3), (.int (2 : Int32)), (.ref b1368)])) rfl (by rw [hml]; rfl) (argsL := [(.ref o_3)]) (rest := [(.int (2 : Int32)), (.ref b1368)]) rfl (lenOf pd_19 rfl) rfl (by show 2 * 0 + _ ≤ _; exact Nat.le_of_eq rfl) (hb hby djdk_56_method_4_code_19)
  obtain ⟨rfl, N1394, e1394⟩ := hQ1394
  have N1394_ := Fr.app N1385 N1394
  refine Go.st (S' := T1394.setTop (mkF m 22 #[.val (.ref o0), .val (.ref b1368), .val (.int (2 : Int32))] [(.ref o_3), (.int (2 : Int32)), (.ref b1368)])) st1394 ?_
  obtain ⟨cl1395, Ar1395, q1395, S1395, N1395_, H1395, G1395⟩ := id V1385
  have hin1395 : ¬ ((2 : Int32) < 0 ∨ cl1395.slots.size ≤ ((2 : Int32)).toNatClampNeg) := inb_of S1395 ⟨by decide, by decide⟩
  have f1397 := ((((((E_o_3).ext E1368)).wr W1375)).wr W1385)
  obtain ⟨T1395, h1395, X1395, e1395, W1395, st1395⟩ := stR X1394 hx hZ e1394 Ar1395 (j := (2 : Int32)) hin1395 rfl (Sto.ofV Ar1395 q1395 O1368 (Ins.of_exa f1397 (hw _ (List.mem_of_getElem? (i := 89) rfl)))) (g := (mkF m 22 #[.val (.ref o0), .val (.ref b1368), .val (.int (2 : Int32))] [(.ref o_3), (.int (2 : Int32)), (.ref b1368)])) rfl rfl (hb hby djdk_56_method_4_code_22)
  have V1395 : Arv Z h1395 b1368 k1368 (.object "java/lang/Object") (3 : Int32) [(.ref o_1), (.ref o_2), (.ref o_3)] .null := Arv.set Ar1395 q1395 S1395 N1395_ H1395 G1395 rfl W1395 2 rfl (Nat.le_of_ble_eq_true rfl)
  have N1395 := Fr.snoc X1395 N1394_ g_b1368
  have Z1398 : n0 ≤ h1395.size := Nat.le_trans Z1388 (Keep.of_wr W1395).1
  have K1398 : Keep h0 h1395 [] := K1388.wr W1395 (Or.inr sz_b1368)
  refine Go.st (S' := T1395.setTop (mkF m 23 #[.val (.ref o0), .val (.ref b1368), .val (.int (2 : Int32))] [])) st1395 ?_
  refine Go.op (F := fun z => T1395.setTop (mkF m 26 #[.val (.ref o0), .val (.ref b1368), .val (.int z)] [])) (x := ((2 : Int32) + (1 : Int32))) (fun t k => XS.iinc X1395.here hx rfl (hb hby djdk_56_method_4_code_23) rfl rfl k) ?_
  intro v1399 hv1399
  obtain rfl : (3 : Int32) = v1399 := (hv1399.trans (by decide)).symm
  refine Go.st (S' := T1395.setTop (mkF m 8 #[.val (.ref o0), .val (.ref b1368), .val (.int (3 : Int32))] [])) (fun t k => XS.goto X1395.here hx rfl (pc0 := 26) (pc' := 8) rfl (hb hby djdk_56_method_4_code_26) (by decide) (by decide) k) ?_
  refine Go.st (S' := T1395.setTop (mkF m 9 #[.val (.ref o0), .val (.ref b1368), .val (.int (3 : Int32))] [(.int (3 : Int32))])) (fun t k => XS.iloadN X1395.here hx rfl (hb hby djdk_56_method_4_code_8) rfl k) ?_
  refine Go.st (S' := T1395.setTop (mkF m 10 #[.val (.ref o0), .val (.ref b1368), .val (.int (3 : Int32))] [(.ref o0), (.int (3 : Int32))])) (fun t k => XS.aloadN X1395.here hx rfl (hb hby djdk_56_method_4_code_9) rfl rfl k) ?_
  have f1400 := ((f1390).other W1395 (Nat.ne_of_lt (Nat.lt_of_lt_of_le (V_o0).lt sz_b1368)))
  obtain ⟨cl1401, Ar1401, -, S1401, N1401_, -, -⟩ := id f1400
  refine Go.op (F := fun z => T1395.setTop (mkF m 11 #[.val (.ref o0), .val (.ref b1368), .val (.int (3 : Int32))] [(.int z), (.int (3 : Int32))])) (x := cl1401.slots.size.toInt32) (fun t k => X1395.arraylength hx (own_eh e1395 Ar1401.1) (State.isArrayOf_alike hZ.alike Ar1401.2.1) (g := (mkF m 10 #[.val (.ref o0), .val (.ref b1368), .val (.int (3 : Int32))] [(.ref o0), (.int (3 : Int32))])) rfl rfl (hb hby djdk_56_method_4_code_10) t k) ?_
  intro v1402 hv1402
  obtain rfl : (3 : Int32) = v1402 := (hv1402.trans (len_of S1401 N1401_)).symm
  refine Go.st (S' := T1395.setTop (mkF m 29 #[.val (.ref o0), .val (.ref b1368), .val (.int (3 : Int32))] [])) (fun t k => XS.icmpYes X1395.here hx rfl (pc0 := 11) (pc' := 29) rfl (hb hby djdk_56_method_4_code_11) rfl (flt (by decide : (¬ ((3 : Int32) < (3 : Int32))))).2.1 (by decide) (by decide) k) ?_
  obtain ⟨T1403, h1403, X1403, e1403, E1403, A1403, D1403, -, st1403⟩ := newO X1395 hx hZ hown (hw _ (List.mem_of_getElem? (i := 111) rfl)) (hw _ (List.mem_of_getElem? (i := 225) rfl)) (hw _ (List.mem_of_getElem? (i := 226) rfl)) e1395 (g := (mkF m 29 #[.val (.ref o0), .val (.ref b1368), .val (.int (3 : Int32))] [])) rfl (hb hby djdk_56_method_4_code_29) (by decide) (by decide)
  obtain ⟨b1403, gg1403⟩ : ∃ z, z = h1395.size := ⟨_, rfl⟩
  rw [← gg1403] at A1403 D1403 st1403
  have g_b1403 : n0 ≤ b1403 := Nat.le_trans Z1398 (Nat.le_of_eq gg1403.symm)
  have sz_b1403 : h0.size ≤ b1403 := Nat.le_trans K1398.1 (Nat.le_of_eq gg1403.symm)
  have f1404 := ((((((B1368).wr W1375)).wr W1385)).wr W1395)
  have lt_b1368_b1403 : b1368 < b1403 := Nat.lt_of_lt_of_le (f1404).lt (Nat.le_of_eq gg1403.symm)
  have Z1405 : n0 ≤ h1403.size := Nat.le_trans Z1398 E1403.1
  have K1405 : Keep h0 h1403 [] := K1398.ext E1403
  have Fb1403_elements : Fld Z h1403 b1403 "java/util/ImmutableCollections$ListN" "elements" "[Ljava/lang/Object;" .null := D1403 (Or.inr (hw _ (List.mem_of_getElem? (i := 236) rfl))) (ty := (.array (.object "java/lang/Object"))) (by decide)
  have Fb1403_allowNulls : Fld Z h1403 b1403 "java/util/ImmutableCollections$ListN" "allowNulls" "Z" (.int (0 : Int32)) := D1403 (Or.inr (hw _ (List.mem_of_getElem? (i := 238) rfl))) (ty := .boolean) (by decide)
  refine Go.st (S' := T1403.setTop (mkF m 32 #[.val (.ref o0), .val (.ref b1368), .val (.int (3 : Int32))] [(.ref b1403)])) st1403 ?_
  refine Go.st (S' := T1403.setTop (mkF m 33 #[.val (.ref o0), .val (.ref b1368), .val (.int (3 : Int32))] [(.ref b1403), (.ref b1403)])) (fun t k => XS.dup X1403.here hx rfl (hb hby djdk_56_method_4_code_32) rfl rfl k) ?_
  refine Go.st (S' := T1403.setTop (mkF m 34 #[.val (.ref o0), .val (.ref b1368), .val (.int (3 : Int32))] [(.ref b1368), (.ref b1403), (.ref b1403)])) (fun t k => XS.aloadN X1403.here hx rfl (hb hby djdk_56_method_4_code_33) rfl rfl k) ?_
  refine Go.st (S' := T1403.setTop (mkF m 35 #[.val (.ref o0), .val (.ref b1368), .val (.int (3 : Int32))] [(.int (0 : Int32)), (.ref b1368), (.ref b1403), (.ref b1403)])) (fun t k => XS.iconst X1403.here hx rfl (hb hby djdk_56_method_4_code_34) k) ?_
  obtain ⟨r1415, T1415, L1415, X1415, hQ1415, st1415⟩ := own_callN (W := 1) (a := b1403) X1403 hx hZ e1403 hown (y := (⟨"java/util/ImmutableCollections$ListN", "<init>", "([Ljava/lang/Object;Z)V"⟩ : MethodName)) rfl (hw _ (List.mem_of_getElem? (i := 227) rfl)) (hw _ (List.mem_of_getElem? (i := 228) rfl)) (hw _ (List.mem_of_getElem? (i := 226) rfl)) (hw _ (List.mem_of_getElem? (i := 230) rfl)) (by decide) (rm59 l Z a0 hw [] b1403 b1368 (.null) ((.int (0 : Int32))) h1403 n0 Z1405 (A1403) (Fb1403_elements) (g_b1403) (Fb1403_allowNulls)) (by decide) (by decide) (by decide) (by decide) (g := (mkF m 35 #[.val (.ref o0), .val (.ref b1368), .val (.int (3 : Int32))] [(.int (0 : Int32)), (.ref b1368), (.ref b1403), (.ref b1403)])) rfl (by rw [hml]; rfl) (argsL := [(.ref b1368), (.int (0 : Int32))]) (rest := [(.ref b1403)]) rfl (lenOf pd_26 rfl) rfl (by show 2 * 0 + _ ≤ _; exact Nat.le_of_eq rfl) (hb hby djdk_56_method_4_code_35)
  obtain ⟨rfl, N1415, K1415_, f1416, f1417, f1418⟩ := hQ1415
  have N1415_ := Fr.app N1395 N1415
  have Z1419 : n0 ≤ T1415.heap.size := Nat.le_trans Z1405 K1415_.1
  have K1419 : Keep h0 T1415.heap [] := K1405.trans K1415_ (allS (Or.inr sz_b1403) all0)
  refine Go.st (S' := T1415.setTop (mkF m 38 #[.val (.ref o0), .val (.ref b1368), .val (.int (3 : Int32))] [(.ref b1403)])) st1415 ?_
  have f1420 := ((((V1395).ext E1403)).keep K1415_ (ninS (Nat.ne_of_lt lt_b1368_b1403) nin0))
  have f1421 := ((((f1404).ext E1403)).keep K1415_)
  exact Go.ret X1415 (v := some (.ref b1403)) (fun h => by rw [Bd.returns] at h; cases h) Bd.notSynchronized (fun fs hr => retOut X1415 hx Bd.returns rfl (Or.inr (Or.inr (Or.inr (Or.inr ⟨rfl, rfl, rfl⟩)))) (hb hby djdk_56_method_4_code_38) hr) (by decide) (by decide) (⟨b1368, b1403, k1368, rfl, N1415_, K1419, sz_b1368, sz_b1403, f1420, O1368, f1421, f1416, f1417, f1418, lt_b1368_b1403⟩)
theorem ef_61 (m : MethodId) (o0 : Addr) : entryFrame m #[(.ref o0)] 2 = mkF m 0 #[.val (.ref o0), .unset] [] := by first | (simp [entryFrame, mkF, argsToLocals, Value.category, maxLocals]; done) | rfl
def Q61 (Z : State) (o0 : Addr) (k_o0 : ClassId) (o_1 : Addr) (o_2 : Addr) (o_3 : Addr) (h0 : Heap) (n0 : Nat) (v : Option Value) (h : Heap) (L : List Loc) : Prop := (∃ (b1423 : Addr) (b1424 : Addr) (k1425 : ClassId), v = some (.ref b1424) ∧ Fr n0 L ∧ Keep h0 h [] ∧ h0.size ≤ b1423 ∧ h0.size ≤ b1424 ∧ Arv Z h b1423 k1425 (.object "java/lang/Object") (3 : Int32) [(.ref o_1), (.ref o_2), (.ref o_3)] .null ∧ Ovr Z k1425 "java/lang/Object" ∧ Exa Z h b1423 "[Ljava/lang/Object;" ∧ Exa Z h b1424 "java/util/ImmutableCollections$ListN" ∧ Fld Z h b1424 "java/util/ImmutableCollections$ListN" "elements" "[Ljava/lang/Object;" (.ref b1423) ∧ Fld Z h b1424 "java/util/ImmutableCollections$ListN" "allowNulls" "Z" (.int (0 : Int32)) ∧ b1423 < b1424)
set_option maxRecDepth 65536 in
set_option maxHeartbeats 40000000 in
theorem rm61 (l : Launch) (Z : State) (a0 : Array Value) (hw : ∀ d ∈ tables_1, d.before a0 Z = true) (ws : List Jvm.Cond) (o0 : Addr) (k_o0 : ClassId) (o_1 : Addr) (o_2 : Addr) (o_3 : Addr) (h0 : Heap) (n0 : Nat) (Z0 : n0 ≤ h0.size) (V_o0 : Arv Z h0 o0 k_o0 (.object "java/lang/Object") (3 : Int32) [(.ref o_1), (.ref o_2), (.ref o_3)] .null) (E_o_1 : Exa Z h0 o_1 "java/lang/String") (E_o_2 : Exa Z h0 o_2 "java/lang/String") (E_o_3 : Exa Z h0 o_3 "java/lang/String") :
    Con l Z (⟨"java/util/List", "of", "([Ljava/lang/Object;)Ljava/util/List;"⟩ : MethodName) jdk_40_method_47_code 2 (some (.object "java/util/List")) ws ({ frames := 6, cells := 2, slots := 5, locals := 77 } : Room) #[(.ref o0)] h0 2 5 (Q61 Z o0 k_o0 o_1 o_2 o_3 h0 n0) := by
  refine MetFree.of_bodySF (plainFor_of_name pn_12) hisR ?_
  intro p e s m args below meth c s₁ Bd hml0 hP hK
  obtain ⟨rfl, hZ, hh⟩ := hP
  have hx := Bd.exec
  have hby := Bd.bytes
  have hml : c.maxLocals = 2 := hml0
  have hown : s.vm.findClass "java/util/List" = some m.cls := findClass_of_methodNamed Bd.named
  have hnm := (name_of_methodNamed Bd.named Bd.method).1
  have X0 : Stand p l e ({ frames := 6, cells := 2, slots := 5, locals := 77 } : Room) s m #[(.ref o0)] below meth c s₁ [] 0 0 := Stand.of_body Bd
  have e0 : s₁.heap = h0 := by rw [← hh, Bd.state]; rfl
  have N0 := Fr.nil n0
  refine Go.of ?_
  refine Go.st (S' := s₁.setTop (mkF m 0 #[.val (.ref o0), .unset] [])) (fun t k => castTop (ef_61 m o0) k) ?_
  refine Go.st (S' := s₁.setTop (mkF m 1 #[.val (.ref o0), .unset] [(.ref o0)])) (fun t k => XS.aloadN X0.here hx rfl (hb hby djdk_40_method_47_code_0) rfl rfl k) ?_
  obtain ⟨cl1364, Ar1364, -, S1364, N1364_, -, -⟩ := id V_o0
  refine Go.op (F := fun z => s₁.setTop (mkF m 2 #[.val (.ref o0), .unset] [(.int z)])) (x := cl1364.slots.size.toInt32) (fun t k => X0.arraylength hx (own_eh e0 Ar1364.1) (State.isArrayOf_alike hZ.alike Ar1364.2.1) (g := (mkF m 1 #[.val (.ref o0), .unset] [(.ref o0)])) rfl rfl (hb hby djdk_40_method_47_code_1) t k) ?_
  intro v1365 hv1365
  obtain rfl : (3 : Int32) = v1365 := (hv1365.trans (len_of S1364 N1364_)).symm
  refine Go.st (S' := s₁.setTop (mkF m 59 #[.val (.ref o0), .unset] [])) (fun t k => XS.tswOut X0.here hx rfl (pc0 := 2) (pc' := 59) rfl (hb hby djdk_40_method_47_code_2) rfl (by decide) (by decide) (by decide) k) ?_
  refine Go.st (S' := s₁.setTop (mkF m 60 #[.val (.ref o0), .unset] [(.ref o0)])) (fun t k => XS.aloadN X0.here hx rfl (hb hby djdk_40_method_47_code_59) rfl rfl k) ?_
  obtain ⟨r1422, T1422, L1422, X1422, hQ1422, st1422⟩ := own_callS (W := 0) X0 hx hZ e0 hown (y := (⟨"java/util/ImmutableCollections", "listFromArray", "([Ljava/lang/Object;)Ljava/util/List;"⟩ : MethodName)) (hw _ (List.mem_of_getElem? (i := 220) rfl)) (hw _ (List.mem_of_getElem? (i := 221) rfl)) (hw _ (List.mem_of_getElem? (i := 104) rfl)) (hw _ (List.mem_of_getElem? (i := 222) rfl)) (by decide) (rm60 l Z a0 hw [] o0 k_o0 o_1 o_2 o_3 h0 n0 Z0 (V_o0) (E_o_1) (E_o_2) (E_o_3)) (by decide) (by decide) (by decide) (by decide) (g := (mkF m 60 #[.val (.ref o0), .unset] [(.ref o0)])) rfl (by rw [hml]; rfl) (argsL := [(.ref o0)]) (rest := []) rfl (lenOf pd_21 rfl) rfl (by show 2 * 0 + _ ≤ _; exact Nat.le_of_eq rfl) (hb hby djdk_40_method_47_code_60)
  obtain ⟨b1423, b1424, k1425, rfl, N1422, K1422_, sz_b1423_, sz_b1424_, f1426, f1427, f1428, f1429, f1430, f1431, hlt1432⟩ := hQ1422
  have N1422_ := Fr.app N0 N1422
  have g_b1423 : n0 ≤ b1423 := Nat.le_trans Z0 sz_b1423_
  have sz_b1423 : h0.size ≤ b1423 := Nat.le_trans (Keep.refl h0 []).1 sz_b1423_
  have g_b1424 : n0 ≤ b1424 := Nat.le_trans Z0 sz_b1424_
  have sz_b1424 : h0.size ≤ b1424 := Nat.le_trans (Keep.refl h0 []).1 sz_b1424_
  have Z1433 : n0 ≤ T1422.heap.size := Nat.le_trans Z0 K1422_.1
  have K1433 : Keep h0 T1422.heap [] := (Keep.refl h0 []).trans K1422_ all0
  refine Go.st (S' := T1422.setTop (mkF m 63 #[.val (.ref o0), .unset] [(.ref b1424)])) st1422 ?_
  exact Go.ret X1422 (v := some (.ref b1424)) (fun h => by rw [Bd.returns] at h; cases h) Bd.notSynchronized (fun fs hr => retOut X1422 hx Bd.returns rfl (Or.inr (Or.inr (Or.inr (Or.inr ⟨rfl, rfl, rfl⟩)))) (hb hby djdk_40_method_47_code_63) hr) (by decide) (by decide) (⟨b1423, b1424, k1425, rfl, N1422_, K1433, sz_b1423, sz_b1424, f1426, f1427, f1428, f1429, f1430, f1431, hlt1432⟩)
theorem ef_62 (m : MethodId) (o0 : Addr) : entryFrame m #[(.ref o0)] 2 = mkF m 0 #[.val (.ref o0), .unset] [] := by first | (simp [entryFrame, mkF, argsToLocals, Value.category, maxLocals]; done) | rfl
def Q62 (Z : State) (o0 : Addr) (o_1 : Addr) (k_o_1 : ClassId) (o_2 : Addr) (o_3 : Addr) (o_4 : Addr) (s_mir__Ljava_lang_Object_ : Addr) (h0 : Heap) (n0 : Nat) (v : Option Value) (h : Heap) (L : List Loc) : Prop := (∃ (b1358 : Addr) (b1438 : Addr) (b1439 : Addr) (k1359 : ClassId) (k1440 : ClassId), v = some (.ref b1439) ∧ Fr n0 L ∧ Keep h0 h [] ∧ h0.size ≤ b1358 ∧ h0.size ≤ b1438 ∧ h0.size ≤ b1439 ∧ Arv Z h b1358 k1359 (.object "java/lang/Object") (3 : Int32) [(.ref o_2), (.ref o_3), (.ref o_4)] .null ∧ Ovr Z k1359 "java/lang/Object" ∧ Exa Z h b1358 "[Ljava/lang/Object;" ∧ Arv Z h b1438 k1440 (.object "java/lang/Object") (3 : Int32) [(.ref o_2), (.ref o_3), (.ref o_4)] .null ∧ Ovr Z k1440 "java/lang/Object" ∧ Exa Z h b1438 "[Ljava/lang/Object;" ∧ Exa Z h b1439 "java/util/ImmutableCollections$ListN" ∧ Fld Z h b1439 "java/util/ImmutableCollections$ListN" "elements" "[Ljava/lang/Object;" (.ref b1438) ∧ Fld Z h b1439 "java/util/ImmutableCollections$ListN" "allowNulls" "Z" (.int (0 : Int32)) ∧ b1358 < b1438 ∧ b1358 < b1439 ∧ b1438 < b1439)
set_option maxRecDepth 65536 in
set_option maxHeartbeats 40000000 in
theorem rm62 (l : Launch) (Z : State) (a0 : Array Value) (hw : ∀ d ∈ tables_1, d.before a0 Z = true) (ws : List Jvm.Cond) (o0 : Addr) (o_1 : Addr) (k_o_1 : ClassId) (o_2 : Addr) (o_3 : Addr) (o_4 : Addr) (s_mir__Ljava_lang_Object_ : Addr) (h0 : Heap) (n0 : Nat) (Z0 : n0 ≤ h0.size) (E_o0 : Exa Z h0 o0 "java/util/ArrayList") (F_o0_size : Fld Z h0 o0 "java/util/ArrayList" "size" "I" (.int (3 : Int32))) (F_o0_elementData : Fld Z h0 o0 "java/util/ArrayList" "elementData" "[Ljava/lang/Object;" (.ref o_1)) (E_o_1 : Exa Z h0 o_1 "[Ljava/lang/Object;") (V_o_1 : Arv Z h0 o_1 k_o_1 (.object "java/lang/Object") (10 : Int32) [(.ref o_2), (.ref o_3), (.ref o_4), .null, .null, .null, .null, .null, .null, .null] .null) (E_o_4 : Exa Z h0 o_4 "java/lang/String") (E_o_3 : Exa Z h0 o_3 "java/lang/String") (E_o_2 : Exa Z h0 o_2 "java/lang/String") (M_s_mir__Ljava_lang_Object_ : Mir Z "[Ljava/lang/Object;" s_mir__Ljava_lang_Object_) :
    Con l Z (⟨"java/util/ImmutableCollections", "listCopy", "(Ljava/util/Collection;)Ljava/util/List;"⟩ : MethodName) jdk_56_method_3_code 2 (some (.object "java/util/List")) ws ({ frames := 7, cells := 3, slots := 8, locals := 90 } : Room) #[(.ref o0)] h0 3 8 (Q62 Z o0 o_1 k_o_1 o_2 o_3 o_4 s_mir__Ljava_lang_Object_ h0 n0) := by
  refine MetFree.of_bodySF (plainFor_of_name pn_13) hisR ?_
  intro p e s m args below meth c s₁ Bd hml0 hP hK
  obtain ⟨rfl, hZ, hh⟩ := hP
  have hx := Bd.exec
  have hby := Bd.bytes
  have hml : c.maxLocals = 2 := hml0
  have hown : s.vm.findClass "java/util/ImmutableCollections" = some m.cls := findClass_of_methodNamed Bd.named
  have hnm := (name_of_methodNamed Bd.named Bd.method).1
  have X0 : Stand p l e ({ frames := 7, cells := 3, slots := 8, locals := 90 } : Room) s m #[(.ref o0)] below meth c s₁ [] 0 0 := Stand.of_body Bd
  have e0 : s₁.heap = h0 := by rw [← hh, Bd.state]; rfl
  have N0 := Fr.nil n0
  refine Go.of ?_
  refine Go.st (S' := s₁.setTop (mkF m 0 #[.val (.ref o0), .unset] [])) (fun t k => castTop (ef_62 m o0) k) ?_
  refine Go.st (S' := s₁.setTop (mkF m 1 #[.val (.ref o0), .unset] [(.ref o0)])) (fun t k => XS.aloadN X0.here hx rfl (hb hby djdk_56_method_3_code_0) rfl rfl k) ?_
  obtain ⟨T1315, X1315, e1315, st1315⟩ := instNo X0 hx hZ hown (hw _ (List.mem_of_getElem? (i := 106) rfl)) e0 E_o0 (own_ns_no (hw _ (List.mem_of_getElem? (i := 107) rfl)) (hw _ (List.mem_of_getElem? (i := 155) rfl)) (NS.step (hw _ (List.mem_of_getElem? (i := 107) rfl)) (NS.step (hw _ (List.mem_of_getElem? (i := 108) rfl)) (NS.step (hw _ (List.mem_of_getElem? (i := 109) rfl)) (own_ns_root (hw _ (List.mem_of_getElem? (i := 110) rfl)) (hw _ (List.mem_of_getElem? (i := 155) rfl)) (by decide)) (by decide)) (by decide)) (by decide)) (by decide)) (g := (mkF m 1 #[.val (.ref o0), .unset] [(.ref o0)])) rfl rfl (hb hby djdk_56_method_3_code_1)
  refine Go.st (S' := T1315.setTop (mkF m 4 #[.val (.ref o0), .unset] [(.int (0 : Int32))])) st1315 ?_
  refine Go.st (S' := T1315.setTop (mkF m 7 #[.val (.ref o0), .unset] [])) (fun t k => XS.ifNo X1315.here hx rfl (hb hby djdk_56_method_3_code_4) rfl ((if0 _ _).trans (teq (by decide : ((0 : Int32) = (0 : Int32)))).2) k) ?_
  refine Go.st (S' := T1315.setTop (mkF m 8 #[.val (.ref o0), .unset] [(.ref o0)])) (fun t k => XS.aloadN X1315.here hx rfl (hb hby djdk_56_method_3_code_7) rfl rfl k) ?_
  obtain ⟨T1316, X1316, e1316, st1316⟩ := instNo X1315 hx hZ hown (hw _ (List.mem_of_getElem? (i := 111) rfl)) e1315 E_o0 (own_ns_no (hw _ (List.mem_of_getElem? (i := 107) rfl)) (hw _ (List.mem_of_getElem? (i := 225) rfl)) (NS.step (hw _ (List.mem_of_getElem? (i := 107) rfl)) (NS.step (hw _ (List.mem_of_getElem? (i := 108) rfl)) (NS.step (hw _ (List.mem_of_getElem? (i := 109) rfl)) (own_ns_root (hw _ (List.mem_of_getElem? (i := 110) rfl)) (hw _ (List.mem_of_getElem? (i := 225) rfl)) (by decide)) (by decide)) (by decide)) (by decide)) (by decide)) (g := (mkF m 8 #[.val (.ref o0), .unset] [(.ref o0)])) rfl rfl (hb hby djdk_56_method_3_code_8)
  refine Go.st (S' := T1316.setTop (mkF m 11 #[.val (.ref o0), .unset] [(.int (0 : Int32))])) st1316 ?_
  refine Go.st (S' := T1316.setTop (mkF m 31 #[.val (.ref o0), .unset] [])) (fun t k => XS.ifYes X1316.here hx rfl (pc0 := 11) (pc' := 31) rfl (hb hby djdk_56_method_3_code_11) rfl ((if0 _ _).trans (teq (by decide : ((0 : Int32) = (0 : Int32)))).1) (by decide) (by decide) k) ?_
  refine Go.st (S' := T1316.setTop (mkF m 32 #[.val (.ref o0), .unset] [(.ref o0)])) (fun t k => XS.aloadN X1316.here hx rfl (hb hby djdk_56_method_3_code_31) rfl rfl k) ?_
  obtain ⟨r1318, T1318, L1318, X1318, hQ1318, st1318⟩ := own_callF (W := 0) (a := o0) (C := "java/util/ArrayList") X1316 hx hZ e1316 hown (xi := (⟨"java/util/Collection", "isEmpty", "()Z"⟩ : MethodName)) (y := (⟨"java/util/ArrayList", "isEmpty", "()Z"⟩ : MethodName)) (hw _ (List.mem_of_getElem? (i := 112) rfl)) (hw _ (List.mem_of_getElem? (i := 113) rfl)) (mvT hZ (hw _ (List.mem_of_getElem? (i := 114) rfl))) (hw _ (List.mem_of_getElem? (i := 115) rfl)) (hw _ (List.mem_of_getElem? (i := 116) rfl)) (hw _ (List.mem_of_getElem? (i := 117) rfl)) (hw _ (List.mem_of_getElem? (i := 118) rfl)) (hw _ (List.mem_of_getElem? (i := 119) rfl)) (hw _ (List.mem_of_getElem? (i := 37) rfl)) (hw _ (List.mem_of_getElem? (i := 120) rfl)) (by decide) (E_o0) (rm54 l Z a0 hw [] o0 h0 n0 Z0 (F_o0_size)) (by decide) (by decide) (by decide) (by decide) (g := (mkF m 32 #[.val (.ref o0), .unset] [(.ref o0)])) rfl (by rw [hml]; rfl) (argsL := []) (rest := []) rfl (lenOf pd_16 rfl) rfl (by show 2 * 0 + _ ≤ _; exact Nat.le_of_eq rfl) (hb hby djdk_56_method_3_code_32)
  obtain ⟨rfl, N1318, e1318⟩ := hQ1318
  have N1318_ := Fr.app N0 N1318
  refine Go.st (S' := T1318.setTop (mkF m 37 #[.val (.ref o0), .unset] [(.int (0 : Int32))])) st1318 ?_
  refine Go.st (S' := T1318.setTop (mkF m 44 #[.val (.ref o0), .unset] [])) (fun t k => XS.ifYes X1318.here hx rfl (pc0 := 37) (pc' := 44) rfl (hb hby djdk_56_method_3_code_37) rfl ((if0 _ _).trans (teq (by decide : ((0 : Int32) = (0 : Int32)))).1) (by decide) (by decide) k) ?_
  refine Go.st (S' := T1318.setTop (mkF m 45 #[.val (.ref o0), .unset] [(.ref o0)])) (fun t k => XS.aloadN X1318.here hx rfl (hb hby djdk_56_method_3_code_44) rfl rfl k) ?_
  obtain ⟨r1357, T1357, L1357, X1357, hQ1357, st1357⟩ := own_callF (W := 0) (a := o0) (C := "java/util/ArrayList") X1318 hx hZ e1318 hown (xi := (⟨"java/util/Collection", "toArray", "()[Ljava/lang/Object;"⟩ : MethodName)) (y := (⟨"java/util/ArrayList", "toArray", "()[Ljava/lang/Object;"⟩ : MethodName)) (hw _ (List.mem_of_getElem? (i := 121) rfl)) (hw _ (List.mem_of_getElem? (i := 122) rfl)) (mvT hZ (hw _ (List.mem_of_getElem? (i := 123) rfl))) (hw _ (List.mem_of_getElem? (i := 124) rfl)) (hw _ (List.mem_of_getElem? (i := 125) rfl)) (hw _ (List.mem_of_getElem? (i := 126) rfl)) (hw _ (List.mem_of_getElem? (i := 127) rfl)) (hw _ (List.mem_of_getElem? (i := 119) rfl)) (hw _ (List.mem_of_getElem? (i := 37) rfl)) (hw _ (List.mem_of_getElem? (i := 128) rfl)) (by decide) (E_o0) (rm58 l Z a0 hw [] o0 o_1 k_o_1 o_2 o_3 o_4 s_mir__Ljava_lang_Object_ h0 n0 Z0 (F_o0_elementData) (F_o0_size) (E_o_1) (V_o_1) (E_o_4) (E_o_3) (E_o_2) (M_s_mir__Ljava_lang_Object_)) (by decide) (by decide) (by decide) (by decide) (g := (mkF m 45 #[.val (.ref o0), .unset] [(.ref o0)])) rfl (by rw [hml]; rfl) (argsL := []) (rest := []) rfl (lenOf pd_13 rfl) rfl (by show 2 * 0 + _ ≤ _; exact Nat.le_of_eq rfl) (hb hby djdk_56_method_3_code_45)
  obtain ⟨b1358, k1359, rfl, N1357, K1357_, sz_b1358_, f1360, f1361, f1362⟩ := hQ1357
  have N1357_ := Fr.app N1318_ N1357
  have g_b1358 : n0 ≤ b1358 := Nat.le_trans Z0 sz_b1358_
  have sz_b1358 : h0.size ≤ b1358 := Nat.le_trans (Keep.refl h0 []).1 sz_b1358_
  have Z1363 : n0 ≤ T1357.heap.size := Nat.le_trans Z0 K1357_.1
  have K1363 : Keep h0 T1357.heap [] := (Keep.refl h0 []).trans K1357_ all0
  refine Go.st (S' := T1357.setTop (mkF m 50 #[.val (.ref o0), .unset] [(.ref b1358)])) st1357 ?_
  have f1434 := ((E_o_2).keep K1357_)
  have f1435 := ((E_o_3).keep K1357_)
  have f1436 := ((E_o_4).keep K1357_)
  obtain ⟨r1437, T1437, L1437, X1437, hQ1437, st1437⟩ := own_callS (W := 0) X1357 hx hZ rfl hown (y := (⟨"java/util/List", "of", "([Ljava/lang/Object;)Ljava/util/List;"⟩ : MethodName)) (hw _ (List.mem_of_getElem? (i := 151) rfl)) (hw _ (List.mem_of_getElem? (i := 152) rfl)) (hw _ (List.mem_of_getElem? (i := 100) rfl)) (hw _ (List.mem_of_getElem? (i := 153) rfl)) (by decide) (rm61 l Z a0 hw [] b1358 k1359 o_2 o_3 o_4 T1357.heap n0 Z1363 (f1360) (f1434) (f1435) (f1436)) (by decide) (by decide) (by decide) (by decide) (g := (mkF m 50 #[.val (.ref o0), .unset] [(.ref b1358)])) rfl (by rw [hml]; rfl) (argsL := [(.ref b1358)]) (rest := []) rfl (lenOf pd_21 rfl) rfl (by show 2 * 0 + _ ≤ _; exact Nat.le_of_eq rfl) (hb hby djdk_56_method_3_code_50)
  obtain ⟨b1438, b1439, k1440, rfl, N1437, K1437_, sz_b1438_, sz_b1439_, f1441, f1442, f1443, f1444, f1445, f1446, hlt1447⟩ := hQ1437
  have N1437_ := Fr.app N1357_ N1437
  have g_b1438 : n0 ≤ b1438 := Nat.le_trans Z1363 sz_b1438_
  have sz_b1438 : h0.size ≤ b1438 := Nat.le_trans K1363.1 sz_b1438_
  have lt_b1358_b1438 : b1358 < b1438 := Nat.lt_of_lt_of_le (f1362).lt sz_b1438_
  have g_b1439 : n0 ≤ b1439 := Nat.le_trans Z1363 sz_b1439_
  have sz_b1439 : h0.size ≤ b1439 := Nat.le_trans K1363.1 sz_b1439_
  have lt_b1358_b1439 : b1358 < b1439 := Nat.lt_of_lt_of_le (f1362).lt sz_b1439_
  have Z1448 : n0 ≤ T1437.heap.size := Nat.le_trans Z1363 K1437_.1
  have K1448 : Keep h0 T1437.heap [] := K1363.trans K1437_ all0
  refine Go.st (S' := T1437.setTop (mkF m 53 #[.val (.ref o0), .unset] [(.ref b1439)])) st1437 ?_
  have f1449 := ((f1360).keep K1437_ nin0)
  have f1450 := ((f1362).keep K1437_)
  exact Go.ret X1437 (v := some (.ref b1439)) (fun h => by rw [Bd.returns] at h; cases h) Bd.notSynchronized (fun fs hr => retOut X1437 hx Bd.returns rfl (Or.inr (Or.inr (Or.inr (Or.inr ⟨rfl, rfl, rfl⟩)))) (hb hby djdk_56_method_3_code_53) hr) (by decide) (by decide) (⟨b1358, b1438, b1439, k1359, k1440, rfl, N1437_, K1448, sz_b1358, sz_b1438, sz_b1439, f1449, f1361, f1450, f1441, f1442, f1443, f1444, f1445, f1446, lt_b1358_b1438, lt_b1358_b1439, hlt1447⟩)
theorem ef_63 (m : MethodId) (o0 : Addr) : entryFrame m #[(.ref o0)] 1 = mkF m 0 #[.val (.ref o0)] [] := by first | (simp [entryFrame, mkF, argsToLocals, Value.category, maxLocals]; done) | rfl
def Q63 (Z : State) (o0 : Addr) (o_1 : Addr) (k_o_1 : ClassId) (o_2 : Addr) (o_3 : Addr) (o_4 : Addr) (s_mir__Ljava_lang_Object_ : Addr) (h0 : Heap) (n0 : Nat) (v : Option Value) (h : Heap) (L : List Loc) : Prop := (∃ (b1452 : Addr) (b1453 : Addr) (b1454 : Addr) (k1455 : ClassId) (k1456 : ClassId), v = some (.ref b1454) ∧ Fr n0 L ∧ Keep h0 h [] ∧ h0.size ≤ b1452 ∧ h0.size ≤ b1453 ∧ h0.size ≤ b1454 ∧ Arv Z h b1452 k1455 (.object "java/lang/Object") (3 : Int32) [(.ref o_2), (.ref o_3), (.ref o_4)] .null ∧ Ovr Z k1455 "java/lang/Object" ∧ Exa Z h b1452 "[Ljava/lang/Object;" ∧ Arv Z h b1453 k1456 (.object "java/lang/Object") (3 : Int32) [(.ref o_2), (.ref o_3), (.ref o_4)] .null ∧ Ovr Z k1456 "java/lang/Object" ∧ Exa Z h b1453 "[Ljava/lang/Object;" ∧ Exa Z h b1454 "java/util/ImmutableCollections$ListN" ∧ Fld Z h b1454 "java/util/ImmutableCollections$ListN" "elements" "[Ljava/lang/Object;" (.ref b1453) ∧ Fld Z h b1454 "java/util/ImmutableCollections$ListN" "allowNulls" "Z" (.int (0 : Int32)) ∧ b1452 < b1453 ∧ b1452 < b1454 ∧ b1453 < b1454)
set_option maxRecDepth 65536 in
set_option maxHeartbeats 40000000 in
theorem rm63 (l : Launch) (Z : State) (a0 : Array Value) (hw : ∀ d ∈ tables_1, d.before a0 Z = true) (ws : List Jvm.Cond) (o0 : Addr) (o_1 : Addr) (k_o_1 : ClassId) (o_2 : Addr) (o_3 : Addr) (o_4 : Addr) (s_mir__Ljava_lang_Object_ : Addr) (h0 : Heap) (n0 : Nat) (Z0 : n0 ≤ h0.size) (E_o0 : Exa Z h0 o0 "java/util/ArrayList") (F_o0_size : Fld Z h0 o0 "java/util/ArrayList" "size" "I" (.int (3 : Int32))) (F_o0_elementData : Fld Z h0 o0 "java/util/ArrayList" "elementData" "[Ljava/lang/Object;" (.ref o_1)) (E_o_1 : Exa Z h0 o_1 "[Ljava/lang/Object;") (V_o_1 : Arv Z h0 o_1 k_o_1 (.object "java/lang/Object") (10 : Int32) [(.ref o_2), (.ref o_3), (.ref o_4), .null, .null, .null, .null, .null, .null, .null] .null) (E_o_4 : Exa Z h0 o_4 "java/lang/String") (E_o_3 : Exa Z h0 o_3 "java/lang/String") (E_o_2 : Exa Z h0 o_2 "java/lang/String") (M_s_mir__Ljava_lang_Object_ : Mir Z "[Ljava/lang/Object;" s_mir__Ljava_lang_Object_) :
    Con l Z (⟨"java/util/List", "copyOf", "(Ljava/util/Collection;)Ljava/util/List;"⟩ : MethodName) jdk_40_method_48_code 1 (some (.object "java/util/List")) ws ({ frames := 8, cells := 3, slots := 8, locals := 103 } : Room) #[(.ref o0)] h0 3 8 (Q63 Z o0 o_1 k_o_1 o_2 o_3 o_4 s_mir__Ljava_lang_Object_ h0 n0) := by
  refine MetFree.of_bodySF (plainFor_of_name pn_12) hisR ?_
  intro p e s m args below meth c s₁ Bd hml0 hP hK
  obtain ⟨rfl, hZ, hh⟩ := hP
  have hx := Bd.exec
  have hby := Bd.bytes
  have hml : c.maxLocals = 1 := hml0
  have hown : s.vm.findClass "java/util/List" = some m.cls := findClass_of_methodNamed Bd.named
  have hnm := (name_of_methodNamed Bd.named Bd.method).1
  have X0 : Stand p l e ({ frames := 8, cells := 3, slots := 8, locals := 103 } : Room) s m #[(.ref o0)] below meth c s₁ [] 0 0 := Stand.of_body Bd
  have e0 : s₁.heap = h0 := by rw [← hh, Bd.state]; rfl
  have N0 := Fr.nil n0
  refine Go.of ?_
  refine Go.st (S' := s₁.setTop (mkF m 0 #[.val (.ref o0)] [])) (fun t k => castTop (ef_63 m o0) k) ?_
  refine Go.st (S' := s₁.setTop (mkF m 1 #[.val (.ref o0)] [(.ref o0)])) (fun t k => XS.aloadN X0.here hx rfl (hb hby djdk_40_method_48_code_0) rfl rfl k) ?_
  obtain ⟨r1451, T1451, L1451, X1451, hQ1451, st1451⟩ := own_callS (W := 0) X0 hx hZ e0 hown (y := (⟨"java/util/ImmutableCollections", "listCopy", "(Ljava/util/Collection;)Ljava/util/List;"⟩ : MethodName)) (hw _ (List.mem_of_getElem? (i := 102) rfl)) (hw _ (List.mem_of_getElem? (i := 103) rfl)) (hw _ (List.mem_of_getElem? (i := 104) rfl)) (hw _ (List.mem_of_getElem? (i := 105) rfl)) (by decide) (rm62 l Z a0 hw [] o0 o_1 k_o_1 o_2 o_3 o_4 s_mir__Ljava_lang_Object_ h0 n0 Z0 (E_o0) (F_o0_size) (F_o0_elementData) (E_o_1) (V_o_1) (E_o_4) (E_o_3) (E_o_2) (M_s_mir__Ljava_lang_Object_)) (by decide) (by decide) (by decide) (by decide) (g := (mkF m 1 #[.val (.ref o0)] [(.ref o0)])) rfl (by rw [hml]; rfl) (argsL := [(.ref o0)]) (rest := []) rfl (lenOf pd_22 rfl) rfl (by show 2 * 0 + _ ≤ _; exact Nat.le_of_eq rfl) (hb hby djdk_40_method_48_code_1)
  obtain ⟨b1452, b1453, b1454, k1455, k1456, rfl, N1451, K1451_, sz_b1452_, sz_b1453_, sz_b1454_, f1457, f1458, f1459, f1460, f1461, f1462, f1463, f1464, f1465, hlt1466, hlt1467, hlt1468⟩ := hQ1451
  have N1451_ := Fr.app N0 N1451
  have g_b1452 : n0 ≤ b1452 := Nat.le_trans Z0 sz_b1452_
  have sz_b1452 : h0.size ≤ b1452 := Nat.le_trans (Keep.refl h0 []).1 sz_b1452_
  have g_b1453 : n0 ≤ b1453 := Nat.le_trans Z0 sz_b1453_
  have sz_b1453 : h0.size ≤ b1453 := Nat.le_trans (Keep.refl h0 []).1 sz_b1453_
  have g_b1454 : n0 ≤ b1454 := Nat.le_trans Z0 sz_b1454_
  have sz_b1454 : h0.size ≤ b1454 := Nat.le_trans (Keep.refl h0 []).1 sz_b1454_
  have Z1469 : n0 ≤ T1451.heap.size := Nat.le_trans Z0 K1451_.1
  have K1469 : Keep h0 T1451.heap [] := (Keep.refl h0 []).trans K1451_ all0
  refine Go.st (S' := T1451.setTop (mkF m 4 #[.val (.ref o0)] [(.ref b1454)])) st1451 ?_
  exact Go.ret X1451 (v := some (.ref b1454)) (fun h => by rw [Bd.returns] at h; cases h) Bd.notSynchronized (fun fs hr => retOut X1451 hx Bd.returns rfl (Or.inr (Or.inr (Or.inr (Or.inr ⟨rfl, rfl, rfl⟩)))) (hb hby djdk_40_method_48_code_4) hr) (by decide) (by decide) (⟨b1452, b1453, b1454, k1455, k1456, rfl, N1451_, K1469, sz_b1452, sz_b1453, sz_b1454, f1457, f1458, f1459, f1460, f1461, f1462, f1463, f1464, f1465, hlt1466, hlt1467, hlt1468⟩)
theorem ef_64 (m : MethodId) (o0 : Addr) (o1 : Addr) (o2 : Addr) : entryFrame m #[(.ref o0), (.ref o1), (.ref o2)] 3 = mkF m 0 #[.val (.ref o0), .val (.ref o1), .val (.ref o2)] [] := by first | (simp [entryFrame, mkF, argsToLocals, Value.category, maxLocals]; done) | rfl
def Q64 (Z : State) (o0 : Addr) (o1 : Addr) (o2 : Addr) (o_3 : Addr) (k_o_3 : ClassId) (o_4 : Addr) (o_5 : Addr) (o_6 : Addr) (s_mir__Ljava_lang_Object_ : Addr) (u_o0_names : Value) (k_o2 : ClassId) (e0_o2 : Int32) (e1_o2 : Int32) (e2_o2 : Int32) (u_o0_slots : Value) (h0 : Heap) (n0 : Nat) (v : Option Value) (h : Heap) (L : List Loc) : Prop := (∃ (b1471 : Addr) (b1472 : Addr) (b1473 : Addr) (b1497 : Addr) (k1474 : ClassId) (k1475 : ClassId), v = none ∧ Fr n0 L ∧ Keep h0 h [o0] ∧ h0.size ≤ b1471 ∧ h0.size ≤ b1472 ∧ h0.size ≤ b1473 ∧ h0.size ≤ b1497 ∧ Arv Z h b1471 k1474 (.object "java/lang/Object") (3 : Int32) [(.ref o_4), (.ref o_5), (.ref o_6)] .null ∧ Ovr Z k1474 "java/lang/Object" ∧ Exa Z h b1471 "[Ljava/lang/Object;" ∧ Arv Z h b1472 k1475 (.object "java/lang/Object") (3 : Int32) [(.ref o_4), (.ref o_5), (.ref o_6)] .null ∧ Ovr Z k1475 "java/lang/Object" ∧ Exa Z h b1472 "[Ljava/lang/Object;" ∧ Exa Z h b1473 "java/util/ImmutableCollections$ListN" ∧ Fld Z h b1473 "java/util/ImmutableCollections$ListN" "elements" "[Ljava/lang/Object;" (.ref b1472) ∧ Fld Z h b1473 "java/util/ImmutableCollections$ListN" "allowNulls" "Z" (.int (0 : Int32)) ∧ Exa Z h o0 "com/example/heaplens/heaplens/cfg/Scope" ∧ Fld Z h o0 "com/example/heaplens/heaplens/cfg/Scope" "names" "Ljava/util/List;" (.ref b1473) ∧ Arv Z h b1497 k_o2 .int (3 : Int32) [(.int e0_o2), (.int e1_o2), (.int e2_o2)] (.int (0 : Int32)) ∧ Exa Z h b1497 "[I" ∧ Fld Z h o0 "com/example/heaplens/heaplens/cfg/Scope" "slots" "[I" (.ref b1497) ∧ b1471 < b1472 ∧ b1471 < b1473 ∧ b1471 < b1497 ∧ b1472 < b1473 ∧ b1472 < b1497 ∧ b1473 < b1497)
set_option maxRecDepth 65536 in
set_option maxHeartbeats 40000000 in
theorem rm64 (l : Launch) (Z : State) (a0 : Array Value) (hw : ∀ d ∈ tables_1, d.before a0 Z = true) (ws : List Jvm.Cond) (o0 : Addr) (o1 : Addr) (o2 : Addr) (o_3 : Addr) (k_o_3 : ClassId) (o_4 : Addr) (o_5 : Addr) (o_6 : Addr) (s_mir__Ljava_lang_Object_ : Addr) (u_o0_names : Value) (k_o2 : ClassId) (e0_o2 : Int32) (e1_o2 : Int32) (e2_o2 : Int32) (u_o0_slots : Value) (h0 : Heap) (n0 : Nat) (Z0 : n0 ≤ h0.size) (E_o1 : Exa Z h0 o1 "java/util/ArrayList") (F_o1_size : Fld Z h0 o1 "java/util/ArrayList" "size" "I" (.int (3 : Int32))) (F_o1_elementData : Fld Z h0 o1 "java/util/ArrayList" "elementData" "[Ljava/lang/Object;" (.ref o_3)) (E_o_3 : Exa Z h0 o_3 "[Ljava/lang/Object;") (V_o_3 : Arv Z h0 o_3 k_o_3 (.object "java/lang/Object") (10 : Int32) [(.ref o_4), (.ref o_5), (.ref o_6), .null, .null, .null, .null, .null, .null, .null] .null) (E_o_6 : Exa Z h0 o_6 "java/lang/String") (E_o_5 : Exa Z h0 o_5 "java/lang/String") (E_o_4 : Exa Z h0 o_4 "java/lang/String") (M_s_mir__Ljava_lang_Object_ : Mir Z "[Ljava/lang/Object;" s_mir__Ljava_lang_Object_) (E_o0 : Exa Z h0 o0 "com/example/heaplens/heaplens/cfg/Scope") (F_o0_names : Fld Z h0 o0 "com/example/heaplens/heaplens/cfg/Scope" "names" "Ljava/util/List;" u_o0_names) (g_o0 : n0 ≤ o0) (V_o2 : Arv Z h0 o2 k_o2 .int (3 : Int32) [(.int e0_o2), (.int e1_o2), (.int e2_o2)] (.int (0 : Int32))) (ne_o2_o0 : o2 ≠ o0) (E_o2 : Exa Z h0 o2 "[I") (F_o0_slots : Fld Z h0 o0 "com/example/heaplens/heaplens/cfg/Scope" "slots" "[I" u_o0_slots) :
    Con l Z (⟨"com/example/heaplens/heaplens/cfg/Scope", "<init>", "(Ljava/util/List;[I)V"⟩ : MethodName) prog_1_method_1_code 3 none ws ({ frames := 9, cells := 4, slots := 11, locals := 116 } : Room) #[(.ref o0), (.ref o1), (.ref o2)] h0 4 11 (Q64 Z o0 o1 o2 o_3 k_o_3 o_4 o_5 o_6 s_mir__Ljava_lang_Object_ u_o0_names k_o2 e0_o2 e1_o2 e2_o2 u_o0_slots h0 n0) := by
  refine MetFree.of_bodySF (plainFor_of_name pn_14) hisR ?_
  intro p e s m args below meth c s₁ Bd hml0 hP hK
  obtain ⟨rfl, hZ, hh⟩ := hP
  have hx := Bd.exec
  have hby := Bd.bytes
  have hml : c.maxLocals = 3 := hml0
  have hown : s.vm.findClass "com/example/heaplens/heaplens/cfg/Scope" = some m.cls := findClass_of_methodNamed Bd.named
  have hnm := (name_of_methodNamed Bd.named Bd.method).1
  have X0 : Stand p l e ({ frames := 9, cells := 4, slots := 11, locals := 116 } : Room) s m #[(.ref o0), (.ref o1), (.ref o2)] below meth c s₁ [] 0 0 := Stand.of_body Bd
  have e0 : s₁.heap = h0 := by rw [← hh, Bd.state]; rfl
  have N0 := Fr.nil n0
  refine Go.of ?_
  refine Go.st (S' := s₁.setTop (mkF m 0 #[.val (.ref o0), .val (.ref o1), .val (.ref o2)] [])) (fun t k => castTop (ef_64 m o0 o1 o2) k) ?_
  refine Go.st (S' := s₁.setTop (mkF m 1 #[.val (.ref o0), .val (.ref o1), .val (.ref o2)] [(.ref o0)])) (fun t k => XS.aloadN X0.here hx rfl (hb hby dprog_1_method_1_code_0) rfl rfl k) ?_
  obtain ⟨T1312, X1312, e1312, st1312⟩ := initO X0 hx hZ hown (hw _ (List.mem_of_getElem? (i := 97) rfl)) (hw _ (List.mem_of_getElem? (i := 17) rfl)) (hw _ (List.mem_of_getElem? (i := 18) rfl)) e0 (g := (mkF m 1 #[.val (.ref o0), .val (.ref o1), .val (.ref o2)] [(.ref o0)])) rfl (by rw [hml]; rfl) rfl (hb hby dprog_1_method_1_code_1) (by decide) (W := 0) (by show 2 * 0 + _ ≤ _; exact Nat.le_of_eq rfl) (by decide)
  refine Go.st (S' := T1312.setTop (mkF m 4 #[.val (.ref o0), .val (.ref o1), .val (.ref o2)] [])) st1312 ?_
  refine Go.st (S' := T1312.setTop (mkF m 5 #[.val (.ref o0), .val (.ref o1), .val (.ref o2)] [(.ref o0)])) (fun t k => XS.aloadN X1312.here hx rfl (hb hby dprog_1_method_1_code_4) rfl rfl k) ?_
  refine Go.st (S' := T1312.setTop (mkF m 6 #[.val (.ref o0), .val (.ref o1), .val (.ref o2)] [(.ref o1), (.ref o0)])) (fun t k => XS.aloadN X1312.here hx rfl (hb hby dprog_1_method_1_code_5) rfl rfl k) ?_
  obtain ⟨r1470, T1470, L1470, X1470, hQ1470, st1470⟩ := own_callS (W := 1) X1312 hx hZ e1312 hown (y := (⟨"java/util/List", "copyOf", "(Ljava/util/Collection;)Ljava/util/List;"⟩ : MethodName)) (hw _ (List.mem_of_getElem? (i := 98) rfl)) (hw _ (List.mem_of_getElem? (i := 99) rfl)) (hw _ (List.mem_of_getElem? (i := 100) rfl)) (hw _ (List.mem_of_getElem? (i := 101) rfl)) (by decide) (rm63 l Z a0 hw [] o1 o_3 k_o_3 o_4 o_5 o_6 s_mir__Ljava_lang_Object_ h0 n0 Z0 (E_o1) (F_o1_size) (F_o1_elementData) (E_o_3) (V_o_3) (E_o_6) (E_o_5) (E_o_4) (M_s_mir__Ljava_lang_Object_)) (by decide) (by decide) (by decide) (by decide) (g := (mkF m 6 #[.val (.ref o0), .val (.ref o1), .val (.ref o2)] [(.ref o1), (.ref o0)])) rfl (by rw [hml]; rfl) (argsL := [(.ref o1)]) (rest := [(.ref o0)]) rfl (lenOf pd_22 rfl) rfl (by show 2 * 0 + _ ≤ _; exact Nat.le_of_eq rfl) (hb hby dprog_1_method_1_code_6)
  obtain ⟨b1471, b1472, b1473, k1474, k1475, rfl, N1470, K1470_, sz_b1471_, sz_b1472_, sz_b1473_, f1476, f1477, f1478, f1479, f1480, f1481, f1482, f1483, f1484, hlt1485, hlt1486, hlt1487⟩ := hQ1470
  have N1470_ := Fr.app N0 N1470
  have g_b1471 : n0 ≤ b1471 := Nat.le_trans Z0 sz_b1471_
  have sz_b1471 : h0.size ≤ b1471 := Nat.le_trans (Keep.refl h0 [o0]).1 sz_b1471_
  have g_b1472 : n0 ≤ b1472 := Nat.le_trans Z0 sz_b1472_
  have sz_b1472 : h0.size ≤ b1472 := Nat.le_trans (Keep.refl h0 [o0]).1 sz_b1472_
  have g_b1473 : n0 ≤ b1473 := Nat.le_trans Z0 sz_b1473_
  have sz_b1473 : h0.size ≤ b1473 := Nat.le_trans (Keep.refl h0 [o0]).1 sz_b1473_
  have Z1488 : n0 ≤ T1470.heap.size := Nat.le_trans Z0 K1470_.1
  have K1488 : Keep h0 T1470.heap [o0] := (Keep.refl h0 [o0]).trans K1470_ all0
  refine Go.st (S' := T1470.setTop (mkF m 9 #[.val (.ref o0), .val (.ref o1), .val (.ref o2)] [(.ref b1473), (.ref o0)])) st1470 ?_
  have f1489 := ((E_o0).keep K1470_)
  have f1490 := ((F_o0_names).keep K1470_ nin0)
  obtain ⟨T1491, h1491, X1491, e1491, W1491, st1491⟩ := putF X1470 hx hZ hown (host := "") (Or.inl (hw _ (List.mem_of_getElem? (i := 183) rfl))) Via.refl rfl f1490 f1489 (Or.inr ⟨(hw _ (List.mem_of_getElem? (i := 184) rfl)), rfl, hnm⟩) (hw _ (List.mem_of_getElem? (i := 92) rfl)) (ty := (.object "java/util/List")) (by decide) rfl rfl (g := (mkF m 9 #[.val (.ref o0), .val (.ref o1), .val (.ref o2)] [(.ref b1473), (.ref o0)])) rfl rfl (hb hby dprog_1_method_1_code_9)
  have Fw1491 := (f1490).same W1491
  have N1491 := Fr.snoc X1491 N1470_ g_o0
  have Z1492 : n0 ≤ h1491.size := Nat.le_trans Z1488 (Keep.of_wr W1491).1
  have K1492 : Keep h0 h1491 [o0] := K1488.wr W1491 (Or.inl (by simp))
  refine Go.st (S' := T1491.setTop (mkF m 12 #[.val (.ref o0), .val (.ref o1), .val (.ref o2)] [])) st1491 ?_
  refine Go.st (S' := T1491.setTop (mkF m 13 #[.val (.ref o0), .val (.ref o1), .val (.ref o2)] [(.ref o0)])) (fun t k => XS.aloadN X1491.here hx rfl (hb hby dprog_1_method_1_code_12) rfl rfl k) ?_
  refine Go.st (S' := T1491.setTop (mkF m 14 #[.val (.ref o0), .val (.ref o1), .val (.ref o2)] [(.ref o2), (.ref o0)])) (fun t k => XS.aloadN X1491.here hx rfl (hb hby dprog_1_method_1_code_13) rfl rfl k) ?_
  have f1494 := ((((V_o2).keep K1470_ nin0)).other W1491 ne_o2_o0)
  have f1496 := ((((E_o2).keep K1470_)).wr W1491)
  obtain ⟨T1497, h1497, X1497, e1497, E1497, A1497, B1497, st1497⟩ := cloneH X1491 hx hZ hown (ad := "[I") (hw _ (List.mem_of_getElem? (i := 185) rfl)) (hw _ (List.mem_of_getElem? (i := 186) rfl)) (hw _ (List.mem_of_getElem? (i := 190) rfl)) (hw _ (List.mem_of_getElem? (i := 188) rfl)) (hw _ (List.mem_of_getElem? (i := 189) rfl)) (hw _ (List.mem_of_getElem? (i := 191) rfl)) e1491 (Arv.arh f1494) (f1496) (g := (mkF m 14 #[.val (.ref o0), .val (.ref o1), .val (.ref o2)] [(.ref o2), (.ref o0)])) rfl (by rw [hml]; rfl) rfl (hb hby dprog_1_method_1_code_14) (by decide) (W := 1) (cap := 3) (by show 2 * 0 + _ ≤ _; exact Nat.le_of_eq rfl) (by decide) (by decide) (by decide) (by decide)
  obtain ⟨b1497, gg1497⟩ : ∃ z, z = h1491.size := ⟨_, rfl⟩
  rw [← gg1497] at A1497 B1497 st1497
  have g_b1497 : n0 ≤ b1497 := Nat.le_trans Z1492 (Nat.le_of_eq gg1497.symm)
  have sz_b1497 : h0.size ≤ b1497 := Nat.le_trans K1492.1 (Nat.le_of_eq gg1497.symm)
  have f1498 := ((f1478).wr W1491)
  have lt_b1471_b1497 : b1471 < b1497 := Nat.lt_of_lt_of_le (f1498).lt (Nat.le_of_eq gg1497.symm)
  have f1499 := ((f1481).wr W1491)
  have lt_b1472_b1497 : b1472 < b1497 := Nat.lt_of_lt_of_le (f1499).lt (Nat.le_of_eq gg1497.symm)
  have f1500 := ((f1482).wr W1491)
  have lt_b1473_b1497 : b1473 < b1497 := Nat.lt_of_lt_of_le (f1500).lt (Nat.le_of_eq gg1497.symm)
  have Z1501 : n0 ≤ h1497.size := Nat.le_trans Z1492 E1497.1
  have K1501 : Keep h0 h1497 [o0] := K1492.ext E1497
  have V1497 : Arv Z h1497 b1497 k_o2 .int (3 : Int32) [(.int e0_o2), (.int e1_o2), (.int e2_o2)] (.int (0 : Int32)) := A1497
  refine Go.st (S' := T1497.setTop (mkF m 17 #[.val (.ref o0), .val (.ref o1), .val (.ref o2)] [(.ref b1497), (.ref o0)])) st1497 ?_
  obtain ⟨T1502, X1502, e1502, st1502⟩ := castY X1497 hx hZ hown (hw _ (List.mem_of_getElem? (i := 192) rfl)) e1497 (Ins.self B1497) (g := (mkF m 17 #[.val (.ref o0), .val (.ref o1), .val (.ref o2)] [(.ref b1497), (.ref o0)])) rfl rfl (hb hby dprog_1_method_1_code_17)
  refine Go.st (S' := T1502.setTop (mkF m 20 #[.val (.ref o0), .val (.ref o1), .val (.ref o2)] [(.ref b1497), (.ref o0)])) st1502 ?_
  have f1503 := ((((f1489).wr W1491)).ext E1497)
  have f1504 := ((((((F_o0_slots).keep K1470_ nin0)).other W1491 (Or.inr (slot_ne (Or.inr (hw _ (List.mem_of_getElem? (i := 195) rfl))) (Or.inr (hw _ (List.mem_of_getElem? (i := 184) rfl))) (by decide) (t := (.array .int)) (t' := (.object "java/util/List")) (by decide) (by decide))))).ext E1497)
  obtain ⟨T1505, h1505, X1505, e1505, W1505, st1505⟩ := putF X1502 hx hZ hown (host := "") (Or.inl (hw _ (List.mem_of_getElem? (i := 194) rfl))) Via.refl e1502 f1504 f1503 (Or.inr ⟨(hw _ (List.mem_of_getElem? (i := 195) rfl)), rfl, hnm⟩) (hw _ (List.mem_of_getElem? (i := 92) rfl)) (ty := (.array .int)) (by decide) rfl rfl (g := (mkF m 20 #[.val (.ref o0), .val (.ref o1), .val (.ref o2)] [(.ref b1497), (.ref o0)])) rfl rfl (hb hby dprog_1_method_1_code_20)
  have Fw1505 := (f1504).same W1505
  have N1505 := Fr.snoc X1505 N1491 g_o0
  have Z1506 : n0 ≤ h1505.size := Nat.le_trans Z1501 (Keep.of_wr W1505).1
  have K1506 : Keep h0 h1505 [o0] := K1501.wr W1505 (Or.inl (by simp))
  refine Go.st (S' := T1505.setTop (mkF m 23 #[.val (.ref o0), .val (.ref o1), .val (.ref o2)] [])) st1505 ?_
  have f1507 := ((((((f1476).other W1491 (Ne.symm (Nat.ne_of_lt (Nat.lt_of_lt_of_le (E_o0).lt sz_b1471))))).ext E1497)).other W1505 (Ne.symm (Nat.ne_of_lt (Nat.lt_of_lt_of_le (E_o0).lt sz_b1471))))
  have f1508 := ((((f1498).ext E1497)).wr W1505)
  have f1509 := ((((((f1479).other W1491 (Ne.symm (Nat.ne_of_lt (Nat.lt_of_lt_of_le (E_o0).lt sz_b1472))))).ext E1497)).other W1505 (Ne.symm (Nat.ne_of_lt (Nat.lt_of_lt_of_le (E_o0).lt sz_b1472))))
  have f1510 := ((((f1499).ext E1497)).wr W1505)
  have f1511 := ((((f1500).ext E1497)).wr W1505)
  have f1512 := ((((((f1483).other W1491 (Or.inl (Ne.symm (Nat.ne_of_lt (Nat.lt_of_lt_of_le (E_o0).lt sz_b1473)))))).ext E1497)).other W1505 (Or.inl (Ne.symm (Nat.ne_of_lt (Nat.lt_of_lt_of_le (E_o0).lt sz_b1473)))))
  have f1513 := ((((((f1484).other W1491 (Or.inl (Ne.symm (Nat.ne_of_lt (Nat.lt_of_lt_of_le (E_o0).lt sz_b1473)))))).ext E1497)).other W1505 (Or.inl (Ne.symm (Nat.ne_of_lt (Nat.lt_of_lt_of_le (E_o0).lt sz_b1473)))))
  have f1514 := ((f1503).wr W1505)
  have f1515 := ((((Fw1491).ext E1497)).other W1505 (Or.inr (slot_ne (Or.inr (hw _ (List.mem_of_getElem? (i := 184) rfl))) (Or.inr (hw _ (List.mem_of_getElem? (i := 195) rfl))) (by decide) (t := (.object "java/util/List")) (t' := (.array .int)) (by decide) (by decide))))
  have f1516 := ((V1497).other W1505 (Ne.symm (Nat.ne_of_lt (Nat.lt_of_lt_of_le (E_o0).lt sz_b1497))))
  have f1517 := ((B1497).wr W1505)
  exact Go.ret X1505 (v := none) (fun _ => rfl) Bd.notSynchronized (fun fs hr => X1505.returnOut hx Bd.returns (hb hby dprog_1_method_1_code_23) hr) (by decide) (by decide) (by rw [e1505]; exact ⟨b1471, b1472, b1473, b1497, k1474, k1475, rfl, N1505, K1506, sz_b1471, sz_b1472, sz_b1473, sz_b1497, f1507, f1477, f1508, f1509, f1480, f1510, f1511, f1512, f1513, f1514, f1515, f1516, f1517, Fw1505, hlt1485, hlt1486, lt_b1471_b1497, hlt1487, lt_b1472_b1497, lt_b1473_b1497⟩)
theorem ef_65 (m : MethodId) (o0 : Addr) (p1 : Int32) : entryFrame m #[(.ref o0), (.int p1)] 2 = mkF m 0 #[.val (.ref o0), .val (.int p1)] [] := by first | (simp [entryFrame, mkF, argsToLocals, Value.category, maxLocals]; done) | rfl
def Q65 (Z : State) (o0 : Addr) (p1 : Int32) (o_1 : Addr) (k_o_1 : ClassId) (o_2 : Addr) (o_3 : Addr) (o_4 : Addr) (h0 : Heap) (n0 : Nat) (v : Option Value) (h : Heap) (L : List Loc) : Prop := ((p1 = (0 : Int32)) ∧ v = some (.ref o_2) ∧ Fr n0 L ∧ h = h0) ∨ ((¬ (p1 = (0 : Int32))) ∧ (p1 = (1 : Int32)) ∧ v = some (.ref o_3) ∧ Fr n0 L ∧ h = h0) ∨ ((¬ (p1 = (0 : Int32))) ∧ (¬ (p1 = (1 : Int32))) ∧ (p1 = (2 : Int32)) ∧ v = some (.ref o_4) ∧ Fr n0 L ∧ h = h0)
set_option maxRecDepth 65536 in
set_option maxHeartbeats 40000000 in
theorem rm65 (l : Launch) (Z : State) (a0 : Array Value) (hw : ∀ d ∈ tables_1, d.before a0 Z = true) (ws : List Jvm.Cond) (o0 : Addr) (p1 : Int32) (o_1 : Addr) (k_o_1 : ClassId) (o_2 : Addr) (o_3 : Addr) (o_4 : Addr) (h0 : Heap) (n0 : Nat) (Z0 : n0 ≤ h0.size) (F_o0_elements : Fld Z h0 o0 "java/util/ImmutableCollections$ListN" "elements" "[Ljava/lang/Object;" (.ref o_1)) (V_o_1 : Arv Z h0 o_1 k_o_1 (.object "java/lang/Object") (3 : Int32) [(.ref o_2), (.ref o_3), (.ref o_4)] .null) (no2 : ¬ ((¬ (p1 = (0 : Int32))) ∧ (¬ (p1 = (1 : Int32))) ∧ (¬ (p1 = (2 : Int32))))) :
    Con l Z (⟨"java/util/ImmutableCollections$ListN", "get", "(I)Ljava/lang/Object;"⟩ : MethodName) jdk_45_method_4_code 2 (some (.object "java/lang/Object")) ws ({ frames := 0, cells := 0, slots := 0, locals := 0 } : Room) #[(.ref o0), (.int p1)] h0 0 0 (Q65 Z o0 p1 o_1 k_o_1 o_2 o_3 o_4 h0 n0) := by
  refine MetFree.of_bodySF (plainFor_of_name pn_15) hisR ?_
  intro p e s m args below meth c s₁ Bd hml0 hP hK
  obtain ⟨rfl, hZ, hh⟩ := hP
  have hx := Bd.exec
  have hby := Bd.bytes
  have hml : c.maxLocals = 2 := hml0
  have hown : s.vm.findClass "java/util/ImmutableCollections$ListN" = some m.cls := findClass_of_methodNamed Bd.named
  have hnm := (name_of_methodNamed Bd.named Bd.method).1
  have X0 : Stand p l e ({ frames := 0, cells := 0, slots := 0, locals := 0 } : Room) s m #[(.ref o0), (.int p1)] below meth c s₁ [] 0 0 := Stand.of_body Bd
  have e0 : s₁.heap = h0 := by rw [← hh, Bd.state]; rfl
  have N0 := Fr.nil n0
  refine Go.of ?_
  refine Go.st (S' := s₁.setTop (mkF m 0 #[.val (.ref o0), .val (.int p1)] [])) (fun t k => castTop (ef_65 m o0 p1) k) ?_
  refine Go.st (S' := s₁.setTop (mkF m 1 #[.val (.ref o0), .val (.int p1)] [(.ref o0)])) (fun t k => XS.aloadN X0.here hx rfl (hb hby djdk_45_method_4_code_0) rfl rfl k) ?_
  obtain ⟨T1570, X1570, e1570, st1570⟩ := getF X0 hx hZ hown (host := "") (Or.inl (hw _ (List.mem_of_getElem? (i := 235) rfl))) Via.refl e0 F_o0_elements (g := (mkF m 1 #[.val (.ref o0), .val (.int p1)] [(.ref o0)])) rfl rfl (hb hby djdk_45_method_4_code_1)
  refine Go.st (S' := T1570.setTop (mkF m 4 #[.val (.ref o0), .val (.int p1)] [(.ref o_1)])) st1570 ?_
  refine Go.st (S' := T1570.setTop (mkF m 5 #[.val (.ref o0), .val (.int p1)] [(.int p1), (.ref o_1)])) (fun t k => XS.iloadN X1570.here hx rfl (hb hby djdk_45_method_4_code_4) rfl k) ?_
  by_cases hj1572 : p1 = (0 : Int32)
  · obtain ⟨cl1573, Ar1573, -, S1573, N1573_, H1573, -⟩ := id V_o_1
    have hin1573 : ¬ (p1 < 0 ∨ cl1573.slots.size ≤ (p1).toNatClampNeg) := by rw [hj1572]; exact inb_of S1573 ⟨by decide, by decide⟩
    have hat1573 : cl1573.slots[(p1).toNatClampNeg]? = some (.ref o_2) := Has.at H1573 hin1573 (by rw [hj1572]; rfl)
    refine Go.st (S' := T1570.setTop (mkF m 6 #[.val (.ref o0), .val (.int p1)] [(.ref o_2)])) (fun t k => X1570.aaload hx (j := p1) (v := (.ref o_2)) (own_eh e1570 Ar1573.1) (State.isArrayOf_alike hZ.alike Ar1573.2.1) rfl Ar1573.2.2 hin1573 hat1573 (g := (mkF m 5 #[.val (.ref o0), .val (.int p1)] [(.int p1), (.ref o_1)])) rfl rfl (hb hby djdk_45_method_4_code_5) t k) ?_
    exact Go.ret X1570 (v := some (.ref o_2)) (fun h => by rw [Bd.returns] at h; cases h) Bd.notSynchronized (fun fs hr => retOut X1570 hx Bd.returns rfl (Or.inr (Or.inr (Or.inr (Or.inr ⟨rfl, rfl, rfl⟩)))) (hb hby djdk_45_method_4_code_6) hr) (by decide) (by decide) ((Or.inl ⟨hj1572, rfl, N0, (e1570)⟩))
  · by_cases hj1574 : p1 = (1 : Int32)
    · obtain ⟨cl1575, Ar1575, -, S1575, N1575_, H1575, -⟩ := id V_o_1
      have hin1575 : ¬ (p1 < 0 ∨ cl1575.slots.size ≤ (p1).toNatClampNeg) := by rw [hj1574]; exact inb_of S1575 ⟨by decide, by decide⟩
      have hat1575 : cl1575.slots[(p1).toNatClampNeg]? = some (.ref o_3) := Has.at H1575 hin1575 (by rw [hj1574]; rfl)
      refine Go.st (S' := T1570.setTop (mkF m 6 #[.val (.ref o0), .val (.int p1)] [(.ref o_3)])) (fun t k => X1570.aaload hx (j := p1) (v := (.ref o_3)) (own_eh e1570 Ar1575.1) (State.isArrayOf_alike hZ.alike Ar1575.2.1) rfl Ar1575.2.2 hin1575 hat1575 (g := (mkF m 5 #[.val (.ref o0), .val (.int p1)] [(.int p1), (.ref o_1)])) rfl rfl (hb hby djdk_45_method_4_code_5) t k) ?_
      exact Go.ret X1570 (v := some (.ref o_3)) (fun h => by rw [Bd.returns] at h; cases h) Bd.notSynchronized (fun fs hr => retOut X1570 hx Bd.returns rfl (Or.inr (Or.inr (Or.inr (Or.inr ⟨rfl, rfl, rfl⟩)))) (hb hby djdk_45_method_4_code_6) hr) (by decide) (by decide) ((Or.inr (Or.inl ⟨hj1572, hj1574, rfl, N0, (e1570)⟩)))
    · by_cases hj1576 : p1 = (2 : Int32)
      · obtain ⟨cl1577, Ar1577, -, S1577, N1577_, H1577, -⟩ := id V_o_1
        have hin1577 : ¬ (p1 < 0 ∨ cl1577.slots.size ≤ (p1).toNatClampNeg) := by rw [hj1576]; exact inb_of S1577 ⟨by decide, by decide⟩
        have hat1577 : cl1577.slots[(p1).toNatClampNeg]? = some (.ref o_4) := Has.at H1577 hin1577 (by rw [hj1576]; rfl)
        refine Go.st (S' := T1570.setTop (mkF m 6 #[.val (.ref o0), .val (.int p1)] [(.ref o_4)])) (fun t k => X1570.aaload hx (j := p1) (v := (.ref o_4)) (own_eh e1570 Ar1577.1) (State.isArrayOf_alike hZ.alike Ar1577.2.1) rfl Ar1577.2.2 hin1577 hat1577 (g := (mkF m 5 #[.val (.ref o0), .val (.int p1)] [(.int p1), (.ref o_1)])) rfl rfl (hb hby djdk_45_method_4_code_5) t k) ?_
        exact Go.ret X1570 (v := some (.ref o_4)) (fun h => by rw [Bd.returns] at h; cases h) Bd.notSynchronized (fun fs hr => retOut X1570 hx Bd.returns rfl (Or.inr (Or.inr (Or.inr (Or.inr ⟨rfl, rfl, rfl⟩)))) (hb hby djdk_45_method_4_code_6) hr) (by decide) (by decide) ((Or.inr (Or.inr ⟨hj1572, hj1574, hj1576, rfl, N0, (e1570)⟩)))
      · exact absurd ⟨hj1572, hj1574, hj1576⟩ no2
theorem ef_66 (m : MethodId) (o0 : Addr) (p1 : Int32) : entryFrame m #[(.ref o0), (.int p1)] 2 = mkF m 0 #[.val (.ref o0), .val (.int p1)] [] := by first | (simp [entryFrame, mkF, argsToLocals, Value.category, maxLocals]; done) | rfl
def Q66 (Z : State) (o0 : Addr) (p1 : Int32) (o_1 : Addr) (o_2 : Addr) (k_o_2 : ClassId) (o_3 : Addr) (o_4 : Addr) (o_5 : Addr) (h0 : Heap) (n0 : Nat) (v : Option Value) (h : Heap) (L : List Loc) : Prop := ((p1 = (0 : Int32)) ∧ v = some (.ref o_3) ∧ Fr n0 L ∧ h = h0) ∨ ((¬ (p1 = (0 : Int32))) ∧ (p1 = (1 : Int32)) ∧ v = some (.ref o_4) ∧ Fr n0 L ∧ h = h0) ∨ ((¬ (p1 = (0 : Int32))) ∧ (¬ (p1 = (1 : Int32))) ∧ (p1 = (2 : Int32)) ∧ v = some (.ref o_5) ∧ Fr n0 L ∧ h = h0)
set_option maxRecDepth 65536 in
set_option maxHeartbeats 40000000 in
theorem rm66 (l : Launch) (Z : State) (a0 : Array Value) (hw : ∀ d ∈ tables_1, d.before a0 Z = true) (ws : List Jvm.Cond) (o0 : Addr) (p1 : Int32) (o_1 : Addr) (o_2 : Addr) (k_o_2 : ClassId) (o_3 : Addr) (o_4 : Addr) (o_5 : Addr) (h0 : Heap) (n0 : Nat) (Z0 : n0 ≤ h0.size) (F_o0_names : Fld Z h0 o0 "com/example/heaplens/heaplens/cfg/Scope" "names" "Ljava/util/List;" (.ref o_1)) (E_o_1 : Exa Z h0 o_1 "java/util/ImmutableCollections$ListN") (F_o_1_elements : Fld Z h0 o_1 "java/util/ImmutableCollections$ListN" "elements" "[Ljava/lang/Object;" (.ref o_2)) (V_o_2 : Arv Z h0 o_2 k_o_2 (.object "java/lang/Object") (3 : Int32) [(.ref o_3), (.ref o_4), (.ref o_5)] .null) (no4 : ¬ ((¬ (p1 = (0 : Int32))) ∧ (¬ (p1 = (1 : Int32))) ∧ (¬ (p1 = (2 : Int32))))) (E_o_3 : Exa Z h0 o_3 "java/lang/String") (E_o_4 : Exa Z h0 o_4 "java/lang/String") (E_o_5 : Exa Z h0 o_5 "java/lang/String") :
    Con l Z (⟨"com/example/heaplens/heaplens/cfg/Scope", "name", "(I)Ljava/lang/String;"⟩ : MethodName) prog_1_method_3_code 2 (some (.object "java/lang/String")) ws ({ frames := 1, cells := 0, slots := 0, locals := 13 } : Room) #[(.ref o0), (.int p1)] h0 0 0 (Q66 Z o0 p1 o_1 o_2 k_o_2 o_3 o_4 o_5 h0 n0) := by
  refine MetFree.of_bodySF (plainFor_of_name pn_14) hisR ?_
  intro p e s m args below meth c s₁ Bd hml0 hP hK
  obtain ⟨rfl, hZ, hh⟩ := hP
  have hx := Bd.exec
  have hby := Bd.bytes
  have hml : c.maxLocals = 2 := hml0
  have hown : s.vm.findClass "com/example/heaplens/heaplens/cfg/Scope" = some m.cls := findClass_of_methodNamed Bd.named
  have hnm := (name_of_methodNamed Bd.named Bd.method).1
  have X0 : Stand p l e ({ frames := 1, cells := 0, slots := 0, locals := 13 } : Room) s m #[(.ref o0), (.int p1)] below meth c s₁ [] 0 0 := Stand.of_body Bd
  have e0 : s₁.heap = h0 := by rw [← hh, Bd.state]; rfl
  have N0 := Fr.nil n0
  refine Go.of ?_
  refine Go.st (S' := s₁.setTop (mkF m 0 #[.val (.ref o0), .val (.int p1)] [])) (fun t k => castTop (ef_66 m o0 p1) k) ?_
  refine Go.st (S' := s₁.setTop (mkF m 1 #[.val (.ref o0), .val (.int p1)] [(.ref o0)])) (fun t k => XS.aloadN X0.here hx rfl (hb hby dprog_1_method_3_code_0) rfl rfl k) ?_
  obtain ⟨T1569, X1569, e1569, st1569⟩ := getF X0 hx hZ hown (host := "") (Or.inl (hw _ (List.mem_of_getElem? (i := 183) rfl))) Via.refl e0 F_o0_names (g := (mkF m 1 #[.val (.ref o0), .val (.int p1)] [(.ref o0)])) rfl rfl (hb hby dprog_1_method_3_code_1)
  refine Go.st (S' := T1569.setTop (mkF m 4 #[.val (.ref o0), .val (.int p1)] [(.ref o_1)])) st1569 ?_
  refine Go.st (S' := T1569.setTop (mkF m 5 #[.val (.ref o0), .val (.int p1)] [(.int p1), (.ref o_1)])) (fun t k => XS.iloadN X1569.here hx rfl (hb hby dprog_1_method_3_code_4) rfl k) ?_
  have no1578 : ¬ ((¬ (p1 = (0 : Int32))) ∧ (¬ (p1 = (1 : Int32))) ∧ (¬ (p1 = (2 : Int32)))) := by
    rintro ⟨hc1579, hc1580, hc1581⟩
    exact absurd ⟨hc1579, hc1580, hc1581⟩ no4
  obtain ⟨r1582, T1582, L1582, X1582, hQ1582, st1582⟩ := own_callF (W := 0) (a := o_1) (C := "java/util/ImmutableCollections$ListN") X1569 hx hZ e1569 hown (xi := (⟨"java/util/List", "get", "(I)Ljava/lang/Object;"⟩ : MethodName)) (y := (⟨"java/util/ImmutableCollections$ListN", "get", "(I)Ljava/lang/Object;"⟩ : MethodName)) (hw _ (List.mem_of_getElem? (i := 201) rfl)) (hw _ (List.mem_of_getElem? (i := 202) rfl)) (mvT hZ (hw _ (List.mem_of_getElem? (i := 203) rfl))) (hw _ (List.mem_of_getElem? (i := 239) rfl)) (hw _ (List.mem_of_getElem? (i := 240) rfl)) (hw _ (List.mem_of_getElem? (i := 241) rfl)) (hw _ (List.mem_of_getElem? (i := 242) rfl)) (hw _ (List.mem_of_getElem? (i := 243) rfl)) (hw _ (List.mem_of_getElem? (i := 226) rfl)) (hw _ (List.mem_of_getElem? (i := 244) rfl)) (by decide) (E_o_1) (rm65 l Z a0 hw [] o_1 p1 o_2 k_o_2 o_3 o_4 o_5 h0 n0 Z0 (F_o_1_elements) (V_o_2) (no1578)) (by decide) (by decide) (by decide) (by decide) (g := (mkF m 5 #[.val (.ref o0), .val (.int p1)] [(.int p1), (.ref o_1)])) rfl (by rw [hml]; rfl) (argsL := [(.int p1)]) (rest := []) rfl (lenOf pd_24 rfl) rfl (by show 2 * 0 + _ ≤ _; exact Nat.le_of_eq rfl) (hb hby dprog_1_method_3_code_5)
  rcases hQ1582 with hQ1582 | hQ1582 | hQ1582
  · obtain ⟨hc1583, rfl, N1582, e1582⟩ := hQ1582
    have N1582_ := Fr.app N0 N1582
    refine Go.st (S' := T1582.setTop (mkF m 10 #[.val (.ref o0), .val (.int p1)] [(.ref o_3)])) st1582 ?_
    obtain ⟨T1585, X1585, e1585, st1585⟩ := castY X1582 hx hZ hown (hw _ (List.mem_of_getElem? (i := 210) rfl)) e1582 (Ins.self E_o_3) (g := (mkF m 10 #[.val (.ref o0), .val (.int p1)] [(.ref o_3)])) rfl rfl (hb hby dprog_1_method_3_code_10)
    refine Go.st (S' := T1585.setTop (mkF m 13 #[.val (.ref o0), .val (.int p1)] [(.ref o_3)])) st1585 ?_
    exact Go.ret X1585 (v := some (.ref o_3)) (fun h => by rw [Bd.returns] at h; cases h) Bd.notSynchronized (fun fs hr => retOut X1585 hx Bd.returns rfl (Or.inr (Or.inr (Or.inr (Or.inr ⟨rfl, rfl, rfl⟩)))) (hb hby dprog_1_method_3_code_13) hr) (by decide) (by decide) ((Or.inl ⟨hc1583, rfl, N1582_, (e1585)⟩))
  · obtain ⟨hc1586, hc1587, rfl, N1582, e1582⟩ := hQ1582
    have N1582_ := Fr.app N0 N1582
    refine Go.st (S' := T1582.setTop (mkF m 10 #[.val (.ref o0), .val (.int p1)] [(.ref o_4)])) st1582 ?_
    obtain ⟨T1589, X1589, e1589, st1589⟩ := castY X1582 hx hZ hown (hw _ (List.mem_of_getElem? (i := 210) rfl)) e1582 (Ins.self E_o_4) (g := (mkF m 10 #[.val (.ref o0), .val (.int p1)] [(.ref o_4)])) rfl rfl (hb hby dprog_1_method_3_code_10)
    refine Go.st (S' := T1589.setTop (mkF m 13 #[.val (.ref o0), .val (.int p1)] [(.ref o_4)])) st1589 ?_
    exact Go.ret X1589 (v := some (.ref o_4)) (fun h => by rw [Bd.returns] at h; cases h) Bd.notSynchronized (fun fs hr => retOut X1589 hx Bd.returns rfl (Or.inr (Or.inr (Or.inr (Or.inr ⟨rfl, rfl, rfl⟩)))) (hb hby dprog_1_method_3_code_13) hr) (by decide) (by decide) ((Or.inr (Or.inl ⟨hc1586, hc1587, rfl, N1582_, (e1589)⟩)))
  · obtain ⟨hc1590, hc1591, hc1592, rfl, N1582, e1582⟩ := hQ1582
    have N1582_ := Fr.app N0 N1582
    refine Go.st (S' := T1582.setTop (mkF m 10 #[.val (.ref o0), .val (.int p1)] [(.ref o_5)])) st1582 ?_
    obtain ⟨T1594, X1594, e1594, st1594⟩ := castY X1582 hx hZ hown (hw _ (List.mem_of_getElem? (i := 210) rfl)) e1582 (Ins.self E_o_5) (g := (mkF m 10 #[.val (.ref o0), .val (.int p1)] [(.ref o_5)])) rfl rfl (hb hby dprog_1_method_3_code_10)
    refine Go.st (S' := T1594.setTop (mkF m 13 #[.val (.ref o0), .val (.int p1)] [(.ref o_5)])) st1594 ?_
    exact Go.ret X1594 (v := some (.ref o_5)) (fun h => by rw [Bd.returns] at h; cases h) Bd.notSynchronized (fun fs hr => retOut X1594 hx Bd.returns rfl (Or.inr (Or.inr (Or.inr (Or.inr ⟨rfl, rfl, rfl⟩)))) (hb hby dprog_1_method_3_code_13) hr) (by decide) (by decide) ((Or.inr (Or.inr ⟨hc1590, hc1591, hc1592, rfl, N1582_, (e1594)⟩)))
theorem ef_67 (m : MethodId) (p0 : Int32) (p1 : Int32) (p2 : Int32) (p3 : Int32) (p4 : Int32) : entryFrame m #[(.int p0), (.int p1), (.int p2), (.int p3), (.int p4)] maxLocals = mkF m 0 #[.val (.int p0), .val (.int p1), .val (.int p2), .val (.int p3), .val (.int p4), .unset, .unset, .unset, .unset, .unset, .unset, .unset, .unset, .unset, .unset] [] := by first | (simp [entryFrame, mkF, argsToLocals, Value.category, maxLocals]; done) | rfl
def Q67 (Z : State) (p0 : Int32) (p1 : Int32) (p2 : Int32) (p3 : Int32) (p4 : Int32) (s_String_COMPACT_STRINGS : Int32) (s_ArrayList_DEFAULTCAPACITY_EMPTY_ELEMENTDATA : Addr) (k_s_ArrayList_DEFAULTCAPACITY_EMPTY_ELEMENTDATA : ClassId) (s_mir__Ljava_lang_Object_ : Addr) (s_ImmutableCollections_EMPTY : Addr) (h0 : Heap) (n0 : Nat) (v : Option Value) (h : Heap) (L : List Loc) : Prop := v = some (.int 1) ∧ Fr n0 L
set_option maxRecDepth 65536 in
set_option maxHeartbeats 40000000 in
theorem rm67 (l : Launch) (Z : State) (a0 : Array Value) (hw : ∀ d ∈ tables_1, d.before a0 Z = true) (ws : List Jvm.Cond) (p0 : Int32) (p1 : Int32) (p2 : Int32) (p3 : Int32) (p4 : Int32) (s_String_COMPACT_STRINGS : Int32) (s_ArrayList_DEFAULTCAPACITY_EMPTY_ELEMENTDATA : Addr) (k_s_ArrayList_DEFAULTCAPACITY_EMPTY_ELEMENTDATA : ClassId) (s_mir__Ljava_lang_Object_ : Addr) (s_ImmutableCollections_EMPTY : Addr) (h0 : Heap) (n0 : Nat) (Z0 : n0 ≤ h0.size) (S_s_String_COMPACT_STRINGS : Sta Z h0 "java/lang/String" "COMPACT_STRINGS" "Z" (.int s_String_COMPACT_STRINGS)) (nz_s_String_COMPACT_STRINGS : s_String_COMPACT_STRINGS ≠ 0) (S_s_ArrayList_DEFAULTCAPACITY_EMPTY_ELEMENTDATA : Sta Z h0 "java/util/ArrayList" "DEFAULTCAPACITY_EMPTY_ELEMENTDATA" "[Ljava/lang/Object;" (.ref s_ArrayList_DEFAULTCAPACITY_EMPTY_ELEMENTDATA)) (V_s_ArrayList_DEFAULTCAPACITY_EMPTY_ELEMENTDATA : Arv Z h0 s_ArrayList_DEFAULTCAPACITY_EMPTY_ELEMENTDATA k_s_ArrayList_DEFAULTCAPACITY_EMPTY_ELEMENTDATA (.object "java/lang/Object") (0 : Int32) [] .null) (M_s_mir__Ljava_lang_Object_ : Mir Z "[Ljava/lang/Object;" s_mir__Ljava_lang_Object_) (S_s_ImmutableCollections_EMPTY : Sta Z h0 "java/util/ImmutableCollections" "EMPTY" "Ljava/lang/Object;" (.ref s_ImmutableCollections_EMPTY)) (E_s_ImmutableCollections_EMPTY : Exa Z h0 s_ImmutableCollections_EMPTY "java/lang/Object") :
    Con l Z x code maxLocals ret ws room_1 #[(.int p0), (.int p1), (.int p2), (.int p3), (.int p4)] h0 17 53 (Q67 Z p0 p1 p2 p3 p4 s_String_COMPACT_STRINGS s_ArrayList_DEFAULTCAPACITY_EMPTY_ELEMENTDATA k_s_ArrayList_DEFAULTCAPACITY_EMPTY_ELEMENTDATA s_mir__Ljava_lang_Object_ s_ImmutableCollections_EMPTY h0 n0) := by
  refine MetFree.of_bodySF (plainFor_of_name pn_3) hisR ?_
  intro p e s m args below meth c s₁ Bd hml0 hP hK
  obtain ⟨rfl, hZ, hh⟩ := hP
  have hx := Bd.exec
  have hby := Bd.bytes
  have hml : c.maxLocals = 15 := hml0
  have hown : s.vm.findClass "com/example/heaplens/heaplens/cfg/ScopeNamePinLaw" = some m.cls := findClass_of_methodNamed Bd.named
  have hnm := (name_of_methodNamed Bd.named Bd.method).1
  have X0 : Stand p l e room_1 s m #[(.int p0), (.int p1), (.int p2), (.int p3), (.int p4)] below meth c s₁ [] 0 0 := Stand.of_body Bd
  have e0 : s₁.heap = h0 := by rw [← hh, Bd.state]; rfl
  have N0 := Fr.nil n0
  refine Go.of ?_
  refine Go.st (S' := s₁.setTop (mkF m 0 #[.val (.int p0), .val (.int p1), .val (.int p2), .val (.int p3), .val (.int p4), .unset, .unset, .unset, .unset, .unset, .unset, .unset, .unset, .unset, .unset] [])) (fun t k => castTop (ef_67 m p0 p1 p2 p3 p4) k) ?_
  let A1 : Array Slot := #[.val (.int p0), .val (.int p1), .val (.int p2), .val (.int p3), .val (.int p4), .unset, .unset, .unset, .unset, .unset, .unset, .unset, .unset, .unset, .unset]
  refine Go.st (S' := s₁.setTop (mkF m 1 A1 [(.int (1 : Int32))])) (fun t k => XS.iconst X0.here hx rfl (hb hby at_0) k) ?_
  refine Go.st (S' := s₁.setTop (mkF m 2 A1 [(.int p3), (.int (1 : Int32))])) (fun t k => XS.iloadN X0.here hx rfl (hb hby at_1) rfl k) ?_
  refine Go.st (S' := s₁.setTop (mkF m 4 A1 [(.int (2147483647 : Int32)), (.int p3), (.int (1 : Int32))])) (fun t k => X0.ldcInt hx hown (mvT hZ (hw _ (List.mem_of_getElem? (i := 0) rfl))) (g := (mkF m 2 A1 [(.int p3), (.int (1 : Int32))])) rfl (hb hby at_2) t k) ?_
  refine Go.op (F := fun z => s₁.setTop (mkF m 5 A1 [(.int z), (.int (1 : Int32))])) (x := (p3 &&& (2147483647 : Int32))) (fun t k => XS.iand X0.here hx rfl (hb hby at_4) rfl k) ?_
  intro v2 hv2
  refine Go.st (S' := s₁.setTop (mkF m 6 A1 [(.int (3 : Int32)), (.int v2), (.int (1 : Int32))])) (fun t k => XS.iconst X0.here hx rfl (hb hby at_5) k) ?_
  refine Go.op (F := fun z => s₁.setTop (mkF m 7 A1 [(.int z), (.int (1 : Int32))])) (x := (v2 % (3 : Int32))) (fun t k => iremM X0 hx rfl (hb hby at_6) rfl (by decide) k) ?_
  intro v3 hv3
  refine Go.op (F := fun z => s₁.setTop (mkF m 8 A1 [(.int z)])) (x := ((1 : Int32) + v3)) (fun t k => XS.iadd X0.here hx rfl (hb hby at_7) rfl k) ?_
  intro v4 hv4
  let A5 : Array Slot := #[.val (.int p0), .val (.int p1), .val (.int p2), .val (.int p3), .val (.int p4), .val (.int v4), .unset, .unset, .unset, .unset, .unset, .unset, .unset, .unset, .unset]
  refine Go.st (S' := s₁.setTop (mkF m 10 A5 [])) (fun t k => XS.istore X0.here hx rfl (hb hby at_8) rfl (l' := A5) rfl k) ?_
  refine Go.st (S' := s₁.setTop (mkF m 12 A5 [(.int p4)])) (fun t k => XS.iload X0.here hx rfl (hb hby at_10) rfl k) ?_
  refine Go.st (S' := s₁.setTop (mkF m 14 A5 [(.int (2147483647 : Int32)), (.int p4)])) (fun t k => X0.ldcInt hx hown (mvT hZ (hw _ (List.mem_of_getElem? (i := 0) rfl))) (g := (mkF m 12 A5 [(.int p4)])) rfl (hb hby at_12) t k) ?_
  refine Go.op (F := fun z => s₁.setTop (mkF m 15 A5 [(.int z)])) (x := (p4 &&& (2147483647 : Int32))) (fun t k => XS.iand X0.here hx rfl (hb hby at_14) rfl k) ?_
  intro v6 hv6
  refine Go.st (S' := s₁.setTop (mkF m 17 A5 [(.int v4), (.int v6)])) (fun t k => XS.iload X0.here hx rfl (hb hby at_15) rfl k) ?_
  have nz8 : v4 ≠ 0 := by
    intro hz7
    have rv2 := rng32 v2
    have wv2 := c_mask p3 (2147483647 : Int32) 31 (by decide) (by decide)
    rw [← hv2] at wv2
    have rv3 := rng32 v3
    have wv3 := c_irem v2 (3 : Int32) 3 (by decide)
    rw [← hv3] at wv3
    have rv4 := rng32 v4
    have wv4 := c_iadd (1 : Int32) v3
    rw [← hv4] at wv4
    have rp3 := rng32 p3
    have lI0 : (0 : Int32).toInt = 0 := by decide
    have lI1 : (1 : Int32).toInt = 1 := by decide
    have lI3 : (3 : Int32).toInt = 3 := by decide
    have lI2147483647 : (2147483647 : Int32).toInt = 2147483647 := by decide
    simp only [Int32.lt_iff_toInt_lt, Int64.lt_iff_toInt_lt, ← Int32.toInt_inj, ← Int64.toInt_inj] at hz7
    omega
  refine Go.op (F := fun z => s₁.setTop (mkF m 18 A5 [(.int z)])) (x := (v6 % v4)) (fun t k => iremM X0 hx rfl (hb hby at_17) rfl nz8 k) ?_
  intro v9 hv9
  let A10 : Array Slot := #[.val (.int p0), .val (.int p1), .val (.int p2), .val (.int p3), .val (.int p4), .val (.int v4), .val (.int v9), .unset, .unset, .unset, .unset, .unset, .unset, .unset, .unset]
  refine Go.st (S' := s₁.setTop (mkF m 20 A10 [])) (fun t k => XS.istore X0.here hx rfl (hb hby at_18) rfl (l' := A10) rfl k) ?_
  refine Go.st (S' := s₁.setTop (mkF m 21 A10 [(.int p0)])) (fun t k => XS.iloadN X0.here hx rfl (hb hby at_20) rfl k) ?_
  obtain ⟨r265, T265, L265, X265, hQ265, st265⟩ := own_callS (W := 0) X0 hx hZ e0 hown (y := (⟨"com/example/heaplens/heaplens/cfg/ScopeNamePinLaw", "draw", "(I)Ljava/lang/String;"⟩ : MethodName)) (hw _ (List.mem_of_getElem? (i := 1) rfl)) (hw _ (List.mem_of_getElem? (i := 2) rfl)) (hw _ (List.mem_of_getElem? (i := 3) rfl)) (hw _ (List.mem_of_getElem? (i := 4) rfl)) (by decide) (rm10 l Z a0 hw [] p0 s_String_COMPACT_STRINGS h0 n0 Z0 (S_s_String_COMPACT_STRINGS) (nz_s_String_COMPACT_STRINGS)) (by decide) (by decide) (by decide) (by decide) (g := (mkF m 21 A10 [(.int p0)])) rfl (by rw [hml]; rfl) (argsL := [(.int p0)]) (rest := []) rfl (lenOf pd_9 rfl) rfl (by show 2 * 0 + _ ≤ _; exact Nat.le_of_eq rfl) (hb hby at_21)
  obtain ⟨b266, rfl, N265, K265_, sz_b266_, f267⟩ := hQ265
  have N265_ := Fr.app N0 N265
  have g_b266 : n0 ≤ b266 := Nat.le_trans Z0 sz_b266_
  have sz_b266 : h0.size ≤ b266 := Nat.le_trans (Keep.refl h0 []).1 sz_b266_
  have Z268 : n0 ≤ T265.heap.size := Nat.le_trans Z0 K265_.1
  have K268 : Keep h0 T265.heap [] := (Keep.refl h0 []).trans K265_ all0
  refine Go.st (S' := T265.setTop (mkF m 24 A10 [(.ref b266)])) st265 ?_
  let A269 : Array Slot := #[.val (.int p0), .val (.int p1), .val (.int p2), .val (.int p3), .val (.int p4), .val (.int v4), .val (.int v9), .val (.ref b266), .unset, .unset, .unset, .unset, .unset, .unset, .unset]
  refine Go.st (S' := T265.setTop (mkF m 26 A269 [])) (fun t k => XS.astore X265.here hx rfl (hb hby at_24) rfl rfl (l' := A269) rfl k) ?_
  refine Go.st (S' := T265.setTop (mkF m 27 A269 [(.int p1)])) (fun t k => XS.iloadN X265.here hx rfl (hb hby at_26) rfl k) ?_
  have f270 := (own_sta_keep (S_s_String_COMPACT_STRINGS) K265_ all0)
  obtain ⟨r271, T271, L271, X271, hQ271, st271⟩ := own_callS (W := 0) X265 hx hZ rfl hown (y := (⟨"com/example/heaplens/heaplens/cfg/ScopeNamePinLaw", "draw", "(I)Ljava/lang/String;"⟩ : MethodName)) (hw _ (List.mem_of_getElem? (i := 1) rfl)) (hw _ (List.mem_of_getElem? (i := 2) rfl)) (hw _ (List.mem_of_getElem? (i := 3) rfl)) (hw _ (List.mem_of_getElem? (i := 4) rfl)) (by decide) (rm10 l Z a0 hw [] p1 s_String_COMPACT_STRINGS T265.heap n0 Z268 (f270) (nz_s_String_COMPACT_STRINGS)) (by decide) (by decide) (by decide) (by decide) (g := (mkF m 27 A269 [(.int p1)])) rfl (by rw [hml]; rfl) (argsL := [(.int p1)]) (rest := []) rfl (lenOf pd_9 rfl) rfl (by show 2 * 0 + _ ≤ _; exact Nat.le_of_eq rfl) (hb hby at_27)
  obtain ⟨b272, rfl, N271, K271_, sz_b272_, f273⟩ := hQ271
  have N271_ := Fr.app N265_ N271
  have g_b272 : n0 ≤ b272 := Nat.le_trans Z268 sz_b272_
  have sz_b272 : h0.size ≤ b272 := Nat.le_trans K268.1 sz_b272_
  have lt_b266_b272 : b266 < b272 := Nat.lt_of_lt_of_le (f267).lt sz_b272_
  have Z274 : n0 ≤ T271.heap.size := Nat.le_trans Z268 K271_.1
  have K274 : Keep h0 T271.heap [] := K268.trans K271_ all0
  refine Go.st (S' := T271.setTop (mkF m 30 A269 [(.ref b272)])) st271 ?_
  let A275 : Array Slot := #[.val (.int p0), .val (.int p1), .val (.int p2), .val (.int p3), .val (.int p4), .val (.int v4), .val (.int v9), .val (.ref b266), .val (.ref b272), .unset, .unset, .unset, .unset, .unset, .unset]
  refine Go.st (S' := T271.setTop (mkF m 32 A275 [])) (fun t k => XS.astore X271.here hx rfl (hb hby at_30) rfl rfl (l' := A275) rfl k) ?_
  refine Go.st (S' := T271.setTop (mkF m 33 A275 [(.int p2)])) (fun t k => XS.iloadN X271.here hx rfl (hb hby at_32) rfl k) ?_
  have f276 := (own_sta_keep (f270) K271_ all0)
  obtain ⟨r277, T277, L277, X277, hQ277, st277⟩ := own_callS (W := 0) X271 hx hZ rfl hown (y := (⟨"com/example/heaplens/heaplens/cfg/ScopeNamePinLaw", "draw", "(I)Ljava/lang/String;"⟩ : MethodName)) (hw _ (List.mem_of_getElem? (i := 1) rfl)) (hw _ (List.mem_of_getElem? (i := 2) rfl)) (hw _ (List.mem_of_getElem? (i := 3) rfl)) (hw _ (List.mem_of_getElem? (i := 4) rfl)) (by decide) (rm10 l Z a0 hw [] p2 s_String_COMPACT_STRINGS T271.heap n0 Z274 (f276) (nz_s_String_COMPACT_STRINGS)) (by decide) (by decide) (by decide) (by decide) (g := (mkF m 33 A275 [(.int p2)])) rfl (by rw [hml]; rfl) (argsL := [(.int p2)]) (rest := []) rfl (lenOf pd_9 rfl) rfl (by show 2 * 0 + _ ≤ _; exact Nat.le_of_eq rfl) (hb hby at_33)
  obtain ⟨b278, rfl, N277, K277_, sz_b278_, f279⟩ := hQ277
  have N277_ := Fr.app N271_ N277
  have g_b278 : n0 ≤ b278 := Nat.le_trans Z274 sz_b278_
  have sz_b278 : h0.size ≤ b278 := Nat.le_trans K274.1 sz_b278_
  have f280 := ((f267).keep K271_)
  have lt_b266_b278 : b266 < b278 := Nat.lt_of_lt_of_le (f280).lt sz_b278_
  have lt_b272_b278 : b272 < b278 := Nat.lt_of_lt_of_le (f273).lt sz_b278_
  have Z281 : n0 ≤ T277.heap.size := Nat.le_trans Z274 K277_.1
  have K281 : Keep h0 T277.heap [] := K274.trans K277_ all0
  refine Go.st (S' := T277.setTop (mkF m 36 A275 [(.ref b278)])) st277 ?_
  let A282 : Array Slot := #[.val (.int p0), .val (.int p1), .val (.int p2), .val (.int p3), .val (.int p4), .val (.int v4), .val (.int v9), .val (.ref b266), .val (.ref b272), .val (.ref b278), .unset, .unset, .unset, .unset, .unset]
  refine Go.st (S' := T277.setTop (mkF m 38 A282 [])) (fun t k => XS.astore X277.here hx rfl (hb hby at_36) rfl rfl (l' := A282) rfl k) ?_
  obtain ⟨T283, h283, X283, e283, E283, A283, D283, -, st283⟩ := newO X277 hx hZ hown (hw _ (List.mem_of_getElem? (i := 35) rfl)) (hw _ (List.mem_of_getElem? (i := 36) rfl)) (hw _ (List.mem_of_getElem? (i := 37) rfl)) rfl (g := (mkF m 38 A282 [])) rfl (hb hby at_38) (by decide) (by decide)
  obtain ⟨b283, gg283⟩ : ∃ z, z = T277.heap.size := ⟨_, rfl⟩
  rw [← gg283] at A283 D283 st283
  have g_b283 : n0 ≤ b283 := Nat.le_trans Z281 (Nat.le_of_eq gg283.symm)
  have sz_b283 : h0.size ≤ b283 := Nat.le_trans K281.1 (Nat.le_of_eq gg283.symm)
  have f284 := ((f280).keep K277_)
  have lt_b266_b283 : b266 < b283 := Nat.lt_of_lt_of_le (f284).lt (Nat.le_of_eq gg283.symm)
  have f285 := ((f273).keep K277_)
  have lt_b272_b283 : b272 < b283 := Nat.lt_of_lt_of_le (f285).lt (Nat.le_of_eq gg283.symm)
  have lt_b278_b283 : b278 < b283 := Nat.lt_of_lt_of_le (f279).lt (Nat.le_of_eq gg283.symm)
  have Z286 : n0 ≤ h283.size := Nat.le_trans Z281 E283.1
  have K286 : Keep h0 h283 [] := K281.ext E283
  have Fb283_modCount : Fld Z h283 b283 "java/util/AbstractList" "modCount" "I" (.int (0 : Int32)) := D283 (Or.inl (hw _ (List.mem_of_getElem? (i := 55) rfl))) (ty := .int) (by decide)
  have Fb283_elementData : Fld Z h283 b283 "java/util/ArrayList" "elementData" "[Ljava/lang/Object;" .null := D283 (Or.inl (hw _ (List.mem_of_getElem? (i := 58) rfl))) (ty := (.array (.object "java/lang/Object"))) (by decide)
  have Fb283_size : Fld Z h283 b283 "java/util/ArrayList" "size" "I" (.int (0 : Int32)) := D283 (Or.inl (hw _ (List.mem_of_getElem? (i := 67) rfl))) (ty := .int) (by decide)
  refine Go.st (S' := T283.setTop (mkF m 41 A282 [(.ref b283)])) st283 ?_
  refine Go.st (S' := T283.setTop (mkF m 42 A282 [(.ref b283), (.ref b283)])) (fun t k => XS.dup X283.here hx rfl (hb hby at_41) rfl rfl k) ?_
  have f317 := (Sta.ext E283 ((own_sta_keep ((own_sta_keep ((own_sta_keep (S_s_ArrayList_DEFAULTCAPACITY_EMPTY_ELEMENTDATA) K265_ all0)) K271_ all0)) K277_ all0)))
  obtain ⟨r318, T318, L318, X318, hQ318, st318⟩ := own_callI (W := 1) (a := b283) X283 hx hZ e283 hown (y := (⟨"java/util/ArrayList", "<init>", "()V"⟩ : MethodName)) rfl (hw _ (List.mem_of_getElem? (i := 38) rfl)) (hw _ (List.mem_of_getElem? (i := 39) rfl)) (hw _ (List.mem_of_getElem? (i := 37) rfl)) (hw _ (List.mem_of_getElem? (i := 40) rfl)) (by decide) (rm14 l Z a0 hw [] b283 s_ArrayList_DEFAULTCAPACITY_EMPTY_ELEMENTDATA h283 n0 Z286 (A283) (Fb283_modCount) (Fb283_elementData) (Fb283_size) (g_b283) (f317)) (by decide) (by decide) (by decide) (by decide) (g := (mkF m 42 A282 [(.ref b283), (.ref b283)])) rfl (by rw [hml]; rfl) (argsL := []) (rest := [(.ref b283)]) rfl (lenOf pd_10 rfl) rfl (by show 2 * 0 + _ ≤ _; exact Nat.le_of_eq rfl) (hb hby at_42)
  obtain ⟨rfl, N318, K318_, f319, f320, f321, f322⟩ := hQ318
  have N318_ := Fr.app N277_ N318
  have Z323 : n0 ≤ T318.heap.size := Nat.le_trans Z286 K318_.1
  have K323 : Keep h0 T318.heap [] := K286.trans K318_ (allS (Or.inr sz_b283) all0)
  refine Go.st (S' := T318.setTop (mkF m 45 A282 [(.ref b283)])) st318 ?_
  let A324 : Array Slot := #[.val (.int p0), .val (.int p1), .val (.int p2), .val (.int p3), .val (.int p4), .val (.int v4), .val (.int v9), .val (.ref b266), .val (.ref b272), .val (.ref b278), .val (.ref b283), .unset, .unset, .unset, .unset]
  refine Go.st (S' := T318.setTop (mkF m 47 A324 [])) (fun t k => XS.astore X318.here hx rfl (hb hby at_45) rfl rfl (l' := A324) rfl k) ?_
  refine Go.st (S' := T318.setTop (mkF m 49 A324 [(.ref b283)])) (fun t k => XS.aload X318.here hx rfl (hb hby at_47) rfl rfl k) ?_
  refine Go.st (S' := T318.setTop (mkF m 51 A324 [(.ref b266), (.ref b283)])) (fun t k => XS.aload X318.here hx rfl (hb hby at_49) rfl rfl k) ?_
  have f473 := ((((f284).ext E283)).keep K318_)
  have f474 := ((((((((((V_s_ArrayList_DEFAULTCAPACITY_EMPTY_ELEMENTDATA).keep K265_ nin0)).keep K271_ nin0)).keep K277_ nin0)).ext E283)).keep K318_ (ninS (Nat.ne_of_lt (Nat.lt_of_lt_of_le (V_s_ArrayList_DEFAULTCAPACITY_EMPTY_ELEMENTDATA).lt sz_b283)) nin0))
  have f475 := (own_sta_keep (f317) K318_ (allS (own_exa_plain A283) all0))
  obtain ⟨r476, T476, L476, X476, hQ476, st476⟩ := own_callV (W := 0) (a := b283) (C := "java/util/ArrayList") X318 hx hZ rfl hown (y := (⟨"java/util/ArrayList", "add", "(Ljava/lang/Object;)Z"⟩ : MethodName)) (z := (⟨"java/util/ArrayList", "add", "(Ljava/lang/Object;)Z"⟩ : MethodName)) (hw _ (List.mem_of_getElem? (i := 59) rfl)) (hw _ (List.mem_of_getElem? (i := 60) rfl)) (notFace_of_selects (args := #[]) (mvT hZ (hw _ (List.mem_of_getElem? (i := 62) rfl)))) (hw _ (List.mem_of_getElem? (i := 62) rfl)) (hw _ (List.mem_of_getElem? (i := 61) rfl)) (hw _ (List.mem_of_getElem? (i := 37) rfl)) (hw _ (List.mem_of_getElem? (i := 63) rfl)) (by decide) (f319) (rm21 l Z a0 hw [] b283 b266 s_ArrayList_DEFAULTCAPACITY_EMPTY_ELEMENTDATA k_s_ArrayList_DEFAULTCAPACITY_EMPTY_ELEMENTDATA T318.heap n0 Z323 (f320) (f319) (g_b283) (f321) (f322) (f473) (f474) ((Nat.ne_of_lt (Nat.lt_of_lt_of_le (V_s_ArrayList_DEFAULTCAPACITY_EMPTY_ELEMENTDATA).lt sz_b283))) (f475)) (by decide) (by decide) (by decide) (by decide) (g := (mkF m 51 A324 [(.ref b266), (.ref b283)])) rfl (by rw [hml]; rfl) (argsL := [(.ref b266)]) (rest := []) rfl (lenOf pd_15 rfl) rfl (by show 2 * 0 + _ ≤ _; exact Nat.le_of_eq rfl) (hb hby at_51)
  obtain ⟨b477, k478, rfl, N476, K476_, sz_b477_, f479, f480, f481, f482, f483, f484, f485⟩ := hQ476
  have N476_ := Fr.app N318_ N476
  have g_b477 : n0 ≤ b477 := Nat.le_trans Z323 sz_b477_
  have sz_b477 : h0.size ≤ b477 := Nat.le_trans K323.1 sz_b477_
  have lt_b266_b477 : b266 < b477 := Nat.lt_of_lt_of_le (f473).lt sz_b477_
  have f486 := ((((f285).ext E283)).keep K318_)
  have lt_b272_b477 : b272 < b477 := Nat.lt_of_lt_of_le (f486).lt sz_b477_
  have f487 := ((((f279).ext E283)).keep K318_)
  have lt_b278_b477 : b278 < b477 := Nat.lt_of_lt_of_le (f487).lt sz_b477_
  have lt_b283_b477 : b283 < b477 := Nat.lt_of_lt_of_le (f319).lt sz_b477_
  have Z488 : n0 ≤ T476.heap.size := Nat.le_trans Z323 K476_.1
  have K488 : Keep h0 T476.heap [] := K323.trans K476_ (allS (Or.inr sz_b283) all0)
  refine Go.st (S' := T476.setTop (mkF m 54 A324 [(.int (1 : Int32))])) st476 ?_
  refine Go.st (S' := T476.setTop (mkF m 55 A324 [])) (fun t k => XS.pop X476.here hx rfl (hb hby at_54) rfl rfl k) ?_
  refine Go.st (S' := T476.setTop (mkF m 57 A324 [(.int v4)])) (fun t k => XS.iload X476.here hx rfl (hb hby at_55) rfl k) ?_
  refine Go.st (S' := T476.setTop (mkF m 58 A324 [(.int (2 : Int32)), (.int v4)])) (fun t k => XS.iconst X476.here hx rfl (hb hby at_57) k) ?_
  by_cases hc756 : (v4 < (2 : Int32))
  · refine Go.st (S' := T476.setTop (mkF m 69 A324 [])) (fun t k => XS.icmpYes X476.here hx rfl (pc0 := 58) (pc' := 69) rfl (hb hby at_58) rfl (tlt hc756).1 (by decide) (by decide) k) ?_
    refine Go.st (S' := T476.setTop (mkF m 71 A324 [(.int v4)])) (fun t k => XS.iload X476.here hx rfl (hb hby at_69) rfl k) ?_
    refine Go.st (S' := T476.setTop (mkF m 72 A324 [(.int (3 : Int32)), (.int v4)])) (fun t k => XS.iconst X476.here hx rfl (hb hby at_71) k) ?_
    by_cases hc823 : (v4 < (3 : Int32))
    · refine Go.st (S' := T476.setTop (mkF m 83 A324 [])) (fun t k => XS.icmpYes X476.here hx rfl (pc0 := 72) (pc' := 83) rfl (hb hby at_72) rfl (tlt hc823).1 (by decide) (by decide) k) ?_
      refine Go.st (S' := T476.setTop (mkF m 85 A324 [(.int v4)])) (fun t k => XS.iload X476.here hx rfl (hb hby at_83) rfl k) ?_
      have hj825 : v4 = (1 : Int32) := by
        refine Decidable.byContradiction fun hc826 => ?_
        have rv2 := rng32 v2
        have wv2 := c_mask p3 (2147483647 : Int32) 31 (by decide) (by decide)
        rw [← hv2] at wv2
        have rv3 := rng32 v3
        have wv3 := c_irem v2 (3 : Int32) 3 (by decide)
        rw [← hv3] at wv3
        have rv4 := rng32 v4
        have wv4 := c_iadd (1 : Int32) v3
        rw [← hv4] at wv4
        have rp3 := rng32 p3
        have lI1 : (1 : Int32).toInt = 1 := by decide
        have lI2 : (2 : Int32).toInt = 2 := by decide
        have lI3 : (3 : Int32).toInt = 3 := by decide
        have lI2147483647 : (2147483647 : Int32).toInt = 2147483647 := by decide
        simp only [Int32.lt_iff_toInt_lt, Int64.lt_iff_toInt_lt, ← Int32.toInt_inj, ← Int64.toInt_inj] at hc756 hc823 hc826
        omega
      obtain ⟨v827, hv827⟩ : ∃ z, z = ((1 : Int32) + v3) := ⟨_, rfl⟩
      have hc828 : v827 = (1 : Int32) := (hv827.trans hv4.symm).trans hj825
      subst hj825
      let A829 : Array Slot := #[.val (.int p0), .val (.int p1), .val (.int p2), .val (.int p3), .val (.int p4), .val (.int (1 : Int32)), .val (.int v9), .val (.ref b266), .val (.ref b272), .val (.ref b278), .val (.ref b283), .unset, .unset, .unset, .unset]
      obtain ⟨T830, h830, k830, X830, e830, E830, A830, B830, st830⟩ := newPE X476 hx hZ (hw _ (List.mem_of_getElem? (i := 90) rfl)) rfl (g := (mkF m 85 A829 [(.int (1 : Int32))])) rfl (hb hby at_85) rfl (by decide) (cap := 1) (by decide) (by decide) (by decide) (by decide) (ad := "[I") (by decide)
      obtain ⟨b830, gg830⟩ : ∃ z, z = T476.heap.size := ⟨_, rfl⟩
      rw [← gg830] at A830 B830 st830
      have g_b830 : n0 ≤ b830 := Nat.le_trans Z488 (Nat.le_of_eq gg830.symm)
      have sz_b830 : h0.size ≤ b830 := Nat.le_trans K488.1 (Nat.le_of_eq gg830.symm)
      have f831 := ((f473).keep K476_)
      have lt_b266_b830 : b266 < b830 := Nat.lt_of_lt_of_le (f831).lt (Nat.le_of_eq gg830.symm)
      have f832 := ((f486).keep K476_)
      have lt_b272_b830 : b272 < b830 := Nat.lt_of_lt_of_le (f832).lt (Nat.le_of_eq gg830.symm)
      have f833 := ((f487).keep K476_)
      have lt_b278_b830 : b278 < b830 := Nat.lt_of_lt_of_le (f833).lt (Nat.le_of_eq gg830.symm)
      have lt_b283_b830 : b283 < b830 := Nat.lt_of_lt_of_le (f480).lt (Nat.le_of_eq gg830.symm)
      have lt_b477_b830 : b477 < b830 := Nat.lt_of_lt_of_le (f485).lt (Nat.le_of_eq gg830.symm)
      have Z834 : n0 ≤ h830.size := Nat.le_trans Z488 E830.1
      have K834 : Keep h0 h830 [] := K488.ext E830
      have V830 : Arv Z h830 b830 k830 .int (1 : Int32) [(.int (0 : Int32))] (.int (0 : Int32)) := (Arv.new A830 (by decide)).pad (pad_rep [] (.int (0 : Int32)) 1)
      refine Go.st (S' := T830.setTop (mkF m 87 A829 [(.ref b830)])) st830 ?_
      let A835 : Array Slot := #[.val (.int p0), .val (.int p1), .val (.int p2), .val (.int p3), .val (.int p4), .val (.int (1 : Int32)), .val (.int v9), .val (.ref b266), .val (.ref b272), .val (.ref b278), .val (.ref b283), .val (.ref b830), .unset, .unset, .unset]
      refine Go.st (S' := T830.setTop (mkF m 89 A835 [])) (fun t k => XS.astore X830.here hx rfl (hb hby at_87) rfl rfl (l' := A835) rfl k) ?_
      obtain ⟨T836, h836, X836, e836, E836, A836, D836, -, st836⟩ := newO X830 hx hZ hown (hw _ (List.mem_of_getElem? (i := 91) rfl)) (hw _ (List.mem_of_getElem? (i := 92) rfl)) (hw _ (List.mem_of_getElem? (i := 93) rfl)) e830 (g := (mkF m 89 A835 [])) rfl (hb hby at_89) (by decide) (by decide)
      obtain ⟨b836, gg836⟩ : ∃ z, z = h830.size := ⟨_, rfl⟩
      rw [← gg836] at A836 D836 st836
      have g_b836 : n0 ≤ b836 := Nat.le_trans Z834 (Nat.le_of_eq gg836.symm)
      have sz_b836 : h0.size ≤ b836 := Nat.le_trans K834.1 (Nat.le_of_eq gg836.symm)
      have f837 := ((f831).ext E830)
      have lt_b266_b836 : b266 < b836 := Nat.lt_of_lt_of_le (f837).lt (Nat.le_of_eq gg836.symm)
      have f838 := ((f832).ext E830)
      have lt_b272_b836 : b272 < b836 := Nat.lt_of_lt_of_le (f838).lt (Nat.le_of_eq gg836.symm)
      have f839 := ((f833).ext E830)
      have lt_b278_b836 : b278 < b836 := Nat.lt_of_lt_of_le (f839).lt (Nat.le_of_eq gg836.symm)
      have f840 := ((f480).ext E830)
      have lt_b283_b836 : b283 < b836 := Nat.lt_of_lt_of_le (f840).lt (Nat.le_of_eq gg836.symm)
      have f841 := ((f485).ext E830)
      have lt_b477_b836 : b477 < b836 := Nat.lt_of_lt_of_le (f841).lt (Nat.le_of_eq gg836.symm)
      have lt_b830_b836 : b830 < b836 := Nat.lt_of_lt_of_le (B830).lt (Nat.le_of_eq gg836.symm)
      have Z842 : n0 ≤ h836.size := Nat.le_trans Z834 E836.1
      have K842 : Keep h0 h836 [] := K834.ext E836
      have Fb836_names : Fld Z h836 b836 "com/example/heaplens/heaplens/cfg/Scope" "names" "Ljava/util/List;" .null := D836 (Or.inr (hw _ (List.mem_of_getElem? (i := 184) rfl))) (ty := (.object "java/util/List")) (by decide)
      have Fb836_slots : Fld Z h836 b836 "com/example/heaplens/heaplens/cfg/Scope" "slots" "[I" .null := D836 (Or.inr (hw _ (List.mem_of_getElem? (i := 195) rfl))) (ty := (.array .int)) (by decide)
      refine Go.st (S' := T836.setTop (mkF m 92 A835 [(.ref b836)])) st836 ?_
      refine Go.st (S' := T836.setTop (mkF m 93 A835 [(.ref b836), (.ref b836)])) (fun t k => XS.dup X836.here hx rfl (hb hby at_92) rfl rfl k) ?_
      refine Go.st (S' := T836.setTop (mkF m 95 A835 [(.ref b283), (.ref b836), (.ref b836)])) (fun t k => XS.aload X836.here hx rfl (hb hby at_93) rfl rfl k) ?_
      refine Go.st (S' := T836.setTop (mkF m 97 A835 [(.ref b830), (.ref b283), (.ref b836), (.ref b836)])) (fun t k => XS.aload X836.here hx rfl (hb hby at_95) rfl rfl k) ?_
      have f843 := ((f840).ext E836)
      have f844 := ((((f482).ext E830)).ext E836)
      have f845 := ((((f481).ext E830)).ext E836)
      have f846 := ((f841).ext E836)
      have f847 := ((((f483).ext E830)).ext E836)
      have f848 := ((f837).ext E836)
      have f849 := (Sta.ext E836 ((Sta.ext E830 ((own_sta_keep ((own_sta_keep ((Sta.ext E283 ((own_sta_keep ((own_sta_keep ((own_sta_keep (S_s_ImmutableCollections_EMPTY) K265_ all0)) K271_ all0)) K277_ all0)))) K318_ (allS (own_exa_plain A283) all0))) K476_ (allS (own_exa_plain f319) all0))))))
      have f850 := ((V830).ext E836)
      have f851 := ((B830).ext E836)
      obtain ⟨r852, T852, L852, X852, hQ852, st852⟩ := own_callI (W := 1) (a := b836) X836 hx hZ e836 hown (y := (⟨"com/example/heaplens/heaplens/cfg/Scope", "<init>", "(Ljava/util/List;[I)V"⟩ : MethodName)) rfl (hw _ (List.mem_of_getElem? (i := 94) rfl)) (hw _ (List.mem_of_getElem? (i := 95) rfl)) (hw _ (List.mem_of_getElem? (i := 93) rfl)) (hw _ (List.mem_of_getElem? (i := 96) rfl)) (by decide) (rm34 l Z a0 hw [] b836 b283 b830 b477 k478 b266 s_mir__Ljava_lang_Object_ s_ImmutableCollections_EMPTY (.null) k830 (0 : Int32) (.null) h836 n0 Z842 (f843) (f844) (f845) (f846) (f847) (f848) (M_s_mir__Ljava_lang_Object_) (f849) (A836) (Fb836_names) (g_b836) (f850) ((Nat.ne_of_lt lt_b830_b836)) (f851) (Fb836_slots)) (by decide) (by decide) (by decide) (by decide) (g := (mkF m 97 A835 [(.ref b830), (.ref b283), (.ref b836), (.ref b836)])) rfl (by rw [hml]; rfl) (argsL := [(.ref b283), (.ref b830)]) (rest := [(.ref b836)]) rfl (lenOf pd_23 rfl) rfl (by show 2 * 0 + _ ≤ _; exact Nat.le_of_eq rfl) (hb hby at_97)
      obtain ⟨b853, b854, b855, k856, rfl, N852, K852_, sz_b853_, sz_b854_, sz_b855_, f857, f858, f859, f860, f861, f862, f863, f864, f865, f866, f867, hlt868, hlt869, hlt870⟩ := hQ852
      have N852_ := Fr.app N476_ N852
      have g_b853 : n0 ≤ b853 := Nat.le_trans Z842 sz_b853_
      have sz_b853 : h0.size ≤ b853 := Nat.le_trans K842.1 sz_b853_
      have lt_b266_b853 : b266 < b853 := Nat.lt_of_lt_of_le (f848).lt sz_b853_
      have f871 := ((f838).ext E836)
      have lt_b272_b853 : b272 < b853 := Nat.lt_of_lt_of_le (f871).lt sz_b853_
      have f872 := ((f839).ext E836)
      have lt_b278_b853 : b278 < b853 := Nat.lt_of_lt_of_le (f872).lt sz_b853_
      have lt_b283_b853 : b283 < b853 := Nat.lt_of_lt_of_le (f843).lt sz_b853_
      have lt_b477_b853 : b477 < b853 := Nat.lt_of_lt_of_le (f846).lt sz_b853_
      have lt_b830_b853 : b830 < b853 := Nat.lt_of_lt_of_le (f851).lt sz_b853_
      have lt_b836_b853 : b836 < b853 := Nat.lt_of_lt_of_le (A836).lt sz_b853_
      have g_b854 : n0 ≤ b854 := Nat.le_trans Z842 sz_b854_
      have sz_b854 : h0.size ≤ b854 := Nat.le_trans K842.1 sz_b854_
      have lt_b266_b854 : b266 < b854 := Nat.lt_of_lt_of_le (f848).lt sz_b854_
      have lt_b272_b854 : b272 < b854 := Nat.lt_of_lt_of_le (f871).lt sz_b854_
      have lt_b278_b854 : b278 < b854 := Nat.lt_of_lt_of_le (f872).lt sz_b854_
      have lt_b283_b854 : b283 < b854 := Nat.lt_of_lt_of_le (f843).lt sz_b854_
      have lt_b477_b854 : b477 < b854 := Nat.lt_of_lt_of_le (f846).lt sz_b854_
      have lt_b830_b854 : b830 < b854 := Nat.lt_of_lt_of_le (f851).lt sz_b854_
      have lt_b836_b854 : b836 < b854 := Nat.lt_of_lt_of_le (A836).lt sz_b854_
      have g_b855 : n0 ≤ b855 := Nat.le_trans Z842 sz_b855_
      have sz_b855 : h0.size ≤ b855 := Nat.le_trans K842.1 sz_b855_
      have lt_b266_b855 : b266 < b855 := Nat.lt_of_lt_of_le (f848).lt sz_b855_
      have lt_b272_b855 : b272 < b855 := Nat.lt_of_lt_of_le (f871).lt sz_b855_
      have lt_b278_b855 : b278 < b855 := Nat.lt_of_lt_of_le (f872).lt sz_b855_
      have lt_b283_b855 : b283 < b855 := Nat.lt_of_lt_of_le (f843).lt sz_b855_
      have lt_b477_b855 : b477 < b855 := Nat.lt_of_lt_of_le (f846).lt sz_b855_
      have lt_b830_b855 : b830 < b855 := Nat.lt_of_lt_of_le (f851).lt sz_b855_
      have lt_b836_b855 : b836 < b855 := Nat.lt_of_lt_of_le (A836).lt sz_b855_
      have Z873 : n0 ≤ T852.heap.size := Nat.le_trans Z842 K852_.1
      have K873 : Keep h0 T852.heap [] := K842.trans K852_ (allS (Or.inr sz_b836) all0)
      refine Go.st (S' := T852.setTop (mkF m 100 A835 [(.ref b836)])) st852 ?_
      let A874 : Array Slot := #[.val (.int p0), .val (.int p1), .val (.int p2), .val (.int p3), .val (.int p4), .val (.int (1 : Int32)), .val (.int v9), .val (.ref b266), .val (.ref b272), .val (.ref b278), .val (.ref b283), .val (.ref b830), .val (.ref b836), .unset, .unset]
      refine Go.st (S' := T852.setTop (mkF m 102 A874 [])) (fun t k => XS.astore X852.here hx rfl (hb hby at_100) rfl rfl (l' := A874) rfl k) ?_
      refine Go.st (S' := T852.setTop (mkF m 104 A874 [(.int v9)])) (fun t k => XS.iload X852.here hx rfl (hb hby at_102) rfl k) ?_
      by_cases hc877 : (v9 = (0 : Int32))
      · refine Go.st (S' := T852.setTop (mkF m 107 A874 [])) (fun t k => XS.ifNo X852.here hx rfl (hb hby at_104) rfl ((if0 _ _).trans (teq hc877).2) k) ?_
        refine Go.st (S' := T852.setTop (mkF m 109 A874 [(.ref b266)])) (fun t k => XS.aload X852.here hx rfl (hb hby at_107) rfl rfl k) ?_
        let A878 : Array Slot := #[.val (.int p0), .val (.int p1), .val (.int p2), .val (.int p3), .val (.int p4), .val (.int (1 : Int32)), .val (.int v9), .val (.ref b266), .val (.ref b272), .val (.ref b278), .val (.ref b283), .val (.ref b830), .val (.ref b836), .val (.ref b266), .unset]
        refine Go.st (S' := T852.setTop (mkF m 111 A878 [])) (fun t k => XS.astore X852.here hx rfl (hb hby at_109) rfl rfl (l' := A878) rfl k) ?_
        refine Go.st (S' := T852.setTop (mkF m 131 A878 [])) (fun t k => XS.goto X852.here hx rfl (pc0 := 111) (pc' := 131) rfl (hb hby at_111) (by decide) (by decide) k) ?_
        refine Go.st (S' := T852.setTop (mkF m 133 A878 [(.ref b836)])) (fun t k => XS.aload X852.here hx rfl (hb hby at_131) rfl rfl k) ?_
        refine Go.st (S' := T852.setTop (mkF m 135 A878 [(.int v9), (.ref b836)])) (fun t k => XS.iload X852.here hx rfl (hb hby at_133) rfl k) ?_
        have f879 := (own_sta_keep (f849) K852_ (allS (own_exa_plain A836) all0))
        have no880 : ¬ ((¬ (v9 = (0 : Int32))) ∧ (v9 = (1 : Int32))) := by
          rintro ⟨hc881, hc882⟩
          have rv6 := rng32 v6
          have wv6 := c_mask p4 (2147483647 : Int32) 31 (by decide) (by decide)
          rw [← hv6] at wv6
          have rv9 := rng32 v9
          have wv9 := c_irem v6 (1 : Int32) 1 (by decide)
          rw [← hv9] at wv9
          have rp4 := rng32 p4
          have lI0 : (0 : Int32).toInt = 0 := by decide
          have lI1 : (1 : Int32).toInt = 1 := by decide
          have lI2147483647 : (2147483647 : Int32).toInt = 2147483647 := by decide
          simp only [Int32.lt_iff_toInt_lt, Int64.lt_iff_toInt_lt, ← Int32.toInt_inj, ← Int64.toInt_inj] at hc877 hc881 hc882
          omega
        have no883 : ¬ ((¬ (v9 = (0 : Int32))) ∧ (¬ (v9 = (1 : Int32)))) := by
          rintro ⟨hc884, hc885⟩
          have rv6 := rng32 v6
          have wv6 := c_mask p4 (2147483647 : Int32) 31 (by decide) (by decide)
          rw [← hv6] at wv6
          have rv9 := rng32 v9
          have wv9 := c_irem v6 (1 : Int32) 1 (by decide)
          rw [← hv9] at wv9
          have rp4 := rng32 p4
          have lI0 : (0 : Int32).toInt = 0 := by decide
          have lI1 : (1 : Int32).toInt = 1 := by decide
          have lI2147483647 : (2147483647 : Int32).toInt = 2147483647 := by decide
          simp only [Int32.lt_iff_toInt_lt, Int64.lt_iff_toInt_lt, ← Int32.toInt_inj, ← Int64.toInt_inj] at hc877 hc884 hc885
          omega
        have f886 := ((f848).keep K852_)
        obtain ⟨r887, T887, L887, X887, hQ887, st887⟩ := own_callV (W := 0) (a := b836) (C := "com/example/heaplens/heaplens/cfg/Scope") X852 hx hZ rfl hown (y := (⟨"com/example/heaplens/heaplens/cfg/Scope", "name", "(I)Ljava/lang/String;"⟩ : MethodName)) (z := (⟨"com/example/heaplens/heaplens/cfg/Scope", "name", "(I)Ljava/lang/String;"⟩ : MethodName)) (hw _ (List.mem_of_getElem? (i := 196) rfl)) (hw _ (List.mem_of_getElem? (i := 197) rfl)) (notFace_of_selects (args := #[]) (mvT hZ (hw _ (List.mem_of_getElem? (i := 199) rfl)))) (hw _ (List.mem_of_getElem? (i := 199) rfl)) (hw _ (List.mem_of_getElem? (i := 198) rfl)) (hw _ (List.mem_of_getElem? (i := 93) rfl)) (hw _ (List.mem_of_getElem? (i := 200) rfl)) (by decide) (f863) (rm36 l Z a0 hw [] b836 v9 b854 b266 s_ImmutableCollections_EMPTY T852.heap n0 Z873 (f864) (f860) (f861) (f862) (f879) (no880) (no883) (f886)) (by decide) (by decide) (by decide) (by decide) (g := (mkF m 135 A878 [(.int v9), (.ref b836)])) rfl (by rw [hml]; rfl) (argsL := [(.int v9)]) (rest := []) rfl (lenOf pd_9 rfl) rfl (by show 2 * 0 + _ ≤ _; exact Nat.le_of_eq rfl) (hb hby at_135)
        obtain ⟨hc888, rfl, N887, e887⟩ := hQ887
        have N887_ := Fr.app N852_ N887
        refine Go.st (S' := T887.setTop (mkF m 138 A878 [(.ref b266)])) st887 ?_
        let A889 : Array Slot := #[.val (.int p0), .val (.int p1), .val (.int p2), .val (.int p3), .val (.int p4), .val (.int (1 : Int32)), .val (.int v9), .val (.ref b266), .val (.ref b272), .val (.ref b278), .val (.ref b283), .val (.ref b830), .val (.ref b836), .val (.ref b266), .val (.ref b266)]
        refine Go.st (S' := T887.setTop (mkF m 140 A889 [])) (fun t k => XS.astore X887.here hx rfl (hb hby at_138) rfl rfl (l' := A889) rfl k) ?_
        refine Go.st (S' := T887.setTop (mkF m 142 A889 [(.ref b266)])) (fun t k => XS.aload X887.here hx rfl (hb hby at_140) rfl rfl k) ?_
        refine Go.st (S' := T887.setTop (mkF m 145 A889 [])) (fun t k => XS.ifnullNo X887.here hx rfl (hb hby at_142) rfl k) ?_
        refine Go.st (S' := T887.setTop (mkF m 147 A889 [(.ref b266)])) (fun t k => XS.aload X887.here hx rfl (hb hby at_145) rfl rfl k) ?_
        refine Go.st (S' := T887.setTop (mkF m 149 A889 [(.ref b266), (.ref b266)])) (fun t k => XS.aload X887.here hx rfl (hb hby at_147) rfl rfl k) ?_
        obtain ⟨r890, T890, L890, X890, hQ890, st890⟩ := own_callV (W := 0) (a := b266) (C := "java/lang/String") X887 hx hZ e887 hown (y := (⟨"java/lang/String", "equals", "(Ljava/lang/Object;)Z"⟩ : MethodName)) (z := (⟨"java/lang/String", "equals", "(Ljava/lang/Object;)Z"⟩ : MethodName)) (hw _ (List.mem_of_getElem? (i := 211) rfl)) (hw _ (List.mem_of_getElem? (i := 212) rfl)) (notFace_of_selects (args := #[]) (mvT hZ (hw _ (List.mem_of_getElem? (i := 214) rfl)))) (hw _ (List.mem_of_getElem? (i := 214) rfl)) (hw _ (List.mem_of_getElem? (i := 213) rfl)) (hw _ (List.mem_of_getElem? (i := 8) rfl)) (hw _ (List.mem_of_getElem? (i := 215) rfl)) (by decide) (f886) (rm37 l Z a0 hw [] b266 T852.heap n0 Z873 ) (by decide) (by decide) (by decide) (by decide) (g := (mkF m 149 A889 [(.ref b266), (.ref b266)])) rfl (by rw [hml]; rfl) (argsL := [(.ref b266)]) (rest := []) rfl (lenOf pd_15 rfl) rfl (by show 2 * 0 + _ ≤ _; exact Nat.le_of_eq rfl) (hb hby at_149)
        obtain ⟨rfl, N890, e890⟩ := hQ890
        have N890_ := Fr.app N887_ N890
        refine Go.st (S' := T890.setTop (mkF m 152 A889 [(.int (1 : Int32))])) st890 ?_
        refine Go.st (S' := T890.setTop (mkF m 155 A889 [])) (fun t k => XS.ifNo X890.here hx rfl (hb hby at_152) rfl ((if0 _ _).trans (feq (by decide : (¬ ((1 : Int32) = (0 : Int32))))).1) k) ?_
        refine Go.st (S' := T890.setTop (mkF m 156 A889 [(.int (1 : Int32))])) (fun t k => XS.iconst X890.here hx rfl (hb hby at_155) k) ?_
        refine Go.st (S' := T890.setTop (mkF m 160 A889 [(.int (1 : Int32))])) (fun t k => XS.goto X890.here hx rfl (pc0 := 156) (pc' := 160) rfl (hb hby at_156) (by decide) (by decide) k) ?_
        exact Go.ret X890 (v := some (.int (1 : Int32))) (fun h => by rw [Bd.returns] at h; cases h) Bd.notSynchronized (fun fs hr => retN X890 hx (t := .boolean) Bd.returns (by simp) (hb hby at_160) hr) (by decide) (by decide) ⟨rfl, N890_⟩
      · exfalso
        have rv6 := rng32 v6
        have wv6 := c_mask p4 (2147483647 : Int32) 31 (by decide) (by decide)
        rw [← hv6] at wv6
        have rv9 := rng32 v9
        have wv9 := c_irem v6 (1 : Int32) 1 (by decide)
        rw [← hv9] at wv9
        have rp4 := rng32 p4
        have lI0 : (0 : Int32).toInt = 0 := by decide
        have lI1 : (1 : Int32).toInt = 1 := by decide
        have lI2147483647 : (2147483647 : Int32).toInt = 2147483647 := by decide
        simp only [Int32.lt_iff_toInt_lt, Int64.lt_iff_toInt_lt, ← Int32.toInt_inj, ← Int64.toInt_inj] at hc877
        omega
    · exfalso
      have rv2 := rng32 v2
      have wv2 := c_mask p3 (2147483647 : Int32) 31 (by decide) (by decide)
      rw [← hv2] at wv2
      have rv3 := rng32 v3
      have wv3 := c_irem v2 (3 : Int32) 3 (by decide)
      rw [← hv3] at wv3
      have rv4 := rng32 v4
      have wv4 := c_iadd (1 : Int32) v3
      rw [← hv4] at wv4
      have rp3 := rng32 p3
      have lI1 : (1 : Int32).toInt = 1 := by decide
      have lI2 : (2 : Int32).toInt = 2 := by decide
      have lI3 : (3 : Int32).toInt = 3 := by decide
      have lI2147483647 : (2147483647 : Int32).toInt = 2147483647 := by decide
      simp only [Int32.lt_iff_toInt_lt, Int64.lt_iff_toInt_lt, ← Int32.toInt_inj, ← Int64.toInt_inj] at hc756 hc823
      omega
  · refine Go.st (S' := T476.setTop (mkF m 61 A324 [])) (fun t k => XS.icmpNo X476.here hx rfl (hb hby at_58) rfl (flt hc756).1 k) ?_
    refine Go.st (S' := T476.setTop (mkF m 63 A324 [(.ref b283)])) (fun t k => XS.aload X476.here hx rfl (hb hby at_61) rfl rfl k) ?_
    refine Go.st (S' := T476.setTop (mkF m 65 A324 [(.ref b272), (.ref b283)])) (fun t k => XS.aload X476.here hx rfl (hb hby at_63) rfl rfl k) ?_
    have f891 := ((f486).keep K476_)
    obtain ⟨r892, T892, L892, X892, hQ892, st892⟩ := own_callV (W := 0) (a := b283) (C := "java/util/ArrayList") X476 hx hZ rfl hown (y := (⟨"java/util/ArrayList", "add", "(Ljava/lang/Object;)Z"⟩ : MethodName)) (z := (⟨"java/util/ArrayList", "add", "(Ljava/lang/Object;)Z"⟩ : MethodName)) (hw _ (List.mem_of_getElem? (i := 59) rfl)) (hw _ (List.mem_of_getElem? (i := 60) rfl)) (notFace_of_selects (args := #[]) (mvT hZ (hw _ (List.mem_of_getElem? (i := 62) rfl)))) (hw _ (List.mem_of_getElem? (i := 62) rfl)) (hw _ (List.mem_of_getElem? (i := 61) rfl)) (hw _ (List.mem_of_getElem? (i := 37) rfl)) (hw _ (List.mem_of_getElem? (i := 63) rfl)) (by decide) (f480) (rm39 l Z a0 hw [] b283 b272 b477 k478 b266 T476.heap n0 Z488 (f479) (f480) (g_b283) (f481) (f482) (f483) ((Nat.ne_of_gt lt_b283_b477)) (f891) (f484) (g_b477) (f485)) (by decide) (by decide) (by decide) (by decide) (g := (mkF m 65 A324 [(.ref b272), (.ref b283)])) rfl (by rw [hml]; rfl) (argsL := [(.ref b272)]) (rest := []) rfl (lenOf pd_15 rfl) rfl (by show 2 * 0 + _ ≤ _; exact Nat.le_of_eq rfl) (hb hby at_65)
    obtain ⟨rfl, N892, K892_, f893, f894, f895, f896, f897, f898, f899⟩ := hQ892
    have N892_ := Fr.app N476_ N892
    have Z900 : n0 ≤ T892.heap.size := Nat.le_trans Z488 K892_.1
    have K900 : Keep h0 T892.heap [] := K488.trans K892_ (allS (Or.inr sz_b283) (allS (Or.inr sz_b477) all0))
    refine Go.st (S' := T892.setTop (mkF m 68 A324 [(.int (1 : Int32))])) st892 ?_
    refine Go.st (S' := T892.setTop (mkF m 69 A324 [])) (fun t k => XS.pop X892.here hx rfl (hb hby at_68) rfl rfl k) ?_
    refine Go.st (S' := T892.setTop (mkF m 71 A324 [(.int v4)])) (fun t k => XS.iload X892.here hx rfl (hb hby at_69) rfl k) ?_
    refine Go.st (S' := T892.setTop (mkF m 72 A324 [(.int (3 : Int32)), (.int v4)])) (fun t k => XS.iconst X892.here hx rfl (hb hby at_71) k) ?_
    by_cases hc1186 : (v4 < (3 : Int32))
    · refine Go.st (S' := T892.setTop (mkF m 83 A324 [])) (fun t k => XS.icmpYes X892.here hx rfl (pc0 := 72) (pc' := 83) rfl (hb hby at_72) rfl (tlt hc1186).1 (by decide) (by decide) k) ?_
      refine Go.st (S' := T892.setTop (mkF m 85 A324 [(.int v4)])) (fun t k => XS.iload X892.here hx rfl (hb hby at_83) rfl k) ?_
      have hj1188 : v4 = (2 : Int32) := by
        refine Decidable.byContradiction fun hc1189 => ?_
        have rv2 := rng32 v2
        have wv2 := c_mask p3 (2147483647 : Int32) 31 (by decide) (by decide)
        rw [← hv2] at wv2
        have rv3 := rng32 v3
        have wv3 := c_irem v2 (3 : Int32) 3 (by decide)
        rw [← hv3] at wv3
        have rv4 := rng32 v4
        have wv4 := c_iadd (1 : Int32) v3
        rw [← hv4] at wv4
        have rp3 := rng32 p3
        have lI1 : (1 : Int32).toInt = 1 := by decide
        have lI2 : (2 : Int32).toInt = 2 := by decide
        have lI3 : (3 : Int32).toInt = 3 := by decide
        have lI2147483647 : (2147483647 : Int32).toInt = 2147483647 := by decide
        simp only [Int32.lt_iff_toInt_lt, Int64.lt_iff_toInt_lt, ← Int32.toInt_inj, ← Int64.toInt_inj] at hc756 hc1186 hc1189
        omega
      obtain ⟨v1190, hv1190⟩ : ∃ z, z = ((1 : Int32) + v3) := ⟨_, rfl⟩
      have hc1191 : v1190 = (2 : Int32) := (hv1190.trans hv4.symm).trans hj1188
      subst hj1188
      let A1192 : Array Slot := #[.val (.int p0), .val (.int p1), .val (.int p2), .val (.int p3), .val (.int p4), .val (.int (2 : Int32)), .val (.int v9), .val (.ref b266), .val (.ref b272), .val (.ref b278), .val (.ref b283), .unset, .unset, .unset, .unset]
      obtain ⟨T1193, h1193, k1193, X1193, e1193, E1193, A1193, B1193, st1193⟩ := newPE X892 hx hZ (hw _ (List.mem_of_getElem? (i := 90) rfl)) rfl (g := (mkF m 85 A1192 [(.int (2 : Int32))])) rfl (hb hby at_85) rfl (by decide) (cap := 2) (by decide) (by decide) (by decide) (by decide) (ad := "[I") (by decide)
      obtain ⟨b1193, gg1193⟩ : ∃ z, z = T892.heap.size := ⟨_, rfl⟩
      rw [← gg1193] at A1193 B1193 st1193
      have g_b1193 : n0 ≤ b1193 := Nat.le_trans Z900 (Nat.le_of_eq gg1193.symm)
      have sz_b1193 : h0.size ≤ b1193 := Nat.le_trans K900.1 (Nat.le_of_eq gg1193.symm)
      have f1194 := ((((f473).keep K476_)).keep K892_)
      have lt_b266_b1193 : b266 < b1193 := Nat.lt_of_lt_of_le (f1194).lt (Nat.le_of_eq gg1193.symm)
      have f1195 := ((f891).keep K892_)
      have lt_b272_b1193 : b272 < b1193 := Nat.lt_of_lt_of_le (f1195).lt (Nat.le_of_eq gg1193.symm)
      have f1196 := ((((f487).keep K476_)).keep K892_)
      have lt_b278_b1193 : b278 < b1193 := Nat.lt_of_lt_of_le (f1196).lt (Nat.le_of_eq gg1193.symm)
      have lt_b283_b1193 : b283 < b1193 := Nat.lt_of_lt_of_le (f894).lt (Nat.le_of_eq gg1193.symm)
      have lt_b477_b1193 : b477 < b1193 := Nat.lt_of_lt_of_le (f899).lt (Nat.le_of_eq gg1193.symm)
      have Z1197 : n0 ≤ h1193.size := Nat.le_trans Z900 E1193.1
      have K1197 : Keep h0 h1193 [] := K900.ext E1193
      have V1193 : Arv Z h1193 b1193 k1193 .int (2 : Int32) [(.int (0 : Int32)), (.int (0 : Int32))] (.int (0 : Int32)) := (Arv.new A1193 (by decide)).pad (pad_rep [] (.int (0 : Int32)) 2)
      refine Go.st (S' := T1193.setTop (mkF m 87 A1192 [(.ref b1193)])) st1193 ?_
      let A1198 : Array Slot := #[.val (.int p0), .val (.int p1), .val (.int p2), .val (.int p3), .val (.int p4), .val (.int (2 : Int32)), .val (.int v9), .val (.ref b266), .val (.ref b272), .val (.ref b278), .val (.ref b283), .val (.ref b1193), .unset, .unset, .unset]
      refine Go.st (S' := T1193.setTop (mkF m 89 A1198 [])) (fun t k => XS.astore X1193.here hx rfl (hb hby at_87) rfl rfl (l' := A1198) rfl k) ?_
      obtain ⟨T1199, h1199, X1199, e1199, E1199, A1199, D1199, -, st1199⟩ := newO X1193 hx hZ hown (hw _ (List.mem_of_getElem? (i := 91) rfl)) (hw _ (List.mem_of_getElem? (i := 92) rfl)) (hw _ (List.mem_of_getElem? (i := 93) rfl)) e1193 (g := (mkF m 89 A1198 [])) rfl (hb hby at_89) (by decide) (by decide)
      obtain ⟨b1199, gg1199⟩ : ∃ z, z = h1193.size := ⟨_, rfl⟩
      rw [← gg1199] at A1199 D1199 st1199
      have g_b1199 : n0 ≤ b1199 := Nat.le_trans Z1197 (Nat.le_of_eq gg1199.symm)
      have sz_b1199 : h0.size ≤ b1199 := Nat.le_trans K1197.1 (Nat.le_of_eq gg1199.symm)
      have f1200 := ((f1194).ext E1193)
      have lt_b266_b1199 : b266 < b1199 := Nat.lt_of_lt_of_le (f1200).lt (Nat.le_of_eq gg1199.symm)
      have f1201 := ((f1195).ext E1193)
      have lt_b272_b1199 : b272 < b1199 := Nat.lt_of_lt_of_le (f1201).lt (Nat.le_of_eq gg1199.symm)
      have f1202 := ((f1196).ext E1193)
      have lt_b278_b1199 : b278 < b1199 := Nat.lt_of_lt_of_le (f1202).lt (Nat.le_of_eq gg1199.symm)
      have f1203 := ((f894).ext E1193)
      have lt_b283_b1199 : b283 < b1199 := Nat.lt_of_lt_of_le (f1203).lt (Nat.le_of_eq gg1199.symm)
      have f1204 := ((f899).ext E1193)
      have lt_b477_b1199 : b477 < b1199 := Nat.lt_of_lt_of_le (f1204).lt (Nat.le_of_eq gg1199.symm)
      have lt_b1193_b1199 : b1193 < b1199 := Nat.lt_of_lt_of_le (B1193).lt (Nat.le_of_eq gg1199.symm)
      have Z1205 : n0 ≤ h1199.size := Nat.le_trans Z1197 E1199.1
      have K1205 : Keep h0 h1199 [] := K1197.ext E1199
      have Fb1199_names : Fld Z h1199 b1199 "com/example/heaplens/heaplens/cfg/Scope" "names" "Ljava/util/List;" .null := D1199 (Or.inr (hw _ (List.mem_of_getElem? (i := 184) rfl))) (ty := (.object "java/util/List")) (by decide)
      have Fb1199_slots : Fld Z h1199 b1199 "com/example/heaplens/heaplens/cfg/Scope" "slots" "[I" .null := D1199 (Or.inr (hw _ (List.mem_of_getElem? (i := 195) rfl))) (ty := (.array .int)) (by decide)
      refine Go.st (S' := T1199.setTop (mkF m 92 A1198 [(.ref b1199)])) st1199 ?_
      refine Go.st (S' := T1199.setTop (mkF m 93 A1198 [(.ref b1199), (.ref b1199)])) (fun t k => XS.dup X1199.here hx rfl (hb hby at_92) rfl rfl k) ?_
      refine Go.st (S' := T1199.setTop (mkF m 95 A1198 [(.ref b283), (.ref b1199), (.ref b1199)])) (fun t k => XS.aload X1199.here hx rfl (hb hby at_93) rfl rfl k) ?_
      refine Go.st (S' := T1199.setTop (mkF m 97 A1198 [(.ref b1193), (.ref b283), (.ref b1199), (.ref b1199)])) (fun t k => XS.aload X1199.here hx rfl (hb hby at_95) rfl rfl k) ?_
      have f1208 := ((f1203).ext E1199)
      have f1209 := ((((f896).ext E1193)).ext E1199)
      have f1210 := ((((f895).ext E1193)).ext E1199)
      have f1211 := ((f1204).ext E1199)
      have f1212 := ((((f897).ext E1193)).ext E1199)
      have f1213 := ((f1201).ext E1199)
      have f1214 := ((f1200).ext E1199)
      have f1215 := ((V1193).ext E1199)
      have f1216 := ((B1193).ext E1199)
      obtain ⟨r1217, T1217, L1217, X1217, hQ1217, st1217⟩ := own_callI (W := 1) (a := b1199) X1199 hx hZ e1199 hown (y := (⟨"com/example/heaplens/heaplens/cfg/Scope", "<init>", "(Ljava/util/List;[I)V"⟩ : MethodName)) rfl (hw _ (List.mem_of_getElem? (i := 94) rfl)) (hw _ (List.mem_of_getElem? (i := 95) rfl)) (hw _ (List.mem_of_getElem? (i := 93) rfl)) (hw _ (List.mem_of_getElem? (i := 96) rfl)) (by decide) (rm49 l Z a0 hw [] b1199 b283 b1193 b477 k478 b266 b272 s_mir__Ljava_lang_Object_ (.null) k1193 (0 : Int32) (0 : Int32) (.null) h1199 n0 Z1205 (f1208) (f1209) (f1210) (f1211) (f1212) (f1213) (f1214) (M_s_mir__Ljava_lang_Object_) (A1199) (Fb1199_names) (g_b1199) (f1215) ((Nat.ne_of_lt lt_b1193_b1199)) (f1216) (Fb1199_slots)) (by decide) (by decide) (by decide) (by decide) (g := (mkF m 97 A1198 [(.ref b1193), (.ref b283), (.ref b1199), (.ref b1199)])) rfl (by rw [hml]; rfl) (argsL := [(.ref b283), (.ref b1193)]) (rest := [(.ref b1199)]) rfl (lenOf pd_23 rfl) rfl (by show 2 * 0 + _ ≤ _; exact Nat.le_of_eq rfl) (hb hby at_97)
      obtain ⟨b1218, b1219, b1220, k1221, rfl, N1217, K1217_, sz_b1218_, sz_b1219_, sz_b1220_, f1222, f1223, f1224, f1225, f1226, f1227, f1228, f1229, f1230, f1231, f1232, hlt1233, hlt1234, hlt1235⟩ := hQ1217
      have N1217_ := Fr.app N892_ N1217
      have g_b1218 : n0 ≤ b1218 := Nat.le_trans Z1205 sz_b1218_
      have sz_b1218 : h0.size ≤ b1218 := Nat.le_trans K1205.1 sz_b1218_
      have lt_b266_b1218 : b266 < b1218 := Nat.lt_of_lt_of_le (f1214).lt sz_b1218_
      have lt_b272_b1218 : b272 < b1218 := Nat.lt_of_lt_of_le (f1213).lt sz_b1218_
      have f1236 := ((f1202).ext E1199)
      have lt_b278_b1218 : b278 < b1218 := Nat.lt_of_lt_of_le (f1236).lt sz_b1218_
      have lt_b283_b1218 : b283 < b1218 := Nat.lt_of_lt_of_le (f1208).lt sz_b1218_
      have lt_b477_b1218 : b477 < b1218 := Nat.lt_of_lt_of_le (f1211).lt sz_b1218_
      have lt_b1193_b1218 : b1193 < b1218 := Nat.lt_of_lt_of_le (f1216).lt sz_b1218_
      have lt_b1199_b1218 : b1199 < b1218 := Nat.lt_of_lt_of_le (A1199).lt sz_b1218_
      have g_b1219 : n0 ≤ b1219 := Nat.le_trans Z1205 sz_b1219_
      have sz_b1219 : h0.size ≤ b1219 := Nat.le_trans K1205.1 sz_b1219_
      have lt_b266_b1219 : b266 < b1219 := Nat.lt_of_lt_of_le (f1214).lt sz_b1219_
      have lt_b272_b1219 : b272 < b1219 := Nat.lt_of_lt_of_le (f1213).lt sz_b1219_
      have lt_b278_b1219 : b278 < b1219 := Nat.lt_of_lt_of_le (f1236).lt sz_b1219_
      have lt_b283_b1219 : b283 < b1219 := Nat.lt_of_lt_of_le (f1208).lt sz_b1219_
      have lt_b477_b1219 : b477 < b1219 := Nat.lt_of_lt_of_le (f1211).lt sz_b1219_
      have lt_b1193_b1219 : b1193 < b1219 := Nat.lt_of_lt_of_le (f1216).lt sz_b1219_
      have lt_b1199_b1219 : b1199 < b1219 := Nat.lt_of_lt_of_le (A1199).lt sz_b1219_
      have g_b1220 : n0 ≤ b1220 := Nat.le_trans Z1205 sz_b1220_
      have sz_b1220 : h0.size ≤ b1220 := Nat.le_trans K1205.1 sz_b1220_
      have lt_b266_b1220 : b266 < b1220 := Nat.lt_of_lt_of_le (f1214).lt sz_b1220_
      have lt_b272_b1220 : b272 < b1220 := Nat.lt_of_lt_of_le (f1213).lt sz_b1220_
      have lt_b278_b1220 : b278 < b1220 := Nat.lt_of_lt_of_le (f1236).lt sz_b1220_
      have lt_b283_b1220 : b283 < b1220 := Nat.lt_of_lt_of_le (f1208).lt sz_b1220_
      have lt_b477_b1220 : b477 < b1220 := Nat.lt_of_lt_of_le (f1211).lt sz_b1220_
      have lt_b1193_b1220 : b1193 < b1220 := Nat.lt_of_lt_of_le (f1216).lt sz_b1220_
      have lt_b1199_b1220 : b1199 < b1220 := Nat.lt_of_lt_of_le (A1199).lt sz_b1220_
      have Z1237 : n0 ≤ T1217.heap.size := Nat.le_trans Z1205 K1217_.1
      have K1237 : Keep h0 T1217.heap [] := K1205.trans K1217_ (allS (Or.inr sz_b1199) all0)
      refine Go.st (S' := T1217.setTop (mkF m 100 A1198 [(.ref b1199)])) st1217 ?_
      let A1238 : Array Slot := #[.val (.int p0), .val (.int p1), .val (.int p2), .val (.int p3), .val (.int p4), .val (.int (2 : Int32)), .val (.int v9), .val (.ref b266), .val (.ref b272), .val (.ref b278), .val (.ref b283), .val (.ref b1193), .val (.ref b1199), .unset, .unset]
      refine Go.st (S' := T1217.setTop (mkF m 102 A1238 [])) (fun t k => XS.astore X1217.here hx rfl (hb hby at_100) rfl rfl (l' := A1238) rfl k) ?_
      refine Go.st (S' := T1217.setTop (mkF m 104 A1238 [(.int v9)])) (fun t k => XS.iload X1217.here hx rfl (hb hby at_102) rfl k) ?_
      by_cases hc1247 : (v9 = (0 : Int32))
      · refine Go.st (S' := T1217.setTop (mkF m 107 A1238 [])) (fun t k => XS.ifNo X1217.here hx rfl (hb hby at_104) rfl ((if0 _ _).trans (teq hc1247).2) k) ?_
        refine Go.st (S' := T1217.setTop (mkF m 109 A1238 [(.ref b266)])) (fun t k => XS.aload X1217.here hx rfl (hb hby at_107) rfl rfl k) ?_
        let A1248 : Array Slot := #[.val (.int p0), .val (.int p1), .val (.int p2), .val (.int p3), .val (.int p4), .val (.int (2 : Int32)), .val (.int v9), .val (.ref b266), .val (.ref b272), .val (.ref b278), .val (.ref b283), .val (.ref b1193), .val (.ref b1199), .val (.ref b266), .unset]
        refine Go.st (S' := T1217.setTop (mkF m 111 A1248 [])) (fun t k => XS.astore X1217.here hx rfl (hb hby at_109) rfl rfl (l' := A1248) rfl k) ?_
        refine Go.st (S' := T1217.setTop (mkF m 131 A1248 [])) (fun t k => XS.goto X1217.here hx rfl (pc0 := 111) (pc' := 131) rfl (hb hby at_111) (by decide) (by decide) k) ?_
        refine Go.st (S' := T1217.setTop (mkF m 133 A1248 [(.ref b1199)])) (fun t k => XS.aload X1217.here hx rfl (hb hby at_131) rfl rfl k) ?_
        refine Go.st (S' := T1217.setTop (mkF m 135 A1248 [(.int v9), (.ref b1199)])) (fun t k => XS.iload X1217.here hx rfl (hb hby at_133) rfl k) ?_
        have f1250 := (own_sta_keep ((Sta.ext E1199 ((Sta.ext E1193 ((own_sta_keep ((own_sta_keep ((own_sta_keep ((Sta.ext E283 ((own_sta_keep ((own_sta_keep ((own_sta_keep (S_s_ImmutableCollections_EMPTY) K265_ all0)) K271_ all0)) K277_ all0)))) K318_ (allS (own_exa_plain A283) all0))) K476_ (allS (own_exa_plain f319) all0))) K892_ (allS (own_exa_plain f480) (allS (own_exa_plain f485) all0)))))))) K1217_ (allS (own_exa_plain A1199) all0))
        have no1251 : ¬ ((¬ (v9 = (0 : Int32))) ∧ (¬ (v9 = (1 : Int32)))) := by
          rintro ⟨hc1252, hc1253⟩
          have rv6 := rng32 v6
          have wv6 := c_mask p4 (2147483647 : Int32) 31 (by decide) (by decide)
          rw [← hv6] at wv6
          have rv9 := rng32 v9
          have wv9 := c_irem v6 (2 : Int32) 2 (by decide)
          rw [← hv9] at wv9
          have rp4 := rng32 p4
          have lI0 : (0 : Int32).toInt = 0 := by decide
          have lI1 : (1 : Int32).toInt = 1 := by decide
          have lI2 : (2 : Int32).toInt = 2 := by decide
          have lI2147483647 : (2147483647 : Int32).toInt = 2147483647 := by decide
          simp only [Int32.lt_iff_toInt_lt, Int64.lt_iff_toInt_lt, ← Int32.toInt_inj, ← Int64.toInt_inj] at hc1247 hc1252 hc1253
          omega
        have f1254 := ((f1214).keep K1217_)
        have f1255 := ((f1213).keep K1217_)
        obtain ⟨r1256, T1256, L1256, X1256, hQ1256, st1256⟩ := own_callV (W := 0) (a := b1199) (C := "com/example/heaplens/heaplens/cfg/Scope") X1217 hx hZ rfl hown (y := (⟨"com/example/heaplens/heaplens/cfg/Scope", "name", "(I)Ljava/lang/String;"⟩ : MethodName)) (z := (⟨"com/example/heaplens/heaplens/cfg/Scope", "name", "(I)Ljava/lang/String;"⟩ : MethodName)) (hw _ (List.mem_of_getElem? (i := 196) rfl)) (hw _ (List.mem_of_getElem? (i := 197) rfl)) (notFace_of_selects (args := #[]) (mvT hZ (hw _ (List.mem_of_getElem? (i := 199) rfl)))) (hw _ (List.mem_of_getElem? (i := 199) rfl)) (hw _ (List.mem_of_getElem? (i := 198) rfl)) (hw _ (List.mem_of_getElem? (i := 93) rfl)) (hw _ (List.mem_of_getElem? (i := 200) rfl)) (by decide) (f1228) (rm51 l Z a0 hw [] b1199 v9 b1219 b266 b272 s_ImmutableCollections_EMPTY T1217.heap n0 Z1237 (f1229) (f1225) (f1226) (f1227) (f1250) ((Ne.symm (Nat.ne_of_lt (Nat.lt_of_lt_of_le (E_s_ImmutableCollections_EMPTY).lt sz_b272)))) (no1251) (f1254) (f1255)) (by decide) (by decide) (by decide) (by decide) (g := (mkF m 135 A1248 [(.int v9), (.ref b1199)])) rfl (by rw [hml]; rfl) (argsL := [(.int v9)]) (rest := []) rfl (lenOf pd_9 rfl) rfl (by show 2 * 0 + _ ≤ _; exact Nat.le_of_eq rfl) (hb hby at_135)
        rcases hQ1256 with hQ1256 | hQ1256
        · obtain ⟨hc1257, rfl, N1256, e1256⟩ := hQ1256
          have N1256_ := Fr.app N1217_ N1256
          refine Go.st (S' := T1256.setTop (mkF m 138 A1248 [(.ref b266)])) st1256 ?_
          let A1258 : Array Slot := #[.val (.int p0), .val (.int p1), .val (.int p2), .val (.int p3), .val (.int p4), .val (.int (2 : Int32)), .val (.int v9), .val (.ref b266), .val (.ref b272), .val (.ref b278), .val (.ref b283), .val (.ref b1193), .val (.ref b1199), .val (.ref b266), .val (.ref b266)]
          refine Go.st (S' := T1256.setTop (mkF m 140 A1258 [])) (fun t k => XS.astore X1256.here hx rfl (hb hby at_138) rfl rfl (l' := A1258) rfl k) ?_
          refine Go.st (S' := T1256.setTop (mkF m 142 A1258 [(.ref b266)])) (fun t k => XS.aload X1256.here hx rfl (hb hby at_140) rfl rfl k) ?_
          refine Go.st (S' := T1256.setTop (mkF m 145 A1258 [])) (fun t k => XS.ifnullNo X1256.here hx rfl (hb hby at_142) rfl k) ?_
          refine Go.st (S' := T1256.setTop (mkF m 147 A1258 [(.ref b266)])) (fun t k => XS.aload X1256.here hx rfl (hb hby at_145) rfl rfl k) ?_
          refine Go.st (S' := T1256.setTop (mkF m 149 A1258 [(.ref b266), (.ref b266)])) (fun t k => XS.aload X1256.here hx rfl (hb hby at_147) rfl rfl k) ?_
          obtain ⟨r1259, T1259, L1259, X1259, hQ1259, st1259⟩ := own_callV (W := 0) (a := b266) (C := "java/lang/String") X1256 hx hZ e1256 hown (y := (⟨"java/lang/String", "equals", "(Ljava/lang/Object;)Z"⟩ : MethodName)) (z := (⟨"java/lang/String", "equals", "(Ljava/lang/Object;)Z"⟩ : MethodName)) (hw _ (List.mem_of_getElem? (i := 211) rfl)) (hw _ (List.mem_of_getElem? (i := 212) rfl)) (notFace_of_selects (args := #[]) (mvT hZ (hw _ (List.mem_of_getElem? (i := 214) rfl)))) (hw _ (List.mem_of_getElem? (i := 214) rfl)) (hw _ (List.mem_of_getElem? (i := 213) rfl)) (hw _ (List.mem_of_getElem? (i := 8) rfl)) (hw _ (List.mem_of_getElem? (i := 215) rfl)) (by decide) (f1254) (rm37 l Z a0 hw [] b266 T1217.heap n0 Z1237 ) (by decide) (by decide) (by decide) (by decide) (g := (mkF m 149 A1258 [(.ref b266), (.ref b266)])) rfl (by rw [hml]; rfl) (argsL := [(.ref b266)]) (rest := []) rfl (lenOf pd_15 rfl) rfl (by show 2 * 0 + _ ≤ _; exact Nat.le_of_eq rfl) (hb hby at_149)
          obtain ⟨rfl, N1259, e1259⟩ := hQ1259
          have N1259_ := Fr.app N1256_ N1259
          refine Go.st (S' := T1259.setTop (mkF m 152 A1258 [(.int (1 : Int32))])) st1259 ?_
          refine Go.st (S' := T1259.setTop (mkF m 155 A1258 [])) (fun t k => XS.ifNo X1259.here hx rfl (hb hby at_152) rfl ((if0 _ _).trans (feq (by decide : (¬ ((1 : Int32) = (0 : Int32))))).1) k) ?_
          refine Go.st (S' := T1259.setTop (mkF m 156 A1258 [(.int (1 : Int32))])) (fun t k => XS.iconst X1259.here hx rfl (hb hby at_155) k) ?_
          refine Go.st (S' := T1259.setTop (mkF m 160 A1258 [(.int (1 : Int32))])) (fun t k => XS.goto X1259.here hx rfl (pc0 := 156) (pc' := 160) rfl (hb hby at_156) (by decide) (by decide) k) ?_
          exact Go.ret X1259 (v := some (.int (1 : Int32))) (fun h => by rw [Bd.returns] at h; cases h) Bd.notSynchronized (fun fs hr => retN X1259 hx (t := .boolean) Bd.returns (by simp) (hb hby at_160) hr) (by decide) (by decide) ⟨rfl, N1259_⟩
        · obtain ⟨hc1260, hc1261, rfl, N1256, e1256⟩ := hQ1256
          have N1256_ := Fr.app N1217_ N1256
          exfalso
          have rv6 := rng32 v6
          have wv6 := c_mask p4 (2147483647 : Int32) 31 (by decide) (by decide)
          rw [← hv6] at wv6
          have rv9 := rng32 v9
          have wv9 := c_irem v6 (2 : Int32) 2 (by decide)
          rw [← hv9] at wv9
          have rp4 := rng32 p4
          have lI0 : (0 : Int32).toInt = 0 := by decide
          have lI1 : (1 : Int32).toInt = 1 := by decide
          have lI2 : (2 : Int32).toInt = 2 := by decide
          have lI2147483647 : (2147483647 : Int32).toInt = 2147483647 := by decide
          simp only [Int32.lt_iff_toInt_lt, Int64.lt_iff_toInt_lt, ← Int32.toInt_inj, ← Int64.toInt_inj] at hc1247 hc1260 hc1261
          omega
      · refine Go.st (S' := T1217.setTop (mkF m 114 A1238 [])) (fun t k => XS.ifYes X1217.here hx rfl (pc0 := 104) (pc' := 114) rfl (hb hby at_104) rfl ((if0 _ _).trans (feq hc1247).2) (by decide) (by decide) k) ?_
        refine Go.st (S' := T1217.setTop (mkF m 116 A1238 [(.int v9)])) (fun t k => XS.iload X1217.here hx rfl (hb hby at_114) rfl k) ?_
        refine Go.st (S' := T1217.setTop (mkF m 117 A1238 [(.int (1 : Int32)), (.int v9)])) (fun t k => XS.iconst X1217.here hx rfl (hb hby at_116) k) ?_
        by_cases hc1264 : (v9 = (1 : Int32))
        · refine Go.st (S' := T1217.setTop (mkF m 120 A1238 [])) (fun t k => XS.icmpNo X1217.here hx rfl (hb hby at_117) rfl (teq hc1264).2 k) ?_
          refine Go.st (S' := T1217.setTop (mkF m 122 A1238 [(.ref b272)])) (fun t k => XS.aload X1217.here hx rfl (hb hby at_120) rfl rfl k) ?_
          let A1265 : Array Slot := #[.val (.int p0), .val (.int p1), .val (.int p2), .val (.int p3), .val (.int p4), .val (.int (2 : Int32)), .val (.int v9), .val (.ref b266), .val (.ref b272), .val (.ref b278), .val (.ref b283), .val (.ref b1193), .val (.ref b1199), .val (.ref b272), .unset]
          refine Go.st (S' := T1217.setTop (mkF m 124 A1265 [])) (fun t k => XS.astore X1217.here hx rfl (hb hby at_122) rfl rfl (l' := A1265) rfl k) ?_
          refine Go.st (S' := T1217.setTop (mkF m 131 A1265 [])) (fun t k => XS.goto X1217.here hx rfl (pc0 := 124) (pc' := 131) rfl (hb hby at_124) (by decide) (by decide) k) ?_
          refine Go.st (S' := T1217.setTop (mkF m 133 A1265 [(.ref b1199)])) (fun t k => XS.aload X1217.here hx rfl (hb hby at_131) rfl rfl k) ?_
          refine Go.st (S' := T1217.setTop (mkF m 135 A1265 [(.int v9), (.ref b1199)])) (fun t k => XS.iload X1217.here hx rfl (hb hby at_133) rfl k) ?_
          have f1267 := (own_sta_keep ((Sta.ext E1199 ((Sta.ext E1193 ((own_sta_keep ((own_sta_keep ((own_sta_keep ((Sta.ext E283 ((own_sta_keep ((own_sta_keep ((own_sta_keep (S_s_ImmutableCollections_EMPTY) K265_ all0)) K271_ all0)) K277_ all0)))) K318_ (allS (own_exa_plain A283) all0))) K476_ (allS (own_exa_plain f319) all0))) K892_ (allS (own_exa_plain f480) (allS (own_exa_plain f485) all0)))))))) K1217_ (allS (own_exa_plain A1199) all0))
          have no1268 : ¬ ((¬ (v9 = (0 : Int32))) ∧ (¬ (v9 = (1 : Int32)))) := by
            rintro ⟨hc1269, hc1270⟩
            have rv6 := rng32 v6
            have wv6 := c_mask p4 (2147483647 : Int32) 31 (by decide) (by decide)
            rw [← hv6] at wv6
            have rv9 := rng32 v9
            have wv9 := c_irem v6 (2 : Int32) 2 (by decide)
            rw [← hv9] at wv9
            have rp4 := rng32 p4
            have lI0 : (0 : Int32).toInt = 0 := by decide
            have lI1 : (1 : Int32).toInt = 1 := by decide
            have lI2 : (2 : Int32).toInt = 2 := by decide
            have lI2147483647 : (2147483647 : Int32).toInt = 2147483647 := by decide
            simp only [Int32.lt_iff_toInt_lt, Int64.lt_iff_toInt_lt, ← Int32.toInt_inj, ← Int64.toInt_inj] at hc1247 hc1264 hc1269 hc1270
            omega
          have f1271 := ((f1214).keep K1217_)
          have f1272 := ((f1213).keep K1217_)
          obtain ⟨r1273, T1273, L1273, X1273, hQ1273, st1273⟩ := own_callV (W := 0) (a := b1199) (C := "com/example/heaplens/heaplens/cfg/Scope") X1217 hx hZ rfl hown (y := (⟨"com/example/heaplens/heaplens/cfg/Scope", "name", "(I)Ljava/lang/String;"⟩ : MethodName)) (z := (⟨"com/example/heaplens/heaplens/cfg/Scope", "name", "(I)Ljava/lang/String;"⟩ : MethodName)) (hw _ (List.mem_of_getElem? (i := 196) rfl)) (hw _ (List.mem_of_getElem? (i := 197) rfl)) (notFace_of_selects (args := #[]) (mvT hZ (hw _ (List.mem_of_getElem? (i := 199) rfl)))) (hw _ (List.mem_of_getElem? (i := 199) rfl)) (hw _ (List.mem_of_getElem? (i := 198) rfl)) (hw _ (List.mem_of_getElem? (i := 93) rfl)) (hw _ (List.mem_of_getElem? (i := 200) rfl)) (by decide) (f1228) (rm51 l Z a0 hw [] b1199 v9 b1219 b266 b272 s_ImmutableCollections_EMPTY T1217.heap n0 Z1237 (f1229) (f1225) (f1226) (f1227) (f1267) ((Ne.symm (Nat.ne_of_lt (Nat.lt_of_lt_of_le (E_s_ImmutableCollections_EMPTY).lt sz_b272)))) (no1268) (f1271) (f1272)) (by decide) (by decide) (by decide) (by decide) (g := (mkF m 135 A1265 [(.int v9), (.ref b1199)])) rfl (by rw [hml]; rfl) (argsL := [(.int v9)]) (rest := []) rfl (lenOf pd_9 rfl) rfl (by show 2 * 0 + _ ≤ _; exact Nat.le_of_eq rfl) (hb hby at_135)
          rcases hQ1273 with hQ1273 | hQ1273
          · obtain ⟨hc1274, rfl, N1273, e1273⟩ := hQ1273
            have N1273_ := Fr.app N1217_ N1273
            exfalso
            have rv6 := rng32 v6
            have wv6 := c_mask p4 (2147483647 : Int32) 31 (by decide) (by decide)
            rw [← hv6] at wv6
            have rv9 := rng32 v9
            have wv9 := c_irem v6 (2 : Int32) 2 (by decide)
            rw [← hv9] at wv9
            have rp4 := rng32 p4
            have lI0 : (0 : Int32).toInt = 0 := by decide
            have lI1 : (1 : Int32).toInt = 1 := by decide
            have lI2 : (2 : Int32).toInt = 2 := by decide
            have lI2147483647 : (2147483647 : Int32).toInt = 2147483647 := by decide
            simp only [Int32.lt_iff_toInt_lt, Int64.lt_iff_toInt_lt, ← Int32.toInt_inj, ← Int64.toInt_inj] at hc1247 hc1264 hc1274
            omega
          · obtain ⟨hc1275, hc1276, rfl, N1273, e1273⟩ := hQ1273
            have N1273_ := Fr.app N1217_ N1273
            refine Go.st (S' := T1273.setTop (mkF m 138 A1265 [(.ref b272)])) st1273 ?_
            let A1277 : Array Slot := #[.val (.int p0), .val (.int p1), .val (.int p2), .val (.int p3), .val (.int p4), .val (.int (2 : Int32)), .val (.int v9), .val (.ref b266), .val (.ref b272), .val (.ref b278), .val (.ref b283), .val (.ref b1193), .val (.ref b1199), .val (.ref b272), .val (.ref b272)]
            refine Go.st (S' := T1273.setTop (mkF m 140 A1277 [])) (fun t k => XS.astore X1273.here hx rfl (hb hby at_138) rfl rfl (l' := A1277) rfl k) ?_
            refine Go.st (S' := T1273.setTop (mkF m 142 A1277 [(.ref b272)])) (fun t k => XS.aload X1273.here hx rfl (hb hby at_140) rfl rfl k) ?_
            refine Go.st (S' := T1273.setTop (mkF m 145 A1277 [])) (fun t k => XS.ifnullNo X1273.here hx rfl (hb hby at_142) rfl k) ?_
            refine Go.st (S' := T1273.setTop (mkF m 147 A1277 [(.ref b272)])) (fun t k => XS.aload X1273.here hx rfl (hb hby at_145) rfl rfl k) ?_
            refine Go.st (S' := T1273.setTop (mkF m 149 A1277 [(.ref b272), (.ref b272)])) (fun t k => XS.aload X1273.here hx rfl (hb hby at_147) rfl rfl k) ?_
            obtain ⟨r1278, T1278, L1278, X1278, hQ1278, st1278⟩ := own_callV (W := 0) (a := b272) (C := "java/lang/String") X1273 hx hZ e1273 hown (y := (⟨"java/lang/String", "equals", "(Ljava/lang/Object;)Z"⟩ : MethodName)) (z := (⟨"java/lang/String", "equals", "(Ljava/lang/Object;)Z"⟩ : MethodName)) (hw _ (List.mem_of_getElem? (i := 211) rfl)) (hw _ (List.mem_of_getElem? (i := 212) rfl)) (notFace_of_selects (args := #[]) (mvT hZ (hw _ (List.mem_of_getElem? (i := 214) rfl)))) (hw _ (List.mem_of_getElem? (i := 214) rfl)) (hw _ (List.mem_of_getElem? (i := 213) rfl)) (hw _ (List.mem_of_getElem? (i := 8) rfl)) (hw _ (List.mem_of_getElem? (i := 215) rfl)) (by decide) (f1272) (rm37 l Z a0 hw [] b272 T1217.heap n0 Z1237 ) (by decide) (by decide) (by decide) (by decide) (g := (mkF m 149 A1277 [(.ref b272), (.ref b272)])) rfl (by rw [hml]; rfl) (argsL := [(.ref b272)]) (rest := []) rfl (lenOf pd_15 rfl) rfl (by show 2 * 0 + _ ≤ _; exact Nat.le_of_eq rfl) (hb hby at_149)
            obtain ⟨rfl, N1278, e1278⟩ := hQ1278
            have N1278_ := Fr.app N1273_ N1278
            refine Go.st (S' := T1278.setTop (mkF m 152 A1277 [(.int (1 : Int32))])) st1278 ?_
            refine Go.st (S' := T1278.setTop (mkF m 155 A1277 [])) (fun t k => XS.ifNo X1278.here hx rfl (hb hby at_152) rfl ((if0 _ _).trans (feq (by decide : (¬ ((1 : Int32) = (0 : Int32))))).1) k) ?_
            refine Go.st (S' := T1278.setTop (mkF m 156 A1277 [(.int (1 : Int32))])) (fun t k => XS.iconst X1278.here hx rfl (hb hby at_155) k) ?_
            refine Go.st (S' := T1278.setTop (mkF m 160 A1277 [(.int (1 : Int32))])) (fun t k => XS.goto X1278.here hx rfl (pc0 := 156) (pc' := 160) rfl (hb hby at_156) (by decide) (by decide) k) ?_
            exact Go.ret X1278 (v := some (.int (1 : Int32))) (fun h => by rw [Bd.returns] at h; cases h) Bd.notSynchronized (fun fs hr => retN X1278 hx (t := .boolean) Bd.returns (by simp) (hb hby at_160) hr) (by decide) (by decide) ⟨rfl, N1278_⟩
        · exfalso
          have rv6 := rng32 v6
          have wv6 := c_mask p4 (2147483647 : Int32) 31 (by decide) (by decide)
          rw [← hv6] at wv6
          have rv9 := rng32 v9
          have wv9 := c_irem v6 (2 : Int32) 2 (by decide)
          rw [← hv9] at wv9
          have rp4 := rng32 p4
          have lI0 : (0 : Int32).toInt = 0 := by decide
          have lI1 : (1 : Int32).toInt = 1 := by decide
          have lI2 : (2 : Int32).toInt = 2 := by decide
          have lI2147483647 : (2147483647 : Int32).toInt = 2147483647 := by decide
          simp only [Int32.lt_iff_toInt_lt, Int64.lt_iff_toInt_lt, ← Int32.toInt_inj, ← Int64.toInt_inj] at hc1247 hc1264
          omega
    · refine Go.st (S' := T892.setTop (mkF m 75 A324 [])) (fun t k => XS.icmpNo X892.here hx rfl (hb hby at_72) rfl (flt hc1186).1 k) ?_
      refine Go.st (S' := T892.setTop (mkF m 77 A324 [(.ref b283)])) (fun t k => XS.aload X892.here hx rfl (hb hby at_75) rfl rfl k) ?_
      refine Go.st (S' := T892.setTop (mkF m 79 A324 [(.ref b278), (.ref b283)])) (fun t k => XS.aload X892.here hx rfl (hb hby at_77) rfl rfl k) ?_
      have f1279 := ((((f487).keep K476_)).keep K892_)
      obtain ⟨r1280, T1280, L1280, X1280, hQ1280, st1280⟩ := own_callV (W := 0) (a := b283) (C := "java/util/ArrayList") X892 hx hZ rfl hown (y := (⟨"java/util/ArrayList", "add", "(Ljava/lang/Object;)Z"⟩ : MethodName)) (z := (⟨"java/util/ArrayList", "add", "(Ljava/lang/Object;)Z"⟩ : MethodName)) (hw _ (List.mem_of_getElem? (i := 59) rfl)) (hw _ (List.mem_of_getElem? (i := 60) rfl)) (notFace_of_selects (args := #[]) (mvT hZ (hw _ (List.mem_of_getElem? (i := 62) rfl)))) (hw _ (List.mem_of_getElem? (i := 62) rfl)) (hw _ (List.mem_of_getElem? (i := 61) rfl)) (hw _ (List.mem_of_getElem? (i := 37) rfl)) (hw _ (List.mem_of_getElem? (i := 63) rfl)) (by decide) (f894) (rm53 l Z a0 hw [] b283 b278 b477 k478 b266 b272 T892.heap n0 Z900 (f893) (f894) (g_b283) (f895) (f896) (f897) ((Nat.ne_of_gt lt_b283_b477)) (f1279) (f898) (g_b477) (f899)) (by decide) (by decide) (by decide) (by decide) (g := (mkF m 79 A324 [(.ref b278), (.ref b283)])) rfl (by rw [hml]; rfl) (argsL := [(.ref b278)]) (rest := []) rfl (lenOf pd_15 rfl) rfl (by show 2 * 0 + _ ≤ _; exact Nat.le_of_eq rfl) (hb hby at_79)
      obtain ⟨rfl, N1280, K1280_, f1281, f1282, f1283, f1284, f1285, f1286, f1287⟩ := hQ1280
      have N1280_ := Fr.app N892_ N1280
      have Z1288 : n0 ≤ T1280.heap.size := Nat.le_trans Z900 K1280_.1
      have K1288 : Keep h0 T1280.heap [] := K900.trans K1280_ (allS (Or.inr sz_b283) (allS (Or.inr sz_b477) all0))
      refine Go.st (S' := T1280.setTop (mkF m 82 A324 [(.int (1 : Int32))])) st1280 ?_
      refine Go.st (S' := T1280.setTop (mkF m 83 A324 [])) (fun t k => XS.pop X1280.here hx rfl (hb hby at_82) rfl rfl k) ?_
      refine Go.st (S' := T1280.setTop (mkF m 85 A324 [(.int v4)])) (fun t k => XS.iload X1280.here hx rfl (hb hby at_83) rfl k) ?_
      have hj1290 : v4 = (3 : Int32) := by
        refine Decidable.byContradiction fun hc1291 => ?_
        have rv2 := rng32 v2
        have wv2 := c_mask p3 (2147483647 : Int32) 31 (by decide) (by decide)
        rw [← hv2] at wv2
        have rv3 := rng32 v3
        have wv3 := c_irem v2 (3 : Int32) 3 (by decide)
        rw [← hv3] at wv3
        have rv4 := rng32 v4
        have wv4 := c_iadd (1 : Int32) v3
        rw [← hv4] at wv4
        have rp3 := rng32 p3
        have lI1 : (1 : Int32).toInt = 1 := by decide
        have lI2 : (2 : Int32).toInt = 2 := by decide
        have lI3 : (3 : Int32).toInt = 3 := by decide
        have lI2147483647 : (2147483647 : Int32).toInt = 2147483647 := by decide
        simp only [Int32.lt_iff_toInt_lt, Int64.lt_iff_toInt_lt, ← Int32.toInt_inj, ← Int64.toInt_inj] at hc756 hc1186 hc1291
        omega
      obtain ⟨v1292, hv1292⟩ : ∃ z, z = ((1 : Int32) + v3) := ⟨_, rfl⟩
      have hc1293 : v1292 = (3 : Int32) := (hv1292.trans hv4.symm).trans hj1290
      subst hj1290
      let A1294 : Array Slot := #[.val (.int p0), .val (.int p1), .val (.int p2), .val (.int p3), .val (.int p4), .val (.int (3 : Int32)), .val (.int v9), .val (.ref b266), .val (.ref b272), .val (.ref b278), .val (.ref b283), .unset, .unset, .unset, .unset]
      obtain ⟨T1295, h1295, k1295, X1295, e1295, E1295, A1295, B1295, st1295⟩ := newPE X1280 hx hZ (hw _ (List.mem_of_getElem? (i := 90) rfl)) rfl (g := (mkF m 85 A1294 [(.int (3 : Int32))])) rfl (hb hby at_85) rfl (by decide) (cap := 3) (by decide) (by decide) (by decide) (by decide) (ad := "[I") (by decide)
      obtain ⟨b1295, gg1295⟩ : ∃ z, z = T1280.heap.size := ⟨_, rfl⟩
      rw [← gg1295] at A1295 B1295 st1295
      have g_b1295 : n0 ≤ b1295 := Nat.le_trans Z1288 (Nat.le_of_eq gg1295.symm)
      have sz_b1295 : h0.size ≤ b1295 := Nat.le_trans K1288.1 (Nat.le_of_eq gg1295.symm)
      have f1296 := ((((((f473).keep K476_)).keep K892_)).keep K1280_)
      have lt_b266_b1295 : b266 < b1295 := Nat.lt_of_lt_of_le (f1296).lt (Nat.le_of_eq gg1295.symm)
      have f1297 := ((((f891).keep K892_)).keep K1280_)
      have lt_b272_b1295 : b272 < b1295 := Nat.lt_of_lt_of_le (f1297).lt (Nat.le_of_eq gg1295.symm)
      have f1298 := ((f1279).keep K1280_)
      have lt_b278_b1295 : b278 < b1295 := Nat.lt_of_lt_of_le (f1298).lt (Nat.le_of_eq gg1295.symm)
      have lt_b283_b1295 : b283 < b1295 := Nat.lt_of_lt_of_le (f1282).lt (Nat.le_of_eq gg1295.symm)
      have lt_b477_b1295 : b477 < b1295 := Nat.lt_of_lt_of_le (f1287).lt (Nat.le_of_eq gg1295.symm)
      have Z1299 : n0 ≤ h1295.size := Nat.le_trans Z1288 E1295.1
      have K1299 : Keep h0 h1295 [] := K1288.ext E1295
      have V1295 : Arv Z h1295 b1295 k1295 .int (3 : Int32) [(.int (0 : Int32)), (.int (0 : Int32)), (.int (0 : Int32))] (.int (0 : Int32)) := (Arv.new A1295 (by decide)).pad (pad_rep [] (.int (0 : Int32)) 3)
      refine Go.st (S' := T1295.setTop (mkF m 87 A1294 [(.ref b1295)])) st1295 ?_
      let A1300 : Array Slot := #[.val (.int p0), .val (.int p1), .val (.int p2), .val (.int p3), .val (.int p4), .val (.int (3 : Int32)), .val (.int v9), .val (.ref b266), .val (.ref b272), .val (.ref b278), .val (.ref b283), .val (.ref b1295), .unset, .unset, .unset]
      refine Go.st (S' := T1295.setTop (mkF m 89 A1300 [])) (fun t k => XS.astore X1295.here hx rfl (hb hby at_87) rfl rfl (l' := A1300) rfl k) ?_
      obtain ⟨T1301, h1301, X1301, e1301, E1301, A1301, D1301, -, st1301⟩ := newO X1295 hx hZ hown (hw _ (List.mem_of_getElem? (i := 91) rfl)) (hw _ (List.mem_of_getElem? (i := 92) rfl)) (hw _ (List.mem_of_getElem? (i := 93) rfl)) e1295 (g := (mkF m 89 A1300 [])) rfl (hb hby at_89) (by decide) (by decide)
      obtain ⟨b1301, gg1301⟩ : ∃ z, z = h1295.size := ⟨_, rfl⟩
      rw [← gg1301] at A1301 D1301 st1301
      have g_b1301 : n0 ≤ b1301 := Nat.le_trans Z1299 (Nat.le_of_eq gg1301.symm)
      have sz_b1301 : h0.size ≤ b1301 := Nat.le_trans K1299.1 (Nat.le_of_eq gg1301.symm)
      have f1302 := ((f1296).ext E1295)
      have lt_b266_b1301 : b266 < b1301 := Nat.lt_of_lt_of_le (f1302).lt (Nat.le_of_eq gg1301.symm)
      have f1303 := ((f1297).ext E1295)
      have lt_b272_b1301 : b272 < b1301 := Nat.lt_of_lt_of_le (f1303).lt (Nat.le_of_eq gg1301.symm)
      have f1304 := ((f1298).ext E1295)
      have lt_b278_b1301 : b278 < b1301 := Nat.lt_of_lt_of_le (f1304).lt (Nat.le_of_eq gg1301.symm)
      have f1305 := ((f1282).ext E1295)
      have lt_b283_b1301 : b283 < b1301 := Nat.lt_of_lt_of_le (f1305).lt (Nat.le_of_eq gg1301.symm)
      have f1306 := ((f1287).ext E1295)
      have lt_b477_b1301 : b477 < b1301 := Nat.lt_of_lt_of_le (f1306).lt (Nat.le_of_eq gg1301.symm)
      have lt_b1295_b1301 : b1295 < b1301 := Nat.lt_of_lt_of_le (B1295).lt (Nat.le_of_eq gg1301.symm)
      have Z1307 : n0 ≤ h1301.size := Nat.le_trans Z1299 E1301.1
      have K1307 : Keep h0 h1301 [] := K1299.ext E1301
      have Fb1301_names : Fld Z h1301 b1301 "com/example/heaplens/heaplens/cfg/Scope" "names" "Ljava/util/List;" .null := D1301 (Or.inr (hw _ (List.mem_of_getElem? (i := 184) rfl))) (ty := (.object "java/util/List")) (by decide)
      have Fb1301_slots : Fld Z h1301 b1301 "com/example/heaplens/heaplens/cfg/Scope" "slots" "[I" .null := D1301 (Or.inr (hw _ (List.mem_of_getElem? (i := 195) rfl))) (ty := (.array .int)) (by decide)
      refine Go.st (S' := T1301.setTop (mkF m 92 A1300 [(.ref b1301)])) st1301 ?_
      refine Go.st (S' := T1301.setTop (mkF m 93 A1300 [(.ref b1301), (.ref b1301)])) (fun t k => XS.dup X1301.here hx rfl (hb hby at_92) rfl rfl k) ?_
      refine Go.st (S' := T1301.setTop (mkF m 95 A1300 [(.ref b283), (.ref b1301), (.ref b1301)])) (fun t k => XS.aload X1301.here hx rfl (hb hby at_93) rfl rfl k) ?_
      refine Go.st (S' := T1301.setTop (mkF m 97 A1300 [(.ref b1295), (.ref b283), (.ref b1301), (.ref b1301)])) (fun t k => XS.aload X1301.here hx rfl (hb hby at_95) rfl rfl k) ?_
      have f1518 := ((f1305).ext E1301)
      have f1519 := ((((f1284).ext E1295)).ext E1301)
      have f1520 := ((((f1283).ext E1295)).ext E1301)
      have f1521 := ((f1306).ext E1301)
      have f1522 := ((((f1285).ext E1295)).ext E1301)
      have f1523 := ((f1304).ext E1301)
      have f1524 := ((f1303).ext E1301)
      have f1525 := ((f1302).ext E1301)
      have f1526 := ((V1295).ext E1301)
      have f1527 := ((B1295).ext E1301)
      obtain ⟨r1528, T1528, L1528, X1528, hQ1528, st1528⟩ := own_callI (W := 1) (a := b1301) X1301 hx hZ e1301 hown (y := (⟨"com/example/heaplens/heaplens/cfg/Scope", "<init>", "(Ljava/util/List;[I)V"⟩ : MethodName)) rfl (hw _ (List.mem_of_getElem? (i := 94) rfl)) (hw _ (List.mem_of_getElem? (i := 95) rfl)) (hw _ (List.mem_of_getElem? (i := 93) rfl)) (hw _ (List.mem_of_getElem? (i := 96) rfl)) (by decide) (rm64 l Z a0 hw [] b1301 b283 b1295 b477 k478 b266 b272 b278 s_mir__Ljava_lang_Object_ (.null) k1295 (0 : Int32) (0 : Int32) (0 : Int32) (.null) h1301 n0 Z1307 (f1518) (f1519) (f1520) (f1521) (f1522) (f1523) (f1524) (f1525) (M_s_mir__Ljava_lang_Object_) (A1301) (Fb1301_names) (g_b1301) (f1526) ((Nat.ne_of_lt lt_b1295_b1301)) (f1527) (Fb1301_slots)) (by decide) (by decide) (by decide) (by decide) (g := (mkF m 97 A1300 [(.ref b1295), (.ref b283), (.ref b1301), (.ref b1301)])) rfl (by rw [hml]; rfl) (argsL := [(.ref b283), (.ref b1295)]) (rest := [(.ref b1301)]) rfl (lenOf pd_23 rfl) rfl (by show 2 * 0 + _ ≤ _; exact Nat.le_of_eq rfl) (hb hby at_97)
      obtain ⟨b1529, b1530, b1531, b1532, k1533, k1534, rfl, N1528, K1528_, sz_b1529_, sz_b1530_, sz_b1531_, sz_b1532_, f1535, f1536, f1537, f1538, f1539, f1540, f1541, f1542, f1543, f1544, f1545, f1546, f1547, f1548, hlt1549, hlt1550, hlt1551, hlt1552, hlt1553, hlt1554⟩ := hQ1528
      have N1528_ := Fr.app N1280_ N1528
      have g_b1529 : n0 ≤ b1529 := Nat.le_trans Z1307 sz_b1529_
      have sz_b1529 : h0.size ≤ b1529 := Nat.le_trans K1307.1 sz_b1529_
      have lt_b266_b1529 : b266 < b1529 := Nat.lt_of_lt_of_le (f1525).lt sz_b1529_
      have lt_b272_b1529 : b272 < b1529 := Nat.lt_of_lt_of_le (f1524).lt sz_b1529_
      have lt_b278_b1529 : b278 < b1529 := Nat.lt_of_lt_of_le (f1523).lt sz_b1529_
      have lt_b283_b1529 : b283 < b1529 := Nat.lt_of_lt_of_le (f1518).lt sz_b1529_
      have lt_b477_b1529 : b477 < b1529 := Nat.lt_of_lt_of_le (f1521).lt sz_b1529_
      have lt_b1295_b1529 : b1295 < b1529 := Nat.lt_of_lt_of_le (f1527).lt sz_b1529_
      have lt_b1301_b1529 : b1301 < b1529 := Nat.lt_of_lt_of_le (A1301).lt sz_b1529_
      have g_b1530 : n0 ≤ b1530 := Nat.le_trans Z1307 sz_b1530_
      have sz_b1530 : h0.size ≤ b1530 := Nat.le_trans K1307.1 sz_b1530_
      have lt_b266_b1530 : b266 < b1530 := Nat.lt_of_lt_of_le (f1525).lt sz_b1530_
      have lt_b272_b1530 : b272 < b1530 := Nat.lt_of_lt_of_le (f1524).lt sz_b1530_
      have lt_b278_b1530 : b278 < b1530 := Nat.lt_of_lt_of_le (f1523).lt sz_b1530_
      have lt_b283_b1530 : b283 < b1530 := Nat.lt_of_lt_of_le (f1518).lt sz_b1530_
      have lt_b477_b1530 : b477 < b1530 := Nat.lt_of_lt_of_le (f1521).lt sz_b1530_
      have lt_b1295_b1530 : b1295 < b1530 := Nat.lt_of_lt_of_le (f1527).lt sz_b1530_
      have lt_b1301_b1530 : b1301 < b1530 := Nat.lt_of_lt_of_le (A1301).lt sz_b1530_
      have g_b1531 : n0 ≤ b1531 := Nat.le_trans Z1307 sz_b1531_
      have sz_b1531 : h0.size ≤ b1531 := Nat.le_trans K1307.1 sz_b1531_
      have lt_b266_b1531 : b266 < b1531 := Nat.lt_of_lt_of_le (f1525).lt sz_b1531_
      have lt_b272_b1531 : b272 < b1531 := Nat.lt_of_lt_of_le (f1524).lt sz_b1531_
      have lt_b278_b1531 : b278 < b1531 := Nat.lt_of_lt_of_le (f1523).lt sz_b1531_
      have lt_b283_b1531 : b283 < b1531 := Nat.lt_of_lt_of_le (f1518).lt sz_b1531_
      have lt_b477_b1531 : b477 < b1531 := Nat.lt_of_lt_of_le (f1521).lt sz_b1531_
      have lt_b1295_b1531 : b1295 < b1531 := Nat.lt_of_lt_of_le (f1527).lt sz_b1531_
      have lt_b1301_b1531 : b1301 < b1531 := Nat.lt_of_lt_of_le (A1301).lt sz_b1531_
      have g_b1532 : n0 ≤ b1532 := Nat.le_trans Z1307 sz_b1532_
      have sz_b1532 : h0.size ≤ b1532 := Nat.le_trans K1307.1 sz_b1532_
      have lt_b266_b1532 : b266 < b1532 := Nat.lt_of_lt_of_le (f1525).lt sz_b1532_
      have lt_b272_b1532 : b272 < b1532 := Nat.lt_of_lt_of_le (f1524).lt sz_b1532_
      have lt_b278_b1532 : b278 < b1532 := Nat.lt_of_lt_of_le (f1523).lt sz_b1532_
      have lt_b283_b1532 : b283 < b1532 := Nat.lt_of_lt_of_le (f1518).lt sz_b1532_
      have lt_b477_b1532 : b477 < b1532 := Nat.lt_of_lt_of_le (f1521).lt sz_b1532_
      have lt_b1295_b1532 : b1295 < b1532 := Nat.lt_of_lt_of_le (f1527).lt sz_b1532_
      have lt_b1301_b1532 : b1301 < b1532 := Nat.lt_of_lt_of_le (A1301).lt sz_b1532_
      have Z1555 : n0 ≤ T1528.heap.size := Nat.le_trans Z1307 K1528_.1
      have K1555 : Keep h0 T1528.heap [] := K1307.trans K1528_ (allS (Or.inr sz_b1301) all0)
      refine Go.st (S' := T1528.setTop (mkF m 100 A1300 [(.ref b1301)])) st1528 ?_
      let A1556 : Array Slot := #[.val (.int p0), .val (.int p1), .val (.int p2), .val (.int p3), .val (.int p4), .val (.int (3 : Int32)), .val (.int v9), .val (.ref b266), .val (.ref b272), .val (.ref b278), .val (.ref b283), .val (.ref b1295), .val (.ref b1301), .unset, .unset]
      refine Go.st (S' := T1528.setTop (mkF m 102 A1556 [])) (fun t k => XS.astore X1528.here hx rfl (hb hby at_100) rfl rfl (l' := A1556) rfl k) ?_
      refine Go.st (S' := T1528.setTop (mkF m 104 A1556 [(.int v9)])) (fun t k => XS.iload X1528.here hx rfl (hb hby at_102) rfl k) ?_
      by_cases hc1567 : (v9 = (0 : Int32))
      · refine Go.st (S' := T1528.setTop (mkF m 107 A1556 [])) (fun t k => XS.ifNo X1528.here hx rfl (hb hby at_104) rfl ((if0 _ _).trans (teq hc1567).2) k) ?_
        refine Go.st (S' := T1528.setTop (mkF m 109 A1556 [(.ref b266)])) (fun t k => XS.aload X1528.here hx rfl (hb hby at_107) rfl rfl k) ?_
        let A1568 : Array Slot := #[.val (.int p0), .val (.int p1), .val (.int p2), .val (.int p3), .val (.int p4), .val (.int (3 : Int32)), .val (.int v9), .val (.ref b266), .val (.ref b272), .val (.ref b278), .val (.ref b283), .val (.ref b1295), .val (.ref b1301), .val (.ref b266), .unset]
        refine Go.st (S' := T1528.setTop (mkF m 111 A1568 [])) (fun t k => XS.astore X1528.here hx rfl (hb hby at_109) rfl rfl (l' := A1568) rfl k) ?_
        refine Go.st (S' := T1528.setTop (mkF m 131 A1568 [])) (fun t k => XS.goto X1528.here hx rfl (pc0 := 111) (pc' := 131) rfl (hb hby at_111) (by decide) (by decide) k) ?_
        refine Go.st (S' := T1528.setTop (mkF m 133 A1568 [(.ref b1301)])) (fun t k => XS.aload X1528.here hx rfl (hb hby at_131) rfl rfl k) ?_
        refine Go.st (S' := T1528.setTop (mkF m 135 A1568 [(.int v9), (.ref b1301)])) (fun t k => XS.iload X1528.here hx rfl (hb hby at_133) rfl k) ?_
        have no1595 : ¬ ((¬ (v9 = (0 : Int32))) ∧ (¬ (v9 = (1 : Int32))) ∧ (¬ (v9 = (2 : Int32)))) := by
          rintro ⟨hc1596, hc1597, hc1598⟩
          have rv6 := rng32 v6
          have wv6 := c_mask p4 (2147483647 : Int32) 31 (by decide) (by decide)
          rw [← hv6] at wv6
          have rv9 := rng32 v9
          have wv9 := c_irem v6 (3 : Int32) 3 (by decide)
          rw [← hv9] at wv9
          have rp4 := rng32 p4
          have lI0 : (0 : Int32).toInt = 0 := by decide
          have lI1 : (1 : Int32).toInt = 1 := by decide
          have lI2 : (2 : Int32).toInt = 2 := by decide
          have lI3 : (3 : Int32).toInt = 3 := by decide
          have lI2147483647 : (2147483647 : Int32).toInt = 2147483647 := by decide
          simp only [Int32.lt_iff_toInt_lt, Int64.lt_iff_toInt_lt, ← Int32.toInt_inj, ← Int64.toInt_inj] at hc1567 hc1596 hc1597 hc1598
          omega
        have f1599 := ((f1525).keep K1528_)
        have f1600 := ((f1524).keep K1528_)
        have f1601 := ((f1523).keep K1528_)
        obtain ⟨r1602, T1602, L1602, X1602, hQ1602, st1602⟩ := own_callV (W := 0) (a := b1301) (C := "com/example/heaplens/heaplens/cfg/Scope") X1528 hx hZ rfl hown (y := (⟨"com/example/heaplens/heaplens/cfg/Scope", "name", "(I)Ljava/lang/String;"⟩ : MethodName)) (z := (⟨"com/example/heaplens/heaplens/cfg/Scope", "name", "(I)Ljava/lang/String;"⟩ : MethodName)) (hw _ (List.mem_of_getElem? (i := 196) rfl)) (hw _ (List.mem_of_getElem? (i := 197) rfl)) (notFace_of_selects (args := #[]) (mvT hZ (hw _ (List.mem_of_getElem? (i := 199) rfl)))) (hw _ (List.mem_of_getElem? (i := 199) rfl)) (hw _ (List.mem_of_getElem? (i := 198) rfl)) (hw _ (List.mem_of_getElem? (i := 93) rfl)) (hw _ (List.mem_of_getElem? (i := 200) rfl)) (by decide) (f1544) (rm66 l Z a0 hw [] b1301 v9 b1531 b1530 k1534 b266 b272 b278 T1528.heap n0 Z1555 (f1545) (f1541) (f1542) (f1538) (no1595) (f1599) (f1600) (f1601)) (by decide) (by decide) (by decide) (by decide) (g := (mkF m 135 A1568 [(.int v9), (.ref b1301)])) rfl (by rw [hml]; rfl) (argsL := [(.int v9)]) (rest := []) rfl (lenOf pd_9 rfl) rfl (by show 2 * 0 + _ ≤ _; exact Nat.le_of_eq rfl) (hb hby at_135)
        rcases hQ1602 with hQ1602 | hQ1602 | hQ1602
        · obtain ⟨hc1603, rfl, N1602, e1602⟩ := hQ1602
          have N1602_ := Fr.app N1528_ N1602
          refine Go.st (S' := T1602.setTop (mkF m 138 A1568 [(.ref b266)])) st1602 ?_
          let A1604 : Array Slot := #[.val (.int p0), .val (.int p1), .val (.int p2), .val (.int p3), .val (.int p4), .val (.int (3 : Int32)), .val (.int v9), .val (.ref b266), .val (.ref b272), .val (.ref b278), .val (.ref b283), .val (.ref b1295), .val (.ref b1301), .val (.ref b266), .val (.ref b266)]
          refine Go.st (S' := T1602.setTop (mkF m 140 A1604 [])) (fun t k => XS.astore X1602.here hx rfl (hb hby at_138) rfl rfl (l' := A1604) rfl k) ?_
          refine Go.st (S' := T1602.setTop (mkF m 142 A1604 [(.ref b266)])) (fun t k => XS.aload X1602.here hx rfl (hb hby at_140) rfl rfl k) ?_
          refine Go.st (S' := T1602.setTop (mkF m 145 A1604 [])) (fun t k => XS.ifnullNo X1602.here hx rfl (hb hby at_142) rfl k) ?_
          refine Go.st (S' := T1602.setTop (mkF m 147 A1604 [(.ref b266)])) (fun t k => XS.aload X1602.here hx rfl (hb hby at_145) rfl rfl k) ?_
          refine Go.st (S' := T1602.setTop (mkF m 149 A1604 [(.ref b266), (.ref b266)])) (fun t k => XS.aload X1602.here hx rfl (hb hby at_147) rfl rfl k) ?_
          obtain ⟨r1605, T1605, L1605, X1605, hQ1605, st1605⟩ := own_callV (W := 0) (a := b266) (C := "java/lang/String") X1602 hx hZ e1602 hown (y := (⟨"java/lang/String", "equals", "(Ljava/lang/Object;)Z"⟩ : MethodName)) (z := (⟨"java/lang/String", "equals", "(Ljava/lang/Object;)Z"⟩ : MethodName)) (hw _ (List.mem_of_getElem? (i := 211) rfl)) (hw _ (List.mem_of_getElem? (i := 212) rfl)) (notFace_of_selects (args := #[]) (mvT hZ (hw _ (List.mem_of_getElem? (i := 214) rfl)))) (hw _ (List.mem_of_getElem? (i := 214) rfl)) (hw _ (List.mem_of_getElem? (i := 213) rfl)) (hw _ (List.mem_of_getElem? (i := 8) rfl)) (hw _ (List.mem_of_getElem? (i := 215) rfl)) (by decide) (f1599) (rm37 l Z a0 hw [] b266 T1528.heap n0 Z1555 ) (by decide) (by decide) (by decide) (by decide) (g := (mkF m 149 A1604 [(.ref b266), (.ref b266)])) rfl (by rw [hml]; rfl) (argsL := [(.ref b266)]) (rest := []) rfl (lenOf pd_15 rfl) rfl (by show 2 * 0 + _ ≤ _; exact Nat.le_of_eq rfl) (hb hby at_149)
          obtain ⟨rfl, N1605, e1605⟩ := hQ1605
          have N1605_ := Fr.app N1602_ N1605
          refine Go.st (S' := T1605.setTop (mkF m 152 A1604 [(.int (1 : Int32))])) st1605 ?_
          refine Go.st (S' := T1605.setTop (mkF m 155 A1604 [])) (fun t k => XS.ifNo X1605.here hx rfl (hb hby at_152) rfl ((if0 _ _).trans (feq (by decide : (¬ ((1 : Int32) = (0 : Int32))))).1) k) ?_
          refine Go.st (S' := T1605.setTop (mkF m 156 A1604 [(.int (1 : Int32))])) (fun t k => XS.iconst X1605.here hx rfl (hb hby at_155) k) ?_
          refine Go.st (S' := T1605.setTop (mkF m 160 A1604 [(.int (1 : Int32))])) (fun t k => XS.goto X1605.here hx rfl (pc0 := 156) (pc' := 160) rfl (hb hby at_156) (by decide) (by decide) k) ?_
          exact Go.ret X1605 (v := some (.int (1 : Int32))) (fun h => by rw [Bd.returns] at h; cases h) Bd.notSynchronized (fun fs hr => retN X1605 hx (t := .boolean) Bd.returns (by simp) (hb hby at_160) hr) (by decide) (by decide) ⟨rfl, N1605_⟩
        · obtain ⟨hc1606, hc1607, rfl, N1602, e1602⟩ := hQ1602
          have N1602_ := Fr.app N1528_ N1602
          exfalso
          have rv6 := rng32 v6
          have wv6 := c_mask p4 (2147483647 : Int32) 31 (by decide) (by decide)
          rw [← hv6] at wv6
          have rv9 := rng32 v9
          have wv9 := c_irem v6 (3 : Int32) 3 (by decide)
          rw [← hv9] at wv9
          have rp4 := rng32 p4
          have lI0 : (0 : Int32).toInt = 0 := by decide
          have lI1 : (1 : Int32).toInt = 1 := by decide
          have lI3 : (3 : Int32).toInt = 3 := by decide
          have lI2147483647 : (2147483647 : Int32).toInt = 2147483647 := by decide
          simp only [Int32.lt_iff_toInt_lt, Int64.lt_iff_toInt_lt, ← Int32.toInt_inj, ← Int64.toInt_inj] at hc1567 hc1606 hc1607
          omega
        · obtain ⟨hc1608, hc1609, hc1610, rfl, N1602, e1602⟩ := hQ1602
          have N1602_ := Fr.app N1528_ N1602
          exfalso
          have rv6 := rng32 v6
          have wv6 := c_mask p4 (2147483647 : Int32) 31 (by decide) (by decide)
          rw [← hv6] at wv6
          have rv9 := rng32 v9
          have wv9 := c_irem v6 (3 : Int32) 3 (by decide)
          rw [← hv9] at wv9
          have rp4 := rng32 p4
          have lI0 : (0 : Int32).toInt = 0 := by decide
          have lI1 : (1 : Int32).toInt = 1 := by decide
          have lI2 : (2 : Int32).toInt = 2 := by decide
          have lI3 : (3 : Int32).toInt = 3 := by decide
          have lI2147483647 : (2147483647 : Int32).toInt = 2147483647 := by decide
          simp only [Int32.lt_iff_toInt_lt, Int64.lt_iff_toInt_lt, ← Int32.toInt_inj, ← Int64.toInt_inj] at hc1567 hc1608 hc1609 hc1610
          omega
      · refine Go.st (S' := T1528.setTop (mkF m 114 A1556 [])) (fun t k => XS.ifYes X1528.here hx rfl (pc0 := 104) (pc' := 114) rfl (hb hby at_104) rfl ((if0 _ _).trans (feq hc1567).2) (by decide) (by decide) k) ?_
        refine Go.st (S' := T1528.setTop (mkF m 116 A1556 [(.int v9)])) (fun t k => XS.iload X1528.here hx rfl (hb hby at_114) rfl k) ?_
        refine Go.st (S' := T1528.setTop (mkF m 117 A1556 [(.int (1 : Int32)), (.int v9)])) (fun t k => XS.iconst X1528.here hx rfl (hb hby at_116) k) ?_
        by_cases hc1617 : (v9 = (1 : Int32))
        · refine Go.st (S' := T1528.setTop (mkF m 120 A1556 [])) (fun t k => XS.icmpNo X1528.here hx rfl (hb hby at_117) rfl (teq hc1617).2 k) ?_
          refine Go.st (S' := T1528.setTop (mkF m 122 A1556 [(.ref b272)])) (fun t k => XS.aload X1528.here hx rfl (hb hby at_120) rfl rfl k) ?_
          let A1618 : Array Slot := #[.val (.int p0), .val (.int p1), .val (.int p2), .val (.int p3), .val (.int p4), .val (.int (3 : Int32)), .val (.int v9), .val (.ref b266), .val (.ref b272), .val (.ref b278), .val (.ref b283), .val (.ref b1295), .val (.ref b1301), .val (.ref b272), .unset]
          refine Go.st (S' := T1528.setTop (mkF m 124 A1618 [])) (fun t k => XS.astore X1528.here hx rfl (hb hby at_122) rfl rfl (l' := A1618) rfl k) ?_
          refine Go.st (S' := T1528.setTop (mkF m 131 A1618 [])) (fun t k => XS.goto X1528.here hx rfl (pc0 := 124) (pc' := 131) rfl (hb hby at_124) (by decide) (by decide) k) ?_
          refine Go.st (S' := T1528.setTop (mkF m 133 A1618 [(.ref b1301)])) (fun t k => XS.aload X1528.here hx rfl (hb hby at_131) rfl rfl k) ?_
          refine Go.st (S' := T1528.setTop (mkF m 135 A1618 [(.int v9), (.ref b1301)])) (fun t k => XS.iload X1528.here hx rfl (hb hby at_133) rfl k) ?_
          have no1619 : ¬ ((¬ (v9 = (0 : Int32))) ∧ (¬ (v9 = (1 : Int32))) ∧ (¬ (v9 = (2 : Int32)))) := by
            rintro ⟨hc1620, hc1621, hc1622⟩
            have rv6 := rng32 v6
            have wv6 := c_mask p4 (2147483647 : Int32) 31 (by decide) (by decide)
            rw [← hv6] at wv6
            have rv9 := rng32 v9
            have wv9 := c_irem v6 (3 : Int32) 3 (by decide)
            rw [← hv9] at wv9
            have rp4 := rng32 p4
            have lI0 : (0 : Int32).toInt = 0 := by decide
            have lI1 : (1 : Int32).toInt = 1 := by decide
            have lI2 : (2 : Int32).toInt = 2 := by decide
            have lI3 : (3 : Int32).toInt = 3 := by decide
            have lI2147483647 : (2147483647 : Int32).toInt = 2147483647 := by decide
            simp only [Int32.lt_iff_toInt_lt, Int64.lt_iff_toInt_lt, ← Int32.toInt_inj, ← Int64.toInt_inj] at hc1567 hc1617 hc1620 hc1621 hc1622
            omega
          have f1623 := ((f1525).keep K1528_)
          have f1624 := ((f1524).keep K1528_)
          have f1625 := ((f1523).keep K1528_)
          obtain ⟨r1626, T1626, L1626, X1626, hQ1626, st1626⟩ := own_callV (W := 0) (a := b1301) (C := "com/example/heaplens/heaplens/cfg/Scope") X1528 hx hZ rfl hown (y := (⟨"com/example/heaplens/heaplens/cfg/Scope", "name", "(I)Ljava/lang/String;"⟩ : MethodName)) (z := (⟨"com/example/heaplens/heaplens/cfg/Scope", "name", "(I)Ljava/lang/String;"⟩ : MethodName)) (hw _ (List.mem_of_getElem? (i := 196) rfl)) (hw _ (List.mem_of_getElem? (i := 197) rfl)) (notFace_of_selects (args := #[]) (mvT hZ (hw _ (List.mem_of_getElem? (i := 199) rfl)))) (hw _ (List.mem_of_getElem? (i := 199) rfl)) (hw _ (List.mem_of_getElem? (i := 198) rfl)) (hw _ (List.mem_of_getElem? (i := 93) rfl)) (hw _ (List.mem_of_getElem? (i := 200) rfl)) (by decide) (f1544) (rm66 l Z a0 hw [] b1301 v9 b1531 b1530 k1534 b266 b272 b278 T1528.heap n0 Z1555 (f1545) (f1541) (f1542) (f1538) (no1619) (f1623) (f1624) (f1625)) (by decide) (by decide) (by decide) (by decide) (g := (mkF m 135 A1618 [(.int v9), (.ref b1301)])) rfl (by rw [hml]; rfl) (argsL := [(.int v9)]) (rest := []) rfl (lenOf pd_9 rfl) rfl (by show 2 * 0 + _ ≤ _; exact Nat.le_of_eq rfl) (hb hby at_135)
          rcases hQ1626 with hQ1626 | hQ1626 | hQ1626
          · obtain ⟨hc1627, rfl, N1626, e1626⟩ := hQ1626
            have N1626_ := Fr.app N1528_ N1626
            exfalso
            have rv6 := rng32 v6
            have wv6 := c_mask p4 (2147483647 : Int32) 31 (by decide) (by decide)
            rw [← hv6] at wv6
            have rv9 := rng32 v9
            have wv9 := c_irem v6 (3 : Int32) 3 (by decide)
            rw [← hv9] at wv9
            have rp4 := rng32 p4
            have lI0 : (0 : Int32).toInt = 0 := by decide
            have lI1 : (1 : Int32).toInt = 1 := by decide
            have lI3 : (3 : Int32).toInt = 3 := by decide
            have lI2147483647 : (2147483647 : Int32).toInt = 2147483647 := by decide
            simp only [Int32.lt_iff_toInt_lt, Int64.lt_iff_toInt_lt, ← Int32.toInt_inj, ← Int64.toInt_inj] at hc1567 hc1617 hc1627
            omega
          · obtain ⟨hc1628, hc1629, rfl, N1626, e1626⟩ := hQ1626
            have N1626_ := Fr.app N1528_ N1626
            refine Go.st (S' := T1626.setTop (mkF m 138 A1618 [(.ref b272)])) st1626 ?_
            let A1630 : Array Slot := #[.val (.int p0), .val (.int p1), .val (.int p2), .val (.int p3), .val (.int p4), .val (.int (3 : Int32)), .val (.int v9), .val (.ref b266), .val (.ref b272), .val (.ref b278), .val (.ref b283), .val (.ref b1295), .val (.ref b1301), .val (.ref b272), .val (.ref b272)]
            refine Go.st (S' := T1626.setTop (mkF m 140 A1630 [])) (fun t k => XS.astore X1626.here hx rfl (hb hby at_138) rfl rfl (l' := A1630) rfl k) ?_
            refine Go.st (S' := T1626.setTop (mkF m 142 A1630 [(.ref b272)])) (fun t k => XS.aload X1626.here hx rfl (hb hby at_140) rfl rfl k) ?_
            refine Go.st (S' := T1626.setTop (mkF m 145 A1630 [])) (fun t k => XS.ifnullNo X1626.here hx rfl (hb hby at_142) rfl k) ?_
            refine Go.st (S' := T1626.setTop (mkF m 147 A1630 [(.ref b272)])) (fun t k => XS.aload X1626.here hx rfl (hb hby at_145) rfl rfl k) ?_
            refine Go.st (S' := T1626.setTop (mkF m 149 A1630 [(.ref b272), (.ref b272)])) (fun t k => XS.aload X1626.here hx rfl (hb hby at_147) rfl rfl k) ?_
            obtain ⟨r1631, T1631, L1631, X1631, hQ1631, st1631⟩ := own_callV (W := 0) (a := b272) (C := "java/lang/String") X1626 hx hZ e1626 hown (y := (⟨"java/lang/String", "equals", "(Ljava/lang/Object;)Z"⟩ : MethodName)) (z := (⟨"java/lang/String", "equals", "(Ljava/lang/Object;)Z"⟩ : MethodName)) (hw _ (List.mem_of_getElem? (i := 211) rfl)) (hw _ (List.mem_of_getElem? (i := 212) rfl)) (notFace_of_selects (args := #[]) (mvT hZ (hw _ (List.mem_of_getElem? (i := 214) rfl)))) (hw _ (List.mem_of_getElem? (i := 214) rfl)) (hw _ (List.mem_of_getElem? (i := 213) rfl)) (hw _ (List.mem_of_getElem? (i := 8) rfl)) (hw _ (List.mem_of_getElem? (i := 215) rfl)) (by decide) (f1624) (rm37 l Z a0 hw [] b272 T1528.heap n0 Z1555 ) (by decide) (by decide) (by decide) (by decide) (g := (mkF m 149 A1630 [(.ref b272), (.ref b272)])) rfl (by rw [hml]; rfl) (argsL := [(.ref b272)]) (rest := []) rfl (lenOf pd_15 rfl) rfl (by show 2 * 0 + _ ≤ _; exact Nat.le_of_eq rfl) (hb hby at_149)
            obtain ⟨rfl, N1631, e1631⟩ := hQ1631
            have N1631_ := Fr.app N1626_ N1631
            refine Go.st (S' := T1631.setTop (mkF m 152 A1630 [(.int (1 : Int32))])) st1631 ?_
            refine Go.st (S' := T1631.setTop (mkF m 155 A1630 [])) (fun t k => XS.ifNo X1631.here hx rfl (hb hby at_152) rfl ((if0 _ _).trans (feq (by decide : (¬ ((1 : Int32) = (0 : Int32))))).1) k) ?_
            refine Go.st (S' := T1631.setTop (mkF m 156 A1630 [(.int (1 : Int32))])) (fun t k => XS.iconst X1631.here hx rfl (hb hby at_155) k) ?_
            refine Go.st (S' := T1631.setTop (mkF m 160 A1630 [(.int (1 : Int32))])) (fun t k => XS.goto X1631.here hx rfl (pc0 := 156) (pc' := 160) rfl (hb hby at_156) (by decide) (by decide) k) ?_
            exact Go.ret X1631 (v := some (.int (1 : Int32))) (fun h => by rw [Bd.returns] at h; cases h) Bd.notSynchronized (fun fs hr => retN X1631 hx (t := .boolean) Bd.returns (by simp) (hb hby at_160) hr) (by decide) (by decide) ⟨rfl, N1631_⟩
          · obtain ⟨hc1632, hc1633, hc1634, rfl, N1626, e1626⟩ := hQ1626
            have N1626_ := Fr.app N1528_ N1626
            exfalso
            have rv6 := rng32 v6
            have wv6 := c_mask p4 (2147483647 : Int32) 31 (by decide) (by decide)
            rw [← hv6] at wv6
            have rv9 := rng32 v9
            have wv9 := c_irem v6 (3 : Int32) 3 (by decide)
            rw [← hv9] at wv9
            have rp4 := rng32 p4
            have lI0 : (0 : Int32).toInt = 0 := by decide
            have lI1 : (1 : Int32).toInt = 1 := by decide
            have lI2 : (2 : Int32).toInt = 2 := by decide
            have lI3 : (3 : Int32).toInt = 3 := by decide
            have lI2147483647 : (2147483647 : Int32).toInt = 2147483647 := by decide
            simp only [Int32.lt_iff_toInt_lt, Int64.lt_iff_toInt_lt, ← Int32.toInt_inj, ← Int64.toInt_inj] at hc1567 hc1617 hc1632 hc1633 hc1634
            omega
        · refine Go.st (S' := T1528.setTop (mkF m 127 A1556 [])) (fun t k => XS.icmpYes X1528.here hx rfl (pc0 := 117) (pc' := 127) rfl (hb hby at_117) rfl (feq hc1617).2 (by decide) (by decide) k) ?_
          refine Go.st (S' := T1528.setTop (mkF m 129 A1556 [(.ref b278)])) (fun t k => XS.aload X1528.here hx rfl (hb hby at_127) rfl rfl k) ?_
          let A1635 : Array Slot := #[.val (.int p0), .val (.int p1), .val (.int p2), .val (.int p3), .val (.int p4), .val (.int (3 : Int32)), .val (.int v9), .val (.ref b266), .val (.ref b272), .val (.ref b278), .val (.ref b283), .val (.ref b1295), .val (.ref b1301), .val (.ref b278), .unset]
          refine Go.st (S' := T1528.setTop (mkF m 131 A1635 [])) (fun t k => XS.astore X1528.here hx rfl (hb hby at_129) rfl rfl (l' := A1635) rfl k) ?_
          refine Go.st (S' := T1528.setTop (mkF m 133 A1635 [(.ref b1301)])) (fun t k => XS.aload X1528.here hx rfl (hb hby at_131) rfl rfl k) ?_
          refine Go.st (S' := T1528.setTop (mkF m 135 A1635 [(.int v9), (.ref b1301)])) (fun t k => XS.iload X1528.here hx rfl (hb hby at_133) rfl k) ?_
          have no1636 : ¬ ((¬ (v9 = (0 : Int32))) ∧ (¬ (v9 = (1 : Int32))) ∧ (¬ (v9 = (2 : Int32)))) := by
            rintro ⟨hc1637, hc1638, hc1639⟩
            have rv6 := rng32 v6
            have wv6 := c_mask p4 (2147483647 : Int32) 31 (by decide) (by decide)
            rw [← hv6] at wv6
            have rv9 := rng32 v9
            have wv9 := c_irem v6 (3 : Int32) 3 (by decide)
            rw [← hv9] at wv9
            have rp4 := rng32 p4
            have lI0 : (0 : Int32).toInt = 0 := by decide
            have lI1 : (1 : Int32).toInt = 1 := by decide
            have lI2 : (2 : Int32).toInt = 2 := by decide
            have lI3 : (3 : Int32).toInt = 3 := by decide
            have lI2147483647 : (2147483647 : Int32).toInt = 2147483647 := by decide
            simp only [Int32.lt_iff_toInt_lt, Int64.lt_iff_toInt_lt, ← Int32.toInt_inj, ← Int64.toInt_inj] at hc1567 hc1617 hc1637 hc1638 hc1639
            omega
          have f1640 := ((f1525).keep K1528_)
          have f1641 := ((f1524).keep K1528_)
          have f1642 := ((f1523).keep K1528_)
          obtain ⟨r1643, T1643, L1643, X1643, hQ1643, st1643⟩ := own_callV (W := 0) (a := b1301) (C := "com/example/heaplens/heaplens/cfg/Scope") X1528 hx hZ rfl hown (y := (⟨"com/example/heaplens/heaplens/cfg/Scope", "name", "(I)Ljava/lang/String;"⟩ : MethodName)) (z := (⟨"com/example/heaplens/heaplens/cfg/Scope", "name", "(I)Ljava/lang/String;"⟩ : MethodName)) (hw _ (List.mem_of_getElem? (i := 196) rfl)) (hw _ (List.mem_of_getElem? (i := 197) rfl)) (notFace_of_selects (args := #[]) (mvT hZ (hw _ (List.mem_of_getElem? (i := 199) rfl)))) (hw _ (List.mem_of_getElem? (i := 199) rfl)) (hw _ (List.mem_of_getElem? (i := 198) rfl)) (hw _ (List.mem_of_getElem? (i := 93) rfl)) (hw _ (List.mem_of_getElem? (i := 200) rfl)) (by decide) (f1544) (rm66 l Z a0 hw [] b1301 v9 b1531 b1530 k1534 b266 b272 b278 T1528.heap n0 Z1555 (f1545) (f1541) (f1542) (f1538) (no1636) (f1640) (f1641) (f1642)) (by decide) (by decide) (by decide) (by decide) (g := (mkF m 135 A1635 [(.int v9), (.ref b1301)])) rfl (by rw [hml]; rfl) (argsL := [(.int v9)]) (rest := []) rfl (lenOf pd_9 rfl) rfl (by show 2 * 0 + _ ≤ _; exact Nat.le_of_eq rfl) (hb hby at_135)
          rcases hQ1643 with hQ1643 | hQ1643 | hQ1643
          · obtain ⟨hc1644, rfl, N1643, e1643⟩ := hQ1643
            have N1643_ := Fr.app N1528_ N1643
            exfalso
            have rv6 := rng32 v6
            have wv6 := c_mask p4 (2147483647 : Int32) 31 (by decide) (by decide)
            rw [← hv6] at wv6
            have rv9 := rng32 v9
            have wv9 := c_irem v6 (3 : Int32) 3 (by decide)
            rw [← hv9] at wv9
            have rp4 := rng32 p4
            have lI0 : (0 : Int32).toInt = 0 := by decide
            have lI1 : (1 : Int32).toInt = 1 := by decide
            have lI3 : (3 : Int32).toInt = 3 := by decide
            have lI2147483647 : (2147483647 : Int32).toInt = 2147483647 := by decide
            simp only [Int32.lt_iff_toInt_lt, Int64.lt_iff_toInt_lt, ← Int32.toInt_inj, ← Int64.toInt_inj] at hc1567 hc1617 hc1644
            omega
          · obtain ⟨hc1645, hc1646, rfl, N1643, e1643⟩ := hQ1643
            have N1643_ := Fr.app N1528_ N1643
            exfalso
            have rv6 := rng32 v6
            have wv6 := c_mask p4 (2147483647 : Int32) 31 (by decide) (by decide)
            rw [← hv6] at wv6
            have rv9 := rng32 v9
            have wv9 := c_irem v6 (3 : Int32) 3 (by decide)
            rw [← hv9] at wv9
            have rp4 := rng32 p4
            have lI0 : (0 : Int32).toInt = 0 := by decide
            have lI1 : (1 : Int32).toInt = 1 := by decide
            have lI3 : (3 : Int32).toInt = 3 := by decide
            have lI2147483647 : (2147483647 : Int32).toInt = 2147483647 := by decide
            simp only [Int32.lt_iff_toInt_lt, Int64.lt_iff_toInt_lt, ← Int32.toInt_inj, ← Int64.toInt_inj] at hc1567 hc1617 hc1645 hc1646
            omega
          · obtain ⟨hc1647, hc1648, hc1649, rfl, N1643, e1643⟩ := hQ1643
            have N1643_ := Fr.app N1528_ N1643
            refine Go.st (S' := T1643.setTop (mkF m 138 A1635 [(.ref b278)])) st1643 ?_
            let A1650 : Array Slot := #[.val (.int p0), .val (.int p1), .val (.int p2), .val (.int p3), .val (.int p4), .val (.int (3 : Int32)), .val (.int v9), .val (.ref b266), .val (.ref b272), .val (.ref b278), .val (.ref b283), .val (.ref b1295), .val (.ref b1301), .val (.ref b278), .val (.ref b278)]
            refine Go.st (S' := T1643.setTop (mkF m 140 A1650 [])) (fun t k => XS.astore X1643.here hx rfl (hb hby at_138) rfl rfl (l' := A1650) rfl k) ?_
            refine Go.st (S' := T1643.setTop (mkF m 142 A1650 [(.ref b278)])) (fun t k => XS.aload X1643.here hx rfl (hb hby at_140) rfl rfl k) ?_
            refine Go.st (S' := T1643.setTop (mkF m 145 A1650 [])) (fun t k => XS.ifnullNo X1643.here hx rfl (hb hby at_142) rfl k) ?_
            refine Go.st (S' := T1643.setTop (mkF m 147 A1650 [(.ref b278)])) (fun t k => XS.aload X1643.here hx rfl (hb hby at_145) rfl rfl k) ?_
            refine Go.st (S' := T1643.setTop (mkF m 149 A1650 [(.ref b278), (.ref b278)])) (fun t k => XS.aload X1643.here hx rfl (hb hby at_147) rfl rfl k) ?_
            obtain ⟨r1651, T1651, L1651, X1651, hQ1651, st1651⟩ := own_callV (W := 0) (a := b278) (C := "java/lang/String") X1643 hx hZ e1643 hown (y := (⟨"java/lang/String", "equals", "(Ljava/lang/Object;)Z"⟩ : MethodName)) (z := (⟨"java/lang/String", "equals", "(Ljava/lang/Object;)Z"⟩ : MethodName)) (hw _ (List.mem_of_getElem? (i := 211) rfl)) (hw _ (List.mem_of_getElem? (i := 212) rfl)) (notFace_of_selects (args := #[]) (mvT hZ (hw _ (List.mem_of_getElem? (i := 214) rfl)))) (hw _ (List.mem_of_getElem? (i := 214) rfl)) (hw _ (List.mem_of_getElem? (i := 213) rfl)) (hw _ (List.mem_of_getElem? (i := 8) rfl)) (hw _ (List.mem_of_getElem? (i := 215) rfl)) (by decide) (f1642) (rm37 l Z a0 hw [] b278 T1528.heap n0 Z1555 ) (by decide) (by decide) (by decide) (by decide) (g := (mkF m 149 A1650 [(.ref b278), (.ref b278)])) rfl (by rw [hml]; rfl) (argsL := [(.ref b278)]) (rest := []) rfl (lenOf pd_15 rfl) rfl (by show 2 * 0 + _ ≤ _; exact Nat.le_of_eq rfl) (hb hby at_149)
            obtain ⟨rfl, N1651, e1651⟩ := hQ1651
            have N1651_ := Fr.app N1643_ N1651
            refine Go.st (S' := T1651.setTop (mkF m 152 A1650 [(.int (1 : Int32))])) st1651 ?_
            refine Go.st (S' := T1651.setTop (mkF m 155 A1650 [])) (fun t k => XS.ifNo X1651.here hx rfl (hb hby at_152) rfl ((if0 _ _).trans (feq (by decide : (¬ ((1 : Int32) = (0 : Int32))))).1) k) ?_
            refine Go.st (S' := T1651.setTop (mkF m 156 A1650 [(.int (1 : Int32))])) (fun t k => XS.iconst X1651.here hx rfl (hb hby at_155) k) ?_
            refine Go.st (S' := T1651.setTop (mkF m 160 A1650 [(.int (1 : Int32))])) (fun t k => XS.goto X1651.here hx rfl (pc0 := 156) (pc' := 160) rfl (hb hby at_156) (by decide) (by decide) k) ?_
            exact Go.ret X1651 (v := some (.int (1 : Int32))) (fun h => by rw [Bd.returns] at h; cases h) Bd.notSynchronized (fun fs hr => retN X1651 hx (t := .boolean) Bd.returns (by simp) (hb hby at_160) hr) (by decide) (by decide) ⟨rfl, N1651_⟩
set_option maxRecDepth 65536 in
set_option maxHeartbeats 40000000 in
theorem comes_1 {Post : Tables → Env → Array Value → State → Outcome → State → Prop} (hpost : ∀ tb e args s v u, (limb_1_1.after args s (.returned v) u = true ∧ limb_1_2.after args s (.returned v) u = true ∧ True) → FrameEnd s (.returned v) u (Jvm.fieldLocs frame_1_writes args s ++ Jvm.arrayLocs frame_1_arrays args s ++ Jvm.staticLocs frame_1_statics s) 48 192 → Post tb e args s (.returned v) u) :
    ArmFor flags0 classFile x code maxLocals ret World_1 tables_1 room_1 Calls_1 rest_1 Pre_1 Post := by
  intro l hfl _ _ p e ha hc hk s m args below hf hA hF happ hP
  obtain ⟨hcalls, hrest, hpre⟩ := hP
  obtain ⟨-, -, -, hnamed, -, -, -, hat⟩ := (Spec.applies_iff hf).mp happ
  obtain ⟨hg, hn⟩ := and_e (Cond.before_iff.mp (show (Jvm.Cond.and given_1 narrow_1).before args s = true from hpre))
  obtain ⟨h1, h2⟩ := and_e hg
  obtain ⟨w0, w1, w2, w3, w4, rfl⟩ : ∃ w0 w1 w2 w3 w4 : Value, args = #[w0, w1, w2, w3, w4] := by
    have hs : args.size = 5 := by simpa [Cond.value, given_1] using h1
    obtain ⟨L⟩ := args
    match L, hs with
    | [w0, w1, w2, w3, w4], _ => exact ⟨w0, w1, w2, w3, w4, rfl⟩
  have hw := fun d (hd : d ∈ tables_1) => atoms_spec (ws := Jvm.Cond.code x code maxLocals ret :: tables_1) hat d (List.mem_cons_of_mem _ hd)
  have hfit : Fit s := fun {y c} hc i hi => by
    obtain ⟨ha, rfl⟩ := Array.getElem?_eq_some_iff.mp hc
    have q := List.all_eq_true.mp ((Array.all_eq_true_iff_forall_mem.mp hF) _ (Array.getElem_mem ha)) i (List.mem_range.mpr hi)
    simpa [Array.getElem?_eq_getElem hi] using q
  obtain ⟨q0, h2_0⟩ := and_e h2
  obtain ⟨i0, ee0⟩ := is_v q0
  obtain rfl : w0 = (.int i0) := Option.some.inj ee0
  obtain ⟨q1, h2_1⟩ := and_e h2_0
  obtain ⟨i1, ee1⟩ := is_v q1
  obtain rfl : w1 = (.int i1) := Option.some.inj ee1
  obtain ⟨q2, h2_2⟩ := and_e h2_1
  obtain ⟨i2, ee2⟩ := is_v q2
  obtain rfl : w2 = (.int i2) := Option.some.inj ee2
  obtain ⟨q3, h2_3⟩ := and_e h2_2
  obtain ⟨i3, ee3⟩ := is_v q3
  obtain rfl : w3 = (.int i3) := Option.some.inj ee3
  obtain ⟨i4, ee4⟩ := is_v h2_3
  obtain rfl : w4 = (.int i4) := Option.some.inj ee4
  have hsets := (atoms_of jdkStatics_1 (show (jdkStatics_1.foldr Jvm.Cond.and restOwn_1).before _ s = true from rest_1_c_eq ▸ (show rest_1_c.before _ s = true from hrest))).1
  obtain ⟨s_String_COMPACT_STRINGS, ev_s_String_COMPACT_STRINGS⟩ := is_v (Cond.before_iff.mp (hsets _ (List.mem_of_getElem? (i := 1) rfl)))
  obtain ⟨s_ArrayList_DEFAULTCAPACITY_EMPTY_ELEMENTDATA, ev_s_ArrayList_DEFAULTCAPACITY_EMPTY_ELEMENTDATA⟩ := arr_v (Cond.before_iff.mp (hsets _ (List.mem_of_getElem? (i := 15) rfl)))
  obtain ⟨s_ImmutableCollections_EMPTY, ev_s_ImmutableCollections_EMPTY⟩ := exa_v (Cond.before_iff.mp (hsets _ (List.mem_of_getElem? (i := 20) rfl)))
  have nz_s_String_COMPACT_STRINGS : s_String_COMPACT_STRINGS ≠ 0 := own_ne0 ev_s_String_COMPACT_STRINGS (Cond.before_iff.mp (hsets _ (List.mem_of_getElem? (i := 2) rfl)))
  obtain ⟨cl_s_ArrayList_DEFAULTCAPACITY_EMPTY_ELEMENTDATA, Ar_s_ArrayList_DEFAULTCAPACITY_EMPTY_ELEMENTDATA⟩ := Arr.start ev_s_ArrayList_DEFAULTCAPACITY_EMPTY_ELEMENTDATA (Cond.before_iff.mp (hsets _ (List.mem_of_getElem? (i := 15) rfl)))
  have E_s_ArrayList_DEFAULTCAPACITY_EMPTY_ELEMENTDATA : Exa s s.heap s_ArrayList_DEFAULTCAPACITY_EMPTY_ELEMENTDATA "[Ljava/lang/Object;" := Exa.start ev_s_ArrayList_DEFAULTCAPACITY_EMPTY_ELEMENTDATA (Cond.before_iff.mp (hsets _ (List.mem_of_getElem? (i := 16) rfl)))
  have E_s_ImmutableCollections_EMPTY : Exa s s.heap s_ImmutableCollections_EMPTY "java/lang/Object" := Exa.start ev_s_ImmutableCollections_EMPTY (Cond.before_iff.mp (hsets _ (List.mem_of_getElem? (i := 20) rfl)))
  obtain ⟨lq_s_ArrayList_DEFAULTCAPACITY_EMPTY_ELEMENTDATA, le_s_ArrayList_DEFAULTCAPACITY_EMPTY_ELEMENTDATA⟩ := own_len ev_s_ArrayList_DEFAULTCAPACITY_EMPTY_ELEMENTDATA Ar_s_ArrayList_DEFAULTCAPACITY_EMPTY_ELEMENTDATA (own_eq_int (Cond.before_iff.mp (hsets _ (List.mem_of_getElem? (i := 17) rfl))))
  have V_s_ArrayList_DEFAULTCAPACITY_EMPTY_ELEMENTDATA : Arv s s.heap s_ArrayList_DEFAULTCAPACITY_EMPTY_ELEMENTDATA cl_s_ArrayList_DEFAULTCAPACITY_EMPTY_ELEMENTDATA.cls (.object "java/lang/Object") (0 : Int32) [] .null := Arv.start hfit Ar_s_ArrayList_DEFAULTCAPACITY_EMPTY_ELEMENTDATA lq_s_ArrayList_DEFAULTCAPACITY_EMPTY_ELEMENTDATA le_s_ArrayList_DEFAULTCAPACITY_EMPTY_ELEMENTDATA (by decide) rfl trivial
  obtain ⟨mc_s_mir__Ljava_lang_Object_, mk_s_mir__Ljava_lang_Object_, s_mir__Ljava_lang_Object_, mm_s_mir__Ljava_lang_Object_⟩ := (hcalls.1 : MirrorMade s "[Ljava/lang/Object;")
  have M_s_mir__Ljava_lang_Object_ : Mir s "[Ljava/lang/Object;" s_mir__Ljava_lang_Object_ := ⟨mc_s_mir__Ljava_lang_Object_, mk_s_mir__Ljava_lang_Object_, mm_s_mir__Ljava_lang_Object_⟩
  obtain ⟨n, o, h1, h2, h3, _, L, rfl, ⟨rfl, N⟩, hq⟩ := rm67 l s _ hw tables_1 i0 i1 i2 i3 i4 s_String_COMPACT_STRINGS s_ArrayList_DEFAULTCAPACITY_EMPTY_ELEMENTDATA cl_s_ArrayList_DEFAULTCAPACITY_EMPTY_ELEMENTDATA.cls s_mir__Ljava_lang_Object_ s_ImmutableCollections_EMPTY s.heap s.heap.size (Nat.le_refl _) (Sta.start ev_s_String_COMPACT_STRINGS (Or.inl (Cond.before_iff.mpr (Cond.before_iff.mp (hsets _ (List.mem_of_getElem? (i := 0) rfl)))))) nz_s_String_COMPACT_STRINGS (Sta.start ev_s_ArrayList_DEFAULTCAPACITY_EMPTY_ELEMENTDATA (Or.inr ⟨(hw _ (List.mem_of_getElem? (i := 37) rfl)), (hsets _ (List.mem_of_getElem? (i := 11) rfl))⟩)) V_s_ArrayList_DEFAULTCAPACITY_EMPTY_ELEMENTDATA M_s_mir__Ljava_lang_Object_ (Sta.start ev_s_ImmutableCollections_EMPTY (Or.inl (Cond.before_iff.mpr (Cond.before_iff.mp (hsets _ (List.mem_of_getElem? (i := 19) rfl)))))) E_s_ImmutableCollections_EMPTY p e ha hc hk s m _ below hf ((Spec.applies_iff_loose hf).mp happ).1 ⟨rfl, State.Warmed39.refl s, rfl⟩ trivial
  refine ⟨n, _, h1, h2, h3, hpost _ _ _ _ _ _ ⟨Cond.after_iff.mpr rfl, Cond.after_iff.mpr (eq_i res_at (Term.int_eval (1)) rfl), trivial⟩ ⟨hq.1, hq.2.1, (hq.2.2.sift fun y hy => Or.inr (N y hy)).mono (by decide) (by decide)⟩⟩
theorem main_1_1 : Claimed_1_1 := comes_1 fun _ _ _ _ _ _ h hF => ⟨h.1, hF⟩
theorem main_1_2 : Claimed_1_2 := comes_1 fun _ _ _ _ _ _ h hF => ⟨h.2.1, hF⟩
end Jvm.Pilot.@@N@@
namespace Jvm.Pilot.@@N@@
open Jvm Jvm.ClassFile Sem Op Lib Jvm.Free Jvm.Stand Jvm.Pilot.@@N@@.Jvm.D
/-! MADE BY PROGRAM (witnessworld.py) out of the Statement's table words and the real class files: 38 classes; the members and pool entries that the words name. The judged class is class 1, her method 2. -/
namespace start1
open Jvm.ClassFile
def u (s : String) : CpInfo := .utf8 (stringToUtf16 s)
/-- a pool by its gaps: so many unusable entries, then the entry; so many at the end -/
def gap : Nat → List CpInfo → List CpInfo
  | 0, r => r
  | n + 1, r => .unusable :: gap n r
def poolList (es : List (Nat × CpInfo)) (last : Nat) : List CpInfo := es.foldr (fun e r => gap e.1 (e.2 :: r)) (gap last [])
def pool (es : List (Nat × CpInfo)) (last : Nat) : Array CpInfo := ⟨poolList es last⟩
def fileOf (pool : Array CpInfo) (this : Nat) (attrs : Array Attribute := #[]) (ms : Array MethodInfo := #[]) (fl : Nat := 33) (sup : Nat := 0) (ifs : Array Nat := #[]) (fds : Array FieldInfo := #[]) : ClassFile where
  minorVersion := 0
  majorVersion := 65
  constantPool := pool
  accessFlags := fl
  thisClass := this
  superClass := sup
  interfaces := ifs
  fields := fds
  methods := ms
  attributes := attrs
def plain (name : String) (sup : Option ClassId) : Class where
  name := name
  kind := .ordinary
  loader := none
  accessFlags := 33
  super := sup
  interfaces := #[]
  cf := none
  fields := #[]
  methods := #[]
  instanceTypes := #[]
  staticTypes := #[]
  resolved := #[]
  callSites := []
  init := .initialized
  statics := none
  mirror := none

def pool0 : Array CpInfo := pool [(5, u "<init>"), (0, u "()V"), (1, .class_ 10), (1, u "java/lang/Object"), (0, u "getClass"), (0, u "()Ljava/lang/Class;"), (83, u "clone"), (0, u "()Ljava/lang/Object;")] 26

def k0c0 : Code := { maxStack := 0, maxLocals := 1, code := object_method_1_code, exceptionTable := #[], attributes := #[] }
def k0m0 : Method := { name := "<init>", desc := "()V", sig := { parameters := [], returnType := none }, accessFlags := 1, code := some k0c0 }
def k0m1 : Method := { name := "getClass", desc := "()Ljava/lang/Class;", sig := { parameters := [], returnType := some (.object "java/lang/Class") }, accessFlags := 273, code := none }
def k0m2 : Method := { name := "clone", desc := "()Ljava/lang/Object;", sig := { parameters := [], returnType := some (.object "java/lang/Object") }, accessFlags := 260, code := none }
/-- java/lang/Object -/
def k0 : Class := { plain "java/lang/Object" none with
  accessFlags := 33
  interfaces := #[]
  cf := some (fileOf pool0 8 #[] #[{ accessFlags := 1, nameIndex := 5, descriptorIndex := 6, attributes := #[] }, { accessFlags := 273, nameIndex := 11, descriptorIndex := 12, attributes := #[] }, { accessFlags := 260, nameIndex := 96, descriptorIndex := 97, attributes := #[] }] 33 0 #[] #[])
  fields := #[]
  methods := #[k0m0, k0m1, k0m2]
  instanceTypes := #[]
  staticTypes := #[]
  resolved := Array.replicate 124 none
  statics := none }

def pool1 : Array CpInfo := pool [(2, .class_ 4), (0, .nameAndType 5 6), (0, u "java/lang/Object"), (0, u "<init>"), (0, u "()V"), (0, .methodref 8 9), (0, .class_ 10), (0, .nameAndType 11 12), (0, u "java/lang/String"), (0, u "valueOf"), (0, u "(C)Ljava/lang/String;"), (0, .methodref 8 14), (0, .nameAndType 5 15), (0, u "([C)V"), (0, .integer 2147483647), (0, .methodref 18 19), (0, .class_ 20), (0, .nameAndType 21 22), (0, u "com/example/heaplens/heaplens/cfg/ScopeNamePinLaw"), (0, u "draw"), (0, u "(I)Ljava/lang/String;"), (0, .class_ 24), (0, u "java/util/ArrayList"), (0, .methodref 23 3), (0, .methodref 23 27), (0, .nameAndType 28 29), (0, u "add"), (0, u "(Ljava/lang/Object;)Z"), (0, .class_ 31), (0, u "com/example/heaplens/heaplens/cfg/Scope"), (0, .methodref 30 33), (0, .nameAndType 5 34), (0, u "(Ljava/util/List;[I)V"), (0, .methodref 30 36), (0, .nameAndType 37 22), (0, u "name"), (0, .methodref 8 39), (0, .nameAndType 40 29), (0, u "equals"), (3, u "law"), (0, u "(IIIII)Z")] 4

def k1m0 : Method := { name := "<init>", desc := "()V", sig := { parameters := [], returnType := none }, accessFlags := 1, code := none }
def k1c1 : Code := { maxStack := 4, maxLocals := 2, code := method_2_code, exceptionTable := #[], attributes := #[] }
def k1m1 : Method := { name := "draw", desc := "(I)Ljava/lang/String;", sig := { parameters := [.int], returnType := some (.object "java/lang/String") }, accessFlags := 10, code := some k1c1 }
def k1c2 : Code := { maxStack := 4, maxLocals := 15, code := code, exceptionTable := #[], attributes := #[] }
def k1m2 : Method := { name := "law", desc := "(IIIII)Z", sig := { parameters := [.int, .int, .int, .int, .int], returnType := some .boolean }, accessFlags := 9, code := some k1c2 }
/-- com/example/heaplens/heaplens/cfg/ScopeNamePinLaw -/
def k1 : Class := { plain "com/example/heaplens/heaplens/cfg/ScopeNamePinLaw" (some 0) with
  accessFlags := 49
  interfaces := #[]
  cf := some (fileOf pool1 18 #[] #[{ accessFlags := 1, nameIndex := 5, descriptorIndex := 6, attributes := #[] }, { accessFlags := 10, nameIndex := 21, descriptorIndex := 22, attributes := #[] }, { accessFlags := 9, nameIndex := 44, descriptorIndex := 45, attributes := #[] }] 49 2 #[] #[])
  fields := #[]
  methods := #[k1m0, k1m1, k1m2]
  instanceTypes := #[]
  staticTypes := #[]
  resolved := Array.replicate 50 none
  statics := none }

def pool2 : Array CpInfo := pool [(1, .class_ 2), (0, u "java/io/Serializable"), (0, .class_ 4), (0, u "java/lang/Object")] 2

/-- java/io/Serializable -/
def k2 : Class := { plain "java/io/Serializable" (some 0) with
  accessFlags := 1537
  interfaces := #[]
  cf := some (fileOf pool2 1 #[] #[] 1537 3 #[] #[])
  fields := #[]
  methods := #[]
  instanceTypes := #[]
  staticTypes := #[]
  resolved := Array.replicate 7 none
  statics := none }

def pool3 : Array CpInfo := pool [(1, .class_ 2), (0, u "java/lang/Comparable"), (0, .class_ 4), (0, u "java/lang/Object")] 7

/-- java/lang/Comparable -/
def k3 : Class := { plain "java/lang/Comparable" (some 0) with
  accessFlags := 1537
  interfaces := #[]
  cf := some (fileOf pool3 1 #[] #[] 1537 3 #[] #[])
  fields := #[]
  methods := #[]
  instanceTypes := #[]
  staticTypes := #[]
  resolved := Array.replicate 12 none
  statics := none }

def pool4 : Array CpInfo := pool [(2, .class_ 4), (1, u "java/lang/CharSequence"), (42, .class_ 48), (0, u "java/lang/CharSequence$1CodePointIterator"), (10, .class_ 60), (0, u "java/lang/CharSequence$1CharIterator"), (5, .class_ 67), (0, u "java/lang/Object")] 63

/-- java/lang/CharSequence -/
def k4 : Class := { plain "java/lang/CharSequence" (some 0) with
  accessFlags := 1537
  interfaces := #[]
  cf := some (fileOf pool4 2 #[.nestMembers #[47, 59]] #[] 1537 66 #[] #[])
  fields := #[]
  methods := #[]
  instanceTypes := #[]
  staticTypes := #[]
  resolved := Array.replicate 131 none
  statics := none }

def pool5 : Array CpInfo := pool [(1, .class_ 2), (0, u "java/lang/constant/Constable"), (0, .class_ 4), (0, u "java/lang/Object")] 6

/-- java/lang/constant/Constable -/
def k5 : Class := { plain "java/lang/constant/Constable" (some 0) with
  accessFlags := 1537
  interfaces := #[]
  cf := some (fileOf pool5 1 #[] #[] 1537 3 #[] #[])
  fields := #[]
  methods := #[]
  instanceTypes := #[]
  staticTypes := #[]
  resolved := Array.replicate 11 none
  statics := none }

def pool6 : Array CpInfo := pool [(1, .class_ 2), (0, u "java/lang/constant/ConstantDesc"), (0, .class_ 4), (0, u "java/lang/Object")] 32

/-- java/lang/constant/ConstantDesc -/
def k6 : Class := { plain "java/lang/constant/ConstantDesc" (some 0) with
  accessFlags := 1537
  interfaces := #[]
  cf := some (fileOf pool6 1 #[] #[] 1537 3 #[] #[])
  fields := #[]
  methods := #[]
  instanceTypes := #[]
  staticTypes := #[]
  resolved := Array.replicate 37 none
  statics := none }

def pool7 : Array CpInfo := pool [(1, .methodref 2 3), (0, .class_ 4), (0, .nameAndType 5 6), (0, u "java/lang/Object"), (0, u "<init>"), (0, u "()V"), (2, .fieldref 10 11), (0, .class_ 12), (0, .nameAndType 13 14), (0, u "java/lang/String"), (0, u "value"), (0, u "[B"), (0, .fieldref 10 16), (0, .nameAndType 17 18), (0, u "coder"), (0, u "B"), (2, u "hash"), (0, u "I"), (2, u "hashIsZero"), (0, u "Z"), (0, .methodref 10 28), (0, .nameAndType 5 29), (0, u "([CIILjava/lang/Void;)V"), (8, .fieldref 10 39), (0, .nameAndType 40 26), (0, u "COMPACT_STRINGS"), (1, .class_ 44), (1, u "java/lang/StringUTF16"), (0, u "compress"), (1, .methodref 42 48), (0, .nameAndType 49 50), (0, u "coderFromArrayLen"), (0, u "([BI)B"), (2, u "toBytes"), (53, .class_ 109), (1, u "java/lang/StringLatin1"), (67, .methodref 42 178), (0, .nameAndType 45 179), (0, u "([CII)[B"), (29, .methodref 10 210), (0, .nameAndType 5 211), (0, u "([BB)V"), (157, u "(C)Z"), (173, u "equals"), (29, u "(Ljava/lang/Object;)Z"), (1, .class_ 576), (0, u "java/lang/CharSequence"), (22, u "CASE_INSENSITIVE_ORDER"), (0, u "Ljava/util/Comparator;"), (181, u "valueOf"), (0, u "(C)Ljava/lang/String;"), (226, u "([C)V"), (4, .methodref 107 1016), (0, .nameAndType 1017 369), (0, u "canEncode"), (0, .methodref 107 1019), (0, .nameAndType 53 1020), (0, u "(C)[B"), (80, u "serialPersistentFields"), (0, u "[Ljava/io/ObjectStreamField;"), (0, .class_ 1104), (0, u "java/lang/String$CaseInsensitiveComparator"), (1, .class_ 1107), (0, u "java/io/Serializable"), (0, .class_ 1109), (0, u "java/lang/Comparable"), (0, .class_ 1111), (0, u "java/lang/constant/Constable"), (0, .class_ 1113), (0, u "java/lang/constant/ConstantDesc"), (2, u "serialVersionUID"), (0, u "J"), (3, u "REPL"), (0, u "C"), (2, u "LATIN1"), (1, u "UTF16")] 323

def k7m0 : Method := { name := "<init>", desc := "()V", sig := { parameters := [], returnType := none }, accessFlags := 1, code := none }
def k7c1 : Code := { maxStack := 5, maxLocals := 2, code := jdk_42_method_3_code, exceptionTable := #[], attributes := #[] }
def k7m1 : Method := { name := "<init>", desc := "([C)V", sig := { parameters := [(.array .char)], returnType := none }, accessFlags := 1, code := some k7c1 }
def k7c2 : Code := { maxStack := 2, maxLocals := 3, code := jdk_42_method_66_code, exceptionTable := #[], attributes := #[] }
def k7m2 : Method := { name := "equals", desc := "(Ljava/lang/Object;)Z", sig := { parameters := [(.object "java/lang/Object")], returnType := some .boolean }, accessFlags := 1, code := some k7c2 }
def k7c3 : Code := { maxStack := 4, maxLocals := 1, code := jdk_42_method_139_code, exceptionTable := #[], attributes := #[] }
def k7m3 : Method := { name := "valueOf", desc := "(C)Ljava/lang/String;", sig := { parameters := [.char], returnType := some (.object "java/lang/String") }, accessFlags := 9, code := some k7c3 }
def k7c4 : Code := { maxStack := 4, maxLocals := 6, code := jdk_42_method_149_code, exceptionTable := #[], attributes := #[] }
def k7m4 : Method := { name := "<init>", desc := "([CIILjava/lang/Void;)V", sig := { parameters := [(.array .char), .int, .int, (.object "java/lang/Void")], returnType := none }, accessFlags := 2, code := some k7c4 }
def k7c5 : Code := { maxStack := 2, maxLocals := 3, code := jdk_42_method_151_code, exceptionTable := #[], attributes := #[] }
def k7m5 : Method := { name := "<init>", desc := "([BB)V", sig := { parameters := [(.array .byte), .byte], returnType := none }, accessFlags := 0, code := some k7c5 }
/-- java/lang/String -/
def k7 : Class := { plain "java/lang/String" (some 0) with
  accessFlags := 49
  interfaces := #[2, 3, 4, 5, 6]
  cf := some (fileOf pool7 10 #[.nestMembers #[1103]] #[{ accessFlags := 1, nameIndex := 5, descriptorIndex := 6, attributes := #[] }, { accessFlags := 1, nameIndex := 5, descriptorIndex := 1010, attributes := #[] }, { accessFlags := 1, nameIndex := 543, descriptorIndex := 573, attributes := #[] }, { accessFlags := 9, nameIndex := 782, descriptorIndex := 783, attributes := #[] }, { accessFlags := 2, nameIndex := 5, descriptorIndex := 29, attributes := #[] }, { accessFlags := 0, nameIndex := 5, descriptorIndex := 211, attributes := #[] }] 49 2 #[1106, 1108, 575, 1110, 1112] #[{ accessFlags := 18, nameIndex := 13, descriptorIndex := 14, attributes := #[] }, { accessFlags := 18, nameIndex := 17, descriptorIndex := 18, attributes := #[] }, { accessFlags := 2, nameIndex := 21, descriptorIndex := 22, attributes := #[] }, { accessFlags := 2, nameIndex := 25, descriptorIndex := 26, attributes := #[] }, { accessFlags := 26, nameIndex := 1116, descriptorIndex := 1117, attributes := #[] }, { accessFlags := 24, nameIndex := 40, descriptorIndex := 26, attributes := #[] }, { accessFlags := 26, nameIndex := 1101, descriptorIndex := 1102, attributes := #[] }, { accessFlags := 26, nameIndex := 1121, descriptorIndex := 1122, attributes := #[] }, { accessFlags := 25, nameIndex := 599, descriptorIndex := 600, attributes := #[] }, { accessFlags := 24, nameIndex := 1125, descriptorIndex := 18, attributes := #[] }, { accessFlags := 24, nameIndex := 1127, descriptorIndex := 18, attributes := #[] }])
  fields := #[{ name := "value", type := (.array .byte), accessFlags := 18, slot := 0, constantValue := 0 }, { name := "coder", type := .byte, accessFlags := 18, slot := 1, constantValue := 0 }, { name := "hash", type := .int, accessFlags := 2, slot := 2, constantValue := 0 }, { name := "hashIsZero", type := .boolean, accessFlags := 2, slot := 3, constantValue := 0 }, { name := "serialVersionUID", type := .long, accessFlags := 26, slot := 0, constantValue := 0 }, { name := "COMPACT_STRINGS", type := .boolean, accessFlags := 24, slot := 1, constantValue := 0 }, { name := "serialPersistentFields", type := (.array (.object "java/io/ObjectStreamField")), accessFlags := 26, slot := 2, constantValue := 0 }, { name := "REPL", type := .char, accessFlags := 26, slot := 3, constantValue := 0 }, { name := "CASE_INSENSITIVE_ORDER", type := (.object "java/util/Comparator"), accessFlags := 25, slot := 4, constantValue := 0 }, { name := "LATIN1", type := .byte, accessFlags := 24, slot := 5, constantValue := 0 }, { name := "UTF16", type := .byte, accessFlags := 24, slot := 6, constantValue := 0 }]
  methods := #[k7m0, k7m1, k7m2, k7m3, k7m4, k7m5]
  instanceTypes := #[(.array .byte), .byte, .int, .boolean]
  staticTypes := #[.long, .boolean, (.array (.object "java/io/ObjectStreamField")), .char, (.object "java/util/Comparator"), .byte, .byte]
  resolved := Array.replicate 1451 none
  statics := some 0 }

def pool8 : Array CpInfo := pool [(6, .class_ 8), (1, u "java/lang/Object"), (0, u "<init>"), (0, u "()V"), (1, .class_ 14), (1, u "java/lang/StringUTF16"), (31, u "$assertionsDisabled"), (0, u "Z"), (13, u "HI_BYTE_SHIFT"), (0, u "I"), (2, u "LO_BYTE_SHIFT"), (49, .methodref 12 116), (0, .nameAndType 117 118), (0, u "compress"), (0, u "([CI[BII)I"), (3, u "([CII)[B"), (138, u "coderFromArrayLen"), (0, u "([BI)B"), (106, .class_ 371), (1, u "java/lang/StringUTF16$LinesSpliterator"), (58, u "MAX_LENGTH"), (196, .class_ 628), (0, u "java/lang/StringUTF16$CodePointsSpliterator"), (0, .class_ 630), (0, u "java/lang/StringUTF16$CharsSpliterator")] 4

def k8m0 : Method := { name := "<init>", desc := "()V", sig := { parameters := [], returnType := none }, accessFlags := 0, code := none }
def k8c1 : Code := { maxStack := 2, maxLocals := 2, code := jdk_52_method_15_code, exceptionTable := #[], attributes := #[] }
def k8m1 : Method := { name := "coderFromArrayLen", desc := "([BI)B", sig := { parameters := [(.array .byte), .int], returnType := some .byte }, accessFlags := 8, code := some k8c1 }
def k8c2 : Code := { maxStack := 5, maxLocals := 6, code := jdk_52_method_16_code, exceptionTable := #[], attributes := #[] }
def k8m2 : Method := { name := "compress", desc := "([CII)[B", sig := { parameters := [(.array .char), .int, .int], returnType := some (.array .byte) }, accessFlags := 9, code := some k8c2 }
def k8c3 : Code := { maxStack := 3, maxLocals := 7, code := jdk_52_method_21_code, exceptionTable := #[], attributes := #[] }
def k8m3 : Method := { name := "compress", desc := "([CI[BII)I", sig := { parameters := [(.array .char), .int, (.array .byte), .int, .int], returnType := some .int }, accessFlags := 9, code := some k8c3 }
/-- java/lang/StringUTF16 -/
def k8 : Class := { plain "java/lang/StringUTF16" (some 0) with
  accessFlags := 48
  interfaces := #[]
  cf := some (fileOf pool8 12 #[.nestMembers #[627, 629, 369]] #[{ accessFlags := 0, nameIndex := 9, descriptorIndex := 10, attributes := #[] }, { accessFlags := 8, nameIndex := 261, descriptorIndex := 262, attributes := #[] }, { accessFlags := 9, nameIndex := 117, descriptorIndex := 122, attributes := #[] }, { accessFlags := 9, nameIndex := 117, descriptorIndex := 118, attributes := #[] }] 48 6 #[] #[{ accessFlags := 26, nameIndex := 61, descriptorIndex := 62, attributes := #[] }, { accessFlags := 26, nameIndex := 65, descriptorIndex := 62, attributes := #[] }, { accessFlags := 24, nameIndex := 430, descriptorIndex := 62, attributes := #[] }, { accessFlags := 4120, nameIndex := 46, descriptorIndex := 47, attributes := #[] }])
  fields := #[{ name := "HI_BYTE_SHIFT", type := .int, accessFlags := 26, slot := 0, constantValue := 0 }, { name := "LO_BYTE_SHIFT", type := .int, accessFlags := 26, slot := 1, constantValue := 0 }, { name := "MAX_LENGTH", type := .int, accessFlags := 24, slot := 2, constantValue := 0 }, { name := "$assertionsDisabled", type := .boolean, accessFlags := 4120, slot := 3, constantValue := 0 }]
  methods := #[k8m0, k8m1, k8m2, k8m3]
  instanceTypes := #[]
  staticTypes := #[.int, .int, .int, .boolean]
  resolved := Array.replicate 635 none
  statics := none }

def pool9 : Array CpInfo := pool [(8, .class_ 10), (1, u "java/lang/Iterable"), (24, .class_ 36), (0, u "java/lang/Object")] 25

/-- java/lang/Iterable -/
def k9 : Class := { plain "java/lang/Iterable" (some 0) with
  accessFlags := 1537
  interfaces := #[]
  cf := some (fileOf pool9 8 #[] #[] 1537 35 #[] #[])
  fields := #[]
  methods := #[]
  instanceTypes := #[]
  staticTypes := #[]
  resolved := Array.replicate 62 none
  statics := none }

def pool10 : Array CpInfo := pool [(10, .class_ 12), (1, u "java/util/Collection"), (0, u "toArray"), (16, u "()Z"), (29, .class_ 61), (0, u "java/lang/Object"), (0, .class_ 63), (0, u "java/lang/Iterable"), (2, u "isEmpty"), (3, u "()[Ljava/lang/Object;")] 44

def k10m0 : Method := { name := "isEmpty", desc := "()Z", sig := { parameters := [], returnType := some .boolean }, accessFlags := 1025, code := none }
def k10m1 : Method := { name := "toArray", desc := "()[Ljava/lang/Object;", sig := { parameters := [], returnType := some (.array (.object "java/lang/Object")) }, accessFlags := 1025, code := none }
/-- java/util/Collection -/
def k10 : Class := { plain "java/util/Collection" (some 0) with
  accessFlags := 1537
  interfaces := #[9]
  cf := some (fileOf pool10 10 #[] #[{ accessFlags := 1025, nameIndex := 66, descriptorIndex := 30, attributes := #[] }, { accessFlags := 1025, nameIndex := 13, descriptorIndex := 70, attributes := #[] }] 1537 60 #[62] #[])
  fields := #[]
  methods := #[k10m0, k10m1]
  instanceTypes := #[]
  staticTypes := #[]
  resolved := Array.replicate 115 none
  statics := none }

def pool11 : Array CpInfo := pool [(1, .methodref 2 3), (0, .class_ 4), (0, .nameAndType 5 6), (0, u "java/lang/Object"), (0, u "<init>"), (0, u "()V"), (1, .class_ 10), (1, u "java/util/AbstractCollection"), (66, .class_ 78), (0, u "java/util/Collection")] 81

def k11c0 : Code := { maxStack := 1, maxLocals := 1, code := jdk_22_method_1_code, exceptionTable := #[], attributes := #[] }
def k11m0 : Method := { name := "<init>", desc := "()V", sig := { parameters := [], returnType := none }, accessFlags := 4, code := some k11c0 }
/-- java/util/AbstractCollection -/
def k11 : Class := { plain "java/util/AbstractCollection" (some 0) with
  accessFlags := 1057
  interfaces := #[10]
  cf := some (fileOf pool11 8 #[] #[{ accessFlags := 4, nameIndex := 5, descriptorIndex := 6, attributes := #[] }] 1057 2 #[77] #[])
  fields := #[]
  methods := #[k11m0]
  instanceTypes := #[]
  staticTypes := #[]
  resolved := Array.replicate 160 none
  statics := none }

def pool12 : Array CpInfo := pool [(8, .class_ 10), (1, u "java/util/SequencedCollection"), (15, .class_ 27), (0, u "java/lang/Object"), (0, .class_ 29), (0, u "java/util/Collection")] 27

/-- java/util/SequencedCollection -/
def k12 : Class := { plain "java/util/SequencedCollection" (some 0) with
  accessFlags := 1537
  interfaces := #[10]
  cf := some (fileOf pool12 8 #[] #[] 1537 26 #[28] #[])
  fields := #[]
  methods := #[]
  instanceTypes := #[]
  staticTypes := #[]
  resolved := Array.replicate 57 none
  statics := none }

def pool13 : Array CpInfo := pool [(8, .class_ 10), (1, u "java/util/List"), (20, u "(Ljava/lang/Object;)V"), (16, u "<init>"), (26, u "get"), (0, u "(I)Ljava/lang/Object;"), (11, u "of"), (2, .class_ 93), (1, u "java/util/ImmutableCollections"), (2, .class_ 97), (0, u "java/util/ImmutableCollections$List12"), (0, .methodref 96 99), (0, .nameAndType 48 31), (0, .methodref 96 101), (0, .nameAndType 48 102), (0, u "(Ljava/lang/Object;Ljava/lang/Object;)V"), (0, .class_ 104), (0, u "java/lang/Object"), (3, u "([Ljava/lang/Object;)Ljava/util/List;"), (0, .methodref 91 110), (0, .nameAndType 111 108), (0, u "listFromArray"), (0, .methodref 91 113), (0, .nameAndType 114 115), (0, u "listCopy"), (0, u "(Ljava/util/Collection;)Ljava/util/List;"), (4, .class_ 121), (0, u "java/util/SequencedCollection"), (112, u "copyOf")] 16

def k13m0 : Method := { name := "get", desc := "(I)Ljava/lang/Object;", sig := { parameters := [.int], returnType := some (.object "java/lang/Object") }, accessFlags := 1025, code := none }
def k13c1 : Code := { maxStack := 5, maxLocals := 2, code := jdk_40_method_47_code, exceptionTable := #[], attributes := #[] }
def k13m1 : Method := { name := "of", desc := "([Ljava/lang/Object;)Ljava/util/List;", sig := { parameters := [(.array (.object "java/lang/Object"))], returnType := some (.object "java/util/List") }, accessFlags := 137, code := some k13c1 }
def k13c2 : Code := { maxStack := 1, maxLocals := 1, code := jdk_40_method_48_code, exceptionTable := #[], attributes := #[] }
def k13m2 : Method := { name := "copyOf", desc := "(Ljava/util/Collection;)Ljava/util/List;", sig := { parameters := [(.object "java/util/Collection")], returnType := some (.object "java/util/List") }, accessFlags := 9, code := some k13c2 }
/-- java/util/List -/
def k13 : Class := { plain "java/util/List" (some 0) with
  accessFlags := 1537
  interfaces := #[12]
  cf := some (fileOf pool13 8 #[] #[{ accessFlags := 1025, nameIndex := 75, descriptorIndex := 76, attributes := #[] }, { accessFlags := 137, nameIndex := 88, descriptorIndex := 108, attributes := #[] }, { accessFlags := 9, nameIndex := 234, descriptorIndex := 115, attributes := #[] }] 1537 103 #[120] #[])
  fields := #[]
  methods := #[k13m0, k13m1, k13m2]
  instanceTypes := #[]
  staticTypes := #[]
  resolved := Array.replicate 251 none
  statics := none }

def pool14 : Array CpInfo := pool [(1, .methodref 2 3), (0, .class_ 4), (0, .nameAndType 5 6), (0, u "java/util/AbstractCollection"), (0, u "<init>"), (0, u "()V"), (0, .fieldref 8 9), (0, .class_ 10), (0, .nameAndType 11 12), (0, u "java/util/AbstractList"), (0, u "modCount"), (0, u "I"), (64, .class_ 78), (0, u "java/util/AbstractList$Itr"), (3, .class_ 83), (0, u "java/util/AbstractList$ListItr"), (9, .class_ 94), (0, u "java/util/AbstractList$RandomAccessSubList"), (3, .class_ 99), (0, u "java/util/AbstractList$SubList"), (33, .class_ 134), (0, u "java/util/List"), (73, .class_ 209), (0, u "java/util/AbstractList$SubList$1"), (0, .class_ 211), (0, u "java/util/AbstractList$RandomAccessSpliterator")] 6

def k14c0 : Code := { maxStack := 2, maxLocals := 1, code := jdk_39_method_1_code, exceptionTable := #[], attributes := #[] }
def k14m0 : Method := { name := "<init>", desc := "()V", sig := { parameters := [], returnType := none }, accessFlags := 4, code := some k14c0 }
/-- java/util/AbstractList -/
def k14 : Class := { plain "java/util/AbstractList" (some 11) with
  accessFlags := 1057
  interfaces := #[13]
  cf := some (fileOf pool14 8 #[.nestMembers #[93, 98, 208, 210, 82, 77]] #[{ accessFlags := 4, nameIndex := 5, descriptorIndex := 6, attributes := #[] }] 1057 2 #[133] #[{ accessFlags := 132, nameIndex := 11, descriptorIndex := 12, attributes := #[] }])
  fields := #[{ name := "modCount", type := .int, accessFlags := 132, slot := 0, constantValue := 0 }]
  methods := #[k14m0]
  instanceTypes := #[.int]
  staticTypes := #[]
  resolved := Array.replicate 218 none
  statics := none }

def pool15 : Array CpInfo := pool [(1, .class_ 2), (0, u "java/util/RandomAccess"), (0, .class_ 4), (0, u "java/lang/Object")] 2

/-- java/util/RandomAccess -/
def k15 : Class := { plain "java/util/RandomAccess" (some 0) with
  accessFlags := 1537
  interfaces := #[]
  cf := some (fileOf pool15 1 #[] #[] 1537 3 #[] #[])
  fields := #[]
  methods := #[]
  instanceTypes := #[]
  staticTypes := #[]
  resolved := Array.replicate 7 none
  statics := none }

def pool16 : Array CpInfo := pool [(1, .class_ 2), (0, u "java/lang/Cloneable"), (0, .class_ 4), (0, u "java/lang/Object")] 2

/-- java/lang/Cloneable -/
def k16 : Class := { plain "java/lang/Cloneable" (some 0) with
  accessFlags := 1537
  interfaces := #[]
  cf := some (fileOf pool16 1 #[] #[] 1537 3 #[] #[])
  fields := #[]
  methods := #[]
  instanceTypes := #[]
  staticTypes := #[]
  resolved := Array.replicate 7 none
  statics := none }

def pool17 : Array CpInfo := pool [(1, .methodref 2 3), (0, .class_ 4), (0, .nameAndType 5 6), (0, u "java/util/AbstractList"), (0, u "<init>"), (0, u "()V"), (0, .class_ 8), (0, u "java/lang/Object"), (0, .fieldref 10 11), (0, .class_ 12), (0, .nameAndType 13 14), (0, u "java/util/ArrayList"), (0, u "elementData"), (0, u "[Ljava/lang/Object;"), (2, u "EMPTY_ELEMENTDATA"), (21, .fieldref 10 40), (0, .nameAndType 41 14), (0, u "DEFAULTCAPACITY_EMPTY_ELEMENTDATA"), (4, u "toArray"), (0, u "()[Ljava/lang/Object;"), (0, .fieldref 10 49), (0, .nameAndType 50 51), (0, u "size"), (0, u "I"), (6, .class_ 60), (1, u "java/util/Arrays"), (0, u "copyOf"), (1, .fieldref 10 64), (0, .nameAndType 65 51), (0, u "modCount"), (0, .methodref 58 67), (0, .nameAndType 61 68), (0, u "([Ljava/lang/Object;I)[Ljava/lang/Object;"), (0, .methodref 10 70), (0, .nameAndType 71 72), (0, u "grow"), (0, u "(I)[Ljava/lang/Object;"), (6, .methodref 80 81), (0, .class_ 82), (0, .nameAndType 83 84), (0, u "java/lang/Math"), (0, u "max"), (0, u "(II)I"), (11, u "(Ljava/lang/Object;)Z"), (32, .methodref 10 130), (0, .nameAndType 71 47), (0, .methodref 10 132), (0, .nameAndType 133 134), (0, u "add"), (0, u "(Ljava/lang/Object;[Ljava/lang/Object;I)V"), (13, .class_ 149), (0, u "java/util/List"), (23, u "()Z"), (88, .class_ 263), (0, u "java/util/ArrayList$ListItr"), (3, .class_ 268), (0, u "java/util/ArrayList$Itr"), (7, .class_ 277), (0, u "java/util/ArrayList$SubList"), (12, .class_ 291), (0, u "java/util/ArrayList$ArrayListSpliterator"), (37, .class_ 330), (0, u "java/util/RandomAccess"), (0, .class_ 332), (0, u "java/lang/Cloneable"), (0, .class_ 334), (0, u "java/io/Serializable"), (0, u "serialVersionUID"), (0, u "J"), (3, u "DEFAULT_CAPACITY"), (22, u "isEmpty"), (136, .class_ 501), (0, u "java/util/ArrayList$SubList$2"), (0, .class_ 503), (0, u "java/util/ArrayList$SubList$1")] 5

def k17c0 : Code := { maxStack := 2, maxLocals := 1, code := jdk_38_method_2_code, exceptionTable := #[], attributes := #[] }
def k17m0 : Method := { name := "<init>", desc := "()V", sig := { parameters := [], returnType := none }, accessFlags := 1, code := some k17c0 }
def k17c1 : Code := { maxStack := 4, maxLocals := 4, code := jdk_38_method_6_code, exceptionTable := #[], attributes := #[] }
def k17m1 : Method := { name := "grow", desc := "(I)[Ljava/lang/Object;", sig := { parameters := [.int], returnType := some (.array (.object "java/lang/Object")) }, accessFlags := 2, code := some k17c1 }
def k17c2 : Code := { maxStack := 3, maxLocals := 1, code := jdk_38_method_7_code, exceptionTable := #[], attributes := #[] }
def k17m2 : Method := { name := "grow", desc := "()[Ljava/lang/Object;", sig := { parameters := [], returnType := some (.array (.object "java/lang/Object")) }, accessFlags := 2, code := some k17c2 }
def k17c3 : Code := { maxStack := 1, maxLocals := 1, code := jdk_38_method_9_code, exceptionTable := #[], attributes := #[] }
def k17m3 : Method := { name := "isEmpty", desc := "()Z", sig := { parameters := [], returnType := some .boolean }, accessFlags := 1, code := some k17c3 }
def k17c4 : Code := { maxStack := 2, maxLocals := 1, code := jdk_38_method_16_code, exceptionTable := #[], attributes := #[] }
def k17m4 : Method := { name := "toArray", desc := "()[Ljava/lang/Object;", sig := { parameters := [], returnType := some (.array (.object "java/lang/Object")) }, accessFlags := 1, code := some k17c4 }
def k17c5 : Code := { maxStack := 3, maxLocals := 4, code := jdk_38_method_24_code, exceptionTable := #[], attributes := #[] }
def k17m5 : Method := { name := "add", desc := "(Ljava/lang/Object;[Ljava/lang/Object;I)V", sig := { parameters := [(.object "java/lang/Object"), (.array (.object "java/lang/Object")), .int], returnType := none }, accessFlags := 2, code := some k17c5 }
def k17c6 : Code := { maxStack := 4, maxLocals := 2, code := jdk_38_method_25_code, exceptionTable := #[], attributes := #[] }
def k17m6 : Method := { name := "add", desc := "(Ljava/lang/Object;)Z", sig := { parameters := [(.object "java/lang/Object")], returnType := some .boolean }, accessFlags := 1, code := some k17c6 }
/-- java/util/ArrayList -/
def k17 : Class := { plain "java/util/ArrayList" (some 14) with
  accessFlags := 33
  interfaces := #[13, 15, 16, 2]
  cf := some (fileOf pool17 10 #[.nestMembers #[290, 276, 500, 502, 262, 267]] #[{ accessFlags := 1, nameIndex := 5, descriptorIndex := 6, attributes := #[] }, { accessFlags := 2, nameIndex := 71, descriptorIndex := 72, attributes := #[] }, { accessFlags := 2, nameIndex := 71, descriptorIndex := 47, attributes := #[] }, { accessFlags := 1, nameIndex := 363, descriptorIndex := 173, attributes := #[] }, { accessFlags := 1, nameIndex := 46, descriptorIndex := 47, attributes := #[] }, { accessFlags := 2, nameIndex := 133, descriptorIndex := 134, attributes := #[] }, { accessFlags := 1, nameIndex := 133, descriptorIndex := 96, attributes := #[] }] 33 2 #[148, 329, 331, 333] #[{ accessFlags := 26, nameIndex := 335, descriptorIndex := 336, attributes := #[] }, { accessFlags := 26, nameIndex := 340, descriptorIndex := 51, attributes := #[] }, { accessFlags := 26, nameIndex := 17, descriptorIndex := 14, attributes := #[] }, { accessFlags := 26, nameIndex := 41, descriptorIndex := 14, attributes := #[] }, { accessFlags := 128, nameIndex := 13, descriptorIndex := 14, attributes := #[] }, { accessFlags := 2, nameIndex := 50, descriptorIndex := 51, attributes := #[] }])
  fields := #[{ name := "serialVersionUID", type := .long, accessFlags := 26, slot := 0, constantValue := 0 }, { name := "DEFAULT_CAPACITY", type := .int, accessFlags := 26, slot := 1, constantValue := 0 }, { name := "EMPTY_ELEMENTDATA", type := (.array (.object "java/lang/Object")), accessFlags := 26, slot := 2, constantValue := 0 }, { name := "DEFAULTCAPACITY_EMPTY_ELEMENTDATA", type := (.array (.object "java/lang/Object")), accessFlags := 26, slot := 3, constantValue := 0 }, { name := "elementData", type := (.array (.object "java/lang/Object")), accessFlags := 128, slot := 1, constantValue := 0 }, { name := "size", type := .int, accessFlags := 2, slot := 2, constantValue := 0 }]
  methods := #[k17m0, k17m1, k17m2, k17m3, k17m4, k17m5, k17m6]
  instanceTypes := #[.int, (.array (.object "java/lang/Object")), .int]
  staticTypes := #[.long, .int, (.array (.object "java/lang/Object")), (.array (.object "java/lang/Object"))]
  resolved := Array.replicate 509 none
  statics := some 1 }

def pool18 : Array CpInfo := pool [(1, .class_ 2), (0, u "java/lang/Math"), (1, .class_ 6), (1, u "java/lang/Object"), (0, u "<init>"), (0, u "()V"), (89, .class_ 100), (1, u "java/lang/Math$RandomNumberGeneratorHolder"), (71, u "negativeZeroFloatBits"), (0, u "J"), (2, u "negativeZeroDoubleBits"), (21, u "max"), (2, u "min"), (43, u "$assertionsDisabled"), (0, u "Z"), (88, u "(II)I"), (2, u "twoToTheDoubleScaleDown"), (0, u "D"), (4, u "twoToTheDoubleScaleUp"), (9, u "E"), (3, u "PI"), (2, u "TAU"), (2, u "DEGREES_TO_RADIANS"), (0, u "RADIANS_TO_DEGREES")] 94

def k18m0 : Method := { name := "<init>", desc := "()V", sig := { parameters := [], returnType := none }, accessFlags := 2, code := none }
def k18c1 : Code := { maxStack := 2, maxLocals := 2, code := jdk_29_method_65_code, exceptionTable := #[], attributes := #[] }
def k18m1 : Method := { name := "max", desc := "(II)I", sig := { parameters := [.int, .int], returnType := some .int }, accessFlags := 9, code := some k18c1 }
def k18c2 : Code := { maxStack := 2, maxLocals := 2, code := jdk_29_method_69_code, exceptionTable := #[], attributes := #[] }
def k18m2 : Method := { name := "min", desc := "(II)I", sig := { parameters := [.int, .int], returnType := some .int }, accessFlags := 9, code := some k18c2 }
/-- java/lang/Math -/
def k18 : Class := { plain "java/lang/Math" (some 0) with
  accessFlags := 49
  interfaces := #[]
  cf := some (fileOf pool18 1 #[.nestMembers #[98]] #[{ accessFlags := 2, nameIndex := 7, descriptorIndex := 8, attributes := #[] }, { accessFlags := 9, nameIndex := 198, descriptorIndex := 335, attributes := #[] }, { accessFlags := 9, nameIndex := 201, descriptorIndex := 335, attributes := #[] }] 49 4 #[] #[{ accessFlags := 25, nameIndex := 354, descriptorIndex := 339, attributes := #[] }, { accessFlags := 25, nameIndex := 358, descriptorIndex := 339, attributes := #[] }, { accessFlags := 25, nameIndex := 361, descriptorIndex := 339, attributes := #[] }, { accessFlags := 26, nameIndex := 364, descriptorIndex := 339, attributes := #[] }, { accessFlags := 26, nameIndex := 365, descriptorIndex := 339, attributes := #[] }, { accessFlags := 26, nameIndex := 172, descriptorIndex := 173, attributes := #[] }, { accessFlags := 26, nameIndex := 176, descriptorIndex := 173, attributes := #[] }, { accessFlags := 8, nameIndex := 344, descriptorIndex := 339, attributes := #[] }, { accessFlags := 8, nameIndex := 338, descriptorIndex := 339, attributes := #[] }, { accessFlags := 4120, nameIndex := 245, descriptorIndex := 246, attributes := #[] }])
  fields := #[{ name := "E", type := .double, accessFlags := 25, slot := 0, constantValue := 0 }, { name := "PI", type := .double, accessFlags := 25, slot := 1, constantValue := 0 }, { name := "TAU", type := .double, accessFlags := 25, slot := 2, constantValue := 0 }, { name := "DEGREES_TO_RADIANS", type := .double, accessFlags := 26, slot := 3, constantValue := 0 }, { name := "RADIANS_TO_DEGREES", type := .double, accessFlags := 26, slot := 4, constantValue := 0 }, { name := "negativeZeroFloatBits", type := .long, accessFlags := 26, slot := 5, constantValue := 0 }, { name := "negativeZeroDoubleBits", type := .long, accessFlags := 26, slot := 6, constantValue := 0 }, { name := "twoToTheDoubleScaleUp", type := .double, accessFlags := 8, slot := 7, constantValue := 0 }, { name := "twoToTheDoubleScaleDown", type := .double, accessFlags := 8, slot := 8, constantValue := 0 }, { name := "$assertionsDisabled", type := .boolean, accessFlags := 4120, slot := 9, constantValue := 0 }]
  methods := #[k18m0, k18m1, k18m2]
  instanceTypes := #[]
  staticTypes := #[.double, .double, .double, .double, .double, .long, .long, .double, .double, .boolean]
  resolved := Array.replicate 460 none
  statics := none }

def pool19 : Array CpInfo := pool [(1, .methodref 2 3), (0, .class_ 4), (0, .nameAndType 5 6), (0, u "java/lang/Object"), (0, u "<init>"), (0, u "()V"), (0, .interfaceMethodref 8 9), (0, .class_ 10), (0, .nameAndType 11 12), (0, u "java/util/List"), (0, u "copyOf"), (0, u "(Ljava/util/Collection;)Ljava/util/List;"), (0, .fieldref 14 15), (0, .class_ 16), (0, .nameAndType 17 18), (0, u "com/example/heaplens/heaplens/cfg/Scope"), (0, u "names"), (0, u "Ljava/util/List;"), (0, .methodref 20 21), (0, .class_ 22), (0, .nameAndType 23 24), (0, u "[I"), (0, u "clone"), (0, u "()Ljava/lang/Object;"), (0, .fieldref 14 26), (0, .nameAndType 27 22), (0, u "slots"), (4, .interfaceMethodref 8 33), (0, .nameAndType 34 35), (0, u "get"), (0, u "(I)Ljava/lang/Object;"), (0, .class_ 37), (0, u "java/lang/String"), (2, u "(Ljava/util/List;[I)V"), (3, u "name"), (0, u "(I)Ljava/lang/String;")] 4

def k19c0 : Code := { maxStack := 2, maxLocals := 3, code := prog_1_method_1_code, exceptionTable := #[], attributes := #[] }
def k19m0 : Method := { name := "<init>", desc := "(Ljava/util/List;[I)V", sig := { parameters := [(.object "java/util/List"), (.array .int)], returnType := none }, accessFlags := 0, code := some k19c0 }
def k19c1 : Code := { maxStack := 2, maxLocals := 2, code := prog_1_method_3_code, exceptionTable := #[], attributes := #[] }
def k19m1 : Method := { name := "name", desc := "(I)Ljava/lang/String;", sig := { parameters := [.int], returnType := some (.object "java/lang/String") }, accessFlags := 1, code := some k19c1 }
/-- com/example/heaplens/heaplens/cfg/Scope -/
def k19 : Class := { plain "com/example/heaplens/heaplens/cfg/Scope" (some 0) with
  accessFlags := 49
  interfaces := #[]
  cf := some (fileOf pool19 14 #[] #[{ accessFlags := 0, nameIndex := 5, descriptorIndex := 40, attributes := #[] }, { accessFlags := 1, nameIndex := 44, descriptorIndex := 45, attributes := #[] }] 49 2 #[] #[{ accessFlags := 18, nameIndex := 17, descriptorIndex := 18, attributes := #[] }, { accessFlags := 18, nameIndex := 27, descriptorIndex := 22, attributes := #[] }])
  fields := #[{ name := "names", type := (.object "java/util/List"), accessFlags := 18, slot := 0, constantValue := 0 }, { name := "slots", type := (.array .int), accessFlags := 18, slot := 1, constantValue := 0 }]
  methods := #[k19m0, k19m1]
  instanceTypes := #[(.object "java/util/List"), (.array .int)]
  staticTypes := #[]
  resolved := Array.replicate 50 none
  statics := none }

def pool20 : Array CpInfo := pool [(2, .class_ 4), (1, u "java/lang/Object"), (0, u "<init>"), (0, u "()V"), (3, .class_ 11), (0, u "java/util/ImmutableCollections$List12"), (0, .class_ 13), (0, u "java/util/ImmutableCollections$ListN"), (3, u "Z"), (0, .class_ 19), (0, u "java/util/List"), (0, .interfaceMethodref 21 22), (0, .class_ 23), (0, .nameAndType 24 25), (0, u "java/util/Collection"), (0, u "isEmpty"), (0, u "()Z"), (2, u "of"), (1, .interfaceMethodref 21 31), (0, .nameAndType 32 33), (0, u "toArray"), (0, u "()[Ljava/lang/Object;"), (0, .interfaceMethodref 18 35), (0, .nameAndType 28 36), (0, u "([Ljava/lang/Object;)Ljava/util/List;"), (0, .methodref 38 39), (0, .class_ 40), (0, .nameAndType 41 42), (0, u "java/util/Objects"), (0, u "requireNonNull"), (0, u "(Ljava/lang/Object;)Ljava/lang/Object;"), (0, .methodref 12 44), (0, .nameAndType 5 45), (0, u "([Ljava/lang/Object;Z)V"), (1, .class_ 49), (1, u "java/util/ImmutableCollections"), (0, u "$assertionsDisabled"), (5, u "[Ljava/lang/Object;"), (5, u "EMPTY_LIST"), (0, u "Ljava/util/ImmutableCollections$ListN;"), (8, u "EMPTY_LIST_NULLS"), (22, u "SALT32L"), (0, u "J"), (2, u "REVERSE"), (6, u "archivedObjects"), (2, u "EMPTY"), (0, u "Ljava/lang/Object;"), (0, .class_ 112), (0, u "java/util/ImmutableCollections$SetN"), (5, u "EMPTY_SET"), (0, u "Ljava/util/ImmutableCollections$SetN;"), (0, .class_ 121), (0, u "java/util/ImmutableCollections$MapN"), (3, u "EMPTY_MAP"), (0, u "Ljava/util/ImmutableCollections$MapN;"), (4, u "EXPAND_FACTOR"), (0, u "I"), (9, u "listCopy"), (0, u "(Ljava/util/Collection;)Ljava/util/List;"), (7, u "listFromArray"), (17, .class_ 170), (0, u "java/util/ImmutableCollections$MapN$MapNIterator"), (0, .class_ 172), (0, u "java/util/ImmutableCollections$MapN$1"), (0, .class_ 174), (0, u "java/util/ImmutableCollections$Map1"), (0, .class_ 176), (0, u "java/util/ImmutableCollections$AbstractImmutableMap"), (0, .class_ 178), (0, u "java/util/ImmutableCollections$SetN$SetNIterator"), (0, .class_ 180), (0, u "java/util/ImmutableCollections$Set12"), (0, .class_ 182), (0, u "java/util/ImmutableCollections$Set12$1"), (0, .class_ 184), (0, u "java/util/ImmutableCollections$AbstractImmutableSet"), (0, .class_ 186), (0, u "java/util/ImmutableCollections$SubList"), (0, .class_ 188), (0, u "java/util/ImmutableCollections$ListItr"), (0, .class_ 190), (0, u "java/util/ImmutableCollections$AbstractImmutableList"), (0, .class_ 192), (0, u "java/util/ImmutableCollections$AbstractImmutableCollection"), (0, .class_ 194), (0, u "java/util/ImmutableCollections$Access"), (0, .class_ 196), (0, u "java/util/ImmutableCollections$Access$1")] 16

def k20m0 : Method := { name := "<init>", desc := "()V", sig := { parameters := [], returnType := none }, accessFlags := 2, code := none }
def k20c1 : Code := { maxStack := 1, maxLocals := 2, code := jdk_56_method_3_code, exceptionTable := #[], attributes := #[] }
def k20m1 : Method := { name := "listCopy", desc := "(Ljava/util/Collection;)Ljava/util/List;", sig := { parameters := [(.object "java/util/Collection")], returnType := some (.object "java/util/List") }, accessFlags := 8, code := some k20c1 }
def k20c2 : Code := { maxStack := 4, maxLocals := 3, code := jdk_56_method_4_code, exceptionTable := #[], attributes := #[] }
def k20m2 : Method := { name := "listFromArray", desc := "([Ljava/lang/Object;)Ljava/util/List;", sig := { parameters := [(.array (.object "java/lang/Object"))], returnType := some (.object "java/util/List") }, accessFlags := 136, code := some k20c2 }
/-- java/util/ImmutableCollections -/
def k20 : Class := { plain "java/util/ImmutableCollections" (some 0) with
  accessFlags := 32
  interfaces := #[]
  cf := some (fileOf pool20 47 #[.nestMembers #[120, 169, 171, 173, 175, 111, 177, 179, 181, 183, 12, 10, 185, 187, 189, 191, 193, 195]] #[{ accessFlags := 2, nameIndex := 5, descriptorIndex := 6, attributes := #[] }, { accessFlags := 8, nameIndex := 142, descriptorIndex := 143, attributes := #[] }, { accessFlags := 136, nameIndex := 151, descriptorIndex := 36, attributes := #[] }] 32 2 #[] #[{ accessFlags := 26, nameIndex := 95, descriptorIndex := 96, attributes := #[] }, { accessFlags := 26, nameIndex := 99, descriptorIndex := 17, attributes := #[] }, { accessFlags := 10, nameIndex := 106, descriptorIndex := 56, attributes := #[] }, { accessFlags := 26, nameIndex := 109, descriptorIndex := 110, attributes := #[] }, { accessFlags := 24, nameIndex := 62, descriptorIndex := 63, attributes := #[] }, { accessFlags := 24, nameIndex := 72, descriptorIndex := 63, attributes := #[] }, { accessFlags := 24, nameIndex := 118, descriptorIndex := 119, attributes := #[] }, { accessFlags := 24, nameIndex := 125, descriptorIndex := 126, attributes := #[] }, { accessFlags := 24, nameIndex := 131, descriptorIndex := 132, attributes := #[] }, { accessFlags := 4120, nameIndex := 50, descriptorIndex := 17, attributes := #[] }])
  fields := #[{ name := "SALT32L", type := .long, accessFlags := 26, slot := 0, constantValue := 0 }, { name := "REVERSE", type := .boolean, accessFlags := 26, slot := 1, constantValue := 0 }, { name := "archivedObjects", type := (.array (.object "java/lang/Object")), accessFlags := 10, slot := 2, constantValue := 0 }, { name := "EMPTY", type := (.object "java/lang/Object"), accessFlags := 26, slot := 3, constantValue := 0 }, { name := "EMPTY_LIST", type := (.object "java/util/ImmutableCollections$ListN"), accessFlags := 24, slot := 4, constantValue := 0 }, { name := "EMPTY_LIST_NULLS", type := (.object "java/util/ImmutableCollections$ListN"), accessFlags := 24, slot := 5, constantValue := 0 }, { name := "EMPTY_SET", type := (.object "java/util/ImmutableCollections$SetN"), accessFlags := 24, slot := 6, constantValue := 0 }, { name := "EMPTY_MAP", type := (.object "java/util/ImmutableCollections$MapN"), accessFlags := 24, slot := 7, constantValue := 0 }, { name := "EXPAND_FACTOR", type := .int, accessFlags := 24, slot := 8, constantValue := 0 }, { name := "$assertionsDisabled", type := .boolean, accessFlags := 4120, slot := 9, constantValue := 0 }]
  methods := #[k20m0, k20m1, k20m2]
  instanceTypes := #[]
  staticTypes := #[.long, .boolean, (.array (.object "java/lang/Object")), (.object "java/lang/Object"), (.object "java/util/ImmutableCollections$ListN"), (.object "java/util/ImmutableCollections$ListN"), (.object "java/util/ImmutableCollections$SetN"), (.object "java/util/ImmutableCollections$MapN"), .int, .boolean]
  resolved := Array.replicate 213 none
  statics := some 2 }

def pool21 : Array CpInfo := pool [(1, .methodref 2 3), (0, .class_ 4), (0, .nameAndType 5 6), (0, u "java/util/AbstractCollection"), (0, u "<init>"), (0, u "()V"), (1, .class_ 10), (1, u "java/util/ImmutableCollections"), (2, .class_ 14), (0, u "java/util/ImmutableCollections$AbstractImmutableCollection")] 41

def k21c0 : Code := { maxStack := 1, maxLocals := 1, code := jdk_47_method_1_code, exceptionTable := #[], attributes := #[] }
def k21m0 : Method := { name := "<init>", desc := "()V", sig := { parameters := [], returnType := none }, accessFlags := 0, code := some k21c0 }
/-- java/util/ImmutableCollections$AbstractImmutableCollection -/
def k21 : Class := { plain "java/util/ImmutableCollections$AbstractImmutableCollection" (some 11) with
  accessFlags := 1056
  interfaces := #[]
  cf := some (fileOf pool21 13 #[.nestHost 8] #[{ accessFlags := 0, nameIndex := 5, descriptorIndex := 6, attributes := #[] }] 1056 2 #[] #[])
  fields := #[]
  methods := #[k21m0]
  instanceTypes := #[]
  staticTypes := #[]
  resolved := Array.replicate 56 none
  statics := none }

def pool22 : Array CpInfo := pool [(1, .methodref 2 3), (0, .class_ 4), (0, .nameAndType 5 6), (0, u "java/util/ImmutableCollections$AbstractImmutableCollection"), (0, u "<init>"), (0, u "()V"), (1, .class_ 10), (1, u "java/util/ImmutableCollections"), (3, .class_ 16), (1, u "java/util/ImmutableCollections$AbstractImmutableList"), (60, .class_ 78), (0, u "java/util/List"), (45, .class_ 125), (0, u "java/util/RandomAccess")] 70

def k22c0 : Code := { maxStack := 1, maxLocals := 1, code := jdk_46_method_1_code, exceptionTable := #[], attributes := #[] }
def k22m0 : Method := { name := "<init>", desc := "()V", sig := { parameters := [], returnType := none }, accessFlags := 0, code := some k22c0 }
/-- java/util/ImmutableCollections$AbstractImmutableList -/
def k22 : Class := { plain "java/util/ImmutableCollections$AbstractImmutableList" (some 21) with
  accessFlags := 1056
  interfaces := #[13, 15]
  cf := some (fileOf pool22 14 #[.nestHost 8] #[{ accessFlags := 0, nameIndex := 5, descriptorIndex := 6, attributes := #[] }] 1056 2 #[77, 124] #[])
  fields := #[]
  methods := #[k22m0]
  instanceTypes := #[]
  staticTypes := #[]
  resolved := Array.replicate 196 none
  statics := none }

def pool23 : Array CpInfo := pool [(1, .methodref 2 3), (0, .class_ 4), (0, .nameAndType 5 6), (0, u "java/util/ImmutableCollections$AbstractImmutableList"), (0, u "<init>"), (0, u "()V"), (0, .methodref 8 9), (0, .class_ 10), (0, .nameAndType 11 12), (0, u "java/util/Objects"), (0, u "requireNonNull"), (0, u "(Ljava/lang/Object;)Ljava/lang/Object;"), (0, .fieldref 14 15), (0, .class_ 16), (0, .nameAndType 17 18), (0, u "java/util/ImmutableCollections$List12"), (0, u "e0"), (0, u "Ljava/lang/Object;"), (0, .fieldref 20 21), (0, .class_ 22), (0, .nameAndType 23 18), (0, u "java/util/ImmutableCollections"), (0, u "EMPTY"), (0, .fieldref 14 25), (0, .nameAndType 26 18), (0, u "e1"), (43, .class_ 71), (0, u "java/io/Serializable"), (4, u "(Ljava/lang/Object;)V"), (8, u "(Ljava/lang/Object;Ljava/lang/Object;)V"), (4, u "get"), (0, u "(I)Ljava/lang/Object;")] 33

def k23c0 : Code := { maxStack := 2, maxLocals := 2, code := jdk_44_method_1_code, exceptionTable := #[], attributes := #[] }
def k23m0 : Method := { name := "<init>", desc := "(Ljava/lang/Object;)V", sig := { parameters := [(.object "java/lang/Object")], returnType := none }, accessFlags := 0, code := some k23c0 }
def k23c1 : Code := { maxStack := 2, maxLocals := 3, code := jdk_44_method_2_code, exceptionTable := #[], attributes := #[] }
def k23m1 : Method := { name := "<init>", desc := "(Ljava/lang/Object;Ljava/lang/Object;)V", sig := { parameters := [(.object "java/lang/Object"), (.object "java/lang/Object")], returnType := none }, accessFlags := 0, code := some k23c1 }
def k23c2 : Code := { maxStack := 2, maxLocals := 2, code := jdk_44_method_5_code, exceptionTable := #[], attributes := #[] }
def k23m2 : Method := { name := "get", desc := "(I)Ljava/lang/Object;", sig := { parameters := [.int], returnType := some (.object "java/lang/Object") }, accessFlags := 1, code := some k23c2 }
/-- java/util/ImmutableCollections$List12 -/
def k23 : Class := { plain "java/util/ImmutableCollections$List12" (some 22) with
  accessFlags := 48
  interfaces := #[2]
  cf := some (fileOf pool23 14 #[.nestHost 20] #[{ accessFlags := 0, nameIndex := 5, descriptorIndex := 76, attributes := #[] }, { accessFlags := 0, nameIndex := 5, descriptorIndex := 85, attributes := #[] }, { accessFlags := 1, nameIndex := 90, descriptorIndex := 91, attributes := #[] }] 48 2 #[70] #[{ accessFlags := 18, nameIndex := 17, descriptorIndex := 18, attributes := #[] }, { accessFlags := 18, nameIndex := 26, descriptorIndex := 18, attributes := #[] }])
  fields := #[{ name := "e0", type := (.object "java/lang/Object"), accessFlags := 18, slot := 0, constantValue := 0 }, { name := "e1", type := (.object "java/lang/Object"), accessFlags := 18, slot := 1, constantValue := 0 }]
  methods := #[k23m0, k23m1, k23m2]
  instanceTypes := #[(.object "java/lang/Object"), (.object "java/lang/Object")]
  staticTypes := #[]
  resolved := Array.replicate 125 none
  statics := none }

def pool24 : Array CpInfo := pool [(1, .methodref 2 3), (0, .class_ 4), (0, .nameAndType 5 6), (0, u "java/util/ImmutableCollections$AbstractImmutableList"), (0, u "<init>"), (0, u "()V"), (0, .fieldref 8 9), (0, .class_ 10), (0, .nameAndType 11 12), (0, u "java/util/ImmutableCollections$ListN"), (0, u "elements"), (0, u "[Ljava/lang/Object;"), (0, .fieldref 8 14), (0, .nameAndType 15 16), (0, u "allowNulls"), (0, u "Z"), (42, .class_ 60), (0, u "java/io/Serializable"), (4, u "([Ljava/lang/Object;Z)V"), (13, u "get"), (0, u "(I)Ljava/lang/Object;"), (33, .class_ 115), (0, u "java/util/ImmutableCollections")] 3

def k24c0 : Code := { maxStack := 2, maxLocals := 3, code := jdk_45_method_1_code, exceptionTable := #[], attributes := #[] }
def k24m0 : Method := { name := "<init>", desc := "([Ljava/lang/Object;Z)V", sig := { parameters := [(.array (.object "java/lang/Object")), .boolean], returnType := none }, accessFlags := 2, code := some k24c0 }
def k24c1 : Code := { maxStack := 2, maxLocals := 2, code := jdk_45_method_4_code, exceptionTable := #[], attributes := #[] }
def k24m1 : Method := { name := "get", desc := "(I)Ljava/lang/Object;", sig := { parameters := [.int], returnType := some (.object "java/lang/Object") }, accessFlags := 1, code := some k24c1 }
/-- java/util/ImmutableCollections$ListN -/
def k24 : Class := { plain "java/util/ImmutableCollections$ListN" (some 22) with
  accessFlags := 48
  interfaces := #[2]
  cf := some (fileOf pool24 8 #[.nestHost 114] #[{ accessFlags := 2, nameIndex := 5, descriptorIndex := 65, attributes := #[] }, { accessFlags := 1, nameIndex := 79, descriptorIndex := 80, attributes := #[] }] 48 2 #[59] #[{ accessFlags := 18, nameIndex := 11, descriptorIndex := 12, attributes := #[] }, { accessFlags := 18, nameIndex := 15, descriptorIndex := 16, attributes := #[] }])
  fields := #[{ name := "elements", type := (.array (.object "java/lang/Object")), accessFlags := 18, slot := 0, constantValue := 0 }, { name := "allowNulls", type := .boolean, accessFlags := 18, slot := 1, constantValue := 0 }]
  methods := #[k24m0, k24m1]
  instanceTypes := #[(.array (.object "java/lang/Object")), .boolean]
  staticTypes := #[]
  resolved := Array.replicate 119 none
  statics := none }

def pool25 : Array CpInfo := pool [(2, .class_ 4), (1, u "java/lang/Object"), (0, u "<init>"), (0, u "()V"), (7, .class_ 16), (1, u "java/util/Arrays"), (57, .class_ 76), (1, u "java/util/Arrays$NaturalOrder"), (9, .methodref 2 87), (0, .nameAndType 88 89), (0, u "getClass"), (0, u "()Ljava/lang/Class;"), (20, .class_ 111), (0, u "[Ljava/lang/Object;"), (1, .class_ 115), (1, u "java/util/Arrays$LegacyMergeSort"), (1, u "Z"), (32, .methodref 151 152), (0, .class_ 153), (0, .nameAndType 154 155), (0, u "java/lang/System"), (0, u "arraycopy"), (0, u "(Ljava/lang/Object;ILjava/lang/Object;II)V"), (144, .methodref 14 301), (0, .nameAndType 302 303), (0, u "copyOf"), (0, u "([Ljava/lang/Object;ILjava/lang/Class;)[Ljava/lang/Object;"), (0, .methodref 305 306), (0, .class_ 307), (0, .nameAndType 308 309), (0, u "java/lang/Math"), (0, u "min"), (0, u "(II)I"), (65, .class_ 376), (0, u "java/util/Arrays$ArrayList"), (68, u "$assertionsDisabled"), (269, u "MIN_ARRAY_SORT_GRAN"), (0, u "I"), (2, u "INSERTIONSORT_THRESHOLD"), (140, u "([Ljava/lang/Object;I)[Ljava/lang/Object;"), (114, .class_ 976), (0, u "java/util/Arrays$ArrayItr")] 52

def k25m0 : Method := { name := "<init>", desc := "()V", sig := { parameters := [], returnType := none }, accessFlags := 2, code := none }
def k25c1 : Code := { maxStack := 3, maxLocals := 2, code := jdk_65_method_119_code, exceptionTable := #[], attributes := #[] }
def k25m1 : Method := { name := "copyOf", desc := "([Ljava/lang/Object;I)[Ljava/lang/Object;", sig := { parameters := [(.array (.object "java/lang/Object")), .int], returnType := some (.array (.object "java/lang/Object")) }, accessFlags := 9, code := some k25c1 }
def k25c2 : Code := { maxStack := 6, maxLocals := 4, code := jdk_65_method_120_code, exceptionTable := #[], attributes := #[] }
def k25m2 : Method := { name := "copyOf", desc := "([Ljava/lang/Object;ILjava/lang/Class;)[Ljava/lang/Object;", sig := { parameters := [(.array (.object "java/lang/Object")), .int, (.object "java/lang/Class")], returnType := some (.array (.object "java/lang/Object")) }, accessFlags := 9, code := some k25c2 }
/-- java/util/Arrays -/
def k25 : Class := { plain "java/util/Arrays" (some 0) with
  accessFlags := 49
  interfaces := #[]
  cf := some (fileOf pool25 14 #[.nestMembers #[975, 375, 113, 74]] #[{ accessFlags := 2, nameIndex := 5, descriptorIndex := 6, attributes := #[] }, { accessFlags := 9, nameIndex := 302, descriptorIndex := 860, attributes := #[] }, { accessFlags := 9, nameIndex := 302, descriptorIndex := 303, attributes := #[] }] 49 2 #[] #[{ accessFlags := 26, nameIndex := 715, descriptorIndex := 716, attributes := #[] }, { accessFlags := 26, nameIndex := 719, descriptorIndex := 716, attributes := #[] }, { accessFlags := 4120, nameIndex := 445, descriptorIndex := 117, attributes := #[] }])
  fields := #[{ name := "MIN_ARRAY_SORT_GRAN", type := .int, accessFlags := 26, slot := 0, constantValue := 0 }, { name := "INSERTIONSORT_THRESHOLD", type := .int, accessFlags := 26, slot := 1, constantValue := 0 }, { name := "$assertionsDisabled", type := .boolean, accessFlags := 4120, slot := 2, constantValue := 0 }]
  methods := #[k25m0, k25m1, k25m2]
  instanceTypes := #[]
  staticTypes := #[.int, .int, .boolean]
  resolved := Array.replicate 1029 none
  statics := none }

def pool26 : Array CpInfo := pool [(2, .class_ 4), (1, u "java/lang/Object"), (0, u "<init>"), (0, u "()V"), (1, .class_ 10), (1, u "java/lang/System"), (0, u "allowSecurityManager"), (0, u "I"), (16, u "cons"), (0, u "Ljava/io/Console;"), (77, .class_ 110), (1, u "java/lang/System$CallersHolder"), (43, u "initialErrStream"), (0, u "Ljava/io/PrintStream;"), (19, u "security"), (0, u "Ljava/lang/SecurityManager;"), (31, .class_ 209), (0, u "java/lang/System$1"), (7, u "props"), (0, u "Ljava/util/Properties;"), (2, u "lineSeparator"), (0, u "Ljava/lang/String;"), (96, .class_ 321), (1, u "java/lang/System$LoggerFinder"), (5, .class_ 328), (0, u "java/lang/System$Logger"), (67, u "err"), (2, u "out"), (91, u "notSupportedJnuEncoding"), (15, u "in"), (17, u "initialIn"), (0, u "Ljava/io/InputStream;"), (35, u "bootLayer"), (0, u "Ljava/lang/ModuleLayer;"), (99, .class_ 664), (0, u "java/lang/System$2"), (9, u "NEVER"), (2, u "MAYBE"), (49, u "arraycopy"), (0, u "(Ljava/lang/Object;ILjava/lang/Object;II)V"), (72, .class_ 802), (0, u "java/lang/System$Logger$Level")] 31

def k26m0 : Method := { name := "<init>", desc := "()V", sig := { parameters := [], returnType := none }, accessFlags := 2, code := none }
def k26m1 : Method := { name := "arraycopy", desc := "(Ljava/lang/Object;ILjava/lang/Object;II)V", sig := { parameters := [(.object "java/lang/Object"), .int, (.object "java/lang/Object"), .int, .int], returnType := none }, accessFlags := 265, code := none }
/-- java/lang/System -/
def k26 : Class := { plain "java/lang/System" (some 0) with
  accessFlags := 49
  interfaces := #[]
  cf := some (fileOf pool26 8 #[.nestMembers #[319, 327, 801, 108, 663, 208]] #[{ accessFlags := 2, nameIndex := 5, descriptorIndex := 6, attributes := #[] }, { accessFlags := 265, nameIndex := 727, descriptorIndex := 728, attributes := #[] }] 49 2 #[] #[{ accessFlags := 25, nameIndex := 507, descriptorIndex := 526, attributes := #[] }, { accessFlags := 25, nameIndex := 399, descriptorIndex := 155, attributes := #[] }, { accessFlags := 25, nameIndex := 396, descriptorIndex := 155, attributes := #[] }, { accessFlags := 10, nameIndex := 525, descriptorIndex := 526, attributes := #[] }, { accessFlags := 26, nameIndex := 674, descriptorIndex := 12, attributes := #[] }, { accessFlags := 26, nameIndex := 677, descriptorIndex := 12, attributes := #[] }, { accessFlags := 10, nameIndex := 11, descriptorIndex := 12, attributes := #[] }, { accessFlags := 74, nameIndex := 175, descriptorIndex := 176, attributes := #[] }, { accessFlags := 10, nameIndex := 491, descriptorIndex := 222, attributes := #[] }, { accessFlags := 74, nameIndex := 29, descriptorIndex := 30, attributes := #[] }, { accessFlags := 74, nameIndex := 154, descriptorIndex := 155, attributes := #[] }, { accessFlags := 10, nameIndex := 217, descriptorIndex := 218, attributes := #[] }, { accessFlags := 10, nameIndex := 221, descriptorIndex := 222, attributes := #[] }, { accessFlags := 8, nameIndex := 562, descriptorIndex := 563, attributes := #[] }])
  fields := #[{ name := "in", type := (.object "java/io/InputStream"), accessFlags := 25, slot := 0, constantValue := 0 }, { name := "out", type := (.object "java/io/PrintStream"), accessFlags := 25, slot := 1, constantValue := 0 }, { name := "err", type := (.object "java/io/PrintStream"), accessFlags := 25, slot := 2, constantValue := 0 }, { name := "initialIn", type := (.object "java/io/InputStream"), accessFlags := 10, slot := 3, constantValue := 0 }, { name := "NEVER", type := .int, accessFlags := 26, slot := 4, constantValue := 0 }, { name := "MAYBE", type := .int, accessFlags := 26, slot := 5, constantValue := 0 }, { name := "allowSecurityManager", type := .int, accessFlags := 10, slot := 6, constantValue := 0 }, { name := "security", type := (.object "java/lang/SecurityManager"), accessFlags := 74, slot := 7, constantValue := 0 }, { name := "notSupportedJnuEncoding", type := (.object "java/lang/String"), accessFlags := 10, slot := 8, constantValue := 0 }, { name := "cons", type := (.object "java/io/Console"), accessFlags := 74, slot := 9, constantValue := 0 }, { name := "initialErrStream", type := (.object "java/io/PrintStream"), accessFlags := 74, slot := 10, constantValue := 0 }, { name := "props", type := (.object "java/util/Properties"), accessFlags := 10, slot := 11, constantValue := 0 }, { name := "lineSeparator", type := (.object "java/lang/String"), accessFlags := 10, slot := 12, constantValue := 0 }, { name := "bootLayer", type := (.object "java/lang/ModuleLayer"), accessFlags := 8, slot := 13, constantValue := 0 }]
  methods := #[k26m0, k26m1]
  instanceTypes := #[]
  staticTypes := #[(.object "java/io/InputStream"), (.object "java/io/PrintStream"), (.object "java/io/PrintStream"), (.object "java/io/InputStream"), .int, .int, .int, (.object "java/lang/SecurityManager"), (.object "java/lang/String"), (.object "java/io/Console"), (.object "java/io/PrintStream"), (.object "java/util/Properties"), (.object "java/lang/String"), (.object "java/lang/ModuleLayer")]
  resolved := Array.replicate 834 none
  statics := none }

def pool27 : Array CpInfo := pool [(2, .class_ 4), (1, u "java/lang/Object"), (0, u "<init>"), (0, u "()V"), (35, .class_ 44), (1, u "java/util/Objects"), (0, u "requireNonNull"), (0, u "(Ljava/lang/Object;)Ljava/lang/Object;")] 137

def k27m0 : Method := { name := "<init>", desc := "()V", sig := { parameters := [], returnType := none }, accessFlags := 2, code := none }
def k27c1 : Code := { maxStack := 2, maxLocals := 1, code := jdk_31_method_10_code, exceptionTable := #[], attributes := #[] }
def k27m1 : Method := { name := "requireNonNull", desc := "(Ljava/lang/Object;)Ljava/lang/Object;", sig := { parameters := [(.object "java/lang/Object")], returnType := some (.object "java/lang/Object") }, accessFlags := 9, code := some k27c1 }
/-- java/util/Objects -/
def k27 : Class := { plain "java/util/Objects" (some 0) with
  accessFlags := 49
  interfaces := #[]
  cf := some (fileOf pool27 42 #[] #[{ accessFlags := 2, nameIndex := 5, descriptorIndex := 6, attributes := #[] }, { accessFlags := 9, nameIndex := 45, descriptorIndex := 46, attributes := #[] }] 49 2 #[] #[])
  fields := #[]
  methods := #[k27m0, k27m1]
  instanceTypes := #[]
  staticTypes := #[]
  resolved := Array.replicate 184 none
  statics := none }

def pool28 : Array CpInfo := pool [(4, .class_ 6), (1, u "java/lang/Object"), (0, u "<init>"), (0, u "()V"), (5, .class_ 16), (1, u "java/lang/StringLatin1"), (73, u "canEncode"), (14, u "(C)Z"), (15, u "$assertionsDisabled"), (0, u "Z"), (98, .class_ 223), (1, u "java/lang/StringLatin1$LinesSpliterator"), (156, u "toBytes"), (1, u "(C)[B"), (7, .class_ 391), (0, u "java/lang/StringLatin1$CharsSpliterator")] 3

def k28m0 : Method := { name := "<init>", desc := "()V", sig := { parameters := [], returnType := none }, accessFlags := 0, code := none }
def k28c1 : Code := { maxStack := 2, maxLocals := 1, code := jdk_43_method_3_code, exceptionTable := #[], attributes := #[] }
def k28m1 : Method := { name := "canEncode", desc := "(C)Z", sig := { parameters := [.char], returnType := some .boolean }, accessFlags := 9, code := some k28c1 }
def k28c2 : Code := { maxStack := 4, maxLocals := 1, code := jdk_43_method_46_code, exceptionTable := #[], attributes := #[] }
def k28m2 : Method := { name := "toBytes", desc := "(C)[B", sig := { parameters := [.char], returnType := some (.array .byte) }, accessFlags := 9, code := some k28c2 }
/-- java/lang/StringLatin1 -/
def k28 : Class := { plain "java/lang/StringLatin1" (some 0) with
  accessFlags := 48
  interfaces := #[]
  cf := some (fileOf pool28 14 #[.nestMembers #[390, 221]] #[{ accessFlags := 0, nameIndex := 7, descriptorIndex := 8, attributes := #[] }, { accessFlags := 9, nameIndex := 90, descriptorIndex := 105, attributes := #[] }, { accessFlags := 9, nameIndex := 380, descriptorIndex := 382, attributes := #[] }] 48 4 #[] #[{ accessFlags := 4120, nameIndex := 121, descriptorIndex := 122, attributes := #[] }])
  fields := #[{ name := "$assertionsDisabled", type := .boolean, accessFlags := 4120, slot := 0, constantValue := 0 }]
  methods := #[k28m0, k28m1, k28m2]
  instanceTypes := #[]
  staticTypes := #[.boolean]
  resolved := Array.replicate 395 none
  statics := none }

def pool29 : Array CpInfo := pool [(2, .class_ 4), (1, u "java/lang/Object"), (0, u "<init>"), (0, u "()V"), (17, .class_ 26), (1, u "jdk/internal/util/Preconditions"), (28, .class_ 56), (0, u "jdk/internal/util/Preconditions$4"), (57, .class_ 115), (0, u "jdk/internal/util/Preconditions$1"), (7, u "SIOOBE_FORMATTER"), (0, u "Ljava/util/function/BiFunction;"), (0, .class_ 126), (0, u "jdk/internal/util/Preconditions$2"), (3, u "AIOOBE_FORMATTER"), (0, .class_ 132), (0, u "jdk/internal/util/Preconditions$3"), (3, u "IOOBE_FORMATTER")] 57

def k29m0 : Method := { name := "<init>", desc := "()V", sig := { parameters := [], returnType := none }, accessFlags := 1, code := none }
/-- jdk/internal/util/Preconditions -/
def k29 : Class := { plain "jdk/internal/util/Preconditions" (some 0) with
  accessFlags := 33
  interfaces := #[]
  cf := some (fileOf pool29 24 #[.nestMembers #[55, 131, 125, 114]] #[{ accessFlags := 1, nameIndex := 5, descriptorIndex := 6, attributes := #[] }] 33 2 #[] #[{ accessFlags := 25, nameIndex := 123, descriptorIndex := 124, attributes := #[] }, { accessFlags := 25, nameIndex := 130, descriptorIndex := 124, attributes := #[] }, { accessFlags := 25, nameIndex := 136, descriptorIndex := 124, attributes := #[] }])
  fields := #[{ name := "SIOOBE_FORMATTER", type := (.object "java/util/function/BiFunction"), accessFlags := 25, slot := 0, constantValue := 0 }, { name := "AIOOBE_FORMATTER", type := (.object "java/util/function/BiFunction"), accessFlags := 25, slot := 1, constantValue := 0 }, { name := "IOOBE_FORMATTER", type := (.object "java/util/function/BiFunction"), accessFlags := 25, slot := 2, constantValue := 0 }]
  methods := #[k29m0]
  instanceTypes := #[]
  staticTypes := #[(.object "java/util/function/BiFunction"), (.object "java/util/function/BiFunction"), (.object "java/util/function/BiFunction")]
  resolved := Array.replicate 194 none
  statics := some 3 }

def pool30 : Array CpInfo := pool [(9, u "<init>"), (6, .class_ 18), (1, u "java/lang/Object"), (0, u "()V"), (1, .class_ 23), (1, u "jdk/internal/util/ArraysSupport"), (0, u "LOG2_ARRAY_LONG_INDEX_SCALE"), (0, u "I"), (2, u "U"), (0, u "Ljdk/internal/misc/Unsafe;"), (8, u "BIG_ENDIAN"), (0, u "Z"), (8, u "LOG2_BYTE_BIT_SIZE"), (4, u "LOG2_ARRAY_INT_INDEX_SCALE"), (54, u "JLA"), (0, u "Ljdk/internal/access/JavaLangAccess;"), (11, u "LOG2_ARRAY_BOOLEAN_INDEX_SCALE"), (9, u "LOG2_ARRAY_BYTE_INDEX_SCALE"), (5, u "LOG2_ARRAY_CHAR_INDEX_SCALE"), (5, u "LOG2_ARRAY_SHORT_INDEX_SCALE"), (18, u "LOG2_ARRAY_FLOAT_INDEX_SCALE"), (24, u "LOG2_ARRAY_DOUBLE_INDEX_SCALE"), (89, u "T_BOOLEAN"), (2, u "T_CHAR"), (1, u "T_FLOAT"), (1, u "T_DOUBLE"), (1, u "T_BYTE"), (1, u "T_SHORT"), (1, u "T_INT"), (1, u "T_LONG"), (1, u "SOFT_MAX_ARRAY_LENGTH")] 83

def k30m0 : Method := { name := "<init>", desc := "()V", sig := { parameters := [], returnType := none }, accessFlags := 2, code := none }
/-- jdk/internal/util/ArraysSupport -/
def k30 : Class := { plain "jdk/internal/util/ArraysSupport" (some 0) with
  accessFlags := 33
  interfaces := #[]
  cf := some (fileOf pool30 21 #[] #[{ accessFlags := 2, nameIndex := 9, descriptorIndex := 19, attributes := #[] }] 33 16 #[] #[{ accessFlags := 24, nameIndex := 28, descriptorIndex := 29, attributes := #[] }, { accessFlags := 26, nameIndex := 38, descriptorIndex := 39, attributes := #[] }, { accessFlags := 25, nameIndex := 121, descriptorIndex := 25, attributes := #[] }, { accessFlags := 25, nameIndex := 131, descriptorIndex := 25, attributes := #[] }, { accessFlags := 25, nameIndex := 137, descriptorIndex := 25, attributes := #[] }, { accessFlags := 25, nameIndex := 143, descriptorIndex := 25, attributes := #[] }, { accessFlags := 25, nameIndex := 53, descriptorIndex := 25, attributes := #[] }, { accessFlags := 25, nameIndex := 24, descriptorIndex := 25, attributes := #[] }, { accessFlags := 25, nameIndex := 162, descriptorIndex := 25, attributes := #[] }, { accessFlags := 25, nameIndex := 187, descriptorIndex := 25, attributes := #[] }, { accessFlags := 26, nameIndex := 48, descriptorIndex := 25, attributes := #[] }, { accessFlags := 25, nameIndex := 277, descriptorIndex := 25, attributes := #[] }, { accessFlags := 25, nameIndex := 280, descriptorIndex := 25, attributes := #[] }, { accessFlags := 25, nameIndex := 282, descriptorIndex := 25, attributes := #[] }, { accessFlags := 25, nameIndex := 284, descriptorIndex := 25, attributes := #[] }, { accessFlags := 25, nameIndex := 286, descriptorIndex := 25, attributes := #[] }, { accessFlags := 25, nameIndex := 288, descriptorIndex := 25, attributes := #[] }, { accessFlags := 25, nameIndex := 290, descriptorIndex := 25, attributes := #[] }, { accessFlags := 25, nameIndex := 292, descriptorIndex := 25, attributes := #[] }, { accessFlags := 26, nameIndex := 108, descriptorIndex := 109, attributes := #[] }, { accessFlags := 25, nameIndex := 294, descriptorIndex := 25, attributes := #[] }])
  fields := #[{ name := "U", type := (.object "jdk/internal/misc/Unsafe"), accessFlags := 24, slot := 0, constantValue := 0 }, { name := "BIG_ENDIAN", type := .boolean, accessFlags := 26, slot := 1, constantValue := 0 }, { name := "LOG2_ARRAY_BOOLEAN_INDEX_SCALE", type := .int, accessFlags := 25, slot := 2, constantValue := 0 }, { name := "LOG2_ARRAY_BYTE_INDEX_SCALE", type := .int, accessFlags := 25, slot := 3, constantValue := 0 }, { name := "LOG2_ARRAY_CHAR_INDEX_SCALE", type := .int, accessFlags := 25, slot := 4, constantValue := 0 }, { name := "LOG2_ARRAY_SHORT_INDEX_SCALE", type := .int, accessFlags := 25, slot := 5, constantValue := 0 }, { name := "LOG2_ARRAY_INT_INDEX_SCALE", type := .int, accessFlags := 25, slot := 6, constantValue := 0 }, { name := "LOG2_ARRAY_LONG_INDEX_SCALE", type := .int, accessFlags := 25, slot := 7, constantValue := 0 }, { name := "LOG2_ARRAY_FLOAT_INDEX_SCALE", type := .int, accessFlags := 25, slot := 8, constantValue := 0 }, { name := "LOG2_ARRAY_DOUBLE_INDEX_SCALE", type := .int, accessFlags := 25, slot := 9, constantValue := 0 }, { name := "LOG2_BYTE_BIT_SIZE", type := .int, accessFlags := 26, slot := 10, constantValue := 0 }, { name := "T_BOOLEAN", type := .int, accessFlags := 25, slot := 11, constantValue := 0 }, { name := "T_CHAR", type := .int, accessFlags := 25, slot := 12, constantValue := 0 }, { name := "T_FLOAT", type := .int, accessFlags := 25, slot := 13, constantValue := 0 }, { name := "T_DOUBLE", type := .int, accessFlags := 25, slot := 14, constantValue := 0 }, { name := "T_BYTE", type := .int, accessFlags := 25, slot := 15, constantValue := 0 }, { name := "T_SHORT", type := .int, accessFlags := 25, slot := 16, constantValue := 0 }, { name := "T_INT", type := .int, accessFlags := 25, slot := 17, constantValue := 0 }, { name := "T_LONG", type := .int, accessFlags := 25, slot := 18, constantValue := 0 }, { name := "JLA", type := (.object "jdk/internal/access/JavaLangAccess"), accessFlags := 26, slot := 19, constantValue := 0 }, { name := "SOFT_MAX_ARRAY_LENGTH", type := .int, accessFlags := 25, slot := 20, constantValue := 0 }]
  methods := #[k30m0]
  instanceTypes := #[]
  staticTypes := #[(.object "jdk/internal/misc/Unsafe"), .boolean, .int, .int, .int, .int, .int, .int, .int, .int, .int, .int, .int, .int, .int, .int, .int, .int, .int, (.object "jdk/internal/access/JavaLangAccess"), .int]
  resolved := Array.replicate 378 none
  statics := none }

/-- the primitive byte -/
def k31 : Class := { plain "byte" none with kind := .primitive 'B', accessFlags := 0x411 }
/-- [B -/
def k32 : Class := { plain "[B" (some 0) with kind := .array 31 .byte, interfaces := #[16, 2], accessFlags := 1041 }

/-- the primitive char -/
def k33 : Class := { plain "char" none with kind := .primitive 'C', accessFlags := 0x411 }
/-- [C -/
def k34 : Class := { plain "[C" (some 0) with kind := .array 33 .char, interfaces := #[16, 2], accessFlags := 1041 }

/-- the primitive int -/
def k35 : Class := { plain "int" none with kind := .primitive 'I', accessFlags := 0x411 }
/-- [I -/
def k36 : Class := { plain "[I" (some 0) with kind := .array 35 .int, interfaces := #[16, 2], accessFlags := 1041 }

/-- [Ljava/lang/Object; -/
def k37 : Class := { plain "[Ljava/lang/Object;" (some 0) with kind := .array 0 (.object "java/lang/Object"), interfaces := #[16, 2], accessFlags := 1041, mirror := some 4 }

def heap : Heap := #[{ cls := 7, slots := #[.long 0, .int 1, .null, .int 0, .null, .int 0, .int 0], vm := .statics 7 },
  { cls := 17, slots := #[.long 0, .int 0, .ref 5, .ref 6], vm := .statics 17 },
  { cls := 20, slots := #[.long 0, .int 0, .null, .ref 7, .ref 8, .null, .null, .null, .int 0, .int 1], vm := .statics 20 },
  { cls := 29, slots := #[.null, .null, .null], vm := .statics 29 },
  { cls := 0, slots := #[], vm := .mirror 37 },
  { cls := 37, slots := #[], vm := .none },
  { cls := 37, slots := #[], vm := .none },
  { cls := 0, slots := #[], vm := .none },
  { cls := 24, slots := #[.null, .int 0], vm := .none }]
def classes : Array Class := #[k0, k1, k2, k3, k4, k5, k6, k7, k8, k9, k10, k11, k12, k13, k14, k15, k16, k17, k18, k19, k20, k21, k22, k23, k24, k25, k26, k27, k28, k29, k30, k31, k32, k33, k34, k35, k36, k37]
def interned : List (Array UInt16 × Addr) := []
def slotsUsed : Nat := 26
def theMethod : MethodId := ⟨1, 2⟩
def args0 : Array Value := #[.int 1, .int 2, .int 3, .int 4, .int 5]
def aboutOver (below : List Frame) : State where
  vm := { classes := classes, interned := interned.toArray }
  heap := heap
  slotsUsed := slotsUsed
  threads := #[{ frames := .invoking theMethod args0 :: below }]
def below0 : List Frame := [.native { method := ⟨0, 0⟩, args := #[] }]
def about1 : State := aboutOver below0
def p0 : Program := .bare "" "" ""
def e0 : Env := launch0.env 0 0 0
theorem w_frames : about1.frames = Frame.invoking theMethod args0 :: below0 := rfl
set_option maxRecDepth 65536 in
theorem w_args : argsFit about1.vm theMethod args0 = true := by decide +kernel
set_option maxRecDepth 65536 in
theorem w_heap : heapFits about1 = true := by decide +kernel
set_option maxRecDepth 65536 in
theorem w_runnable : about1.curStatus? = some .runnable := by decide +kernel
set_option maxRecDepth 65536 in
theorem w_alone : about1.alone = true := by decide +kernel
set_option maxRecDepth 65536 in
theorem w_named : about1.methodNamed? x = some theMethod := by decide +kernel
set_option maxRecDepth 65536 in
theorem w_hears : about1.hears theMethod below0 = true := by decide +kernel
set_option maxRecDepth 65536 in
theorem w_ripe : about1.ripe theMethod args0 below0 = true := by decide +kernel
theorem w_running : about1.status = .running := rfl
set_option maxRecDepth 65536 in
theorem w_room : about1.hasRoom e0.platform room_1 = true :=
  launch0.hasRoom_least _ room_1 (by decide +kernel) (by decide +kernel) (by decide +kernel) (by decide +kernel) (by decide +kernel) (by decide +kernel)
theorem allAtoms_all (ts : List Jvm.Cond) (a : Array Jvm.Value) (st : Jvm.State) : (allAtoms ts).before a st = ts.all (fun c => c.before a st) := by
  induction ts with
  | nil => rfl
  | cons c t ih =>
    show (Jvm.Cond.and c (allAtoms t)).before a st = _
    rw [Jvm.Cond.before_and, ih, List.all_cons]
def words1 : List Jvm.Cond := Jvm.Cond.code x code maxLocals ret :: tables_1
/-- a 'code' word, met by the world's own term for the bytes: nothing is compared byte by byte -/
theorem code_word {y : MethodName} {bytes : ByteArray} {mx : Nat} {rt : Option FieldType} {a : Array Value} {s : State} {m : MethodId} {meth : Method} {c : Code} (h1 : s.methodNamed? y = some m) (h2 : s.vm.method? m = some meth) (h3 : meth.code = some c) (h4 : c.code = bytes)
    (h5 : (c.maxLocals == mx && c.exceptionTable.isEmpty && decide (c.maxStack ≤ mostOperands) && decide (meth.sig.returnType = rt) && !meth.locks && decide (parseMethodDescriptor y.desc = some meth.sig)) = true) : (Jvm.Cond.code y bytes mx rt).before a s = true := by
  simp only [Bool.and_eq_true, beq_iff_eq, Bool.not_eq_true', decide_eq_true_eq] at h5
  obtain ⟨⟨⟨⟨⟨g1, g2⟩, g3⟩, g4⟩, g5⟩, g6⟩ := h5
  simp [Cond.before, Cond.holds, Cond.value, h1, h2, h3, h4, g1, g2, g3, g4, g5, g6]
def isCode : Jvm.Cond → Bool
  | .code _ _ _ _ => true
  | _ => false
theorem all_split {L : List Jvm.Cond} {P : Jvm.Cond → Bool} (h1 : L.all (fun c => isCode c || P c) = true) (h2 : ∀ c ∈ L.filter isCode, P c = true) : L.all P = true := by
  refine List.all_eq_true.mpr fun c hc => ?_
  have h := List.all_eq_true.mp h1 c hc
  rcases Bool.eq_false_or_eq_true (isCode c) with hi | hi
  · exact h2 c (List.mem_filter.mpr ⟨hc, hi⟩)
  · simpa [hi] using h
set_option maxRecDepth 65536 in
theorem w_c0 : (Jvm.Cond.code x code maxLocals ret).before args0 about1 = true := code_word (m := ⟨1, 2⟩) (meth := k1m2) (c := k1c2) (by decide +kernel) rfl rfl rfl (by decide +kernel)
set_option maxRecDepth 65536 in
theorem w_c1 : (Jvm.Cond.code ({ cls := "com/example/heaplens/heaplens/cfg/ScopeNamePinLaw", name := "draw", desc := "(I)Ljava/lang/String;" } : Jvm.MethodName) method_2_code (2 : Nat) (Option.some (Jvm.ClassFile.FieldType.object "java/lang/String"))).before args0 about1 = true := code_word (m := ⟨1, 1⟩) (meth := k1m1) (c := k1c1) (by decide +kernel) rfl rfl rfl (by decide +kernel)
set_option maxRecDepth 65536 in
theorem w_c2 : (Jvm.Cond.code ({ cls := "java/lang/String", name := "<init>", desc := "([C)V" } : Jvm.MethodName) jdk_42_method_3_code (2 : Nat) (Option.none : Option Jvm.ClassFile.FieldType)).before args0 about1 = true := code_word (m := ⟨7, 1⟩) (meth := k7m1) (c := k7c1) (by decide +kernel) rfl rfl rfl (by decide +kernel)
set_option maxRecDepth 65536 in
theorem w_c3 : (Jvm.Cond.code ({ cls := "java/lang/String", name := "<init>", desc := "([CIILjava/lang/Void;)V" } : Jvm.MethodName) jdk_42_method_149_code (6 : Nat) (Option.none : Option Jvm.ClassFile.FieldType)).before args0 about1 = true := code_word (m := ⟨7, 4⟩) (meth := k7m4) (c := k7c4) (by decide +kernel) rfl rfl rfl (by decide +kernel)
set_option maxRecDepth 65536 in
theorem w_c4 : (Jvm.Cond.code ({ cls := "java/lang/Object", name := "<init>", desc := "()V" } : Jvm.MethodName) object_method_1_code (1 : Nat) (Option.none : Option Jvm.ClassFile.FieldType)).before args0 about1 = true := code_word (m := ⟨0, 0⟩) (meth := k0m0) (c := k0c0) (by decide +kernel) rfl rfl rfl (by decide +kernel)
set_option maxRecDepth 65536 in
theorem w_c5 : (Jvm.Cond.code ({ cls := "java/lang/StringUTF16", name := "compress", desc := "([CII)[B" } : Jvm.MethodName) jdk_52_method_16_code (6 : Nat) (Option.some (Jvm.ClassFile.FieldType.array Jvm.ClassFile.FieldType.byte))).before args0 about1 = true := code_word (m := ⟨8, 2⟩) (meth := k8m2) (c := k8c2) (by decide +kernel) rfl rfl rfl (by decide +kernel)
set_option maxRecDepth 65536 in
theorem w_c6 : (Jvm.Cond.code ({ cls := "java/lang/StringUTF16", name := "compress", desc := "([CI[BII)I" } : Jvm.MethodName) jdk_52_method_21_code (7 : Nat) (Option.some Jvm.ClassFile.FieldType.int)).before args0 about1 = true := code_word (m := ⟨8, 3⟩) (meth := k8m3) (c := k8c3) (by decide +kernel) rfl rfl rfl (by decide +kernel)
set_option maxRecDepth 65536 in
theorem w_c7 : (Jvm.Cond.code ({ cls := "java/lang/StringUTF16", name := "coderFromArrayLen", desc := "([BI)B" } : Jvm.MethodName) jdk_52_method_15_code (2 : Nat) (Option.some Jvm.ClassFile.FieldType.byte)).before args0 about1 = true := code_word (m := ⟨8, 1⟩) (meth := k8m1) (c := k8c1) (by decide +kernel) rfl rfl rfl (by decide +kernel)
set_option maxRecDepth 65536 in
theorem w_c8 : (Jvm.Cond.code ({ cls := "java/util/ArrayList", name := "<init>", desc := "()V" } : Jvm.MethodName) jdk_38_method_2_code (1 : Nat) (Option.none : Option Jvm.ClassFile.FieldType)).before args0 about1 = true := code_word (m := ⟨17, 0⟩) (meth := k17m0) (c := k17c0) (by decide +kernel) rfl rfl rfl (by decide +kernel)
set_option maxRecDepth 65536 in
theorem w_c9 : (Jvm.Cond.code ({ cls := "java/util/AbstractList", name := "<init>", desc := "()V" } : Jvm.MethodName) jdk_39_method_1_code (1 : Nat) (Option.none : Option Jvm.ClassFile.FieldType)).before args0 about1 = true := code_word (m := ⟨14, 0⟩) (meth := k14m0) (c := k14c0) (by decide +kernel) rfl rfl rfl (by decide +kernel)
set_option maxRecDepth 65536 in
theorem w_c10 : (Jvm.Cond.code ({ cls := "java/util/AbstractCollection", name := "<init>", desc := "()V" } : Jvm.MethodName) jdk_22_method_1_code (1 : Nat) (Option.none : Option Jvm.ClassFile.FieldType)).before args0 about1 = true := code_word (m := ⟨11, 0⟩) (meth := k11m0) (c := k11c0) (by decide +kernel) rfl rfl rfl (by decide +kernel)
set_option maxRecDepth 65536 in
theorem w_c11 : (Jvm.Cond.code ({ cls := "java/util/ArrayList", name := "add", desc := "(Ljava/lang/Object;)Z" } : Jvm.MethodName) jdk_38_method_25_code (2 : Nat) (Option.some Jvm.ClassFile.FieldType.boolean)).before args0 about1 = true := code_word (m := ⟨17, 6⟩) (meth := k17m6) (c := k17c6) (by decide +kernel) rfl rfl rfl (by decide +kernel)
set_option maxRecDepth 65536 in
theorem w_c12 : (Jvm.Cond.code ({ cls := "java/util/ArrayList", name := "add", desc := "(Ljava/lang/Object;[Ljava/lang/Object;I)V" } : Jvm.MethodName) jdk_38_method_24_code (4 : Nat) (Option.none : Option Jvm.ClassFile.FieldType)).before args0 about1 = true := code_word (m := ⟨17, 5⟩) (meth := k17m5) (c := k17c5) (by decide +kernel) rfl rfl rfl (by decide +kernel)
set_option maxRecDepth 65536 in
theorem w_c13 : (Jvm.Cond.code ({ cls := "java/util/ArrayList", name := "grow", desc := "()[Ljava/lang/Object;" } : Jvm.MethodName) jdk_38_method_7_code (1 : Nat) (Option.some (Jvm.ClassFile.FieldType.array (Jvm.ClassFile.FieldType.object "java/lang/Object")))).before args0 about1 = true := code_word (m := ⟨17, 2⟩) (meth := k17m2) (c := k17c2) (by decide +kernel) rfl rfl rfl (by decide +kernel)
set_option maxRecDepth 65536 in
theorem w_c14 : (Jvm.Cond.code ({ cls := "java/util/ArrayList", name := "grow", desc := "(I)[Ljava/lang/Object;" } : Jvm.MethodName) jdk_38_method_6_code (4 : Nat) (Option.some (Jvm.ClassFile.FieldType.array (Jvm.ClassFile.FieldType.object "java/lang/Object")))).before args0 about1 = true := code_word (m := ⟨17, 1⟩) (meth := k17m1) (c := k17c1) (by decide +kernel) rfl rfl rfl (by decide +kernel)
set_option maxRecDepth 65536 in
theorem w_c15 : (Jvm.Cond.code ({ cls := "java/lang/Math", name := "max", desc := "(II)I" } : Jvm.MethodName) jdk_29_method_65_code (2 : Nat) (Option.some Jvm.ClassFile.FieldType.int)).before args0 about1 = true := code_word (m := ⟨18, 1⟩) (meth := k18m1) (c := k18c1) (by decide +kernel) rfl rfl rfl (by decide +kernel)
set_option maxRecDepth 65536 in
theorem w_c16 : (Jvm.Cond.code ({ cls := "com/example/heaplens/heaplens/cfg/Scope", name := "<init>", desc := "(Ljava/util/List;[I)V" } : Jvm.MethodName) prog_1_method_1_code (3 : Nat) (Option.none : Option Jvm.ClassFile.FieldType)).before args0 about1 = true := code_word (m := ⟨19, 0⟩) (meth := k19m0) (c := k19c0) (by decide +kernel) rfl rfl rfl (by decide +kernel)
set_option maxRecDepth 65536 in
theorem w_c17 : (Jvm.Cond.code ({ cls := "java/util/List", name := "copyOf", desc := "(Ljava/util/Collection;)Ljava/util/List;" } : Jvm.MethodName) jdk_40_method_48_code (1 : Nat) (Option.some (Jvm.ClassFile.FieldType.object "java/util/List"))).before args0 about1 = true := code_word (m := ⟨13, 2⟩) (meth := k13m2) (c := k13c2) (by decide +kernel) rfl rfl rfl (by decide +kernel)
set_option maxRecDepth 65536 in
theorem w_c18 : (Jvm.Cond.code ({ cls := "java/util/ImmutableCollections", name := "listCopy", desc := "(Ljava/util/Collection;)Ljava/util/List;" } : Jvm.MethodName) jdk_56_method_3_code (2 : Nat) (Option.some (Jvm.ClassFile.FieldType.object "java/util/List"))).before args0 about1 = true := code_word (m := ⟨20, 1⟩) (meth := k20m1) (c := k20c1) (by decide +kernel) rfl rfl rfl (by decide +kernel)
set_option maxRecDepth 65536 in
theorem w_c19 : (Jvm.Cond.code ({ cls := "java/util/ArrayList", name := "isEmpty", desc := "()Z" } : Jvm.MethodName) jdk_38_method_9_code (1 : Nat) (Option.some Jvm.ClassFile.FieldType.boolean)).before args0 about1 = true := code_word (m := ⟨17, 3⟩) (meth := k17m3) (c := k17c3) (by decide +kernel) rfl rfl rfl (by decide +kernel)
set_option maxRecDepth 65536 in
theorem w_c20 : (Jvm.Cond.code ({ cls := "java/util/ArrayList", name := "toArray", desc := "()[Ljava/lang/Object;" } : Jvm.MethodName) jdk_38_method_16_code (1 : Nat) (Option.some (Jvm.ClassFile.FieldType.array (Jvm.ClassFile.FieldType.object "java/lang/Object")))).before args0 about1 = true := code_word (m := ⟨17, 4⟩) (meth := k17m4) (c := k17c4) (by decide +kernel) rfl rfl rfl (by decide +kernel)
set_option maxRecDepth 65536 in
theorem w_c21 : (Jvm.Cond.code ({ cls := "java/util/Arrays", name := "copyOf", desc := "([Ljava/lang/Object;I)[Ljava/lang/Object;" } : Jvm.MethodName) jdk_65_method_119_code (2 : Nat) (Option.some (Jvm.ClassFile.FieldType.array (Jvm.ClassFile.FieldType.object "java/lang/Object")))).before args0 about1 = true := code_word (m := ⟨25, 1⟩) (meth := k25m1) (c := k25c1) (by decide +kernel) rfl rfl rfl (by decide +kernel)
set_option maxRecDepth 65536 in
theorem w_c22 : (Jvm.Cond.code ({ cls := "java/util/Arrays", name := "copyOf", desc := "([Ljava/lang/Object;ILjava/lang/Class;)[Ljava/lang/Object;" } : Jvm.MethodName) jdk_65_method_120_code (4 : Nat) (Option.some (Jvm.ClassFile.FieldType.array (Jvm.ClassFile.FieldType.object "java/lang/Object")))).before args0 about1 = true := code_word (m := ⟨25, 2⟩) (meth := k25m2) (c := k25c2) (by decide +kernel) rfl rfl rfl (by decide +kernel)
set_option maxRecDepth 65536 in
theorem w_c23 : (Jvm.Cond.code ({ cls := "java/lang/Math", name := "min", desc := "(II)I" } : Jvm.MethodName) jdk_29_method_69_code (2 : Nat) (Option.some Jvm.ClassFile.FieldType.int)).before args0 about1 = true := code_word (m := ⟨18, 2⟩) (meth := k18m2) (c := k18c2) (by decide +kernel) rfl rfl rfl (by decide +kernel)
set_option maxRecDepth 65536 in
theorem w_c24 : (Jvm.Cond.code ({ cls := "java/util/List", name := "of", desc := "([Ljava/lang/Object;)Ljava/util/List;" } : Jvm.MethodName) jdk_40_method_47_code (2 : Nat) (Option.some (Jvm.ClassFile.FieldType.object "java/util/List"))).before args0 about1 = true := code_word (m := ⟨13, 1⟩) (meth := k13m1) (c := k13c1) (by decide +kernel) rfl rfl rfl (by decide +kernel)
set_option maxRecDepth 65536 in
theorem w_c25 : (Jvm.Cond.code ({ cls := "java/util/ImmutableCollections$List12", name := "<init>", desc := "(Ljava/lang/Object;Ljava/lang/Object;)V" } : Jvm.MethodName) jdk_44_method_2_code (3 : Nat) (Option.none : Option Jvm.ClassFile.FieldType)).before args0 about1 = true := code_word (m := ⟨23, 1⟩) (meth := k23m1) (c := k23c1) (by decide +kernel) rfl rfl rfl (by decide +kernel)
set_option maxRecDepth 65536 in
theorem w_c26 : (Jvm.Cond.code ({ cls := "java/util/ImmutableCollections$AbstractImmutableList", name := "<init>", desc := "()V" } : Jvm.MethodName) jdk_46_method_1_code (1 : Nat) (Option.none : Option Jvm.ClassFile.FieldType)).before args0 about1 = true := code_word (m := ⟨22, 0⟩) (meth := k22m0) (c := k22c0) (by decide +kernel) rfl rfl rfl (by decide +kernel)
set_option maxRecDepth 65536 in
theorem w_c27 : (Jvm.Cond.code ({ cls := "java/util/ImmutableCollections$AbstractImmutableCollection", name := "<init>", desc := "()V" } : Jvm.MethodName) jdk_47_method_1_code (1 : Nat) (Option.none : Option Jvm.ClassFile.FieldType)).before args0 about1 = true := code_word (m := ⟨21, 0⟩) (meth := k21m0) (c := k21c0) (by decide +kernel) rfl rfl rfl (by decide +kernel)
set_option maxRecDepth 65536 in
theorem w_c28 : (Jvm.Cond.code ({ cls := "java/util/Objects", name := "requireNonNull", desc := "(Ljava/lang/Object;)Ljava/lang/Object;" } : Jvm.MethodName) jdk_31_method_10_code (1 : Nat) (Option.some (Jvm.ClassFile.FieldType.object "java/lang/Object"))).before args0 about1 = true := code_word (m := ⟨27, 1⟩) (meth := k27m1) (c := k27c1) (by decide +kernel) rfl rfl rfl (by decide +kernel)
set_option maxRecDepth 65536 in
theorem w_c29 : (Jvm.Cond.code ({ cls := "com/example/heaplens/heaplens/cfg/Scope", name := "name", desc := "(I)Ljava/lang/String;" } : Jvm.MethodName) prog_1_method_3_code (2 : Nat) (Option.some (Jvm.ClassFile.FieldType.object "java/lang/String"))).before args0 about1 = true := code_word (m := ⟨19, 1⟩) (meth := k19m1) (c := k19c1) (by decide +kernel) rfl rfl rfl (by decide +kernel)
set_option maxRecDepth 65536 in
theorem w_c30 : (Jvm.Cond.code ({ cls := "java/util/ImmutableCollections$List12", name := "get", desc := "(I)Ljava/lang/Object;" } : Jvm.MethodName) jdk_44_method_5_code (2 : Nat) (Option.some (Jvm.ClassFile.FieldType.object "java/lang/Object"))).before args0 about1 = true := code_word (m := ⟨23, 2⟩) (meth := k23m2) (c := k23c2) (by decide +kernel) rfl rfl rfl (by decide +kernel)
set_option maxRecDepth 65536 in
theorem w_c31 : (Jvm.Cond.code ({ cls := "java/lang/String", name := "equals", desc := "(Ljava/lang/Object;)Z" } : Jvm.MethodName) jdk_42_method_66_code (3 : Nat) (Option.some Jvm.ClassFile.FieldType.boolean)).before args0 about1 = true := code_word (m := ⟨7, 2⟩) (meth := k7m2) (c := k7c2) (by decide +kernel) rfl rfl rfl (by decide +kernel)
set_option maxRecDepth 65536 in
theorem w_c32 : (Jvm.Cond.code ({ cls := "java/util/ImmutableCollections$List12", name := "<init>", desc := "(Ljava/lang/Object;)V" } : Jvm.MethodName) jdk_44_method_1_code (2 : Nat) (Option.none : Option Jvm.ClassFile.FieldType)).before args0 about1 = true := code_word (m := ⟨23, 0⟩) (meth := k23m0) (c := k23c0) (by decide +kernel) rfl rfl rfl (by decide +kernel)
set_option maxRecDepth 65536 in
theorem w_c33 : (Jvm.Cond.code ({ cls := "java/util/ImmutableCollections", name := "listFromArray", desc := "([Ljava/lang/Object;)Ljava/util/List;" } : Jvm.MethodName) jdk_56_method_4_code (3 : Nat) (Option.some (Jvm.ClassFile.FieldType.object "java/util/List"))).before args0 about1 = true := code_word (m := ⟨20, 2⟩) (meth := k20m2) (c := k20c2) (by decide +kernel) rfl rfl rfl (by decide +kernel)
set_option maxRecDepth 65536 in
theorem w_c34 : (Jvm.Cond.code ({ cls := "java/util/ImmutableCollections$ListN", name := "<init>", desc := "([Ljava/lang/Object;Z)V" } : Jvm.MethodName) jdk_45_method_1_code (3 : Nat) (Option.none : Option Jvm.ClassFile.FieldType)).before args0 about1 = true := code_word (m := ⟨24, 0⟩) (meth := k24m0) (c := k24c0) (by decide +kernel) rfl rfl rfl (by decide +kernel)
set_option maxRecDepth 65536 in
theorem w_c35 : (Jvm.Cond.code ({ cls := "java/util/ImmutableCollections$ListN", name := "get", desc := "(I)Ljava/lang/Object;" } : Jvm.MethodName) jdk_45_method_4_code (2 : Nat) (Option.some (Jvm.ClassFile.FieldType.object "java/lang/Object"))).before args0 about1 = true := code_word (m := ⟨24, 1⟩) (meth := k24m1) (c := k24c1) (by decide +kernel) rfl rfl rfl (by decide +kernel)
set_option maxRecDepth 65536 in
theorem w_c36 : (Jvm.Cond.code ({ cls := "java/lang/String", name := "valueOf", desc := "(C)Ljava/lang/String;" } : Jvm.MethodName) jdk_42_method_139_code (1 : Nat) (Option.some (Jvm.ClassFile.FieldType.object "java/lang/String"))).before args0 about1 = true := code_word (m := ⟨7, 3⟩) (meth := k7m3) (c := k7c3) (by decide +kernel) rfl rfl rfl (by decide +kernel)
set_option maxRecDepth 65536 in
theorem w_c37 : (Jvm.Cond.code ({ cls := "java/lang/StringLatin1", name := "canEncode", desc := "(C)Z" } : Jvm.MethodName) jdk_43_method_3_code (1 : Nat) (Option.some Jvm.ClassFile.FieldType.boolean)).before args0 about1 = true := code_word (m := ⟨28, 1⟩) (meth := k28m1) (c := k28c1) (by decide +kernel) rfl rfl rfl (by decide +kernel)
set_option maxRecDepth 65536 in
theorem w_c38 : (Jvm.Cond.code ({ cls := "java/lang/StringLatin1", name := "toBytes", desc := "(C)[B" } : Jvm.MethodName) jdk_43_method_46_code (1 : Nat) (Option.some (Jvm.ClassFile.FieldType.array Jvm.ClassFile.FieldType.byte))).before args0 about1 = true := code_word (m := ⟨28, 2⟩) (meth := k28m2) (c := k28c2) (by decide +kernel) rfl rfl rfl (by decide +kernel)
set_option maxRecDepth 65536 in
theorem w_c39 : (Jvm.Cond.code ({ cls := "java/lang/String", name := "<init>", desc := "([BB)V" } : Jvm.MethodName) jdk_42_method_151_code (3 : Nat) (Option.none : Option Jvm.ClassFile.FieldType)).before args0 about1 = true := code_word (m := ⟨7, 5⟩) (meth := k7m5) (c := k7c5) (by decide +kernel) rfl rfl rfl (by decide +kernel)
def codes1 : List Jvm.Cond := [Jvm.Cond.code x code maxLocals ret, Jvm.Cond.code ({ cls := "com/example/heaplens/heaplens/cfg/ScopeNamePinLaw", name := "draw", desc := "(I)Ljava/lang/String;" } : Jvm.MethodName) method_2_code (2 : Nat) (Option.some (Jvm.ClassFile.FieldType.object "java/lang/String")), Jvm.Cond.code ({ cls := "java/lang/String", name := "<init>", desc := "([C)V" } : Jvm.MethodName) jdk_42_method_3_code (2 : Nat) (Option.none : Option Jvm.ClassFile.FieldType), Jvm.Cond.code ({ cls := "java/lang/String", name := "<init>", desc := "([CIILjava/lang/Void;)V" } : Jvm.MethodName) jdk_42_method_149_code (6 : Nat) (Option.none : Option Jvm.ClassFile.FieldType), Jvm.Cond.code ({ cls := "java/lang/Object", name := "<init>", desc := "()V" } : Jvm.MethodName) object_method_1_code (1 : Nat) (Option.none : Option Jvm.ClassFile.FieldType), Jvm.Cond.code ({ cls := "java/lang/StringUTF16", name := "compress", desc := "([CII)[B" } : Jvm.MethodName) jdk_52_method_16_code (6 : Nat) (Option.some (Jvm.ClassFile.FieldType.array Jvm.ClassFile.FieldType.byte)), Jvm.Cond.code ({ cls := "java/lang/StringUTF16", name := "compress", desc := "([CI[BII)I" } : Jvm.MethodName) jdk_52_method_21_code (7 : Nat) (Option.some Jvm.ClassFile.FieldType.int), Jvm.Cond.code ({ cls := "java/lang/StringUTF16", name := "coderFromArrayLen", desc := "([BI)B" } : Jvm.MethodName) jdk_52_method_15_code (2 : Nat) (Option.some Jvm.ClassFile.FieldType.byte), Jvm.Cond.code ({ cls := "java/util/ArrayList", name := "<init>", desc := "()V" } : Jvm.MethodName) jdk_38_method_2_code (1 : Nat) (Option.none : Option Jvm.ClassFile.FieldType), Jvm.Cond.code ({ cls := "java/util/AbstractList", name := "<init>", desc := "()V" } : Jvm.MethodName) jdk_39_method_1_code (1 : Nat) (Option.none : Option Jvm.ClassFile.FieldType), Jvm.Cond.code ({ cls := "java/util/AbstractCollection", name := "<init>", desc := "()V" } : Jvm.MethodName) jdk_22_method_1_code (1 : Nat) (Option.none : Option Jvm.ClassFile.FieldType), Jvm.Cond.code ({ cls := "java/util/ArrayList", name := "add", desc := "(Ljava/lang/Object;)Z" } : Jvm.MethodName) jdk_38_method_25_code (2 : Nat) (Option.some Jvm.ClassFile.FieldType.boolean), Jvm.Cond.code ({ cls := "java/util/ArrayList", name := "add", desc := "(Ljava/lang/Object;[Ljava/lang/Object;I)V" } : Jvm.MethodName) jdk_38_method_24_code (4 : Nat) (Option.none : Option Jvm.ClassFile.FieldType), Jvm.Cond.code ({ cls := "java/util/ArrayList", name := "grow", desc := "()[Ljava/lang/Object;" } : Jvm.MethodName) jdk_38_method_7_code (1 : Nat) (Option.some (Jvm.ClassFile.FieldType.array (Jvm.ClassFile.FieldType.object "java/lang/Object"))), Jvm.Cond.code ({ cls := "java/util/ArrayList", name := "grow", desc := "(I)[Ljava/lang/Object;" } : Jvm.MethodName) jdk_38_method_6_code (4 : Nat) (Option.some (Jvm.ClassFile.FieldType.array (Jvm.ClassFile.FieldType.object "java/lang/Object"))), Jvm.Cond.code ({ cls := "java/lang/Math", name := "max", desc := "(II)I" } : Jvm.MethodName) jdk_29_method_65_code (2 : Nat) (Option.some Jvm.ClassFile.FieldType.int), Jvm.Cond.code ({ cls := "com/example/heaplens/heaplens/cfg/Scope", name := "<init>", desc := "(Ljava/util/List;[I)V" } : Jvm.MethodName) prog_1_method_1_code (3 : Nat) (Option.none : Option Jvm.ClassFile.FieldType), Jvm.Cond.code ({ cls := "java/util/List", name := "copyOf", desc := "(Ljava/util/Collection;)Ljava/util/List;" } : Jvm.MethodName) jdk_40_method_48_code (1 : Nat) (Option.some (Jvm.ClassFile.FieldType.object "java/util/List")), Jvm.Cond.code ({ cls := "java/util/ImmutableCollections", name := "listCopy", desc := "(Ljava/util/Collection;)Ljava/util/List;" } : Jvm.MethodName) jdk_56_method_3_code (2 : Nat) (Option.some (Jvm.ClassFile.FieldType.object "java/util/List")), Jvm.Cond.code ({ cls := "java/util/ArrayList", name := "isEmpty", desc := "()Z" } : Jvm.MethodName) jdk_38_method_9_code (1 : Nat) (Option.some Jvm.ClassFile.FieldType.boolean), Jvm.Cond.code ({ cls := "java/util/ArrayList", name := "toArray", desc := "()[Ljava/lang/Object;" } : Jvm.MethodName) jdk_38_method_16_code (1 : Nat) (Option.some (Jvm.ClassFile.FieldType.array (Jvm.ClassFile.FieldType.object "java/lang/Object"))), Jvm.Cond.code ({ cls := "java/util/Arrays", name := "copyOf", desc := "([Ljava/lang/Object;I)[Ljava/lang/Object;" } : Jvm.MethodName) jdk_65_method_119_code (2 : Nat) (Option.some (Jvm.ClassFile.FieldType.array (Jvm.ClassFile.FieldType.object "java/lang/Object"))), Jvm.Cond.code ({ cls := "java/util/Arrays", name := "copyOf", desc := "([Ljava/lang/Object;ILjava/lang/Class;)[Ljava/lang/Object;" } : Jvm.MethodName) jdk_65_method_120_code (4 : Nat) (Option.some (Jvm.ClassFile.FieldType.array (Jvm.ClassFile.FieldType.object "java/lang/Object"))), Jvm.Cond.code ({ cls := "java/lang/Math", name := "min", desc := "(II)I" } : Jvm.MethodName) jdk_29_method_69_code (2 : Nat) (Option.some Jvm.ClassFile.FieldType.int), Jvm.Cond.code ({ cls := "java/util/List", name := "of", desc := "([Ljava/lang/Object;)Ljava/util/List;" } : Jvm.MethodName) jdk_40_method_47_code (2 : Nat) (Option.some (Jvm.ClassFile.FieldType.object "java/util/List")), Jvm.Cond.code ({ cls := "java/util/ImmutableCollections$List12", name := "<init>", desc := "(Ljava/lang/Object;Ljava/lang/Object;)V" } : Jvm.MethodName) jdk_44_method_2_code (3 : Nat) (Option.none : Option Jvm.ClassFile.FieldType), Jvm.Cond.code ({ cls := "java/util/ImmutableCollections$AbstractImmutableList", name := "<init>", desc := "()V" } : Jvm.MethodName) jdk_46_method_1_code (1 : Nat) (Option.none : Option Jvm.ClassFile.FieldType), Jvm.Cond.code ({ cls := "java/util/ImmutableCollections$AbstractImmutableCollection", name := "<init>", desc := "()V" } : Jvm.MethodName) jdk_47_method_1_code (1 : Nat) (Option.none : Option Jvm.ClassFile.FieldType), Jvm.Cond.code ({ cls := "java/util/Objects", name := "requireNonNull", desc := "(Ljava/lang/Object;)Ljava/lang/Object;" } : Jvm.MethodName) jdk_31_method_10_code (1 : Nat) (Option.some (Jvm.ClassFile.FieldType.object "java/lang/Object")), Jvm.Cond.code ({ cls := "com/example/heaplens/heaplens/cfg/Scope", name := "name", desc := "(I)Ljava/lang/String;" } : Jvm.MethodName) prog_1_method_3_code (2 : Nat) (Option.some (Jvm.ClassFile.FieldType.object "java/lang/String")), Jvm.Cond.code ({ cls := "java/util/ImmutableCollections$List12", name := "get", desc := "(I)Ljava/lang/Object;" } : Jvm.MethodName) jdk_44_method_5_code (2 : Nat) (Option.some (Jvm.ClassFile.FieldType.object "java/lang/Object")), Jvm.Cond.code ({ cls := "java/lang/String", name := "equals", desc := "(Ljava/lang/Object;)Z" } : Jvm.MethodName) jdk_42_method_66_code (3 : Nat) (Option.some Jvm.ClassFile.FieldType.boolean), Jvm.Cond.code ({ cls := "java/util/ImmutableCollections$List12", name := "<init>", desc := "(Ljava/lang/Object;)V" } : Jvm.MethodName) jdk_44_method_1_code (2 : Nat) (Option.none : Option Jvm.ClassFile.FieldType), Jvm.Cond.code ({ cls := "java/util/ImmutableCollections", name := "listFromArray", desc := "([Ljava/lang/Object;)Ljava/util/List;" } : Jvm.MethodName) jdk_56_method_4_code (3 : Nat) (Option.some (Jvm.ClassFile.FieldType.object "java/util/List")), Jvm.Cond.code ({ cls := "java/util/ImmutableCollections$ListN", name := "<init>", desc := "([Ljava/lang/Object;Z)V" } : Jvm.MethodName) jdk_45_method_1_code (3 : Nat) (Option.none : Option Jvm.ClassFile.FieldType), Jvm.Cond.code ({ cls := "java/util/ImmutableCollections$ListN", name := "get", desc := "(I)Ljava/lang/Object;" } : Jvm.MethodName) jdk_45_method_4_code (2 : Nat) (Option.some (Jvm.ClassFile.FieldType.object "java/lang/Object")), Jvm.Cond.code ({ cls := "java/lang/String", name := "valueOf", desc := "(C)Ljava/lang/String;" } : Jvm.MethodName) jdk_42_method_139_code (1 : Nat) (Option.some (Jvm.ClassFile.FieldType.object "java/lang/String")), Jvm.Cond.code ({ cls := "java/lang/StringLatin1", name := "canEncode", desc := "(C)Z" } : Jvm.MethodName) jdk_43_method_3_code (1 : Nat) (Option.some Jvm.ClassFile.FieldType.boolean), Jvm.Cond.code ({ cls := "java/lang/StringLatin1", name := "toBytes", desc := "(C)[B" } : Jvm.MethodName) jdk_43_method_46_code (1 : Nat) (Option.some (Jvm.ClassFile.FieldType.array Jvm.ClassFile.FieldType.byte)), Jvm.Cond.code ({ cls := "java/lang/String", name := "<init>", desc := "([BB)V" } : Jvm.MethodName) jdk_42_method_151_code (3 : Nat) (Option.none : Option Jvm.ClassFile.FieldType)]
set_option maxRecDepth 65536 in
theorem codes_eq : words1.filter isCode = codes1 := rfl
theorem w_codes : ∀ c ∈ words1.filter isCode, c.before args0 about1 = true := by
  rw [codes_eq]
  intro c hc
  simp only [codes1, List.mem_cons, List.not_mem_nil, or_false] at hc
  rcases hc with rfl | rfl | rfl | rfl | rfl | rfl | rfl | rfl | rfl | rfl | rfl | rfl | rfl | rfl | rfl | rfl | rfl | rfl | rfl | rfl | rfl | rfl | rfl | rfl | rfl | rfl | rfl | rfl | rfl | rfl | rfl | rfl | rfl | rfl | rfl | rfl | rfl | rfl | rfl | rfl
  · exact w_c0
  · exact w_c1
  · exact w_c2
  · exact w_c3
  · exact w_c4
  · exact w_c5
  · exact w_c6
  · exact w_c7
  · exact w_c8
  · exact w_c9
  · exact w_c10
  · exact w_c11
  · exact w_c12
  · exact w_c13
  · exact w_c14
  · exact w_c15
  · exact w_c16
  · exact w_c17
  · exact w_c18
  · exact w_c19
  · exact w_c20
  · exact w_c21
  · exact w_c22
  · exact w_c23
  · exact w_c24
  · exact w_c25
  · exact w_c26
  · exact w_c27
  · exact w_c28
  · exact w_c29
  · exact w_c30
  · exact w_c31
  · exact w_c32
  · exact w_c33
  · exact w_c34
  · exact w_c35
  · exact w_c36
  · exact w_c37
  · exact w_c38
  · exact w_c39
set_option maxRecDepth 65536 in
theorem w_t1 : (words1.take 24).all (fun c => isCode c || c.before args0 about1) = true := by decide +kernel
set_option maxRecDepth 65536 in
theorem w_t2 : ((words1.drop 24).take 24).all (fun c => isCode c || c.before args0 about1) = true := by decide +kernel
set_option maxRecDepth 65536 in
theorem w_t3 : (((words1.drop 24).drop 24).take 24).all (fun c => isCode c || c.before args0 about1) = true := by decide +kernel
set_option maxRecDepth 65536 in
theorem w_t4 : ((((words1.drop 24).drop 24).drop 24).take 24).all (fun c => isCode c || c.before args0 about1) = true := by decide +kernel
set_option maxRecDepth 65536 in
theorem w_t5 : (((((words1.drop 24).drop 24).drop 24).drop 24).take 24).all (fun c => isCode c || c.before args0 about1) = true := by decide +kernel
set_option maxRecDepth 65536 in
theorem w_t6 : ((((((words1.drop 24).drop 24).drop 24).drop 24).drop 24).take 24).all (fun c => isCode c || c.before args0 about1) = true := by decide +kernel
set_option maxRecDepth 65536 in
theorem w_t7 : (((((((words1.drop 24).drop 24).drop 24).drop 24).drop 24).drop 24).take 24).all (fun c => isCode c || c.before args0 about1) = true := by decide +kernel
set_option maxRecDepth 65536 in
theorem w_t8 : ((((((((words1.drop 24).drop 24).drop 24).drop 24).drop 24).drop 24).drop 24).take 24).all (fun c => isCode c || c.before args0 about1) = true := by decide +kernel
set_option maxRecDepth 65536 in
theorem w_t9 : (((((((((words1.drop 24).drop 24).drop 24).drop 24).drop 24).drop 24).drop 24).drop 24).take 24).all (fun c => isCode c || c.before args0 about1) = true := by decide +kernel
set_option maxRecDepth 65536 in
theorem w_t10 : ((((((((((words1.drop 24).drop 24).drop 24).drop 24).drop 24).drop 24).drop 24).drop 24).drop 24).take 24).all (fun c => isCode c || c.before args0 about1) = true := by decide +kernel
set_option maxRecDepth 65536 in
theorem w_t11 : ((((((((((words1.drop 24).drop 24).drop 24).drop 24).drop 24).drop 24).drop 24).drop 24).drop 24).drop 24).all (fun c => isCode c || c.before args0 about1) = true := by decide +kernel
theorem w_tables : (allAtoms (Jvm.Cond.code x code maxLocals ret :: tables_1)).before args0 about1 = true := by
  rw [allAtoms_all]
  show words1.all (fun c => c.before args0 about1) = true
  refine all_split ?_ w_codes
  rw [← List.take_append_drop 24 words1, List.all_append, w_t1, ← List.take_append_drop 24 (words1.drop 24), List.all_append, w_t2, ← List.take_append_drop 24 ((words1.drop 24).drop 24), List.all_append, w_t3, ← List.take_append_drop 24 (((words1.drop 24).drop 24).drop 24), List.all_append, w_t4, ← List.take_append_drop 24 ((((words1.drop 24).drop 24).drop 24).drop 24), List.all_append, w_t5, ← List.take_append_drop 24 (((((words1.drop 24).drop 24).drop 24).drop 24).drop 24), List.all_append, w_t6, ← List.take_append_drop 24 ((((((words1.drop 24).drop 24).drop 24).drop 24).drop 24).drop 24), List.all_append, w_t7, ← List.take_append_drop 24 (((((((words1.drop 24).drop 24).drop 24).drop 24).drop 24).drop 24).drop 24), List.all_append, w_t8, ← List.take_append_drop 24 ((((((((words1.drop 24).drop 24).drop 24).drop 24).drop 24).drop 24).drop 24).drop 24), List.all_append, w_t9, ← List.take_append_drop 24 (((((((((words1.drop 24).drop 24).drop 24).drop 24).drop 24).drop 24).drop 24).drop 24).drop 24), List.all_append, w_t10, w_t11]
  rfl
set_option maxRecDepth 65536 in
theorem w_rest : rest_1_c.before args0 about1 = true := by decide +kernel
set_option maxRecDepth 65536 in
theorem w_case : (Jvm.Cond.and given_1 narrow_1).before args0 about1 = true := by decide +kernel
theorem w_applies : (headSpec (Jvm.Cond.code x code maxLocals ret :: tables_1) room_1).applies x e0.platform about1 = true :=
  (Spec.applies_iff w_frames).mpr ⟨w_running, w_runnable, w_alone, w_named, w_hears, w_ripe, w_room, w_tables⟩
theorem atStart : AtStart classFile x code maxLocals ret World_1 tables_1 room_1 Calls_1 rest_1 Pre_1 launch0 p0 e0 about1 theMethod args0 below0 :=
  ⟨lists_1, trivial, launch0.admits_env _ _ _, launch0.least_env, fairChoices_fair.cas, fairChoices_fair.clock, w_frames, w_args, w_heap, w_applies, ⟨⟨37, k37, 4, by decide +kernel, rfl, rfl, _, rfl, rfl⟩, trivial⟩, w_rest, w_case⟩
end start1
theorem witness_1 : WitnessClaimed_1 := ⟨start1.p0, start1.e0, start1.about1, start1.theMethod, start1.args0, start1.below0, start1.atStart⟩
end Jvm.Pilot.@@N@@
