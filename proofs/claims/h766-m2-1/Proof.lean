import JvmDerived
import JvmDerived.Pilot.@@N@@Statement
import JvmDerived.Pilot.@@N@@Code
set_option linter.unusedVariables false
set_option linter.unusedSimpArgs false
namespace Jvm.RoadKit
open Sem ClassFile Op Lib Jvm.Stand Jvm.Free Jvm.LawKit
section New
variable {p : Program} {l : Launch} {e : Env} {R : Room} {s : State} {m : MethodId} {args : Array Value} {below : List Frame} {meth : Method} {c : Code} {T : State} {locs : List Loc} {cells slots : Nat}
theorem retI (X : Stand p l e R s m args below meth c T locs cells slots) (hx : p.tables.exec = Jvm.exec) {pc : Nat} {Ls : Array Slot} {z : Int32} {rest : List Value} (hret : meth.sig.returnType = some .int) (hd : decode c.code pc = .ok (.ireturn, 1)) {fs : List Frame}
    (hl : ∀ (f : JFrame) (acts : List Action), f.method = m → f.locked = none → f.entered = [] → (doReturn e (T.setTop f) acts (some (.int z))).1 = T.setFrames fs) : Steps p.tables e below (T.setTop (mkF m pc Ls (.int z :: rest))) (T.setFrames fs) := retOut X hx hret rfl (Or.inl ⟨rfl, Or.inl rfl, _, rfl⟩) hd hl
end New
end Jvm.RoadKit
namespace Jvm.Pilot.@@N@@
open Jvm Jvm.ClassFile Sem Op Lib Jvm.Free Jvm.Stand Jvm.LawKit Jvm.RoadKit Bundle Jvm.Pilot.@@N@@.Jvm.D
section OwnKit
variable {p : Program} {l : Launch} {e : Env} {R : Room} {s : State} {m : MethodId} {args : Array Value} {below : List Frame} {meth : Method} {c : Code} {T : State} {locs : List Loc} {cells slots : Nat} {Z : State} {a0 : Array Value} {h : Heap}
def Go (p : Program) (e : Env) (below : List Frame) (Q : Outcome → State → Prop) (S : State) : Prop := ∃ s₂ o, Steps p.tables e below S s₂ ∧ s₂.status = .running ∧ Ended s₂ below o ∧ Q o s₂
theorem Go.of {Q : Outcome → State → Prop} {S : State} (k : Go p e below Q S) : ∃ s₂ o, Steps p.tables e below S s₂ ∧ s₂.status = .running ∧ Ended s₂ below o ∧ Q o s₂ := k
theorem Go.st {Q : Outcome → State → Prop} {S S' : State} (h : ∀ t, Steps p.tables e below S' t → Steps p.tables e below S t) (k : Go p e below Q S') : Go p e below Q S := by
  obtain ⟨s2, o, h1, h2⟩ := k; exact ⟨s2, o, h _ h1, h2⟩
theorem Go.op {α : Type} {Q : Outcome → State → Prop} {S : State} {F : α → State} {x : α} (h : ∀ t, Steps p.tables e below (F x) t → Steps p.tables e below S t) (k : ∀ z, z = x → Go p e below Q (F z)) : Go p e below Q S := Go.st h (k x rfl)
theorem Go.join {α : Type} {Q : Outcome → State → Prop} {S : State} (C : α → Prop) (F : α → State) (k : ∀ r, C r → Go p e below Q (F r)) (j : (∀ r, C r → Go p e below Q (F r)) → Go p e below Q S) : Go p e below Q S := j k
theorem Go.joinT {α : Type} {Q : Outcome → State → Prop} {S : State} (X : Stand p l e R s m args below meth c T locs cells slots) (eT : T.heap = h) (C : α → Prop) (F : State → α → State) (k : ∀ T', Stand p l e R s m args below meth c T' locs cells slots → T'.heap = h → ∀ r, C r → Go p e below Q (F T' r)) (j : (∀ T', Stand p l e R s m args below meth c T' locs cells slots → T'.heap = h → ∀ r, C r → Go p e below Q (F T' r)) → Go p e below Q S) : Go p e below Q S := j k
theorem Go.loop {α : Type} {Q : Outcome → State → Prop} (I : Nat → α → Prop) (F : α → State) (k0 : Nat) (x0 : α) (h0 : I k0 x0) (step : ∀ k x, I k x → (∀ k' x', k' < k → I k' x' → Go p e below Q (F x')) → Go p e below Q (F x)) : Go p e below Q (F x0) := by
  have H : ∀ k x, I k x → Go p e below Q (F x) := by
    intro k
    induction k using Nat.strongRecOn with
    | _ k ih => intro x hx; exact step k x hx fun k' x' hk hx' => ih k' hk x' hx'
  exact H k0 x0 h0
theorem Go.ret {Qn : Option Value → Heap → List Loc → Prop} {rc rs : Nat} (X : Stand p l e R s m args below meth c T locs cells slots) {v : Option Value} (hv : meth.sig.returnType = none → v = none) (hlk : meth.locks = false) {f : JFrame}
    (st : ∀ fs, (∀ (f : JFrame) (acts : List Action), f.method = m → f.locked = none → f.entered = [] → (doReturn e (T.setTop f) acts v).1 = T.setFrames fs) → Steps p.tables e below (T.setTop f) (T.setFrames fs))
    (hc : cells ≤ rc) (hs : slots ≤ rs) (hQ : Qn v T.heap locs) : Go p e below (fun o U' => ∃ v L, o = .returned v ∧ Qn v U'.heap L ∧ FrameEnd s o U' L rc rs) (T.setTop f) := by
  obtain ⟨fs, hr, hrun, hended, hW, hsame⟩ := X.leave (v := v) hv hlk
  exact ⟨_, _, st fs hr, hrun, hended, v, locs, rfl, hQ, ⟨_, rfl⟩, hW, hsame.mono hc hs⟩
abbrev Con (l : Launch) (Z : State) (y : MethodName) (bytes : ByteArray) (maxL : Nat) (ret : Option FieldType) (ws : List Jvm.Cond) (rm : Room) (as' : Array Value) (h : Heap) (rc rs : Nat) (Q : Option Value → Heap → List Loc → Prop) : Prop :=
  MetFree l y (head1 (Jvm.Cond.code y bytes maxL ret :: ws) rm) (fun a U => a = as' ∧ Z.Warmed39 U.vm ∧ U.heap = h) (fun _ _ _ _ _ => True) (fun _ U o U' => ∃ v L, o = .returned v ∧ Q v U'.heap L ∧ FrameEnd U o U' L rc rs)
theorem own_eh {a : Addr} {cl : Cell} (eT : T.heap = h) (q : h[a]? = some cl) : T.heap[a]? = some cl := by rw [eT]; exact q
theorem own_callS {own : String} {index : Nat} {y : MethodName} {bytes : ByteArray} {maxL : Nat} {ret : Option FieldType} {rm : Room} {as' : Array Value} {Q : Option Value → Heap → List Loc → Prop} {W : Nat} {g : JFrame} {argsL rest : List Value}
    (X : Stand p l e R s m args below meth c T locs cells slots) (hx : p.tables.exec = Jvm.exec) (hZ : Z.Warmed39 s.vm) (eT : T.heap = h) (hown : s.vm.findClass own = some m.cls)
    (w1 : (Jvm.Cond.methodLink own index y).before a0 Z = true) (w2 : (Jvm.Cond.static y).before a0 Z = true) (w3 : (Jvm.Cond.initialized y.cls).before a0 Z = true) (w4 : (Jvm.Cond.code y bytes maxL ret).before a0 Z = true)
    (hy : y.cls ≠ "java/lang/invoke/MethodHandle" ∧ y.cls ≠ "java/lang/invoke/VarHandle")
    (hM : Con l Z y bytes maxL ret [] rm as' h rm.cells rm.slots Q)
    (hf : rm.frames + 1 ≤ R.frames) (hl : W + (maxL + 11) + rm.locals ≤ R.locals) (hc : cells + rm.cells ≤ R.cells) (hs : slots + rm.slots ≤ R.slots)
    (hg : g.method = m) (hsize : g.locals.size = c.maxLocals) (has : argsL.toArray = as') (hlen : ∀ sig, parseMethodDescriptor y.desc = some sig → argsL.length = sig.parameters.length)
    (hstack : g.stack = argsL.reverse ++ rest) (hW : 2 * g.monitorRoom + (rest.map fun v => v.category).sum ≤ W) (hdg : decode c.code g.pc = .ok (.invokestatic index, 3)) :
    ∃ v T' L, Stand p l e R s m args below meth c T' (locs ++ L) (cells + rm.cells) (slots + rm.slots) ∧ Q v T'.heap L ∧ ∀ target, Steps p.tables e below (T'.setTop { g with pc := g.pc + 3, stack := v.toList ++ rest }) target → Steps p.tables e below (T.setTop g) target := by
  obtain ⟨v, _, ⟨T', L', k', n'⟩, -, X', ⟨L, hQ, l', y', z'⟩, st⟩ := Jvm.LawKit.callS X hx (y := y) hown (mvT hZ w1) (mvT hZ w2) (mvT hZ w3) (mvT hZ w4) hy (backOf (W := W) hM hZ w4 w3 hf hl) (g := g) hg hsize (argsL := argsL) (rest := rest) hlen hstack hW hdg (fun _ _ => ⟨has, eT, hc, hs⟩)
  dsimp only [Pt.U, Pt.locs, Pt.cells, Pt.slots] at X' l' y' z' st hQ
  subst l' y' z'
  exact ⟨v, T', L, X', hQ, st⟩
theorem own_callI {own : String} {index : Nat} {y : MethodName} {bytes : ByteArray} {maxL : Nat} {rm : Room} {as' : Array Value} {Q : Option Value → Heap → List Loc → Prop} {W : Nat} {g : JFrame} {a : Addr} {argsL rest : List Value}
    (X : Stand p l e R s m args below meth c T locs cells slots) (hx : p.tables.exec = Jvm.exec) (hZ : Z.Warmed39 s.vm) (eT : T.heap = h) (hown : s.vm.findClass own = some m.cls) (hyn : y.name = "<init>")
    (w1 : (Jvm.Cond.methodLink own index y).before a0 Z = true) (w2 : (Jvm.Cond.instanceMethod y).before a0 Z = true) (w3 : (Jvm.Cond.initialized y.cls).before a0 Z = true) (w4 : (Jvm.Cond.code y bytes maxL none).before a0 Z = true)
    (hy : y.cls ≠ "java/lang/invoke/MethodHandle" ∧ y.cls ≠ "java/lang/invoke/VarHandle")
    (hM : Con l Z y bytes maxL none [] rm as' h rm.cells rm.slots Q)
    (hf : rm.frames + 1 ≤ R.frames) (hl : W + (maxL + 11) + rm.locals ≤ R.locals) (hc : cells + rm.cells ≤ R.cells) (hs : slots + rm.slots ≤ R.slots)
    (hg : g.method = m) (hsize : g.locals.size = c.maxLocals) (has : (Value.ref a :: argsL).toArray = as') (hlen : ∀ sig, parseMethodDescriptor y.desc = some sig → argsL.length = sig.parameters.length)
    (hstack : g.stack = argsL.reverse ++ .ref a :: rest) (hW : 2 * g.monitorRoom + (rest.map fun v => v.category).sum ≤ W) (hdg : decode c.code g.pc = .ok (.invokespecial index, 3)) :
    ∃ v T' L, Stand p l e R s m args below meth c T' (locs ++ L) (cells + rm.cells) (slots + rm.slots) ∧ Q v T'.heap L ∧ ∀ target, Steps p.tables e below (T'.setTop { g with pc := g.pc + 3, stack := v.toList ++ rest }) target → Steps p.tables e below (T.setTop g) target := by
  obtain ⟨v, _, ⟨T', L', k', n'⟩, -, X', ⟨L, hQ, l', y', z'⟩, st⟩ := X.specialBack hx (y := y) hyn hown (mvT hZ w1) (mvT hZ w2) (mvT hZ w4) hy (backOf (W := W) hM hZ w4 w3 hf hl) (g := g) hg hsize (Steps.refl _) (a := a) (argsL := argsL) (rest := rest) hlen hstack hW hdg (fun _ _ => ⟨has, eT, hc, hs⟩)
  dsimp only [Pt.U, Pt.locs, Pt.cells, Pt.slots] at X' l' y' z' st hQ
  subst l' y' z'
  exact ⟨v, T', L, X', hQ, fun _ k => st.trans k⟩
theorem own_mvMN {own host : String} {index : Nat} {y : MethodName} (hZ : Z.Warmed39 s.vm) (w : (Jvm.Cond.methodLinkNest own index y host).before a0 Z = true) : (Jvm.Cond.methodLinkNest own index y host).before args s = true := (Cond.methodLinkNest_wide hZ w :)
theorem own_callN {own host : String} {index : Nat} {y : MethodName} {bytes : ByteArray} {maxL : Nat} {rm : Room} {as' : Array Value} {Q : Option Value → Heap → List Loc → Prop} {W : Nat} {g : JFrame} {a : Addr} {argsL rest : List Value}
    (X : Stand p l e R s m args below meth c T locs cells slots) (hx : p.tables.exec = Jvm.exec) (hZ : Z.Warmed39 s.vm) (eT : T.heap = h) (hown : s.vm.findClass own = some m.cls) (hyn : y.name = "<init>")
    (w1 : (Jvm.Cond.methodLinkNest own index y host).before a0 Z = true) (w2 : (Jvm.Cond.instanceMethod y).before a0 Z = true) (w3 : (Jvm.Cond.initialized y.cls).before a0 Z = true) (w4 : (Jvm.Cond.code y bytes maxL none).before a0 Z = true)
    (hy : y.cls ≠ "java/lang/invoke/MethodHandle" ∧ y.cls ≠ "java/lang/invoke/VarHandle")
    (hM : Con l Z y bytes maxL none [] rm as' h rm.cells rm.slots Q)
    (hf : rm.frames + 1 ≤ R.frames) (hl : W + (maxL + 11) + rm.locals ≤ R.locals) (hc : cells + rm.cells ≤ R.cells) (hs : slots + rm.slots ≤ R.slots)
    (hg : g.method = m) (hsize : g.locals.size = c.maxLocals) (has : (Value.ref a :: argsL).toArray = as') (hlen : ∀ sig, parseMethodDescriptor y.desc = some sig → argsL.length = sig.parameters.length)
    (hstack : g.stack = argsL.reverse ++ .ref a :: rest) (hW : 2 * g.monitorRoom + (rest.map fun v => v.category).sum ≤ W) (hdg : decode c.code g.pc = .ok (.invokespecial index, 3)) :
    ∃ v T' L, Stand p l e R s m args below meth c T' (locs ++ L) (cells + rm.cells) (slots + rm.slots) ∧ Q v T'.heap L ∧ ∀ target, Steps p.tables e below (T'.setTop { g with pc := g.pc + 3, stack := v.toList ++ rest }) target → Steps p.tables e below (T.setTop g) target := by
  obtain ⟨v, _, ⟨T', L', k', n'⟩, -, X', ⟨L, hQ, l', y', z'⟩, st⟩ := X.specialBackNest hx (y := y) hyn hown (own_mvMN hZ w1) (mvT hZ w2) (mvT hZ w4) hy (backOf (W := W) hM hZ w4 w3 hf hl) (g := g) hg hsize (Steps.refl _) (a := a) (argsL := argsL) (rest := rest) hlen hstack hW hdg (fun _ _ => ⟨has, eT, hc, hs⟩)
  dsimp only [Pt.U, Pt.locs, Pt.cells, Pt.slots] at X' l' y' z' st hQ
  subst l' y' z'
  exact ⟨v, T', L, X', hQ, fun _ k => st.trans k⟩
theorem own_callV {own C : String} {index : Nat} {y z : MethodName} {bytes : ByteArray} {maxL : Nat} {ret : Option FieldType} {rm : Room} {as' : Array Value} {Q : Option Value → Heap → List Loc → Prop} {W : Nat} {g : JFrame} {a : Addr} {argsL rest : List Value}
    (X : Stand p l e R s m args below meth c T locs cells slots) (hx : p.tables.exec = Jvm.exec) (hZ : Z.Warmed39 s.vm) (eT : T.heap = h) (hown : s.vm.findClass own = some m.cls)
    (w1 : (Jvm.Cond.methodLink own index y).before a0 Z = true) (w2 : (Jvm.Cond.declares y).before a0 Z = true) (nf : NotFace s y) (w5 : (Jvm.Cond.selects C y z).before a0 Z = true) (w6 : (Jvm.Cond.instanceMethod z).before a0 Z = true) (w3 : (Jvm.Cond.initialized z.cls).before a0 Z = true) (w4 : (Jvm.Cond.code z bytes maxL ret).before a0 Z = true)
    (hy : y.cls ≠ "java/lang/invoke/MethodHandle" ∧ y.cls ≠ "java/lang/invoke/VarHandle") (E : Exa Z h a C)
    (hM : Con l Z z bytes maxL ret [] rm as' h rm.cells rm.slots Q)
    (hf : rm.frames + 1 ≤ R.frames) (hl : W + (maxL + 11) + rm.locals ≤ R.locals) (hc : cells + rm.cells ≤ R.cells) (hs : slots + rm.slots ≤ R.slots)
    (hg : g.method = m) (hsize : g.locals.size = c.maxLocals) (has : (Value.ref a :: argsL).toArray = as') (hlen : ∀ sig, parseMethodDescriptor y.desc = some sig → argsL.length = sig.parameters.length)
    (hstack : g.stack = argsL.reverse ++ .ref a :: rest) (hW : 2 * g.monitorRoom + (rest.map fun v => v.category).sum ≤ W) (hdg : decode c.code g.pc = .ok (.invokevirtual index, 3)) :
    ∃ v T' L, Stand p l e R s m args below meth c T' (locs ++ L) (cells + rm.cells) (slots + rm.slots) ∧ Q v T'.heap L ∧ ∀ target, Steps p.tables e below (T'.setTop { g with pc := g.pc + 3, stack := v.toList ++ rest }) target → Steps p.tables e below (T.setTop g) target := by
  obtain ⟨cq, kq, qa, qb, qc⟩ := isOf hZ eT E
  obtain ⟨v, _, ⟨T', L', k', n'⟩, -, X', ⟨L, hQ, l', y', z'⟩, st⟩ := X.virtualBack hx (y := y) (z := z) hown (mvT hZ w1) (mvT hZ w2) nf (mvT hZ w5) (mvT hZ w6) hy (backOf (W := W) hM hZ w4 w3 hf hl) qa qc (g := g) hg hsize (Steps.refl _) (argsL := argsL) (rest := rest) hlen hstack hW hdg (fun _ _ => ⟨has, eT, hc, hs⟩)
  dsimp only [Pt.U, Pt.locs, Pt.cells, Pt.slots] at X' l' y' z' st hQ
  subst l' y' z'
  exact ⟨v, T', L, X', hQ, fun _ k => st.trans k⟩
theorem own_sta_keep {C n d : String} {w : Value} {h h' : Heap} {ws : List Addr} (F : Sta Z h C n d w) (K : Keep h h' ws) (q : ∀ x ∈ ws, ∃ cl : Cell, h[x]? = some cl ∧ cl.vm.isStatics = false) : Sta Z h' C n d w := by
  obtain ⟨cf, i, k, f, st, cell, h1, h2, h3, h4, h5, h6, h7⟩ := F
  refine ⟨cf, i, k, f, st, cell, h1, h2, h3, h4, K.2.1 st cell h5 fun z => ?_, h6, h7⟩
  obtain ⟨cl, q1, q2⟩ := q st z
  cases h5.symm.trans q1
  rw [h6] at q2; cases q2
theorem own_exa_plain {a : Addr} {C : String} {h : Heap} (F : Exa Z h a C) : ∃ cl : Cell, h[a]? = some cl ∧ cl.vm.isStatics = false := by
  obtain ⟨cell, k, h1, -, -, h4, -⟩ := F; exact ⟨cell, h1, h4⟩
theorem own_arv_plain {a : Addr} {k : ClassId} {ty : FieldType} {z : Int32} {vs : List Value} {dv : Value} {h : Heap} (F : Arv Z h a k ty z vs dv) : ∃ cl : Cell, h[a]? = some cl ∧ cl.vm.isStatics = false := by
  obtain ⟨cell, A, -⟩ := F; exact ⟨cell, A.1, A.plain⟩
theorem own_getR {own O n d : String} {index : Nat} {a : Addr} {v : Value} {g : JFrame} {rest : List Value} (X : Stand p l e R s m args below meth c T locs cells slots) (hx : p.tables.exec = Jvm.exec) (hZ : Z.Warmed39 s.vm) (hown : s.vm.findClass own = some m.cls)
    (w : (Jvm.Cond.fieldRef own index O n d).before a0 Z = true) (eT : T.heap = h) (F : Fld Z h a O n d v) (hg : g.method = m) (hs : g.stack = .ref a :: rest) (hd : decode c.code g.pc = .ok (.getfield index, 3)) :
    ∀ target, Steps p.tables e below (T.setTop { g with pc := g.pc + 3, stack := v :: rest }) target → Steps p.tables e below (T.setTop g) target := by
  have hU : Z.Warmed39 T.vm := wtrans hZ X.warmed
  have w2 := Cond.fieldRef_warmed39 hU w
  have hc : (Z.setVm T.vm).vm.findClass own = some m.cls := by
    show T.vm.findClass own = some m.cls
    rw [X.warmed.alike.findClass]; exact hown
  obtain ⟨c1, k1, i1, f1, hf1, hr⟩ := Cond.fieldRef_spec hc w2
  obtain ⟨cell, cf, k, i, f, h1, h2, h3, h4, -, -, h7⟩ := F
  obtain ⟨k', hi, -⟩ := State.fieldFound?_setVm (s := Z) hU.alike h2
  cases hi.symm.trans hf1
  intro t kk
  exact (X.getfieldR hx hg hr h3 hs (by rw [eT]; exact h1) h4 h7 hd (Steps.refl _)).trans kk
theorem own_callP {own C : String} {index : Nat} {y : MethodName} {bytes : ByteArray} {maxL : Nat} {ret : Option FieldType} {rm : Room} {as' : Array Value} {Q : Option Value → Heap → List Loc → Prop} {W : Nat} {g : JFrame} {a : Addr} {argsL rest : List Value}
    (X : Stand p l e R s m args below meth c T locs cells slots) (hx : p.tables.exec = Jvm.exec) (hZ : Z.Warmed39 s.vm) (eT : T.heap = h) (hown : s.vm.findClass own = some m.cls)
    (w1 : (Jvm.Cond.methodLink own index y).before a0 Z = true) (w2 : (Jvm.Cond.instanceMethod y).before a0 Z = true) (w5 : (Jvm.Cond.selects y.cls y y).before a0 Z = true) (w6 : (Jvm.Cond.privateMethod y).before a0 Z = true) (w3 : (Jvm.Cond.initialized y.cls).before a0 Z = true) (w4 : (Jvm.Cond.code y bytes maxL ret).before a0 Z = true)
    (hy : y.cls ≠ "java/lang/invoke/MethodHandle" ∧ y.cls ≠ "java/lang/invoke/VarHandle") (E : Exa Z h a C)
    (hM : Con l Z y bytes maxL ret [] rm as' h rm.cells rm.slots Q)
    (hf : rm.frames + 1 ≤ R.frames) (hl : W + (maxL + 11) + rm.locals ≤ R.locals) (hc : cells + rm.cells ≤ R.cells) (hs : slots + rm.slots ≤ R.slots)
    (hg : g.method = m) (hsize : g.locals.size = c.maxLocals) (has : (Value.ref a :: argsL).toArray = as') (hlen : ∀ sig, parseMethodDescriptor y.desc = some sig → argsL.length = sig.parameters.length)
    (hstack : g.stack = argsL.reverse ++ .ref a :: rest) (hW : 2 * g.monitorRoom + (rest.map fun v => v.category).sum ≤ W) (hdg : decode c.code g.pc = .ok (.invokevirtual index, 3)) :
    ∃ v T' L, Stand p l e R s m args below meth c T' (locs ++ L) (cells + rm.cells) (slots + rm.slots) ∧ Q v T'.heap L ∧ ∀ target, Steps p.tables e below (T'.setTop { g with pc := g.pc + 3, stack := v.toList ++ rest }) target → Steps p.tables e below (T.setTop g) target := by
  obtain ⟨cq, q1, q2⟩ := E.cell
  obtain ⟨v, _, ⟨T', L', k', n'⟩, -, X', ⟨L, hQ, l', y', z'⟩, st⟩ := X.privateBack hx (y := y) hown (mvT hZ w1) (mvT hZ w2) (mvT hZ w5) (Cond.privateMethod_at (mvP hZ w6 (args := #[]))) (mvT hZ w4) hy (backOf (W := W) hM hZ w4 w3 hf hl) (g := g) hg hsize (Steps.refl _) (a := a) (by rw [eT]; exact q1) q2 (argsL := argsL) (rest := rest) hlen hstack hW hdg (fun _ _ => ⟨has, eT, hc, hs⟩)
  dsimp only [Pt.U, Pt.locs, Pt.cells, Pt.slots] at X' l' y' z' st hQ
  subst l' y' z'
  exact ⟨v, T', L, X', hQ, fun _ k => st.trans k⟩
theorem own_callF {own C : String} {index count : Nat} {xi y : MethodName} {bytes : ByteArray} {maxL : Nat} {ret : Option FieldType} {rm : Room} {as' : Array Value} {Q : Option Value → Heap → List Loc → Prop} {W : Nat} {g : JFrame} {a : Addr} {argsL rest : List Value}
    (X : Stand p l e R s m args below meth c T locs cells slots) (hx : p.tables.exec = Jvm.exec) (hZ : Z.Warmed39 s.vm) (eT : T.heap = h) (hown : s.vm.findClass own = some m.cls)
    (w1 : (Jvm.Cond.methodLink own index xi).before a0 Z = true) (w2 : (Jvm.Cond.declares xi).before a0 Z = true) (w7 : (Jvm.Cond.interfaceMethod xi.cls xi.cls xi.name xi.desc).before args s = true) (w5 : (Jvm.Cond.selects C xi y).before a0 Z = true) (w6 : (Jvm.Cond.instanceMethod y).before a0 Z = true)
    (w8 : (Jvm.Cond.publicMethod y).before a0 Z = true) (w9 : (Jvm.Cond.unhidden C xi.name xi.desc).before a0 Z = true) (w10 : (Jvm.Cond.castable C xi.cls).before a0 Z = true) (w3 : (Jvm.Cond.initialized y.cls).before a0 Z = true) (w4 : (Jvm.Cond.code y bytes maxL ret).before a0 Z = true)
    (hy : xi.cls ≠ "java/lang/invoke/MethodHandle" ∧ xi.cls ≠ "java/lang/invoke/VarHandle") (E : Exa Z h a C)
    (hM : Con l Z y bytes maxL ret [] rm as' h rm.cells rm.slots Q)
    (hf : rm.frames + 1 ≤ R.frames) (hl : W + (maxL + 11) + rm.locals ≤ R.locals) (hc : cells + rm.cells ≤ R.cells) (hs : slots + rm.slots ≤ R.slots)
    (hg : g.method = m) (hsize : g.locals.size = c.maxLocals) (has : (Value.ref a :: argsL).toArray = as') (hlen : ∀ sig, parseMethodDescriptor xi.desc = some sig → argsL.length = sig.parameters.length)
    (hstack : g.stack = argsL.reverse ++ .ref a :: rest) (hW : 2 * g.monitorRoom + (rest.map fun v => v.category).sum ≤ W) (hdg : decode c.code g.pc = .ok (.invokeinterface index count, 5)) :
    ∃ v T' L, Stand p l e R s m args below meth c T' (locs ++ L) (cells + rm.cells) (slots + rm.slots) ∧ Q v T'.heap L ∧ ∀ target, Steps p.tables e below (T'.setTop { g with pc := g.pc + 5, stack := v.toList ++ rest }) target → Steps p.tables e below (T.setTop g) target := by
  obtain ⟨cq, kq, qa, qb, qc⟩ := isOf hZ eT E
  obtain ⟨v, _, ⟨T', L', k', n'⟩, -, X', ⟨L, hQ, l', y', z'⟩, st⟩ := X.interfaceBack hx (xi := xi) (y := y) hown (mvT hZ w1) (mvT hZ w2) w7 (mvT hZ w5) (mvT hZ w6) (mvT hZ w8) (mvT hZ w9) (mvT hZ w10) hy (backOf (W := W) hM hZ w4 w3 hf hl) qa qb qc (g := g) hg hsize (Steps.refl _) (argsL := argsL) (rest := rest) hlen hstack hW hdg (fun _ _ => ⟨has, eT, hc, hs⟩)
  dsimp only [Pt.U, Pt.locs, Pt.cells, Pt.slots] at X' l' y' z' st hQ
  subst l' y' z'
  exact ⟨v, T', L, X', hQ, fun _ k => st.trans k⟩
theorem own_ns_root {O K : String} {n : Nat} (w : (Jvm.Cond.noSuperclass O).before a0 Z = true) (wk : (Jvm.Cond.instantiable K n).before a0 Z = true) (hn : O ≠ K) : NS Z O K := by
  obtain ⟨c, k, h1, h2, h3, -, -⟩ := Cond.noSuperclass_spec w
  obtain ⟨t, kt, g1, -⟩ := Cond.instantiable_spec wk
  have ne := ids_ne h1 g1 hn
  refine ⟨c, t, h1, g1, fun fuel => ?_⟩
  cases fuel with
  | zero => rfl
  | succ f => simp [Vm.isSubclassAux, ne, h2, h3]
theorem own_ns_no {C S K : String} {n : Nat} (w : (Jvm.Cond.superclass C S).before a0 Z = true) (wk : (Jvm.Cond.instantiable K n).before a0 Z = true) (hN : NS Z C K) (hn : C ≠ K) : ∃ c t, Z.vm.findClass C = some c ∧ Z.vm.findClass K = some t ∧ Z.vm.assignable c t = false := by
  obtain ⟨c, t, h0, g0, n3⟩ := hN
  obtain ⟨p, k, kp, h1, h2, h3, h4, h5, -, h7⟩ := Cond.superclass_spec h0 w
  obtain ⟨t', kt, g1, g2, g3, g4, -⟩ := Cond.instantiable_spec wk
  cases g0.symm.trans g1
  have g7 : kt.isInterface = false := by
    cases hq : kt.isInterface
    · rfl
    · simp [hq] at g4
  have ne := ids_ne h0 g0 hn
  refine ⟨c, t, h0, g0, ?_⟩
  show Z.vm.assignableAux (255 + 1) c t = false
  simp [Vm.assignableAux, ne, h2, g2, h5, g3, g7, Vm.isSubclass, n3]
theorem own_ldcM {own C : String} {index : Nat} {mr : Addr} {g : JFrame} (X : Stand p l e R s m args below meth c T locs cells slots) (hx : p.tables.exec = Jvm.exec) (hZ : Z.Warmed39 s.vm) (hown : s.vm.findClass own = some m.cls) (w : (Jvm.Cond.classLink own index C).before a0 Z = true) (eT : T.heap = h) (M : Mir Z C mr)
    (hg : g.method = m) (hd : decode c.code g.pc = .ok (.ldc index, 2)) :
    ∃ T', Stand p l e R s m args below meth c T' locs cells slots ∧ T'.heap = h ∧ ∀ target, Steps p.tables e below (T'.setTop { g with pc := g.pc + 2, stack := .ref mr :: g.stack }) target → Steps p.tables e below (T.setTop g) target := by
  obtain ⟨cc, kc, m1, m2, m3, -⟩ := M
  obtain ⟨k', q, ek⟩ := hZ.alike.2.2 _ _ m2
  have ev : (Term.mirror C).eval args s none [] s = some (.ref mr) := by
    have h1 : s.vm.findClass C = some cc := by rw [hZ.alike.findClass]; exact m1
    have h2 : k'.mirror = some mr := by rw [ek]; exact m3
    simp [Term.eval, h1, q, h2]
  obtain ⟨vm', X', st⟩ := X.ldcMirror hx hown (mv hZ w) ev hg hd
  exact ⟨_, X', eT, st⟩
end OwnKit
section OwnWide
variable {p : Program} {l : Launch} {e : Env} {R : Room} {s : State} {m : MethodId} {args : Array Value} {below : List Frame} {meth : Method} {c : Code} {T : State} {locs : List Loc} {cells slots : Nat} {Z : State} {a0 : Array Value} {h : Heap}
theorem Go.retW {Qn : Option Value → Heap → List Loc → Prop} {rc rs n : Nat} {vm0 : Vm} (X : Stand p l e R (s.setVm vm0) m args below meth c T locs cells slots) (hS : s.Since vm0 n) (hn : n ≤ T.heap.size) {v : Option Value} (hv : meth.sig.returnType = none → v = none) (hlk : meth.locks = false) {f : JFrame}
    (st : ∀ fs, (∀ (f : JFrame) (acts : List Action), f.method = m → f.locked = none → f.entered = [] → (doReturn e (T.setTop f) acts v).1 = T.setFrames fs) → Steps p.tables e below (T.setTop f) (T.setFrames fs))
    (hc : cells ≤ rc) (hs : slots ≤ rs) (hQ : Qn v T.heap locs) : Go p e below (fun o U' => ∃ v L, o = .returned v ∧ Qn v U'.heap L ∧ ReturnedEndW s o U' L rc rs) (T.setTop f) := by
  obtain ⟨fs, hr, hrun, hended, h1, h2, h3, h4⟩ := leaveW X hS hn (v := v) hv hlk
  exact ⟨_, _, st fs hr, hrun, hended, v, locs, rfl, hQ, h1, h2, h3, h4.mono hc hs⟩
abbrev ConW (l : Launch) (Z : State) (y : MethodName) (bytes : ByteArray) (maxL : Nat) (ret : Option FieldType) (ws : List Jvm.Cond) (rm : Room) (as' : Array Value) (h : Heap) (rc rs : Nat) (Q : Option Value → Heap → List Loc → Prop) : Prop :=
  MetFree l y (head1 (Jvm.Cond.code y bytes maxL ret :: ws) rm) (fun a U => a = as' ∧ Z.WarmedH U.vm ∧ U.heap = h) (fun _ _ _ _ _ => True) (fun _ U o U' => ∃ v L, o = .returned v ∧ Q v U'.heap L ∧ ReturnedEndW U o U' L rc rs)
theorem own_backW {y : MethodName} {bytes : ByteArray} {maxL : Nat} {ret : Option FieldType} {rm : Room} {len W : Nat} {as' : Array Value} {Q : Option Value → Heap → List Loc → Prop}
    (hM : ConW l Z y bytes maxL ret [] rm as' h rm.cells rm.slots Q) (hZ : Z.WarmedH s.vm) (wc : (Jvm.Cond.code y bytes maxL ret).before a0 Z = true) (wz : (Jvm.Cond.initialized y.cls).before a0 Z = true) (hf : rm.frames + 1 ≤ R.frames) (hl : W + (maxL + 11) + rm.locals ≤ R.locals) :
    BackS l R p e below s args y len W (fun A a => a = as' ∧ A.U.heap = h ∧ A.cells + rm.cells ≤ R.cells ∧ A.slots + rm.slots ≤ R.slots)
      (fun A _ v B => ∃ L, Q v B.U.heap L ∧ B.locs = A.locs ++ L ∧ B.cells = A.cells + rm.cells ∧ B.slots = A.slots + rm.slots) :=
  BackS.of_freeW (bytes := bytes) (maxL := maxL) (ret := ret) (E := fun _ _ o t L k n => k = rm.cells ∧ n = rm.slots ∧ ∃ v, o = .returned v ∧ Q v t.heap L) hM hf hl
    (fun m meth c A a Y hp => have hU : Z.Warmed39 A.U.vm := wtrans hZ.wide Y.warmed
      ⟨by show (Jvm.Cond.and _ .tt).before a A.U = true; rw [Cond.before_and, mv hU wc]; rfl, mv hU wc, mv hU wz, hp.2.2.1, hp.2.2.2⟩)
    (fun m meth c A a g mk Y hp => ⟨hp.1, State.WarmedH.trans hZ Y.warmed, hp.2.1⟩) (fun _ _ _ _ _ _ _ _ _ => trivial)
    (fun _ _ _ _ ⟨v, L, h1, h2, h3⟩ => ⟨L, _, _, h3, rfl, rfl, v, h1, h2⟩)
    (fun m meth c A a g mk v t L k n Y hp _ _ ⟨e1, e2, v', e3, e4⟩ => by cases e3; subst e1 e2; exact ⟨L, e4, rfl, rfl, rfl⟩)
theorem own_callIW {own : String} {index : Nat} {y : MethodName} {bytes : ByteArray} {maxL : Nat} {rm : Room} {as' : Array Value} {Q : Option Value → Heap → List Loc → Prop} {W : Nat} {g : JFrame} {a : Addr} {argsL rest : List Value}
    (X : Stand p l e R s m args below meth c T locs cells slots) (hx : p.tables.exec = Jvm.exec) (hZH : Z.WarmedH s.vm) (eT : T.heap = h) (hown : s.vm.findClass own = some m.cls) (hyn : y.name = "<init>")
    (w1 : (Jvm.Cond.methodLink own index y).before a0 Z = true) (w2 : (Jvm.Cond.instanceMethod y).before a0 Z = true) (w3 : (Jvm.Cond.initialized y.cls).before a0 Z = true) (w4 : (Jvm.Cond.code y bytes maxL none).before a0 Z = true)
    (hy : y.cls ≠ "java/lang/invoke/MethodHandle" ∧ y.cls ≠ "java/lang/invoke/VarHandle")
    (hM : ConW l Z y bytes maxL none [] rm as' h rm.cells rm.slots Q)
    (hf : rm.frames + 1 ≤ R.frames) (hl : W + (maxL + 11) + rm.locals ≤ R.locals) (hc : cells + rm.cells ≤ R.cells) (hs : slots + rm.slots ≤ R.slots)
    (hg : g.method = m) (hsize : g.locals.size = c.maxLocals) (has : (Value.ref a :: argsL).toArray = as') (hlen : ∀ sig, parseMethodDescriptor y.desc = some sig → argsL.length = sig.parameters.length)
    (hstack : g.stack = argsL.reverse ++ .ref a :: rest) (hW : 2 * g.monitorRoom + (rest.map fun v => v.category).sum ≤ W) (hdg : decode c.code g.pc = .ok (.invokespecial index, 3)) :
    ∃ v T' L, Stand p l e R (s.setVm T'.vm) m args below meth c T' (locs ++ L) (cells + rm.cells) (slots + rm.slots) ∧ Q v T'.heap L ∧ s.Since T'.vm T'.heap.size ∧ Z.Warmed39 T'.vm ∧ T'.vm.findClass own = some m.cls ∧ ∀ target, Steps p.tables e below (T'.setTop { g with pc := g.pc + 3, stack := v.toList ++ rest }) target → Steps p.tables e below (T.setTop g) target := by
  have hZ := hZH.wide
  obtain ⟨v, _, ⟨T', L', k', n'⟩, -, X', hS, -, ⟨L, hQ, l', y', z'⟩, st⟩ := X.specialBackS hx (y := y) hyn hown (mvT hZ w1) (mvT hZ w2) (mvT hZ w4) hy (own_backW (W := W) hM hZH w4 w3 hf hl) (g := g) hg hsize (Steps.refl _) (a := a) (argsL := argsL) (rest := rest) hlen hstack hW hdg (fun _ _ => ⟨has, eT, hc, hs⟩)
  dsimp only [Pt.U, Pt.locs, Pt.cells, Pt.slots] at X' l' y' z' st hQ hS
  subst l' y' z'
  exact ⟨v, T', L, X', hQ, hS, State.Warmed39.trans (t := s) hZ hS.1, by rw [hS.1.alike.findClass]; exact hown, fun _ k => st.trans k⟩
theorem own_ib {vm : Vm} (hZ : Z.WarmedH vm) : IB Z vm [] := ⟨#[], by rw [hZ.interned_eq]; simp, fun q hq => by simp at hq⟩
theorem own_since (hs : True) : s.Since s.vm 0 := State.WarmedH.since (State.WarmedH.refl _) 0
theorem Go.retN {Qn : Option Value → Heap → List Loc → Prop} {rc rs : Nat} (X : Stand p l e R s m args below meth c T locs cells slots) {v : Option Value} (hv : meth.sig.returnType = none → v = none) (hlk : meth.locks = false) {f : JFrame}
    (st : ∀ fs, (∀ (f : JFrame) (acts : List Action), f.method = m → f.locked = none → f.entered = [] → (doReturn e (T.setTop f) acts v).1 = T.setFrames fs) → Steps p.tables e below (T.setTop f) (T.setFrames fs))
    (hc : cells ≤ rc) (hs : slots ≤ rs) (hQ : Qn v T.heap locs) : Go p e below (fun o U' => ∃ v L, o = .returned v ∧ Qn v U'.heap L ∧ ReturnedEndW s o U' L rc rs) (T.setTop f) := by
  obtain ⟨fs, hr, hrun, hended, hW, hsame⟩ := X.leave (v := v) hv hlk
  exact ⟨_, _, st fs hr, hrun, hended, v, locs, rfl, hQ, ReturnedEndW.of_narrow ⟨_, rfl⟩ hW (hsame.mono hc hs)⟩
end OwnWide
theorem own_wS {Z : State} {a0 : Array Value} (hw : ∀ d ∈ tables_1, d.before a0 Z = true) : ∀ a ∈ Bundle.stringAtoms, a.before a0 Z = true := by
  intro a ha
  simp only [Bundle.stringAtoms, List.mem_cons, List.not_mem_nil, or_false] at ha
  rcases ha with rfl | rfl | rfl | rfl | rfl | rfl | rfl
  · exact (hw _ (List.mem_of_getElem? (i := 3) rfl))
  · exact (hw _ (List.mem_of_getElem? (i := 11) rfl))
  · exact (hw _ (List.mem_of_getElem? (i := 15) rfl))
  · exact (hw _ (List.mem_of_getElem? (i := 24) rfl))
  · exact (hw _ (List.mem_of_getElem? (i := 26) rfl))
  · exact (hw _ (List.mem_of_getElem? (i := 50) rfl))
  · exact (hw _ (List.mem_of_getElem? (i := 51) rfl))
section OwnStart
variable {args : Array Value} {Z : State}
theorem own_eq_int {t : Term} {k : Int32} (h : (Jvm.Cond.eq t (.int k)).value args Z none Z [] = some true) : t.eval args Z none [] Z = some (.int k) := by
  obtain ⟨a, b, h1, h2, h3, h4⟩ := cmp_v (Or.inl h)
  have hb : b = .int k := Option.some.inj (h2.symm.trans (Term.int_eval k))
  subst hb
  obtain ⟨z, rfl⟩ : ∃ z, a = .int z := h4
  have q : z = k := by simpa [Cond.value, h1, h2] using h
  rw [h1, q]
theorem own_eq_ref {t u : Term} {a : Addr} (h : (Jvm.Cond.eq t u).value args Z none Z [] = some true) (hu : u.eval args Z none [] Z = some (.ref a)) : t.eval args Z none [] Z = some (.ref a) := by
  obtain ⟨x, y, h1, h2, h3, h4⟩ := cmp_v (Or.inl h)
  have hb : y = .ref a := Option.some.inj (h2.symm.trans hu)
  subst hb
  obtain ⟨-, q⟩ : Value.isRef (.ref a) = true ∧ x.isRef = true := h4
  have e := eq_R (a := t) (b := u) h1 h2 q rfl
  rw [e] at h
  have r : x = .ref a := by simpa using h
  rw [h1, r]
theorem own_ne0 {t : Term} {z : Int32} (ht : t.eval args Z none [] Z = some (.int z)) (h : (Jvm.Cond.not (Jvm.Cond.eq t (.int 0))).value args Z none Z [] = some true) : z ≠ 0 := by
  have q := not_v h
  intro e
  subst e
  simp [Cond.value, ht, Term.eval] at q
theorem own_fld {t : Term} {C n d : String} {a : Addr} {v : Value} (ht : t.eval args Z none [] Z = some (.ref a)) (h : (Term.field t C n d).eval args Z none [] Z = some v) : Fld Z Z.heap a C n d v := Fld.start ((fld_at ht).symm.trans h)
theorem own_len {t : Term} {a : Addr} {c : Cell} {k : Int32} {ty : FieldType} (ht : t.eval args Z none [] Z = some (.ref a)) (A : Arr Z Z.heap a c ty) (h : (Term.length t).eval args Z none [] Z = some (.int k)) : c.slots.size < 2 ^ 31 ∧ c.slots.size.toInt32 = k := by
  have q : Z.arrayAt? a = some c := A.fin (Vm.Alike.refl _)
  by_cases hl : c.slots.size < 2 ^ 31
  · have e := (len_f (t := t) ht q hl).symm.trans h
    exact ⟨hl, by simpa using e⟩
  · exfalso
    have hl' : ¬ c.slots.size < 2147483648 := hl
    simp [Term.eval, ht, q, hl'] at h
theorem own_slot {t : Term} {a : Addr} {c : Cell} {ty : FieldType} {v : Value} {j : Int32} (ht : t.eval args Z none [] Z = some (.ref a)) (A : Arr Z Z.heap a c ty) (h : (Term.elem t (.int j)).eval args Z none [] Z = some v) : c.slots[j.toNatClampNeg]? = some v := (elem_in h ht (Term.int_eval j) A.1).2
end OwnStart
theorem djdk_42_method_139_code_0 : decode jdk_42_method_139_code 0 = .ok (.getstatic 38, 3) := by decide +kernel
theorem djdk_42_method_139_code_3 : decode jdk_42_method_139_code 3 = .ok (.ifCond .eq 23, 3) := by decide +kernel
theorem djdk_42_method_139_code_6 : decode jdk_42_method_139_code 6 = .ok (.iload_n 0, 1) := by decide +kernel
theorem djdk_42_method_139_code_7 : decode jdk_42_method_139_code 7 = .ok (.invokestatic 1015, 3) := by decide +kernel
theorem djdk_42_method_139_code_10 : decode jdk_42_method_139_code 10 = .ok (.ifCond .eq 16, 3) := by decide +kernel
theorem djdk_42_method_139_code_13 : decode jdk_42_method_139_code 13 = .ok (.new 10, 3) := by decide +kernel
theorem djdk_42_method_139_code_16 : decode jdk_42_method_139_code 16 = .ok (.dup, 1) := by decide +kernel
theorem djdk_42_method_139_code_17 : decode jdk_42_method_139_code 17 = .ok (.iload_n 0, 1) := by decide +kernel
theorem djdk_42_method_139_code_18 : decode jdk_42_method_139_code 18 = .ok (.invokestatic 1018, 3) := by decide +kernel
theorem djdk_42_method_139_code_21 : decode jdk_42_method_139_code 21 = .ok (.iconst 0, 1) := by decide +kernel
theorem djdk_42_method_139_code_22 : decode jdk_42_method_139_code 22 = .ok (.invokespecial 209, 3) := by decide +kernel
theorem djdk_42_method_139_code_25 : decode jdk_42_method_139_code 25 = .ok (.areturn, 1) := by decide +kernel
theorem djdk_42_method_139_code_26 : decode jdk_42_method_139_code 26 = .ok (.new 10, 3) := by decide +kernel
theorem djdk_42_method_139_code_29 : decode jdk_42_method_139_code 29 = .ok (.dup, 1) := by decide +kernel
theorem djdk_42_method_139_code_30 : decode jdk_42_method_139_code 30 = .ok (.iload_n 0, 1) := by decide +kernel
theorem djdk_42_method_139_code_31 : decode jdk_42_method_139_code 31 = .ok (.invokestatic 1021, 3) := by decide +kernel
theorem djdk_42_method_149_code_0 : decode jdk_42_method_149_code 0 = .ok (.aload_n 0, 1) := by decide +kernel
theorem djdk_42_method_149_code_1 : decode jdk_42_method_149_code 1 = .ok (.invokespecial 1, 3) := by decide +kernel
theorem djdk_42_method_149_code_4 : decode jdk_42_method_149_code 4 = .ok (.iload_n 3, 1) := by decide +kernel
theorem djdk_42_method_149_code_5 : decode jdk_42_method_149_code 5 = .ok (.ifCond .ne 22, 3) := by decide +kernel
theorem djdk_42_method_149_code_8 : decode jdk_42_method_149_code 8 = .ok (.aload_n 0, 1) := by decide +kernel
theorem djdk_42_method_149_code_9 : decode jdk_42_method_149_code 9 = .ok (.ldc 7, 2) := by decide +kernel
theorem djdk_42_method_149_code_11 : decode jdk_42_method_149_code 11 = .ok (.getfield 9, 3) := by decide +kernel
theorem djdk_42_method_149_code_14 : decode jdk_42_method_149_code 14 = .ok (.putfield 9, 3) := by decide +kernel
theorem djdk_42_method_149_code_17 : decode jdk_42_method_149_code 17 = .ok (.aload_n 0, 1) := by decide +kernel
theorem djdk_42_method_149_code_18 : decode jdk_42_method_149_code 18 = .ok (.ldc 7, 2) := by decide +kernel
theorem djdk_42_method_149_code_20 : decode jdk_42_method_149_code 20 = .ok (.getfield 15, 3) := by decide +kernel
theorem djdk_42_method_149_code_23 : decode jdk_42_method_149_code 23 = .ok (.putfield 15, 3) := by decide +kernel
theorem djdk_42_method_149_code_26 : decode jdk_42_method_149_code 26 = .ok (.return_, 1) := by decide +kernel
theorem djdk_42_method_149_code_27 : decode jdk_42_method_149_code 27 = .ok (.getstatic 38, 3) := by decide +kernel
theorem djdk_42_method_149_code_30 : decode jdk_42_method_149_code 30 = .ok (.ifCond .eq 28, 3) := by decide +kernel
theorem djdk_42_method_149_code_33 : decode jdk_42_method_149_code 33 = .ok (.aload_n 1, 1) := by decide +kernel
theorem djdk_42_method_149_code_34 : decode jdk_42_method_149_code 34 = .ok (.iload_n 2, 1) := by decide +kernel
theorem djdk_42_method_149_code_35 : decode jdk_42_method_149_code 35 = .ok (.iload_n 3, 1) := by decide +kernel
theorem djdk_42_method_149_code_36 : decode jdk_42_method_149_code 36 = .ok (.invokestatic 177, 3) := by decide +kernel
theorem djdk_42_method_149_code_39 : decode jdk_42_method_149_code 39 = .ok (.astore 5, 2) := by decide +kernel
theorem djdk_42_method_149_code_41 : decode jdk_42_method_149_code 41 = .ok (.aload_n 0, 1) := by decide +kernel
theorem djdk_42_method_149_code_42 : decode jdk_42_method_149_code 42 = .ok (.aload 5, 2) := by decide +kernel
theorem djdk_42_method_149_code_44 : decode jdk_42_method_149_code 44 = .ok (.iload_n 3, 1) := by decide +kernel
theorem djdk_42_method_149_code_45 : decode jdk_42_method_149_code 45 = .ok (.invokestatic 47, 3) := by decide +kernel
theorem djdk_42_method_149_code_48 : decode jdk_42_method_149_code 48 = .ok (.putfield 15, 3) := by decide +kernel
theorem djdk_42_method_149_code_51 : decode jdk_42_method_149_code 51 = .ok (.aload_n 0, 1) := by decide +kernel
theorem djdk_42_method_149_code_52 : decode jdk_42_method_149_code 52 = .ok (.aload 5, 2) := by decide +kernel
theorem djdk_42_method_149_code_54 : decode jdk_42_method_149_code 54 = .ok (.putfield 9, 3) := by decide +kernel
theorem djdk_42_method_149_code_57 : decode jdk_42_method_149_code 57 = .ok (.return_, 1) := by decide +kernel
theorem djdk_42_method_151_code_0 : decode jdk_42_method_151_code 0 = .ok (.aload_n 0, 1) := by decide +kernel
theorem djdk_42_method_151_code_1 : decode jdk_42_method_151_code 1 = .ok (.invokespecial 1, 3) := by decide +kernel
theorem djdk_42_method_151_code_4 : decode jdk_42_method_151_code 4 = .ok (.aload_n 0, 1) := by decide +kernel
theorem djdk_42_method_151_code_5 : decode jdk_42_method_151_code 5 = .ok (.aload_n 1, 1) := by decide +kernel
theorem djdk_42_method_151_code_6 : decode jdk_42_method_151_code 6 = .ok (.putfield 9, 3) := by decide +kernel
theorem djdk_42_method_151_code_9 : decode jdk_42_method_151_code 9 = .ok (.aload_n 0, 1) := by decide +kernel
theorem djdk_42_method_151_code_10 : decode jdk_42_method_151_code 10 = .ok (.iload_n 2, 1) := by decide +kernel
theorem djdk_42_method_151_code_11 : decode jdk_42_method_151_code 11 = .ok (.putfield 15, 3) := by decide +kernel
theorem djdk_42_method_151_code_14 : decode jdk_42_method_151_code 14 = .ok (.return_, 1) := by decide +kernel
theorem djdk_42_method_3_code_0 : decode jdk_42_method_3_code 0 = .ok (.aload_n 0, 1) := by decide +kernel
theorem djdk_42_method_3_code_1 : decode jdk_42_method_3_code 1 = .ok (.aload_n 1, 1) := by decide +kernel
theorem djdk_42_method_3_code_2 : decode jdk_42_method_3_code 2 = .ok (.iconst 0, 1) := by decide +kernel
theorem djdk_42_method_3_code_3 : decode jdk_42_method_3_code 3 = .ok (.aload_n 1, 1) := by decide +kernel
theorem djdk_42_method_3_code_4 : decode jdk_42_method_3_code 4 = .ok (.arraylength, 1) := by decide +kernel
theorem djdk_42_method_3_code_5 : decode jdk_42_method_3_code 5 = .ok (.aconst_null, 1) := by decide +kernel
theorem djdk_42_method_3_code_6 : decode jdk_42_method_3_code 6 = .ok (.invokespecial 27, 3) := by decide +kernel
theorem djdk_42_method_3_code_9 : decode jdk_42_method_3_code 9 = .ok (.return_, 1) := by decide +kernel
theorem djdk_43_method_3_code_0 : decode jdk_43_method_3_code 0 = .ok (.iload_n 0, 1) := by decide +kernel
theorem djdk_43_method_3_code_1 : decode jdk_43_method_3_code 1 = .ok (.sipush 255, 3) := by decide +kernel
theorem djdk_43_method_3_code_4 : decode jdk_43_method_3_code 4 = .ok (.if_icmp .gt 7, 3) := by decide +kernel
theorem djdk_43_method_3_code_7 : decode jdk_43_method_3_code 7 = .ok (.iconst 1, 1) := by decide +kernel
theorem djdk_43_method_3_code_8 : decode jdk_43_method_3_code 8 = .ok (.goto 4, 3) := by decide +kernel
theorem djdk_43_method_3_code_11 : decode jdk_43_method_3_code 11 = .ok (.iconst 0, 1) := by decide +kernel
theorem djdk_43_method_3_code_12 : decode jdk_43_method_3_code 12 = .ok (.ireturn, 1) := by decide +kernel
theorem djdk_43_method_46_code_0 : decode jdk_43_method_46_code 0 = .ok (.iconst 1, 1) := by decide +kernel
theorem djdk_43_method_46_code_1 : decode jdk_43_method_46_code 1 = .ok (.newarray .byte, 2) := by decide +kernel
theorem djdk_43_method_46_code_3 : decode jdk_43_method_46_code 3 = .ok (.dup, 1) := by decide +kernel
theorem djdk_43_method_46_code_4 : decode jdk_43_method_46_code 4 = .ok (.iconst 0, 1) := by decide +kernel
theorem djdk_43_method_46_code_5 : decode jdk_43_method_46_code 5 = .ok (.iload_n 0, 1) := by decide +kernel
theorem djdk_43_method_46_code_6 : decode jdk_43_method_46_code 6 = .ok (.i2b, 1) := by decide +kernel
theorem djdk_43_method_46_code_7 : decode jdk_43_method_46_code 7 = .ok (.bastore, 1) := by decide +kernel
theorem djdk_43_method_46_code_8 : decode jdk_43_method_46_code 8 = .ok (.areturn, 1) := by decide +kernel
theorem djdk_52_method_15_code_0 : decode jdk_52_method_15_code 0 = .ok (.iload_n 1, 1) := by decide +kernel
theorem djdk_52_method_15_code_1 : decode jdk_52_method_15_code 1 = .ok (.aload_n 0, 1) := by decide +kernel
theorem djdk_52_method_15_code_2 : decode jdk_52_method_15_code 2 = .ok (.arraylength, 1) := by decide +kernel
theorem djdk_52_method_15_code_3 : decode jdk_52_method_15_code 3 = .ok (.isub, 1) := by decide +kernel
theorem djdk_52_method_15_code_4 : decode jdk_52_method_15_code 4 = .ok (.bipush 31, 2) := by decide +kernel
theorem djdk_52_method_15_code_6 : decode jdk_52_method_15_code 6 = .ok (.iushr, 1) := by decide +kernel
theorem djdk_52_method_15_code_7 : decode jdk_52_method_15_code 7 = .ok (.i2b, 1) := by decide +kernel
theorem djdk_52_method_15_code_8 : decode jdk_52_method_15_code 8 = .ok (.ireturn, 1) := by decide +kernel
theorem djdk_52_method_16_code_0 : decode jdk_52_method_16_code 0 = .ok (.iload_n 2, 1) := by decide +kernel
theorem djdk_52_method_16_code_1 : decode jdk_52_method_16_code 1 = .ok (.newarray .byte, 2) := by decide +kernel
theorem djdk_52_method_16_code_3 : decode jdk_52_method_16_code 3 = .ok (.astore_n 3, 1) := by decide +kernel
theorem djdk_52_method_16_code_4 : decode jdk_52_method_16_code 4 = .ok (.aload_n 0, 1) := by decide +kernel
theorem djdk_52_method_16_code_5 : decode jdk_52_method_16_code 5 = .ok (.iload_n 1, 1) := by decide +kernel
theorem djdk_52_method_16_code_6 : decode jdk_52_method_16_code 6 = .ok (.aload_n 3, 1) := by decide +kernel
theorem djdk_52_method_16_code_7 : decode jdk_52_method_16_code 7 = .ok (.iconst 0, 1) := by decide +kernel
theorem djdk_52_method_16_code_8 : decode jdk_52_method_16_code 8 = .ok (.iload_n 2, 1) := by decide +kernel
theorem djdk_52_method_16_code_9 : decode jdk_52_method_16_code 9 = .ok (.invokestatic 115, 3) := by decide +kernel
theorem djdk_52_method_16_code_12 : decode jdk_52_method_16_code 12 = .ok (.istore 4, 2) := by decide +kernel
theorem djdk_52_method_16_code_14 : decode jdk_52_method_16_code 14 = .ok (.iload 4, 2) := by decide +kernel
theorem djdk_52_method_16_code_16 : decode jdk_52_method_16_code 16 = .ok (.iload_n 2, 1) := by decide +kernel
theorem djdk_52_method_16_code_17 : decode jdk_52_method_16_code 17 = .ok (.if_icmp .eq 40, 3) := by decide +kernel
theorem djdk_52_method_16_code_20 : decode jdk_52_method_16_code 20 = .ok (.aload_n 0, 1) := by decide +kernel
theorem djdk_52_method_16_code_21 : decode jdk_52_method_16_code 21 = .ok (.iload_n 1, 1) := by decide +kernel
theorem djdk_52_method_16_code_22 : decode jdk_52_method_16_code 22 = .ok (.iload_n 2, 1) := by decide +kernel
theorem djdk_52_method_16_code_23 : decode jdk_52_method_16_code 23 = .ok (.invokestatic 119, 3) := by decide +kernel
theorem djdk_52_method_16_code_57 : decode jdk_52_method_16_code 57 = .ok (.aload_n 3, 1) := by decide +kernel
theorem djdk_52_method_16_code_58 : decode jdk_52_method_16_code 58 = .ok (.areturn, 1) := by decide +kernel
theorem djdk_52_method_21_code_0 : decode jdk_52_method_21_code 0 = .ok (.iconst 0, 1) := by decide +kernel
theorem djdk_52_method_21_code_1 : decode jdk_52_method_21_code 1 = .ok (.istore 5, 2) := by decide +kernel
theorem djdk_52_method_21_code_3 : decode jdk_52_method_21_code 3 = .ok (.iload 5, 2) := by decide +kernel
theorem djdk_52_method_21_code_5 : decode jdk_52_method_21_code 5 = .ok (.iload 4, 2) := by decide +kernel
theorem djdk_52_method_21_code_7 : decode jdk_52_method_21_code 7 = .ok (.if_icmp .ge 37, 3) := by decide +kernel
theorem djdk_52_method_21_code_10 : decode jdk_52_method_21_code 10 = .ok (.aload_n 0, 1) := by decide +kernel
theorem djdk_52_method_21_code_11 : decode jdk_52_method_21_code 11 = .ok (.iload_n 1, 1) := by decide +kernel
theorem djdk_52_method_21_code_12 : decode jdk_52_method_21_code 12 = .ok (.caload, 1) := by decide +kernel
theorem djdk_52_method_21_code_13 : decode jdk_52_method_21_code 13 = .ok (.istore 6, 2) := by decide +kernel
theorem djdk_52_method_21_code_15 : decode jdk_52_method_21_code 15 = .ok (.iload 6, 2) := by decide +kernel
theorem djdk_52_method_21_code_17 : decode jdk_52_method_21_code 17 = .ok (.sipush 255, 3) := by decide +kernel
theorem djdk_52_method_21_code_20 : decode jdk_52_method_21_code 20 = .ok (.if_icmp .le 6, 3) := by decide +kernel
theorem djdk_52_method_21_code_23 : decode jdk_52_method_21_code 23 = .ok (.iload 5, 2) := by decide +kernel
theorem djdk_52_method_21_code_25 : decode jdk_52_method_21_code 25 = .ok (.ireturn, 1) := by decide +kernel
theorem djdk_52_method_21_code_26 : decode jdk_52_method_21_code 26 = .ok (.aload_n 2, 1) := by decide +kernel
theorem djdk_52_method_21_code_27 : decode jdk_52_method_21_code 27 = .ok (.iload_n 3, 1) := by decide +kernel
theorem djdk_52_method_21_code_28 : decode jdk_52_method_21_code 28 = .ok (.iload 6, 2) := by decide +kernel
theorem djdk_52_method_21_code_30 : decode jdk_52_method_21_code 30 = .ok (.i2b, 1) := by decide +kernel
theorem djdk_52_method_21_code_31 : decode jdk_52_method_21_code 31 = .ok (.bastore, 1) := by decide +kernel
theorem djdk_52_method_21_code_32 : decode jdk_52_method_21_code 32 = .ok (.iinc 1 1, 3) := by decide +kernel
theorem djdk_52_method_21_code_35 : decode jdk_52_method_21_code 35 = .ok (.iinc 3 1, 3) := by decide +kernel
theorem djdk_52_method_21_code_38 : decode jdk_52_method_21_code 38 = .ok (.iinc 5 1, 3) := by decide +kernel
theorem djdk_52_method_21_code_41 : decode jdk_52_method_21_code 41 = .ok (.goto (-38), 3) := by decide +kernel
theorem djdk_52_method_21_code_44 : decode jdk_52_method_21_code 44 = .ok (.iload 4, 2) := by decide +kernel
theorem djdk_52_method_21_code_46 : decode jdk_52_method_21_code 46 = .ok (.ireturn, 1) := by decide +kernel
theorem dprog_7_method_2_code_0 : decode prog_7_method_2_code 0 = .ok (.iload_n 0, 1) := by decide +kernel
theorem dprog_7_method_2_code_1 : decode prog_7_method_2_code 1 = .ok (.iconst 1, 1) := by decide +kernel
theorem dprog_7_method_2_code_2 : decode prog_7_method_2_code 2 = .ok (.if_icmp .ge 18, 3) := by decide +kernel
theorem dprog_7_method_2_code_5 : decode prog_7_method_2_code 5 = .ok (.new 7, 3) := by decide +kernel
theorem dprog_7_method_2_code_20 : decode prog_7_method_2_code 20 = .ok (.iload_n 0, 1) := by decide +kernel
theorem dprog_7_method_2_code_21 : decode prog_7_method_2_code 21 = .ok (.ireturn, 1) := by decide +kernel
theorem pn_0 : plainName "java/lang/String" = true := by first | (simp [plainName, overriddenIn]; done) | decide +kernel
theorem pn_1 : plainName "com/example/sluiceway/sluiceway/Settings" = true := by first | (simp [plainName, overriddenIn]; done) | decide +kernel
theorem pn_2 : plainName "java/lang/StringLatin1" = true := by first | (simp [plainName, overriddenIn]; done) | decide +kernel
theorem pn_3 : plainName "java/lang/StringUTF16" = true := by first | (simp [plainName, overriddenIn]; done) | decide +kernel
theorem pn_4 : plainName "com/example/sluiceway/sluiceway/SettingsAtLeastOnePinLaw" = true := by first | (simp [plainName, overriddenIn]; done) | decide +kernel
theorem pd_0 : parseMethodDescriptor "([CIILjava/lang/Void;)V" = some ⟨[(.array .char), .int, .int, (.object "java/lang/Void")], none⟩ := by decide +kernel
theorem pd_1 : parseMethodDescriptor "([C)V" = some ⟨[(.array .char)], none⟩ := by decide +kernel
theorem pd_2 : parseMethodDescriptor "(ILjava/lang/String;)I" = some ⟨[.int, (.object "java/lang/String")], some .int⟩ := by decide +kernel
theorem pd_3 : parseMethodDescriptor "(C)Z" = some ⟨[.char], some .boolean⟩ := by decide +kernel
theorem pd_4 : parseMethodDescriptor "(C)[B" = some ⟨[.char], some (.array .byte)⟩ := by decide +kernel
theorem pd_5 : parseMethodDescriptor "([BB)V" = some ⟨[(.array .byte), .byte], none⟩ := by decide +kernel
theorem pd_6 : parseMethodDescriptor "(C)Ljava/lang/String;" = some ⟨[.char], some (.object "java/lang/String")⟩ := by decide +kernel
theorem pd_7 : parseMethodDescriptor "([CI[BII)I" = some ⟨[(.array .char), .int, (.array .byte), .int, .int], some .int⟩ := by decide +kernel
theorem pd_8 : parseMethodDescriptor "([CII)[B" = some ⟨[(.array .char), .int, .int], some (.array .byte)⟩ := by decide +kernel
theorem pd_9 : parseMethodDescriptor "([BI)B" = some ⟨[(.array .byte), .int], some .byte⟩ := by decide +kernel
theorem ef_1 (m : MethodId) (o0 : Addr) (o1 : Addr) : entryFrame m #[(.ref o0), (.ref o1), (.int (0 : Int32)), (.int (0 : Int32)), .null] 6 = mkF m 0 #[.val (.ref o0), .val (.ref o1), .val (.int (0 : Int32)), .val (.int (0 : Int32)), .val .null, .unset] [] := by first | (simp [entryFrame, mkF, argsToLocals, Value.category, maxLocals]; done) | rfl
def Q1 (Z : State) (o0 : Addr) (o1 : Addr) (u_o0_coder : Value) (h0 : Heap) (n0 : Nat) (v : Option Value) (h : Heap) (L : List Loc) : Prop := (v = none ∧ Fr n0 L ∧ Keep h0 h [o0] ∧ Exa Z h o0 "java/lang/String" ∧ Fld Z h o0 "java/lang/String" "coder" "B" (.int (0 : Int32)))
set_option maxRecDepth 65536 in
set_option maxHeartbeats 40000000 in
theorem rm1 (l : Launch) (Z : State) (a0 : Array Value) (hw : ∀ d ∈ tables_1, d.before a0 Z = true) (ws : List Jvm.Cond) (o0 : Addr) (o1 : Addr) (u_o0_coder : Value) (h0 : Heap) (n0 : Nat) (Z0 : n0 ≤ h0.size) (F_o0_value : Fld Z h0 o0 "java/lang/String" "value" "[B" .null) (keepZ : ∀ (b : Addr) (cl : Cell), Z.heap[b]? = some cl → h0[b]? = some cl) (held_7 : Jvm.Lit.constHeld Z "java/lang/String" 7) (hcw : Jvm.Lit.compactW.before a0 Z = true) (E_o0 : Exa Z h0 o0 "java/lang/String") (g_o0 : n0 ≤ o0) (F_o0_coder : Fld Z h0 o0 "java/lang/String" "coder" "B" u_o0_coder) :
    ConW l Z (⟨"java/lang/String", "<init>", "([CIILjava/lang/Void;)V"⟩ : MethodName) jdk_42_method_149_code 6 none ws ({ frames := 1, cells := 2, slots := 4, locals := 12 } : Room) #[(.ref o0), (.ref o1), (.int (0 : Int32)), (.int (0 : Int32)), .null] h0 2 4 (Q1 Z o0 o1 u_o0_coder h0 n0) := by
  refine MetFree.of_bodySF (plainFor_of_name pn_0) hisR ?_
  intro p e s m args below meth c s₁ Bd hml0 hP hK
  obtain ⟨rfl, hZH, hh⟩ := hP
  have hZ := hZH.wide
  have hx := Bd.exec
  have hby := Bd.bytes
  have hml : c.maxLocals = 6 := hml0
  have hown : s.vm.findClass "java/lang/String" = some m.cls := findClass_of_methodNamed Bd.named
  have hnm := (name_of_methodNamed Bd.named Bd.method).1
  have X0 : Stand p l e ({ frames := 1, cells := 2, slots := 4, locals := 12 } : Room) s m #[(.ref o0), (.ref o1), (.int (0 : Int32)), (.int (0 : Int32)), .null] below meth c s₁ [] 0 0 := Stand.of_body Bd
  have e0 : s₁.heap = h0 := by rw [← hh, Bd.state]; rfl
  have N0 := Fr.nil n0
  refine Go.of ?_
  refine Go.st (S' := s₁.setTop (mkF m 0 #[.val (.ref o0), .val (.ref o1), .val (.int (0 : Int32)), .val (.int (0 : Int32)), .val .null, .unset] [])) (fun t k => castTop (ef_1 m o0 o1) k) ?_
  let A17 : Array Slot := #[.val (.ref o0), .val (.ref o1), .val (.int (0 : Int32)), .val (.int (0 : Int32)), .val .null, .unset]
  refine Go.st (S' := s₁.setTop (mkF m 1 A17 [(.ref o0)])) (fun t k => XS.aloadN X0.here hx rfl (hb hby djdk_42_method_149_code_0) rfl rfl k) ?_
  obtain ⟨T18, X18, e18, st18⟩ := initO X0 hx hZ hown (hw _ (List.mem_of_getElem? (i := 20) rfl)) (hw _ (List.mem_of_getElem? (i := 21) rfl)) (hw _ (List.mem_of_getElem? (i := 22) rfl)) e0 (g := (mkF m 1 A17 [(.ref o0)])) rfl (by rw [hml]; rfl) rfl (hb hby djdk_42_method_149_code_1) (by decide) (W := 0) (by show 2 * 0 + _ ≤ _; exact Nat.le_of_eq rfl) (by decide)
  refine Go.st (S' := T18.setTop (mkF m 4 A17 [])) st18 ?_
  refine Go.st (S' := T18.setTop (mkF m 5 A17 [(.int (0 : Int32))])) (fun t k => XS.iloadN X18.here hx rfl (hb hby djdk_42_method_149_code_4) rfl k) ?_
  refine Go.st (S' := T18.setTop (mkF m 8 A17 [])) (fun t k => XS.ifNo X18.here hx rfl (hb hby djdk_42_method_149_code_5) rfl ((if0 _ _).trans (teq (by decide : ((0 : Int32) = (0 : Int32)))).2) k) ?_
  refine Go.st (S' := T18.setTop (mkF m 9 A17 [(.ref o0)])) (fun t k => XS.aloadN X18.here hx rfl (hb hby djdk_42_method_149_code_8) rfl rfl k) ?_
  obtain ⟨a19, T19, h19, kk19, b19, k19, X19, e19, E19, hS19, hk19, hZ, hown, Ex19, Fc19, Fv19, V19, la19, lb19, I19, Li19, st19⟩ := ldcSVL (vm0 := s.vm) X18 hx hZ hown (hw _ (List.mem_of_getElem? (i := 49) rfl)) (own_wS hw) e18 (own_since trivial) (Nat.zero_le _) (Fr.nil _) (fun b cl z => by rw [hh]; exact keepZ b cl z) (own_ib hZH) (by simp) held_7 hcw (vs := []) (z := 0) (by decide) (by decide) rfl (g := (mkF m 9 A17 [(.ref o0)])) rfl (hb hby djdk_42_method_149_code_9) (n := 0) (by decide) (by decide) (by decide) (by decide)
  have Z21 : n0 ≤ h19.size := Nat.le_trans Z0 E19.1
  have K21 : Keep h0 h19 [o0] := (Keep.refl h0 [o0]).ext E19
  have f22 := ((F_o0_value).ext E19)
  have nea19 : a19 ≠ o0 := Fld.ne Fv19 f22 (by simp)
  refine Go.st (S' := T19.setTop (mkF m 11 A17 [(.ref a19), (.ref o0)])) st19 ?_
  obtain ⟨T23, X23, e23, st23⟩ := getF X19 hx hZ hown (host := "") (Or.inl (hw _ (List.mem_of_getElem? (i := 23) rfl))) Via.refl e19 Fv19 (g := (mkF m 11 A17 [(.ref a19), (.ref o0)])) rfl rfl (hb hby djdk_42_method_149_code_11)
  refine Go.st (S' := T23.setTop (mkF m 14 A17 [(.ref b19), (.ref o0)])) st23 ?_
  have f25 := ((E_o0).ext E19)
  obtain ⟨T26, h26, X26, e26, W26, st26⟩ := putF X23 hx hZ hown (host := "") (Or.inl (hw _ (List.mem_of_getElem? (i := 23) rfl))) Via.refl e23 f22 f25 (Or.inr ⟨(hw _ (List.mem_of_getElem? (i := 24) rfl)), rfl, hnm⟩) (hw _ (List.mem_of_getElem? (i := 11) rfl)) (ty := (.array .byte)) (by decide) rfl rfl (g := (mkF m 14 A17 [(.ref b19), (.ref o0)])) rfl rfl (hb hby djdk_42_method_149_code_14)
  have Fw26 := (f22).same W26
  have N26 := Fr.snoc X26 N0 g_o0
  have Z27 : n0 ≤ h26.size := Nat.le_trans Z21 (Keep.of_wr W26).1
  have K27 : Keep h0 h26 [o0] := K21.wr W26 (Or.inl (by simp))
  have hk27 : _ ≤ h26.size := Nat.le_trans hk19 (Keep.of_wr W26).1
  refine Go.st (S' := T26.setTop (mkF m 17 A17 [])) st26 ?_
  refine Go.st (S' := T26.setTop (mkF m 18 A17 [(.ref o0)])) (fun t k => XS.aloadN X26.here hx rfl (hb hby djdk_42_method_149_code_17) rfl rfl k) ?_
  refine Go.st (S' := T26.setTop (mkF m 20 A17 [(.ref a19), (.ref o0)])) (ldcAgain X26 hx hZ hown (hw _ (List.mem_of_getElem? (i := 49) rfl)) Li19 (g := (mkF m 18 A17 [(.ref o0)])) rfl (hb hby djdk_42_method_149_code_18)) ?_
  have f28 := ((Fc19).other W26 (Or.inl nea19))
  obtain ⟨T29, X29, e29, st29⟩ := getF X26 hx hZ hown (host := "") (Or.inl (hw _ (List.mem_of_getElem? (i := 25) rfl))) Via.refl e26 f28 (g := (mkF m 20 A17 [(.ref a19), (.ref o0)])) rfl rfl (hb hby djdk_42_method_149_code_20)
  refine Go.st (S' := T29.setTop (mkF m 23 A17 [(.int (0 : Int32)), (.ref o0)])) st29 ?_
  have f30 := ((f25).wr W26)
  have f32 := ((((F_o0_coder).ext E19)).other W26 (Or.inr (slot_ne (Or.inr (hw _ (List.mem_of_getElem? (i := 26) rfl))) (Or.inr (hw _ (List.mem_of_getElem? (i := 24) rfl))) (by decide) (t := .byte) (t' := (.array .byte)) (by decide) (by decide))))
  obtain ⟨T33, h33, X33, e33, W33, st33⟩ := putF X29 hx hZ hown (host := "") (Or.inl (hw _ (List.mem_of_getElem? (i := 25) rfl))) Via.refl e29 f32 f30 (Or.inr ⟨(hw _ (List.mem_of_getElem? (i := 26) rfl)), rfl, hnm⟩) (hw _ (List.mem_of_getElem? (i := 11) rfl)) (ty := .byte) (by decide) rfl (by decide) (g := (mkF m 23 A17 [(.int (0 : Int32)), (.ref o0)])) rfl rfl (hb hby djdk_42_method_149_code_23)
  have Fw33 := (f32).same W33
  have N33 := Fr.snoc X33 N26 g_o0
  have Z34 : n0 ≤ h33.size := Nat.le_trans Z27 (Keep.of_wr W33).1
  have K34 : Keep h0 h33 [o0] := K27.wr W33 (Or.inl (by simp))
  have hk34 : _ ≤ h33.size := Nat.le_trans hk27 (Keep.of_wr W33).1
  refine Go.st (S' := T33.setTop (mkF m 26 A17 [])) st33 ?_
  have f35 := ((f30).wr W33)
  exact Go.retW X33 hS19 (by rw [e33]; exact hk34) (v := none) (fun _ => rfl) Bd.notSynchronized (fun fs hr => X33.returnOut hx Bd.returns (hb hby djdk_42_method_149_code_26) hr) (by decide) (by decide) (by rw [e33]; exact ⟨rfl, N33, K34, f35, Fw33⟩)
theorem ef_2 (m : MethodId) (o0 : Addr) (o1 : Addr) : entryFrame m #[(.ref o0), (.ref o1)] 2 = mkF m 0 #[.val (.ref o0), .val (.ref o1)] [] := by first | (simp [entryFrame, mkF, argsToLocals, Value.category, maxLocals]; done) | rfl
def Q2 (Z : State) (o0 : Addr) (o1 : Addr) (k_o1 : ClassId) (h0 : Heap) (n0 : Nat) (v : Option Value) (h : Heap) (L : List Loc) : Prop := (v = none ∧ Fr n0 L ∧ Keep h0 h [o0] ∧ Exa Z h o0 "java/lang/String" ∧ Fld Z h o0 "java/lang/String" "coder" "B" (.int (0 : Int32)))
set_option maxRecDepth 65536 in
set_option maxHeartbeats 40000000 in
theorem rm2 (l : Launch) (Z : State) (a0 : Array Value) (hw : ∀ d ∈ tables_1, d.before a0 Z = true) (ws : List Jvm.Cond) (o0 : Addr) (o1 : Addr) (k_o1 : ClassId) (h0 : Heap) (n0 : Nat) (Z0 : n0 ≤ h0.size) (E_o0 : Exa Z h0 o0 "java/lang/String") (F_o0_value : Fld Z h0 o0 "java/lang/String" "value" "[B" .null) (F_o0_coder : Fld Z h0 o0 "java/lang/String" "coder" "B" (.int (0 : Int32))) (V_o1 : Arv Z h0 o1 k_o1 .char (0 : Int32) [] (.int (0 : Int32))) (keepZ : ∀ (b : Addr) (cl : Cell), Z.heap[b]? = some cl → h0[b]? = some cl) (held_7 : Jvm.Lit.constHeld Z "java/lang/String" 7) (hcw : Jvm.Lit.compactW.before a0 Z = true) (g_o0 : n0 ≤ o0) :
    ConW l Z (⟨"java/lang/String", "<init>", "([C)V"⟩ : MethodName) jdk_42_method_3_code 2 none ws ({ frames := 2, cells := 2, slots := 4, locals := 29 } : Room) #[(.ref o0), (.ref o1)] h0 2 4 (Q2 Z o0 o1 k_o1 h0 n0) := by
  refine MetFree.of_bodySF (plainFor_of_name pn_0) hisR ?_
  intro p e s m args below meth c s₁ Bd hml0 hP hK
  obtain ⟨rfl, hZH, hh⟩ := hP
  have hZ := hZH.wide
  have hx := Bd.exec
  have hby := Bd.bytes
  have hml : c.maxLocals = 2 := hml0
  have hown : s.vm.findClass "java/lang/String" = some m.cls := findClass_of_methodNamed Bd.named
  have hnm := (name_of_methodNamed Bd.named Bd.method).1
  have X0 : Stand p l e ({ frames := 2, cells := 2, slots := 4, locals := 29 } : Room) s m #[(.ref o0), (.ref o1)] below meth c s₁ [] 0 0 := Stand.of_body Bd
  have e0 : s₁.heap = h0 := by rw [← hh, Bd.state]; rfl
  have N0 := Fr.nil n0
  refine Go.of ?_
  refine Go.st (S' := s₁.setTop (mkF m 0 #[.val (.ref o0), .val (.ref o1)] [])) (fun t k => castTop (ef_2 m o0 o1) k) ?_
  refine Go.st (S' := s₁.setTop (mkF m 1 #[.val (.ref o0), .val (.ref o1)] [(.ref o0)])) (fun t k => XS.aloadN X0.here hx rfl (hb hby djdk_42_method_3_code_0) rfl rfl k) ?_
  refine Go.st (S' := s₁.setTop (mkF m 2 #[.val (.ref o0), .val (.ref o1)] [(.ref o1), (.ref o0)])) (fun t k => XS.aloadN X0.here hx rfl (hb hby djdk_42_method_3_code_1) rfl rfl k) ?_
  refine Go.st (S' := s₁.setTop (mkF m 3 #[.val (.ref o0), .val (.ref o1)] [(.int (0 : Int32)), (.ref o1), (.ref o0)])) (fun t k => XS.iconst X0.here hx rfl (hb hby djdk_42_method_3_code_2) k) ?_
  refine Go.st (S' := s₁.setTop (mkF m 4 #[.val (.ref o0), .val (.ref o1)] [(.ref o1), (.int (0 : Int32)), (.ref o1), (.ref o0)])) (fun t k => XS.aloadN X0.here hx rfl (hb hby djdk_42_method_3_code_3) rfl rfl k) ?_
  obtain ⟨cl49, Ar49, -, S49, N49_, -, -⟩ := id V_o1
  refine Go.op (F := fun z => s₁.setTop (mkF m 5 #[.val (.ref o0), .val (.ref o1)] [(.int z), (.int (0 : Int32)), (.ref o1), (.ref o0)])) (x := cl49.slots.size.toInt32) (fun t k => X0.arraylength hx (own_eh e0 Ar49.1) (State.isArrayOf_alike hZ.alike Ar49.2.1) (g := (mkF m 4 #[.val (.ref o0), .val (.ref o1)] [(.ref o1), (.int (0 : Int32)), (.ref o1), (.ref o0)])) rfl rfl (hb hby djdk_42_method_3_code_4) t k) ?_
  intro v50 hv50
  obtain rfl : (0 : Int32) = v50 := (hv50.trans (len_of S49 N49_)).symm
  refine Go.st (S' := s₁.setTop (mkF m 6 #[.val (.ref o0), .val (.ref o1)] [.null, (.int (0 : Int32)), (.int (0 : Int32)), (.ref o1), (.ref o0)])) (fun t k => XS.aconstNull X0.here hx rfl (hb hby djdk_42_method_3_code_5) k) ?_
  obtain ⟨r51, T51, L51, X51, hQ51, hS51, hZ, hown, st51⟩ := own_callIW (W := 0) (a := o0) X0 hx hZH e0 hown (y := (⟨"java/lang/String", "<init>", "([CIILjava/lang/Void;)V"⟩ : MethodName)) rfl (hw _ (List.mem_of_getElem? (i := 36) rfl)) (hw _ (List.mem_of_getElem? (i := 37) rfl)) (hw _ (List.mem_of_getElem? (i := 3) rfl)) (hw _ (List.mem_of_getElem? (i := 38) rfl)) (by decide) (rm1 l Z a0 hw [] o0 o1 ((.int (0 : Int32))) h0 n0 Z0 (F_o0_value) (keepZ) (held_7) (hcw) (E_o0) (g_o0) (F_o0_coder)) (by decide) (by decide) (by decide) (by decide) (g := (mkF m 6 #[.val (.ref o0), .val (.ref o1)] [.null, (.int (0 : Int32)), (.int (0 : Int32)), (.ref o1), (.ref o0)])) rfl (by rw [hml]; rfl) (argsL := [(.ref o1), (.int (0 : Int32)), (.int (0 : Int32)), .null]) (rest := []) rfl (lenOf pd_0 rfl) rfl (by show 2 * 0 + _ ≤ _; exact Nat.le_of_eq rfl) (hb hby djdk_42_method_3_code_6)
  obtain ⟨rfl, N51, K51_, f52, f53⟩ := hQ51
  have N51_ := Fr.app N0 N51
  have Z54 : n0 ≤ T51.heap.size := Nat.le_trans Z0 K51_.1
  have K54 : Keep h0 T51.heap [o0] := (Keep.refl h0 [o0]).trans K51_ (allS (Or.inl (by simp)) all0)
  refine Go.st (S' := T51.setTop (mkF m 9 #[.val (.ref o0), .val (.ref o1)] [])) st51 ?_
  exact Go.retW X51 hS51 (Nat.le_refl _) (v := none) (fun _ => rfl) Bd.notSynchronized (fun fs hr => X51.returnOut hx Bd.returns (hb hby djdk_42_method_3_code_9) hr) (by decide) (by decide) (⟨rfl, N51_, K54, f52, f53⟩)
theorem ef_3 (m : MethodId) (p0 : Int32) (o1 : Addr) : entryFrame m #[(.int p0), (.ref o1)] 2 = mkF m 0 #[.val (.int p0), .val (.ref o1)] [] := by first | (simp [entryFrame, mkF, argsToLocals, Value.category, maxLocals]; done) | rfl
def Q3 (Z : State) (p0 : Int32) (o1 : Addr) (h0 : Heap) (n0 : Nat) (v : Option Value) (h : Heap) (L : List Loc) : Prop := ((¬ (p0 < (1 : Int32))) ∧ v = some (.int p0) ∧ Fr n0 L ∧ h = h0)
set_option maxRecDepth 65536 in
set_option maxHeartbeats 40000000 in
theorem rm3 (l : Launch) (Z : State) (a0 : Array Value) (hw : ∀ d ∈ tables_1, d.before a0 Z = true) (ws : List Jvm.Cond) (p0 : Int32) (o1 : Addr) (h0 : Heap) (n0 : Nat) (Z0 : n0 ≤ h0.size) (no0 : ¬ ((p0 < (1 : Int32)))) :
    Con l Z (⟨"com/example/sluiceway/sluiceway/Settings", "atLeastOne", "(ILjava/lang/String;)I"⟩ : MethodName) prog_7_method_2_code 2 (some .int) ws ({ frames := 0, cells := 0, slots := 0, locals := 0 } : Room) #[(.int p0), (.ref o1)] h0 0 0 (Q3 Z p0 o1 h0 n0) := by
  refine MetFree.of_bodySF (plainFor_of_name pn_1) hisR ?_
  intro p e s m args below meth c s₁ Bd hml0 hP hK
  obtain ⟨rfl, hZ, hh⟩ := hP
  have hx := Bd.exec
  have hby := Bd.bytes
  have hml : c.maxLocals = 2 := hml0
  have hown : s.vm.findClass "com/example/sluiceway/sluiceway/Settings" = some m.cls := findClass_of_methodNamed Bd.named
  have hnm := (name_of_methodNamed Bd.named Bd.method).1
  have X0 : Stand p l e ({ frames := 0, cells := 0, slots := 0, locals := 0 } : Room) s m #[(.int p0), (.ref o1)] below meth c s₁ [] 0 0 := Stand.of_body Bd
  have e0 : s₁.heap = h0 := by rw [← hh, Bd.state]; rfl
  have N0 := Fr.nil n0
  refine Go.of ?_
  refine Go.st (S' := s₁.setTop (mkF m 0 #[.val (.int p0), .val (.ref o1)] [])) (fun t k => castTop (ef_3 m p0 o1) k) ?_
  refine Go.st (S' := s₁.setTop (mkF m 1 #[.val (.int p0), .val (.ref o1)] [(.int p0)])) (fun t k => XS.iloadN X0.here hx rfl (hb hby dprog_7_method_2_code_0) rfl k) ?_
  refine Go.st (S' := s₁.setTop (mkF m 2 #[.val (.int p0), .val (.ref o1)] [(.int (1 : Int32)), (.int p0)])) (fun t k => XS.iconst X0.here hx rfl (hb hby dprog_7_method_2_code_1) k) ?_
  by_cases hc64 : (p0 < (1 : Int32))
  · refine Go.st (S' := s₁.setTop (mkF m 5 #[.val (.int p0), .val (.ref o1)] [])) (fun t k => XS.icmpNo X0.here hx rfl (hb hby dprog_7_method_2_code_2) rfl (tlt hc64).2.1 k) ?_
    exact absurd hc64 no0
  · refine Go.st (S' := s₁.setTop (mkF m 20 #[.val (.int p0), .val (.ref o1)] [])) (fun t k => XS.icmpYes X0.here hx rfl (pc0 := 2) (pc' := 20) rfl (hb hby dprog_7_method_2_code_2) rfl (flt hc64).2.1 (by decide) (by decide) k) ?_
    refine Go.st (S' := s₁.setTop (mkF m 21 #[.val (.int p0), .val (.ref o1)] [(.int p0)])) (fun t k => XS.iloadN X0.here hx rfl (hb hby dprog_7_method_2_code_20) rfl k) ?_
    exact Go.ret X0 (v := some (.int p0)) (fun h => by rw [Bd.returns] at h; cases h) Bd.notSynchronized (fun fs hr => retI X0 hx Bd.returns (hb hby dprog_7_method_2_code_21) hr) (by decide) (by decide) (⟨hc64, rfl, N0, (e0)⟩)
theorem ef_4 (m : MethodId) (p0 : Int32) : entryFrame m #[(.int p0)] 1 = mkF m 0 #[.val (.int p0)] [] := by first | (simp [entryFrame, mkF, argsToLocals, Value.category, maxLocals]; done) | rfl
def Q4 (Z : State) (p0 : Int32) (h0 : Heap) (n0 : Nat) (v : Option Value) (h : Heap) (L : List Loc) : Prop := (∃ (rv4 : Int32), ((((255 : Int32) < p0) ∧ (rv4 = (0 : Int32))) ∨ ((¬ ((255 : Int32) < p0)) ∧ (rv4 = (1 : Int32)))) ∧ v = some (.int rv4) ∧ Fr n0 L ∧ h = h0)
set_option maxRecDepth 65536 in
set_option maxHeartbeats 40000000 in
theorem rm4 (l : Launch) (Z : State) (a0 : Array Value) (hw : ∀ d ∈ tables_1, d.before a0 Z = true) (ws : List Jvm.Cond) (p0 : Int32) (h0 : Heap) (n0 : Nat) (Z0 : n0 ≤ h0.size)  :
    Con l Z (⟨"java/lang/StringLatin1", "canEncode", "(C)Z"⟩ : MethodName) jdk_43_method_3_code 1 (some .boolean) ws ({ frames := 0, cells := 0, slots := 0, locals := 0 } : Room) #[(.int p0)] h0 0 0 (Q4 Z p0 h0 n0) := by
  refine MetFree.of_bodySF (plainFor_of_name pn_2) hisR ?_
  intro p e s m args below meth c s₁ Bd hml0 hP hK
  obtain ⟨rfl, hZ, hh⟩ := hP
  have hx := Bd.exec
  have hby := Bd.bytes
  have hml : c.maxLocals = 1 := hml0
  have hown : s.vm.findClass "java/lang/StringLatin1" = some m.cls := findClass_of_methodNamed Bd.named
  have hnm := (name_of_methodNamed Bd.named Bd.method).1
  have X0 : Stand p l e ({ frames := 0, cells := 0, slots := 0, locals := 0 } : Room) s m #[(.int p0)] below meth c s₁ [] 0 0 := Stand.of_body Bd
  have e0 : s₁.heap = h0 := by rw [← hh, Bd.state]; rfl
  have N0 := Fr.nil n0
  refine Go.of ?_
  refine Go.st (S' := s₁.setTop (mkF m 0 #[.val (.int p0)] [])) (fun t k => castTop (ef_4 m p0) k) ?_
  refine Go.st (S' := s₁.setTop (mkF m 1 #[.val (.int p0)] [(.int p0)])) (fun t k => XS.iloadN X0.here hx rfl (hb hby djdk_43_method_3_code_0) rfl k) ?_
  refine Go.st (S' := s₁.setTop (mkF m 4 #[.val (.int p0)] [(.int (255 : Int32)), (.int p0)])) (fun t k => XS.sipush X0.here hx rfl (hb hby djdk_43_method_3_code_1) k) ?_
  by_cases hc74 : ((255 : Int32) < p0)
  · refine Go.st (S' := s₁.setTop (mkF m 11 #[.val (.int p0)] [])) (fun t k => XS.icmpYes X0.here hx rfl (pc0 := 4) (pc' := 11) rfl (hb hby djdk_43_method_3_code_4) rfl (tlt hc74).2.2.1 (by decide) (by decide) k) ?_
    refine Go.st (S' := s₁.setTop (mkF m 12 #[.val (.int p0)] [(.int (0 : Int32))])) (fun t k => XS.iconst X0.here hx rfl (hb hby djdk_43_method_3_code_11) k) ?_
    exact Go.ret X0 (v := some (.int (0 : Int32))) (fun h => by rw [Bd.returns] at h; cases h) Bd.notSynchronized (fun fs hr => retN X0 hx (t := .boolean) Bd.returns (by simp) (hb hby djdk_43_method_3_code_12) hr) (by decide) (by decide) (⟨(0 : Int32), (Or.inl ⟨hc74, rfl⟩), rfl, N0, (e0)⟩)
  · refine Go.st (S' := s₁.setTop (mkF m 7 #[.val (.int p0)] [])) (fun t k => XS.icmpNo X0.here hx rfl (hb hby djdk_43_method_3_code_4) rfl (flt hc74).2.2.1 k) ?_
    refine Go.st (S' := s₁.setTop (mkF m 8 #[.val (.int p0)] [(.int (1 : Int32))])) (fun t k => XS.iconst X0.here hx rfl (hb hby djdk_43_method_3_code_7) k) ?_
    refine Go.st (S' := s₁.setTop (mkF m 12 #[.val (.int p0)] [(.int (1 : Int32))])) (fun t k => XS.goto X0.here hx rfl (pc0 := 8) (pc' := 12) rfl (hb hby djdk_43_method_3_code_8) (by decide) (by decide) k) ?_
    exact Go.ret X0 (v := some (.int (1 : Int32))) (fun h => by rw [Bd.returns] at h; cases h) Bd.notSynchronized (fun fs hr => retN X0 hx (t := .boolean) Bd.returns (by simp) (hb hby djdk_43_method_3_code_12) hr) (by decide) (by decide) (⟨(1 : Int32), (Or.inr ⟨hc74, rfl⟩), rfl, N0, (e0)⟩)
theorem ef_5 (m : MethodId) (p0 : Int32) : entryFrame m #[(.int p0)] 1 = mkF m 0 #[.val (.int p0)] [] := by first | (simp [entryFrame, mkF, argsToLocals, Value.category, maxLocals]; done) | rfl
def Q5 (Z : State) (p0 : Int32) (h0 : Heap) (n0 : Nat) (v : Option Value) (h : Heap) (L : List Loc) : Prop := (∃ (v85 : Int32) (v87 : Int32) (b83 : Addr) (k83 : ClassId), v85 = p0.toInt8.toInt32 ∧ v87 = v85.toInt8.toInt32 ∧ v = some (.ref b83) ∧ Fr n0 L ∧ Keep h0 h [] ∧ h0.size ≤ b83 ∧ Arv Z h b83 k83 .byte (1 : Int32) [(.int v87)] (.int (0 : Int32)) ∧ Exa Z h b83 "[B")
set_option maxRecDepth 65536 in
set_option maxHeartbeats 40000000 in
theorem rm5 (l : Launch) (Z : State) (a0 : Array Value) (hw : ∀ d ∈ tables_1, d.before a0 Z = true) (ws : List Jvm.Cond) (p0 : Int32) (h0 : Heap) (n0 : Nat) (Z0 : n0 ≤ h0.size)  :
    Con l Z (⟨"java/lang/StringLatin1", "toBytes", "(C)[B"⟩ : MethodName) jdk_43_method_46_code 1 (some (.array .byte)) ws ({ frames := 0, cells := 1, slots := 1, locals := 0 } : Room) #[(.int p0)] h0 1 1 (Q5 Z p0 h0 n0) := by
  refine MetFree.of_bodySF (plainFor_of_name pn_2) hisR ?_
  intro p e s m args below meth c s₁ Bd hml0 hP hK
  obtain ⟨rfl, hZ, hh⟩ := hP
  have hx := Bd.exec
  have hby := Bd.bytes
  have hml : c.maxLocals = 1 := hml0
  have hown : s.vm.findClass "java/lang/StringLatin1" = some m.cls := findClass_of_methodNamed Bd.named
  have hnm := (name_of_methodNamed Bd.named Bd.method).1
  have X0 : Stand p l e ({ frames := 0, cells := 1, slots := 1, locals := 0 } : Room) s m #[(.int p0)] below meth c s₁ [] 0 0 := Stand.of_body Bd
  have e0 : s₁.heap = h0 := by rw [← hh, Bd.state]; rfl
  have N0 := Fr.nil n0
  refine Go.of ?_
  refine Go.st (S' := s₁.setTop (mkF m 0 #[.val (.int p0)] [])) (fun t k => castTop (ef_5 m p0) k) ?_
  refine Go.st (S' := s₁.setTop (mkF m 1 #[.val (.int p0)] [(.int (1 : Int32))])) (fun t k => XS.iconst X0.here hx rfl (hb hby djdk_43_method_46_code_0) k) ?_
  obtain ⟨T83, h83, k83, X83, e83, E83, A83, B83, st83⟩ := newPE X0 hx hZ (hw _ (List.mem_of_getElem? (i := 15) rfl)) e0 (g := (mkF m 1 #[.val (.int p0)] [(.int (1 : Int32))])) rfl (hb hby djdk_43_method_46_code_1) rfl (by decide) (cap := 1) (by decide) (by decide) (by decide) (by decide) (ad := "[B") (by decide)
  obtain ⟨b83, gg83⟩ : ∃ z, z = h0.size := ⟨_, rfl⟩
  rw [← gg83] at A83 B83 st83
  have g_b83 : n0 ≤ b83 := Nat.le_trans Z0 (Nat.le_of_eq gg83.symm)
  have sz_b83 : h0.size ≤ b83 := Nat.le_trans (Keep.refl h0 []).1 (Nat.le_of_eq gg83.symm)
  have Z84 : n0 ≤ h83.size := Nat.le_trans Z0 E83.1
  have K84 : Keep h0 h83 [] := (Keep.refl h0 []).ext E83
  have V83 : Arv Z h83 b83 k83 .byte (1 : Int32) [(.int (0 : Int32))] (.int (0 : Int32)) := (Arv.new A83 (by decide)).pad (pad_rep [] (.int (0 : Int32)) 1)
  refine Go.st (S' := T83.setTop (mkF m 3 #[.val (.int p0)] [(.ref b83)])) st83 ?_
  refine Go.st (S' := T83.setTop (mkF m 4 #[.val (.int p0)] [(.ref b83), (.ref b83)])) (fun t k => XS.dup X83.here hx rfl (hb hby djdk_43_method_46_code_3) rfl rfl k) ?_
  refine Go.st (S' := T83.setTop (mkF m 5 #[.val (.int p0)] [(.int (0 : Int32)), (.ref b83), (.ref b83)])) (fun t k => XS.iconst X83.here hx rfl (hb hby djdk_43_method_46_code_4) k) ?_
  refine Go.st (S' := T83.setTop (mkF m 6 #[.val (.int p0)] [(.int p0), (.int (0 : Int32)), (.ref b83), (.ref b83)])) (fun t k => XS.iloadN X83.here hx rfl (hb hby djdk_43_method_46_code_5) rfl k) ?_
  refine Go.op (F := fun z => T83.setTop (mkF m 7 #[.val (.int p0)] [(.int z), (.int (0 : Int32)), (.ref b83), (.ref b83)])) (x := p0.toInt8.toInt32) (fun t k => XS.i2b X83.here hx rfl (hb hby djdk_43_method_46_code_6) rfl k) ?_
  intro v85 hv85
  obtain ⟨cl86, Ar86, q86, S86, N86_, H86, G86⟩ := id V83
  have hin86 : ¬ ((0 : Int32) < 0 ∨ cl86.slots.size ≤ ((0 : Int32)).toNatClampNeg) := inb_of S86 ⟨by decide, by decide⟩
  obtain ⟨v87, hv87⟩ : ∃ z, z = v85.toInt8.toInt32 := ⟨_, rfl⟩
  obtain ⟨T86, h86, X86, e86, W86, st86⟩ := stB X83 hx hZ e83 Ar86 (j := (0 : Int32)) hin86 (g := (mkF m 7 #[.val (.int p0)] [(.int v85), (.int (0 : Int32)), (.ref b83), (.ref b83)])) rfl rfl (hb hby djdk_43_method_46_code_7)
  have W86 : Wr h83 h86 b83 ((0 : Int32)).toNatClampNeg (.int v87) := by rw [hv87]; exact W86
  have V86 : Arv Z h86 b83 k83 .byte (1 : Int32) [(.int v87)] (.int (0 : Int32)) := Arv.set Ar86 q86 S86 N86_ H86 G86 (by rw [hv87]; exact fits_nar_byte _) W86 0 rfl (Nat.le_of_ble_eq_true rfl)
  have N86 := Fr.snoc X86 N0 g_b83
  have Z88 : n0 ≤ h86.size := Nat.le_trans Z84 (Keep.of_wr W86).1
  have K88 : Keep h0 h86 [] := K84.wr W86 (Or.inr sz_b83)
  refine Go.st (S' := T86.setTop (mkF m 8 #[.val (.int p0)] [(.ref b83)])) st86 ?_
  have f89 := ((B83).wr W86)
  exact Go.ret X86 (v := some (.ref b83)) (fun h => by rw [Bd.returns] at h; cases h) Bd.notSynchronized (fun fs hr => retOut X86 hx Bd.returns rfl (Or.inr (Or.inr (Or.inr (Or.inr ⟨rfl, rfl, rfl⟩)))) (hb hby djdk_43_method_46_code_8) hr) (by decide) (by decide) (by rw [e86]; exact ⟨v85, v87, b83, k83, hv85, hv87, rfl, N86, K88, sz_b83, V86, f89⟩)
theorem ef_6 (m : MethodId) (o0 : Addr) (o1 : Addr) : entryFrame m #[(.ref o0), (.ref o1), (.int (0 : Int32))] 3 = mkF m 0 #[.val (.ref o0), .val (.ref o1), .val (.int (0 : Int32))] [] := by first | (simp [entryFrame, mkF, argsToLocals, Value.category, maxLocals]; done) | rfl
def Q6 (Z : State) (o0 : Addr) (o1 : Addr) (u_o0_value : Value) (u_o0_coder : Value) (h0 : Heap) (n0 : Nat) (v : Option Value) (h : Heap) (L : List Loc) : Prop := (v = none ∧ Fr n0 L ∧ Keep h0 h [o0] ∧ Exa Z h o0 "java/lang/String" ∧ Fld Z h o0 "java/lang/String" "value" "[B" (.ref o1) ∧ Fld Z h o0 "java/lang/String" "coder" "B" (.int (0 : Int32)))
set_option maxRecDepth 65536 in
set_option maxHeartbeats 40000000 in
theorem rm6 (l : Launch) (Z : State) (a0 : Array Value) (hw : ∀ d ∈ tables_1, d.before a0 Z = true) (ws : List Jvm.Cond) (o0 : Addr) (o1 : Addr) (u_o0_value : Value) (u_o0_coder : Value) (h0 : Heap) (n0 : Nat) (Z0 : n0 ≤ h0.size) (E_o0 : Exa Z h0 o0 "java/lang/String") (F_o0_value : Fld Z h0 o0 "java/lang/String" "value" "[B" u_o0_value) (g_o0 : n0 ≤ o0) (F_o0_coder : Fld Z h0 o0 "java/lang/String" "coder" "B" u_o0_coder) :
    Con l Z (⟨"java/lang/String", "<init>", "([BB)V"⟩ : MethodName) jdk_42_method_151_code 3 none ws ({ frames := 1, cells := 0, slots := 0, locals := 12 } : Room) #[(.ref o0), (.ref o1), (.int (0 : Int32))] h0 0 0 (Q6 Z o0 o1 u_o0_value u_o0_coder h0 n0) := by
  refine MetFree.of_bodySF (plainFor_of_name pn_0) hisR ?_
  intro p e s m args below meth c s₁ Bd hml0 hP hK
  obtain ⟨rfl, hZ, hh⟩ := hP
  have hx := Bd.exec
  have hby := Bd.bytes
  have hml : c.maxLocals = 3 := hml0
  have hown : s.vm.findClass "java/lang/String" = some m.cls := findClass_of_methodNamed Bd.named
  have hnm := (name_of_methodNamed Bd.named Bd.method).1
  have X0 : Stand p l e ({ frames := 1, cells := 0, slots := 0, locals := 12 } : Room) s m #[(.ref o0), (.ref o1), (.int (0 : Int32))] below meth c s₁ [] 0 0 := Stand.of_body Bd
  have e0 : s₁.heap = h0 := by rw [← hh, Bd.state]; rfl
  have N0 := Fr.nil n0
  refine Go.of ?_
  refine Go.st (S' := s₁.setTop (mkF m 0 #[.val (.ref o0), .val (.ref o1), .val (.int (0 : Int32))] [])) (fun t k => castTop (ef_6 m o0 o1) k) ?_
  refine Go.st (S' := s₁.setTop (mkF m 1 #[.val (.ref o0), .val (.ref o1), .val (.int (0 : Int32))] [(.ref o0)])) (fun t k => XS.aloadN X0.here hx rfl (hb hby djdk_42_method_151_code_0) rfl rfl k) ?_
  obtain ⟨T98, X98, e98, st98⟩ := initO X0 hx hZ hown (hw _ (List.mem_of_getElem? (i := 20) rfl)) (hw _ (List.mem_of_getElem? (i := 21) rfl)) (hw _ (List.mem_of_getElem? (i := 22) rfl)) e0 (g := (mkF m 1 #[.val (.ref o0), .val (.ref o1), .val (.int (0 : Int32))] [(.ref o0)])) rfl (by rw [hml]; rfl) rfl (hb hby djdk_42_method_151_code_1) (by decide) (W := 0) (by show 2 * 0 + _ ≤ _; exact Nat.le_of_eq rfl) (by decide)
  refine Go.st (S' := T98.setTop (mkF m 4 #[.val (.ref o0), .val (.ref o1), .val (.int (0 : Int32))] [])) st98 ?_
  refine Go.st (S' := T98.setTop (mkF m 5 #[.val (.ref o0), .val (.ref o1), .val (.int (0 : Int32))] [(.ref o0)])) (fun t k => XS.aloadN X98.here hx rfl (hb hby djdk_42_method_151_code_4) rfl rfl k) ?_
  refine Go.st (S' := T98.setTop (mkF m 6 #[.val (.ref o0), .val (.ref o1), .val (.int (0 : Int32))] [(.ref o1), (.ref o0)])) (fun t k => XS.aloadN X98.here hx rfl (hb hby djdk_42_method_151_code_5) rfl rfl k) ?_
  obtain ⟨T101, h101, X101, e101, W101, st101⟩ := putF X98 hx hZ hown (host := "") (Or.inl (hw _ (List.mem_of_getElem? (i := 23) rfl))) Via.refl e98 F_o0_value E_o0 (Or.inr ⟨(hw _ (List.mem_of_getElem? (i := 24) rfl)), rfl, hnm⟩) (hw _ (List.mem_of_getElem? (i := 11) rfl)) (ty := (.array .byte)) (by decide) rfl rfl (g := (mkF m 6 #[.val (.ref o0), .val (.ref o1), .val (.int (0 : Int32))] [(.ref o1), (.ref o0)])) rfl rfl (hb hby djdk_42_method_151_code_6)
  have Fw101 := (F_o0_value).same W101
  have N101 := Fr.snoc X101 N0 g_o0
  have Z102 : n0 ≤ h101.size := Nat.le_trans Z0 (Keep.of_wr W101).1
  have K102 : Keep h0 h101 [o0] := (Keep.refl h0 [o0]).wr W101 (Or.inl (by simp))
  refine Go.st (S' := T101.setTop (mkF m 9 #[.val (.ref o0), .val (.ref o1), .val (.int (0 : Int32))] [])) st101 ?_
  refine Go.st (S' := T101.setTop (mkF m 10 #[.val (.ref o0), .val (.ref o1), .val (.int (0 : Int32))] [(.ref o0)])) (fun t k => XS.aloadN X101.here hx rfl (hb hby djdk_42_method_151_code_9) rfl rfl k) ?_
  refine Go.st (S' := T101.setTop (mkF m 11 #[.val (.ref o0), .val (.ref o1), .val (.int (0 : Int32))] [(.int (0 : Int32)), (.ref o0)])) (fun t k => XS.iloadN X101.here hx rfl (hb hby djdk_42_method_151_code_10) rfl k) ?_
  have f103 := ((E_o0).wr W101)
  have f105 := ((F_o0_coder).other W101 (Or.inr (slot_ne (Or.inr (hw _ (List.mem_of_getElem? (i := 26) rfl))) (Or.inr (hw _ (List.mem_of_getElem? (i := 24) rfl))) (by decide) (t := .byte) (t' := (.array .byte)) (by decide) (by decide))))
  obtain ⟨T106, h106, X106, e106, W106, st106⟩ := putF X101 hx hZ hown (host := "") (Or.inl (hw _ (List.mem_of_getElem? (i := 25) rfl))) Via.refl e101 f105 f103 (Or.inr ⟨(hw _ (List.mem_of_getElem? (i := 26) rfl)), rfl, hnm⟩) (hw _ (List.mem_of_getElem? (i := 11) rfl)) (ty := .byte) (by decide) rfl (by decide) (g := (mkF m 11 #[.val (.ref o0), .val (.ref o1), .val (.int (0 : Int32))] [(.int (0 : Int32)), (.ref o0)])) rfl rfl (hb hby djdk_42_method_151_code_11)
  have Fw106 := (f105).same W106
  have N106 := Fr.snoc X106 N101 g_o0
  have Z107 : n0 ≤ h106.size := Nat.le_trans Z102 (Keep.of_wr W106).1
  have K107 : Keep h0 h106 [o0] := K102.wr W106 (Or.inl (by simp))
  refine Go.st (S' := T106.setTop (mkF m 14 #[.val (.ref o0), .val (.ref o1), .val (.int (0 : Int32))] [])) st106 ?_
  have f108 := ((f103).wr W106)
  have f109 := ((Fw101).other W106 (Or.inr (slot_ne (Or.inr (hw _ (List.mem_of_getElem? (i := 24) rfl))) (Or.inr (hw _ (List.mem_of_getElem? (i := 26) rfl))) (by decide) (t := (.array .byte)) (t' := .byte) (by decide) (by decide))))
  exact Go.ret X106 (v := none) (fun _ => rfl) Bd.notSynchronized (fun fs hr => X106.returnOut hx Bd.returns (hb hby djdk_42_method_151_code_14) hr) (by decide) (by decide) (by rw [e106]; exact ⟨rfl, N106, K107, f108, f109, Fw106⟩)
theorem ef_7 (m : MethodId) (p0 : Int32) : entryFrame m #[(.int p0)] 1 = mkF m 0 #[.val (.int p0)] [] := by first | (simp [entryFrame, mkF, argsToLocals, Value.category, maxLocals]; done) | rfl
def Q7 (Z : State) (p0 : Int32) (s_String_COMPACT_STRINGS : Int32) (h0 : Heap) (n0 : Nat) (v : Option Value) (h : Heap) (L : List Loc) : Prop := (∃ (r76 : Int32) (v91 : Int32) (v92 : Int32) (b81 : Addr) (b93 : Addr) (k94 : ClassId), v91 = p0.toInt8.toInt32 ∧ v92 = v91.toInt8.toInt32 ∧ (¬ (s_String_COMPACT_STRINGS = (0 : Int32))) ∧ ((((255 : Int32) < p0) ∧ (r76 = (0 : Int32))) ∨ ((¬ ((255 : Int32) < p0)) ∧ (r76 = (1 : Int32)))) ∧ (¬ (r76 = (0 : Int32))) ∧ v = some (.ref b81) ∧ Fr n0 L ∧ Keep h0 h [] ∧ h0.size ≤ b81 ∧ h0.size ≤ b93 ∧ Exa Z h b81 "java/lang/String" ∧ Fld Z h b81 "java/lang/String" "value" "[B" (.ref b93) ∧ Fld Z h b81 "java/lang/String" "coder" "B" (.int (0 : Int32)) ∧ Arv Z h b93 k94 .byte (1 : Int32) [(.int v92)] (.int (0 : Int32)) ∧ Exa Z h b93 "[B" ∧ b81 < b93)
set_option maxRecDepth 65536 in
set_option maxHeartbeats 40000000 in
theorem rm7 (l : Launch) (Z : State) (a0 : Array Value) (hw : ∀ d ∈ tables_1, d.before a0 Z = true) (ws : List Jvm.Cond) (p0 : Int32) (s_String_COMPACT_STRINGS : Int32) (h0 : Heap) (n0 : Nat) (Z0 : n0 ≤ h0.size) (S_s_String_COMPACT_STRINGS : Sta Z h0 "java/lang/String" "COMPACT_STRINGS" "Z" (.int s_String_COMPACT_STRINGS)) (nz_s_String_COMPACT_STRINGS : s_String_COMPACT_STRINGS ≠ 0) (no2 : ¬ (∃ (r76 : Int32), (¬ (s_String_COMPACT_STRINGS = (0 : Int32))) ∧ ((((255 : Int32) < p0) ∧ (r76 = (0 : Int32))) ∨ ((¬ ((255 : Int32) < p0)) ∧ (r76 = (1 : Int32)))) ∧ (r76 = (0 : Int32)))) :
    Con l Z (⟨"java/lang/String", "valueOf", "(C)Ljava/lang/String;"⟩ : MethodName) jdk_42_method_139_code 1 (some (.object "java/lang/String")) ws ({ frames := 2, cells := 2, slots := 5, locals := 27 } : Room) #[(.int p0)] h0 2 5 (Q7 Z p0 s_String_COMPACT_STRINGS h0 n0) := by
  refine MetFree.of_bodySF (plainFor_of_name pn_0) hisR ?_
  intro p e s m args below meth c s₁ Bd hml0 hP hK
  obtain ⟨rfl, hZ, hh⟩ := hP
  have hx := Bd.exec
  have hby := Bd.bytes
  have hml : c.maxLocals = 1 := hml0
  have hown : s.vm.findClass "java/lang/String" = some m.cls := findClass_of_methodNamed Bd.named
  have hnm := (name_of_methodNamed Bd.named Bd.method).1
  have X0 : Stand p l e ({ frames := 2, cells := 2, slots := 5, locals := 27 } : Room) s m #[(.int p0)] below meth c s₁ [] 0 0 := Stand.of_body Bd
  have e0 : s₁.heap = h0 := by rw [← hh, Bd.state]; rfl
  have N0 := Fr.nil n0
  refine Go.of ?_
  refine Go.st (S' := s₁.setTop (mkF m 0 #[.val (.int p0)] [])) (fun t k => castTop (ef_7 m p0) k) ?_
  obtain ⟨T73, X73, e73, st73⟩ := getS X0 hx hZ hown (hw _ (List.mem_of_getElem? (i := 5) rfl)) Via.refl e0 S_s_String_COMPACT_STRINGS (host := "") (g := (mkF m 0 #[.val (.int p0)] [])) rfl (hb hby djdk_42_method_139_code_0)
  refine Go.st (S' := T73.setTop (mkF m 3 #[.val (.int p0)] [(.int s_String_COMPACT_STRINGS)])) st73 ?_
  refine Go.st (S' := T73.setTop (mkF m 6 #[.val (.int p0)] [])) (fun t k => XS.ifNo X73.here hx rfl (hb hby djdk_42_method_139_code_3) rfl ((if0 _ _).trans (feq nz_s_String_COMPACT_STRINGS).1) k) ?_
  refine Go.st (S' := T73.setTop (mkF m 7 #[.val (.int p0)] [(.int p0)])) (fun t k => XS.iloadN X73.here hx rfl (hb hby djdk_42_method_139_code_6) rfl k) ?_
  obtain ⟨r75, T75, L75, X75, hQ75, st75⟩ := own_callS (W := 0) X73 hx hZ e73 hown (y := (⟨"java/lang/StringLatin1", "canEncode", "(C)Z"⟩ : MethodName)) (hw _ (List.mem_of_getElem? (i := 6) rfl)) (hw _ (List.mem_of_getElem? (i := 7) rfl)) (hw _ (List.mem_of_getElem? (i := 8) rfl)) (hw _ (List.mem_of_getElem? (i := 9) rfl)) (by decide) (rm4 l Z a0 hw [] p0 h0 n0 Z0 ) (by decide) (by decide) (by decide) (by decide) (g := (mkF m 7 #[.val (.int p0)] [(.int p0)])) rfl (by rw [hml]; rfl) (argsL := [(.int p0)]) (rest := []) rfl (lenOf pd_3 rfl) rfl (by show 2 * 0 + _ ≤ _; exact Nat.le_of_eq rfl) (hb hby djdk_42_method_139_code_7)
  obtain ⟨r76, hc77, rfl, N75, e75⟩ := hQ75
  have N75_ := Fr.app N0 N75
  refine Go.st (S' := T75.setTop (mkF m 10 #[.val (.int p0)] [(.int r76)])) st75 ?_
  by_cases hc78 : (r76 = (0 : Int32))
  · refine Go.st (S' := T75.setTop (mkF m 26 #[.val (.int p0)] [])) (fun t k => XS.ifYes X75.here hx rfl (pc0 := 10) (pc' := 26) rfl (hb hby djdk_42_method_139_code_10) rfl ((if0 _ _).trans (teq hc78).1) (by decide) (by decide) k) ?_
    obtain ⟨T79, h79, X79, e79, E79, A79, D79, -, st79⟩ := newO X75 hx hZ hown (hw _ (List.mem_of_getElem? (i := 10) rfl)) (hw _ (List.mem_of_getElem? (i := 11) rfl)) (hw _ (List.mem_of_getElem? (i := 3) rfl)) e75 (g := (mkF m 26 #[.val (.int p0)] [])) rfl (hb hby djdk_42_method_139_code_26) (by decide) (by decide)
    obtain ⟨b79, gg79⟩ : ∃ z, z = h0.size := ⟨_, rfl⟩
    rw [← gg79] at A79 D79 st79
    have g_b79 : n0 ≤ b79 := Nat.le_trans Z0 (Nat.le_of_eq gg79.symm)
    have sz_b79 : h0.size ≤ b79 := Nat.le_trans (Keep.refl h0 []).1 (Nat.le_of_eq gg79.symm)
    have Z80 : n0 ≤ h79.size := Nat.le_trans Z0 E79.1
    have K80 : Keep h0 h79 [] := (Keep.refl h0 []).ext E79
    have Fb79_value : Fld Z h79 b79 "java/lang/String" "value" "[B" .null := D79 (Or.inr (hw _ (List.mem_of_getElem? (i := 24) rfl))) (ty := (.array .byte)) (by decide)
    have Fb79_coder : Fld Z h79 b79 "java/lang/String" "coder" "B" (.int (0 : Int32)) := D79 (Or.inr (hw _ (List.mem_of_getElem? (i := 26) rfl))) (ty := .byte) (by decide)
    refine Go.st (S' := T79.setTop (mkF m 29 #[.val (.int p0)] [(.ref b79)])) st79 ?_
    refine Go.st (S' := T79.setTop (mkF m 30 #[.val (.int p0)] [(.ref b79), (.ref b79)])) (fun t k => XS.dup X79.here hx rfl (hb hby djdk_42_method_139_code_29) rfl rfl k) ?_
    refine Go.st (S' := T79.setTop (mkF m 31 #[.val (.int p0)] [(.int p0), (.ref b79), (.ref b79)])) (fun t k => XS.iloadN X79.here hx rfl (hb hby djdk_42_method_139_code_30) rfl k) ?_
    exact absurd ⟨r76, nz_s_String_COMPACT_STRINGS, hc77, hc78⟩ no2
  · refine Go.st (S' := T75.setTop (mkF m 13 #[.val (.int p0)] [])) (fun t k => XS.ifNo X75.here hx rfl (hb hby djdk_42_method_139_code_10) rfl ((if0 _ _).trans (feq hc78).1) k) ?_
    obtain ⟨T81, h81, X81, e81, E81, A81, D81, -, st81⟩ := newO X75 hx hZ hown (hw _ (List.mem_of_getElem? (i := 10) rfl)) (hw _ (List.mem_of_getElem? (i := 11) rfl)) (hw _ (List.mem_of_getElem? (i := 3) rfl)) e75 (g := (mkF m 13 #[.val (.int p0)] [])) rfl (hb hby djdk_42_method_139_code_13) (by decide) (by decide)
    obtain ⟨b81, gg81⟩ : ∃ z, z = h0.size := ⟨_, rfl⟩
    rw [← gg81] at A81 D81 st81
    have g_b81 : n0 ≤ b81 := Nat.le_trans Z0 (Nat.le_of_eq gg81.symm)
    have sz_b81 : h0.size ≤ b81 := Nat.le_trans (Keep.refl h0 []).1 (Nat.le_of_eq gg81.symm)
    have Z82 : n0 ≤ h81.size := Nat.le_trans Z0 E81.1
    have K82 : Keep h0 h81 [] := (Keep.refl h0 []).ext E81
    have Fb81_value : Fld Z h81 b81 "java/lang/String" "value" "[B" .null := D81 (Or.inr (hw _ (List.mem_of_getElem? (i := 24) rfl))) (ty := (.array .byte)) (by decide)
    have Fb81_coder : Fld Z h81 b81 "java/lang/String" "coder" "B" (.int (0 : Int32)) := D81 (Or.inr (hw _ (List.mem_of_getElem? (i := 26) rfl))) (ty := .byte) (by decide)
    refine Go.st (S' := T81.setTop (mkF m 16 #[.val (.int p0)] [(.ref b81)])) st81 ?_
    refine Go.st (S' := T81.setTop (mkF m 17 #[.val (.int p0)] [(.ref b81), (.ref b81)])) (fun t k => XS.dup X81.here hx rfl (hb hby djdk_42_method_139_code_16) rfl rfl k) ?_
    refine Go.st (S' := T81.setTop (mkF m 18 #[.val (.int p0)] [(.int p0), (.ref b81), (.ref b81)])) (fun t k => XS.iloadN X81.here hx rfl (hb hby djdk_42_method_139_code_17) rfl k) ?_
    obtain ⟨r90, T90, L90, X90, hQ90, st90⟩ := own_callS (W := 2) X81 hx hZ e81 hown (y := (⟨"java/lang/StringLatin1", "toBytes", "(C)[B"⟩ : MethodName)) (hw _ (List.mem_of_getElem? (i := 12) rfl)) (hw _ (List.mem_of_getElem? (i := 13) rfl)) (hw _ (List.mem_of_getElem? (i := 8) rfl)) (hw _ (List.mem_of_getElem? (i := 14) rfl)) (by decide) (rm5 l Z a0 hw [] p0 h81 n0 Z82 ) (by decide) (by decide) (by decide) (by decide) (g := (mkF m 18 #[.val (.int p0)] [(.int p0), (.ref b81), (.ref b81)])) rfl (by rw [hml]; rfl) (argsL := [(.int p0)]) (rest := [(.ref b81), (.ref b81)]) rfl (lenOf pd_4 rfl) rfl (by show 2 * 0 + _ ≤ _; exact Nat.le_of_eq rfl) (hb hby djdk_42_method_139_code_18)
    obtain ⟨v91, v92, b93, k94, hv91, hv92, rfl, N90, K90_, sz_b93_, f95, f96⟩ := hQ90
    have N90_ := Fr.app N75_ N90
    have g_b93 : n0 ≤ b93 := Nat.le_trans Z82 sz_b93_
    have sz_b93 : h0.size ≤ b93 := Nat.le_trans K82.1 sz_b93_
    have lt_b81_b93 : b81 < b93 := Nat.lt_of_lt_of_le (A81).lt sz_b93_
    have Z97 : n0 ≤ T90.heap.size := Nat.le_trans Z82 K90_.1
    have K97 : Keep h0 T90.heap [] := K82.trans K90_ all0
    refine Go.st (S' := T90.setTop (mkF m 21 #[.val (.int p0)] [(.ref b93), (.ref b81), (.ref b81)])) st90 ?_
    refine Go.st (S' := T90.setTop (mkF m 22 #[.val (.int p0)] [(.int (0 : Int32)), (.ref b93), (.ref b81), (.ref b81)])) (fun t k => XS.iconst X90.here hx rfl (hb hby djdk_42_method_139_code_21) k) ?_
    have f110 := ((A81).keep K90_)
    have f111 := ((Fb81_value).keep K90_ nin0)
    have f112 := ((Fb81_coder).keep K90_ nin0)
    obtain ⟨r113, T113, L113, X113, hQ113, st113⟩ := own_callI (W := 1) (a := b81) X90 hx hZ rfl hown (y := (⟨"java/lang/String", "<init>", "([BB)V"⟩ : MethodName)) rfl (hw _ (List.mem_of_getElem? (i := 16) rfl)) (hw _ (List.mem_of_getElem? (i := 17) rfl)) (hw _ (List.mem_of_getElem? (i := 3) rfl)) (hw _ (List.mem_of_getElem? (i := 19) rfl)) (by decide) (rm6 l Z a0 hw [] b81 b93 (.null) ((.int (0 : Int32))) T90.heap n0 Z97 (f110) (f111) (g_b81) (f112)) (by decide) (by decide) (by decide) (by decide) (g := (mkF m 22 #[.val (.int p0)] [(.int (0 : Int32)), (.ref b93), (.ref b81), (.ref b81)])) rfl (by rw [hml]; rfl) (argsL := [(.ref b93), (.int (0 : Int32))]) (rest := [(.ref b81)]) rfl (lenOf pd_5 rfl) rfl (by show 2 * 0 + _ ≤ _; exact Nat.le_of_eq rfl) (hb hby djdk_42_method_139_code_22)
    obtain ⟨rfl, N113, K113_, f114, f115, f116⟩ := hQ113
    have N113_ := Fr.app N90_ N113
    have Z117 : n0 ≤ T113.heap.size := Nat.le_trans Z97 K113_.1
    have K117 : Keep h0 T113.heap [] := K97.trans K113_ (allS (Or.inr sz_b81) all0)
    refine Go.st (S' := T113.setTop (mkF m 25 #[.val (.int p0)] [(.ref b81)])) st113 ?_
    have f118 := ((f95).keep K113_ (ninS (Nat.ne_of_gt lt_b81_b93) nin0))
    have f119 := ((f96).keep K113_)
    exact Go.ret X113 (v := some (.ref b81)) (fun h => by rw [Bd.returns] at h; cases h) Bd.notSynchronized (fun fs hr => retOut X113 hx Bd.returns rfl (Or.inr (Or.inr (Or.inr (Or.inr ⟨rfl, rfl, rfl⟩)))) (hb hby djdk_42_method_139_code_25) hr) (by decide) (by decide) (⟨r76, v91, v92, b81, b93, k94, hv91, hv92, nz_s_String_COMPACT_STRINGS, hc77, hc78, rfl, N113_, K117, sz_b81, sz_b93, f114, f115, f116, f118, f119, lt_b81_b93⟩)
theorem ef_8 (m : MethodId) (o0 : Addr) (o2 : Addr) : entryFrame m #[(.ref o0), (.int (0 : Int32)), (.ref o2), (.int (0 : Int32)), (.int (2 : Int32))] 7 = mkF m 0 #[.val (.ref o0), .val (.int (0 : Int32)), .val (.ref o2), .val (.int (0 : Int32)), .val (.int (2 : Int32)), .unset, .unset] [] := by first | (simp [entryFrame, mkF, argsToLocals, Value.category, maxLocals]; done) | rfl
def Q8 (Z : State) (o0 : Addr) (o2 : Addr) (k_o0 : ClassId) (e0_o0 : Int32) (e1_o0 : Int32) (k_o2 : ClassId) (e0_o2 : Int32) (e1_o2 : Int32) (h0 : Heap) (n0 : Nat) (v : Option Value) (h : Heap) (L : List Loc) : Prop := (∃ (rv8 : Int32) (fv8_0_0 : Int32) (fv8_0_1 : Int32) (v181 : Int32) (v183 : Int32) (v194 : Int32) (v196 : Int32), v181 = e0_o0.toInt8.toInt32 ∧ v183 = v181.toInt8.toInt32 ∧ v194 = e1_o0.toInt8.toInt32 ∧ v196 = v194.toInt8.toInt32 ∧ ((((255 : Int32) < e0_o0) ∧ (rv8 = (0 : Int32)) ∧ (fv8_0_0 = e0_o2) ∧ (fv8_0_1 = e1_o2)) ∨ ((¬ ((255 : Int32) < e0_o0)) ∧ ((255 : Int32) < e1_o0) ∧ (rv8 = (1 : Int32)) ∧ (fv8_0_0 = v183) ∧ (fv8_0_1 = e1_o2)) ∨ ((¬ ((255 : Int32) < e0_o0)) ∧ (¬ ((255 : Int32) < e1_o0)) ∧ (rv8 = (2 : Int32)) ∧ (fv8_0_0 = v183) ∧ (fv8_0_1 = v196))) ∧ v = some (.int rv8) ∧ Fr n0 L ∧ Keep h0 h [o2] ∧ Arv Z h o2 k_o2 .byte (2 : Int32) [(.int fv8_0_0), (.int fv8_0_1)] (.int (0 : Int32)) ∧ Exa Z h o2 "[B")
set_option maxRecDepth 65536 in
set_option maxHeartbeats 40000000 in
theorem rm8 (l : Launch) (Z : State) (a0 : Array Value) (hw : ∀ d ∈ tables_1, d.before a0 Z = true) (ws : List Jvm.Cond) (o0 : Addr) (o2 : Addr) (k_o0 : ClassId) (e0_o0 : Int32) (e1_o0 : Int32) (k_o2 : ClassId) (e0_o2 : Int32) (e1_o2 : Int32) (h0 : Heap) (n0 : Nat) (Z0 : n0 ≤ h0.size) (V_o0 : Arv Z h0 o0 k_o0 .char (2 : Int32) [(.int e0_o0), (.int e1_o0)] (.int (0 : Int32))) (V_o2 : Arv Z h0 o2 k_o2 .byte (2 : Int32) [(.int e0_o2), (.int e1_o2)] (.int (0 : Int32))) (g_o2 : n0 ≤ o2) (ne_o0_o2 : o0 ≠ o2) (E_o2 : Exa Z h0 o2 "[B") :
    Con l Z (⟨"java/lang/StringUTF16", "compress", "([CI[BII)I"⟩ : MethodName) jdk_52_method_21_code 7 (some .int) ws ({ frames := 0, cells := 0, slots := 0, locals := 0 } : Room) #[(.ref o0), (.int (0 : Int32)), (.ref o2), (.int (0 : Int32)), (.int (2 : Int32))] h0 0 0 (Q8 Z o0 o2 k_o0 e0_o0 e1_o0 k_o2 e0_o2 e1_o2 h0 n0) := by
  refine MetFree.of_bodySF (plainFor_of_name pn_3) hisR ?_
  intro p e s m args below meth c s₁ Bd hml0 hP hK
  obtain ⟨rfl, hZ, hh⟩ := hP
  have hx := Bd.exec
  have hby := Bd.bytes
  have hml : c.maxLocals = 7 := hml0
  have hown : s.vm.findClass "java/lang/StringUTF16" = some m.cls := findClass_of_methodNamed Bd.named
  have hnm := (name_of_methodNamed Bd.named Bd.method).1
  have X0 : Stand p l e ({ frames := 0, cells := 0, slots := 0, locals := 0 } : Room) s m #[(.ref o0), (.int (0 : Int32)), (.ref o2), (.int (0 : Int32)), (.int (2 : Int32))] below meth c s₁ [] 0 0 := Stand.of_body Bd
  have e0 : s₁.heap = h0 := by rw [← hh, Bd.state]; rfl
  have N0 := Fr.nil n0
  refine Go.of ?_
  refine Go.st (S' := s₁.setTop (mkF m 0 #[.val (.ref o0), .val (.int (0 : Int32)), .val (.ref o2), .val (.int (0 : Int32)), .val (.int (2 : Int32)), .unset, .unset] [])) (fun t k => castTop (ef_8 m o0 o2) k) ?_
  let A175 : Array Slot := #[.val (.ref o0), .val (.int (0 : Int32)), .val (.ref o2), .val (.int (0 : Int32)), .val (.int (2 : Int32)), .unset, .unset]
  refine Go.st (S' := s₁.setTop (mkF m 1 A175 [(.int (0 : Int32))])) (fun t k => XS.iconst X0.here hx rfl (hb hby djdk_52_method_21_code_0) k) ?_
  let A176 : Array Slot := #[.val (.ref o0), .val (.int (0 : Int32)), .val (.ref o2), .val (.int (0 : Int32)), .val (.int (2 : Int32)), .val (.int (0 : Int32)), .unset]
  refine Go.st (S' := s₁.setTop (mkF m 3 A176 [])) (fun t k => XS.istore X0.here hx rfl (hb hby djdk_52_method_21_code_1) rfl (l' := A176) rfl k) ?_
  refine Go.st (S' := s₁.setTop (mkF m 5 A176 [(.int (0 : Int32))])) (fun t k => XS.iload X0.here hx rfl (hb hby djdk_52_method_21_code_3) rfl k) ?_
  refine Go.st (S' := s₁.setTop (mkF m 7 A176 [(.int (2 : Int32)), (.int (0 : Int32))])) (fun t k => XS.iload X0.here hx rfl (hb hby djdk_52_method_21_code_5) rfl k) ?_
  refine Go.st (S' := s₁.setTop (mkF m 10 A176 [])) (fun t k => XS.icmpNo X0.here hx rfl (hb hby djdk_52_method_21_code_7) rfl (tlt (by decide : ((0 : Int32) < (2 : Int32)))).2.1 k) ?_
  refine Go.st (S' := s₁.setTop (mkF m 11 A176 [(.ref o0)])) (fun t k => XS.aloadN X0.here hx rfl (hb hby djdk_52_method_21_code_10) rfl rfl k) ?_
  refine Go.st (S' := s₁.setTop (mkF m 12 A176 [(.int (0 : Int32)), (.ref o0)])) (fun t k => XS.iloadN X0.here hx rfl (hb hby djdk_52_method_21_code_11) rfl k) ?_
  obtain ⟨cl178, Ar178, -, S178, N178_, H178, -⟩ := id V_o0
  have hin178 : ¬ ((0 : Int32) < 0 ∨ cl178.slots.size ≤ ((0 : Int32)).toNatClampNeg) := inb_of S178 ⟨by decide, by decide⟩
  have hat178 : cl178.slots[((0 : Int32)).toNatClampNeg]? = some (.int e0_o0) := Has.at H178 hin178 rfl
  refine Go.st (S' := s₁.setTop (mkF m 13 A176 [(.int e0_o0)])) (fun t k => X0.caload hx (j := (0 : Int32)) (v := (.int e0_o0)) (own_eh e0 Ar178.1) (State.isArrayOf_alike hZ.alike Ar178.2.1) Ar178.2.2 hin178 hat178 (g := (mkF m 12 A176 [(.int (0 : Int32)), (.ref o0)])) rfl rfl (hb hby djdk_52_method_21_code_12) t k) ?_
  let A179 : Array Slot := #[.val (.ref o0), .val (.int (0 : Int32)), .val (.ref o2), .val (.int (0 : Int32)), .val (.int (2 : Int32)), .val (.int (0 : Int32)), .val (.int e0_o0)]
  refine Go.st (S' := s₁.setTop (mkF m 15 A179 [])) (fun t k => XS.istore X0.here hx rfl (hb hby djdk_52_method_21_code_13) rfl (l' := A179) rfl k) ?_
  refine Go.st (S' := s₁.setTop (mkF m 17 A179 [(.int e0_o0)])) (fun t k => XS.iload X0.here hx rfl (hb hby djdk_52_method_21_code_15) rfl k) ?_
  refine Go.st (S' := s₁.setTop (mkF m 20 A179 [(.int (255 : Int32)), (.int e0_o0)])) (fun t k => XS.sipush X0.here hx rfl (hb hby djdk_52_method_21_code_17) k) ?_
  by_cases hc180 : ((255 : Int32) < e0_o0)
  · refine Go.st (S' := s₁.setTop (mkF m 23 A179 [])) (fun t k => XS.icmpNo X0.here hx rfl (hb hby djdk_52_method_21_code_20) rfl (tlt hc180).2.2.2 k) ?_
    refine Go.st (S' := s₁.setTop (mkF m 25 A179 [(.int (0 : Int32))])) (fun t k => XS.iload X0.here hx rfl (hb hby djdk_52_method_21_code_23) rfl k) ?_
    exact Go.ret X0 (v := some (.int (0 : Int32))) (fun h => by rw [Bd.returns] at h; cases h) Bd.notSynchronized (fun fs hr => retI X0 hx Bd.returns (hb hby djdk_52_method_21_code_25) hr) (by decide) (by decide) (by rw [e0]; exact ⟨(0 : Int32), e0_o2, e1_o2, _, _, _, _, rfl, rfl, rfl, rfl, (Or.inl ⟨hc180, rfl, rfl, rfl⟩), rfl, N0, (Keep.refl h0 [o2]), V_o2, E_o2⟩)
  · refine Go.st (S' := s₁.setTop (mkF m 26 A179 [])) (fun t k => XS.icmpYes X0.here hx rfl (pc0 := 20) (pc' := 26) rfl (hb hby djdk_52_method_21_code_20) rfl (flt hc180).2.2.2 (by decide) (by decide) k) ?_
    refine Go.st (S' := s₁.setTop (mkF m 27 A179 [(.ref o2)])) (fun t k => XS.aloadN X0.here hx rfl (hb hby djdk_52_method_21_code_26) rfl rfl k) ?_
    refine Go.st (S' := s₁.setTop (mkF m 28 A179 [(.int (0 : Int32)), (.ref o2)])) (fun t k => XS.iloadN X0.here hx rfl (hb hby djdk_52_method_21_code_27) rfl k) ?_
    refine Go.st (S' := s₁.setTop (mkF m 30 A179 [(.int e0_o0), (.int (0 : Int32)), (.ref o2)])) (fun t k => XS.iload X0.here hx rfl (hb hby djdk_52_method_21_code_28) rfl k) ?_
    refine Go.op (F := fun z => s₁.setTop (mkF m 31 A179 [(.int z), (.int (0 : Int32)), (.ref o2)])) (x := e0_o0.toInt8.toInt32) (fun t k => XS.i2b X0.here hx rfl (hb hby djdk_52_method_21_code_30) rfl k) ?_
    intro v181 hv181
    obtain ⟨cl182, Ar182, q182, S182, N182_, H182, G182⟩ := id V_o2
    have hin182 : ¬ ((0 : Int32) < 0 ∨ cl182.slots.size ≤ ((0 : Int32)).toNatClampNeg) := inb_of S182 ⟨by decide, by decide⟩
    obtain ⟨v183, hv183⟩ : ∃ z, z = v181.toInt8.toInt32 := ⟨_, rfl⟩
    obtain ⟨T182, h182, X182, e182, W182, st182⟩ := stB X0 hx hZ e0 Ar182 (j := (0 : Int32)) hin182 (g := (mkF m 31 A179 [(.int v181), (.int (0 : Int32)), (.ref o2)])) rfl rfl (hb hby djdk_52_method_21_code_31)
    have W182 : Wr h0 h182 o2 ((0 : Int32)).toNatClampNeg (.int v183) := by rw [hv183]; exact W182
    have V182 : Arv Z h182 o2 k_o2 .byte (2 : Int32) [(.int v183), (.int e1_o2)] (.int (0 : Int32)) := Arv.set Ar182 q182 S182 N182_ H182 G182 (by rw [hv183]; exact fits_nar_byte _) W182 0 rfl (Nat.le_of_ble_eq_true rfl)
    have N182 := Fr.snoc X182 N0 g_o2
    have Z184 : n0 ≤ h182.size := Nat.le_trans Z0 (Keep.of_wr W182).1
    have K184 : Keep h0 h182 [o2] := (Keep.refl h0 [o2]).wr W182 (Or.inl (by simp))
    refine Go.st (S' := T182.setTop (mkF m 32 A179 [])) st182 ?_
    refine Go.op (F := fun z => T182.setTop (mkF m 35 #[.val (.ref o0), .val (.int z), .val (.ref o2), .val (.int (0 : Int32)), .val (.int (2 : Int32)), .val (.int (0 : Int32)), .val (.int e0_o0)] [])) (x := ((0 : Int32) + (1 : Int32))) (fun t k => XS.iinc X182.here hx rfl (hb hby djdk_52_method_21_code_32) rfl rfl k) ?_
    intro v185 hv185
    obtain rfl : (1 : Int32) = v185 := (hv185.trans (by decide)).symm
    refine Go.op (F := fun z => T182.setTop (mkF m 38 #[.val (.ref o0), .val (.int (1 : Int32)), .val (.ref o2), .val (.int z), .val (.int (2 : Int32)), .val (.int (0 : Int32)), .val (.int e0_o0)] [])) (x := ((0 : Int32) + (1 : Int32))) (fun t k => XS.iinc X182.here hx rfl (hb hby djdk_52_method_21_code_35) rfl rfl k) ?_
    intro v186 hv186
    obtain rfl : (1 : Int32) = v186 := (hv186.trans (by decide)).symm
    refine Go.op (F := fun z => T182.setTop (mkF m 41 #[.val (.ref o0), .val (.int (1 : Int32)), .val (.ref o2), .val (.int (1 : Int32)), .val (.int (2 : Int32)), .val (.int z), .val (.int e0_o0)] [])) (x := ((0 : Int32) + (1 : Int32))) (fun t k => XS.iinc X182.here hx rfl (hb hby djdk_52_method_21_code_38) rfl rfl k) ?_
    intro v187 hv187
    obtain rfl : (1 : Int32) = v187 := (hv187.trans (by decide)).symm
    let A188 : Array Slot := #[.val (.ref o0), .val (.int (1 : Int32)), .val (.ref o2), .val (.int (1 : Int32)), .val (.int (2 : Int32)), .val (.int (1 : Int32)), .val (.int e0_o0)]
    refine Go.st (S' := T182.setTop (mkF m 3 A188 [])) (fun t k => XS.goto X182.here hx rfl (pc0 := 41) (pc' := 3) rfl (hb hby djdk_52_method_21_code_41) (by decide) (by decide) k) ?_
    refine Go.st (S' := T182.setTop (mkF m 5 A188 [(.int (1 : Int32))])) (fun t k => XS.iload X182.here hx rfl (hb hby djdk_52_method_21_code_3) rfl k) ?_
    refine Go.st (S' := T182.setTop (mkF m 7 A188 [(.int (2 : Int32)), (.int (1 : Int32))])) (fun t k => XS.iload X182.here hx rfl (hb hby djdk_52_method_21_code_5) rfl k) ?_
    refine Go.st (S' := T182.setTop (mkF m 10 A188 [])) (fun t k => XS.icmpNo X182.here hx rfl (hb hby djdk_52_method_21_code_7) rfl (tlt (by decide : ((1 : Int32) < (2 : Int32)))).2.1 k) ?_
    refine Go.st (S' := T182.setTop (mkF m 11 A188 [(.ref o0)])) (fun t k => XS.aloadN X182.here hx rfl (hb hby djdk_52_method_21_code_10) rfl rfl k) ?_
    refine Go.st (S' := T182.setTop (mkF m 12 A188 [(.int (1 : Int32)), (.ref o0)])) (fun t k => XS.iloadN X182.here hx rfl (hb hby djdk_52_method_21_code_11) rfl k) ?_
    have f189 := ((V_o0).other W182 ne_o0_o2)
    obtain ⟨cl190, Ar190, -, S190, N190_, H190, -⟩ := id f189
    have hin190 : ¬ ((1 : Int32) < 0 ∨ cl190.slots.size ≤ ((1 : Int32)).toNatClampNeg) := inb_of S190 ⟨by decide, by decide⟩
    have hat190 : cl190.slots[((1 : Int32)).toNatClampNeg]? = some (.int e1_o0) := Has.at H190 hin190 rfl
    refine Go.st (S' := T182.setTop (mkF m 13 A188 [(.int e1_o0)])) (fun t k => X182.caload hx (j := (1 : Int32)) (v := (.int e1_o0)) (own_eh e182 Ar190.1) (State.isArrayOf_alike hZ.alike Ar190.2.1) Ar190.2.2 hin190 hat190 (g := (mkF m 12 A188 [(.int (1 : Int32)), (.ref o0)])) rfl rfl (hb hby djdk_52_method_21_code_12) t k) ?_
    let A191 : Array Slot := #[.val (.ref o0), .val (.int (1 : Int32)), .val (.ref o2), .val (.int (1 : Int32)), .val (.int (2 : Int32)), .val (.int (1 : Int32)), .val (.int e1_o0)]
    refine Go.st (S' := T182.setTop (mkF m 15 A191 [])) (fun t k => XS.istore X182.here hx rfl (hb hby djdk_52_method_21_code_13) rfl (l' := A191) rfl k) ?_
    refine Go.st (S' := T182.setTop (mkF m 17 A191 [(.int e1_o0)])) (fun t k => XS.iload X182.here hx rfl (hb hby djdk_52_method_21_code_15) rfl k) ?_
    refine Go.st (S' := T182.setTop (mkF m 20 A191 [(.int (255 : Int32)), (.int e1_o0)])) (fun t k => XS.sipush X182.here hx rfl (hb hby djdk_52_method_21_code_17) k) ?_
    by_cases hc192 : ((255 : Int32) < e1_o0)
    · refine Go.st (S' := T182.setTop (mkF m 23 A191 [])) (fun t k => XS.icmpNo X182.here hx rfl (hb hby djdk_52_method_21_code_20) rfl (tlt hc192).2.2.2 k) ?_
      refine Go.st (S' := T182.setTop (mkF m 25 A191 [(.int (1 : Int32))])) (fun t k => XS.iload X182.here hx rfl (hb hby djdk_52_method_21_code_23) rfl k) ?_
      have f193 := ((E_o2).wr W182)
      exact Go.ret X182 (v := some (.int (1 : Int32))) (fun h => by rw [Bd.returns] at h; cases h) Bd.notSynchronized (fun fs hr => retI X182 hx Bd.returns (hb hby djdk_52_method_21_code_25) hr) (by decide) (by decide) (by rw [e182]; exact ⟨(1 : Int32), v183, e1_o2, v181, v183, _, _, hv181, hv183, rfl, rfl, (Or.inr (Or.inl ⟨hc180, hc192, rfl, rfl, rfl⟩)), rfl, N182, K184, V182, f193⟩)
    · refine Go.st (S' := T182.setTop (mkF m 26 A191 [])) (fun t k => XS.icmpYes X182.here hx rfl (pc0 := 20) (pc' := 26) rfl (hb hby djdk_52_method_21_code_20) rfl (flt hc192).2.2.2 (by decide) (by decide) k) ?_
      refine Go.st (S' := T182.setTop (mkF m 27 A191 [(.ref o2)])) (fun t k => XS.aloadN X182.here hx rfl (hb hby djdk_52_method_21_code_26) rfl rfl k) ?_
      refine Go.st (S' := T182.setTop (mkF m 28 A191 [(.int (1 : Int32)), (.ref o2)])) (fun t k => XS.iloadN X182.here hx rfl (hb hby djdk_52_method_21_code_27) rfl k) ?_
      refine Go.st (S' := T182.setTop (mkF m 30 A191 [(.int e1_o0), (.int (1 : Int32)), (.ref o2)])) (fun t k => XS.iload X182.here hx rfl (hb hby djdk_52_method_21_code_28) rfl k) ?_
      refine Go.op (F := fun z => T182.setTop (mkF m 31 A191 [(.int z), (.int (1 : Int32)), (.ref o2)])) (x := e1_o0.toInt8.toInt32) (fun t k => XS.i2b X182.here hx rfl (hb hby djdk_52_method_21_code_30) rfl k) ?_
      intro v194 hv194
      obtain ⟨cl195, Ar195, q195, S195, N195_, H195, G195⟩ := id V182
      have hin195 : ¬ ((1 : Int32) < 0 ∨ cl195.slots.size ≤ ((1 : Int32)).toNatClampNeg) := inb_of S195 ⟨by decide, by decide⟩
      obtain ⟨v196, hv196⟩ : ∃ z, z = v194.toInt8.toInt32 := ⟨_, rfl⟩
      obtain ⟨T195, h195, X195, e195, W195, st195⟩ := stB X182 hx hZ e182 Ar195 (j := (1 : Int32)) hin195 (g := (mkF m 31 A191 [(.int v194), (.int (1 : Int32)), (.ref o2)])) rfl rfl (hb hby djdk_52_method_21_code_31)
      have W195 : Wr h182 h195 o2 ((1 : Int32)).toNatClampNeg (.int v196) := by rw [hv196]; exact W195
      have V195 : Arv Z h195 o2 k_o2 .byte (2 : Int32) [(.int v183), (.int v196)] (.int (0 : Int32)) := Arv.set Ar195 q195 S195 N195_ H195 G195 (by rw [hv196]; exact fits_nar_byte _) W195 1 rfl (Nat.le_of_ble_eq_true rfl)
      have N195 := Fr.snoc X195 N182 g_o2
      have Z197 : n0 ≤ h195.size := Nat.le_trans Z184 (Keep.of_wr W195).1
      have K197 : Keep h0 h195 [o2] := K184.wr W195 (Or.inl (by simp))
      refine Go.st (S' := T195.setTop (mkF m 32 A191 [])) st195 ?_
      refine Go.op (F := fun z => T195.setTop (mkF m 35 #[.val (.ref o0), .val (.int z), .val (.ref o2), .val (.int (1 : Int32)), .val (.int (2 : Int32)), .val (.int (1 : Int32)), .val (.int e1_o0)] [])) (x := ((1 : Int32) + (1 : Int32))) (fun t k => XS.iinc X195.here hx rfl (hb hby djdk_52_method_21_code_32) rfl rfl k) ?_
      intro v198 hv198
      obtain rfl : (2 : Int32) = v198 := (hv198.trans (by decide)).symm
      refine Go.op (F := fun z => T195.setTop (mkF m 38 #[.val (.ref o0), .val (.int (2 : Int32)), .val (.ref o2), .val (.int z), .val (.int (2 : Int32)), .val (.int (1 : Int32)), .val (.int e1_o0)] [])) (x := ((1 : Int32) + (1 : Int32))) (fun t k => XS.iinc X195.here hx rfl (hb hby djdk_52_method_21_code_35) rfl rfl k) ?_
      intro v199 hv199
      obtain rfl : (2 : Int32) = v199 := (hv199.trans (by decide)).symm
      refine Go.op (F := fun z => T195.setTop (mkF m 41 #[.val (.ref o0), .val (.int (2 : Int32)), .val (.ref o2), .val (.int (2 : Int32)), .val (.int (2 : Int32)), .val (.int z), .val (.int e1_o0)] [])) (x := ((1 : Int32) + (1 : Int32))) (fun t k => XS.iinc X195.here hx rfl (hb hby djdk_52_method_21_code_38) rfl rfl k) ?_
      intro v200 hv200
      obtain rfl : (2 : Int32) = v200 := (hv200.trans (by decide)).symm
      let A201 : Array Slot := #[.val (.ref o0), .val (.int (2 : Int32)), .val (.ref o2), .val (.int (2 : Int32)), .val (.int (2 : Int32)), .val (.int (2 : Int32)), .val (.int e1_o0)]
      refine Go.st (S' := T195.setTop (mkF m 3 A201 [])) (fun t k => XS.goto X195.here hx rfl (pc0 := 41) (pc' := 3) rfl (hb hby djdk_52_method_21_code_41) (by decide) (by decide) k) ?_
      refine Go.st (S' := T195.setTop (mkF m 5 A201 [(.int (2 : Int32))])) (fun t k => XS.iload X195.here hx rfl (hb hby djdk_52_method_21_code_3) rfl k) ?_
      refine Go.st (S' := T195.setTop (mkF m 7 A201 [(.int (2 : Int32)), (.int (2 : Int32))])) (fun t k => XS.iload X195.here hx rfl (hb hby djdk_52_method_21_code_5) rfl k) ?_
      refine Go.st (S' := T195.setTop (mkF m 44 A201 [])) (fun t k => XS.icmpYes X195.here hx rfl (pc0 := 7) (pc' := 44) rfl (hb hby djdk_52_method_21_code_7) rfl (flt (by decide : (¬ ((2 : Int32) < (2 : Int32))))).2.1 (by decide) (by decide) k) ?_
      refine Go.st (S' := T195.setTop (mkF m 46 A201 [(.int (2 : Int32))])) (fun t k => XS.iload X195.here hx rfl (hb hby djdk_52_method_21_code_44) rfl k) ?_
      have f202 := ((((E_o2).wr W182)).wr W195)
      exact Go.ret X195 (v := some (.int (2 : Int32))) (fun h => by rw [Bd.returns] at h; cases h) Bd.notSynchronized (fun fs hr => retI X195 hx Bd.returns (hb hby djdk_52_method_21_code_46) hr) (by decide) (by decide) (by rw [e195]; exact ⟨(2 : Int32), v183, v196, v181, v183, v194, v196, hv181, hv183, hv194, hv196, (Or.inr (Or.inr ⟨hc180, hc192, rfl, rfl, rfl⟩)), rfl, N195, K197, V195, f202⟩)
theorem ef_9 (m : MethodId) (o0 : Addr) : entryFrame m #[(.ref o0), (.int (0 : Int32)), (.int (2 : Int32))] 6 = mkF m 0 #[.val (.ref o0), .val (.int (0 : Int32)), .val (.int (2 : Int32)), .unset, .unset, .unset] [] := by first | (simp [entryFrame, mkF, argsToLocals, Value.category, maxLocals]; done) | rfl
def Q9 (Z : State) (o0 : Addr) (k_o0 : ClassId) (e0_o0 : Int32) (e1_o0 : Int32) (h0 : Heap) (n0 : Nat) (v : Option Value) (h : Heap) (L : List Loc) : Prop := (∃ (r209 : Int32) (r210 : Int32) (r211 : Int32) (v205 : Int32) (v206 : Int32) (v207 : Int32) (v208 : Int32) (b172 : Addr) (k172 : ClassId), v205 = e0_o0.toInt8.toInt32 ∧ v206 = v205.toInt8.toInt32 ∧ v207 = e1_o0.toInt8.toInt32 ∧ v208 = v207.toInt8.toInt32 ∧ ((((255 : Int32) < e0_o0) ∧ (r209 = (0 : Int32)) ∧ (r210 = (0 : Int32)) ∧ (r211 = (0 : Int32))) ∨ ((¬ ((255 : Int32) < e0_o0)) ∧ ((255 : Int32) < e1_o0) ∧ (r209 = (1 : Int32)) ∧ (r210 = v206) ∧ (r211 = (0 : Int32))) ∨ ((¬ ((255 : Int32) < e0_o0)) ∧ (¬ ((255 : Int32) < e1_o0)) ∧ (r209 = (2 : Int32)) ∧ (r210 = v206) ∧ (r211 = v208))) ∧ (r209 = (2 : Int32)) ∧ v = some (.ref b172) ∧ Fr n0 L ∧ Keep h0 h [] ∧ h0.size ≤ b172 ∧ Arv Z h b172 k172 .byte (2 : Int32) [(.int r210), (.int r211)] (.int (0 : Int32)) ∧ Exa Z h b172 "[B")
set_option maxRecDepth 65536 in
set_option maxHeartbeats 40000000 in
theorem rm9 (l : Launch) (Z : State) (a0 : Array Value) (hw : ∀ d ∈ tables_1, d.before a0 Z = true) (ws : List Jvm.Cond) (o0 : Addr) (k_o0 : ClassId) (e0_o0 : Int32) (e1_o0 : Int32) (h0 : Heap) (n0 : Nat) (Z0 : n0 ≤ h0.size) (V_o0 : Arv Z h0 o0 k_o0 .char (2 : Int32) [(.int e0_o0), (.int e1_o0)] (.int (0 : Int32))) (no1 : ¬ (∃ (r209 : Int32) (r210 : Int32) (r211 : Int32) (v205 : Int32) (v206 : Int32) (v207 : Int32) (v208 : Int32), v205 = e0_o0.toInt8.toInt32 ∧ v206 = v205.toInt8.toInt32 ∧ v207 = e1_o0.toInt8.toInt32 ∧ v208 = v207.toInt8.toInt32 ∧ ((((255 : Int32) < e0_o0) ∧ (r209 = (0 : Int32)) ∧ (r210 = (0 : Int32)) ∧ (r211 = (0 : Int32))) ∨ ((¬ ((255 : Int32) < e0_o0)) ∧ ((255 : Int32) < e1_o0) ∧ (r209 = (1 : Int32)) ∧ (r210 = v206) ∧ (r211 = (0 : Int32))) ∨ ((¬ ((255 : Int32) < e0_o0)) ∧ (¬ ((255 : Int32) < e1_o0)) ∧ (r209 = (2 : Int32)) ∧ (r210 = v206) ∧ (r211 = v208))) ∧ (¬ (r209 = (2 : Int32))))) :
    Con l Z (⟨"java/lang/StringUTF16", "compress", "([CII)[B"⟩ : MethodName) jdk_52_method_16_code 6 (some (.array .byte)) ws ({ frames := 1, cells := 1, slots := 2, locals := 18 } : Room) #[(.ref o0), (.int (0 : Int32)), (.int (2 : Int32))] h0 1 2 (Q9 Z o0 k_o0 e0_o0 e1_o0 h0 n0) := by
  refine MetFree.of_bodySF (plainFor_of_name pn_3) hisR ?_
  intro p e s m args below meth c s₁ Bd hml0 hP hK
  obtain ⟨rfl, hZ, hh⟩ := hP
  have hx := Bd.exec
  have hby := Bd.bytes
  have hml : c.maxLocals = 6 := hml0
  have hown : s.vm.findClass "java/lang/StringUTF16" = some m.cls := findClass_of_methodNamed Bd.named
  have hnm := (name_of_methodNamed Bd.named Bd.method).1
  have X0 : Stand p l e ({ frames := 1, cells := 1, slots := 2, locals := 18 } : Room) s m #[(.ref o0), (.int (0 : Int32)), (.int (2 : Int32))] below meth c s₁ [] 0 0 := Stand.of_body Bd
  have e0 : s₁.heap = h0 := by rw [← hh, Bd.state]; rfl
  have N0 := Fr.nil n0
  refine Go.of ?_
  refine Go.st (S' := s₁.setTop (mkF m 0 #[.val (.ref o0), .val (.int (0 : Int32)), .val (.int (2 : Int32)), .unset, .unset, .unset] [])) (fun t k => castTop (ef_9 m o0) k) ?_
  let A171 : Array Slot := #[.val (.ref o0), .val (.int (0 : Int32)), .val (.int (2 : Int32)), .unset, .unset, .unset]
  refine Go.st (S' := s₁.setTop (mkF m 1 A171 [(.int (2 : Int32))])) (fun t k => XS.iloadN X0.here hx rfl (hb hby djdk_52_method_16_code_0) rfl k) ?_
  obtain ⟨T172, h172, k172, X172, e172, E172, A172, B172, st172⟩ := newPE X0 hx hZ (hw _ (List.mem_of_getElem? (i := 15) rfl)) e0 (g := (mkF m 1 A171 [(.int (2 : Int32))])) rfl (hb hby djdk_52_method_16_code_1) rfl (by decide) (cap := 2) (by decide) (by decide) (by decide) (by decide) (ad := "[B") (by decide)
  obtain ⟨b172, gg172⟩ : ∃ z, z = h0.size := ⟨_, rfl⟩
  rw [← gg172] at A172 B172 st172
  have g_b172 : n0 ≤ b172 := Nat.le_trans Z0 (Nat.le_of_eq gg172.symm)
  have sz_b172 : h0.size ≤ b172 := Nat.le_trans (Keep.refl h0 []).1 (Nat.le_of_eq gg172.symm)
  have Z173 : n0 ≤ h172.size := Nat.le_trans Z0 E172.1
  have K173 : Keep h0 h172 [] := (Keep.refl h0 []).ext E172
  have V172 : Arv Z h172 b172 k172 .byte (2 : Int32) [(.int (0 : Int32)), (.int (0 : Int32))] (.int (0 : Int32)) := (Arv.new A172 (by decide)).pad (pad_rep [] (.int (0 : Int32)) 2)
  refine Go.st (S' := T172.setTop (mkF m 3 A171 [(.ref b172)])) st172 ?_
  let A174 : Array Slot := #[.val (.ref o0), .val (.int (0 : Int32)), .val (.int (2 : Int32)), .val (.ref b172), .unset, .unset]
  refine Go.st (S' := T172.setTop (mkF m 4 A174 [])) (fun t k => XS.astoreN X172.here hx rfl (hb hby djdk_52_method_16_code_3) rfl rfl (l' := A174) rfl k) ?_
  refine Go.st (S' := T172.setTop (mkF m 5 A174 [(.ref o0)])) (fun t k => XS.aloadN X172.here hx rfl (hb hby djdk_52_method_16_code_4) rfl rfl k) ?_
  refine Go.st (S' := T172.setTop (mkF m 6 A174 [(.int (0 : Int32)), (.ref o0)])) (fun t k => XS.iloadN X172.here hx rfl (hb hby djdk_52_method_16_code_5) rfl k) ?_
  refine Go.st (S' := T172.setTop (mkF m 7 A174 [(.ref b172), (.int (0 : Int32)), (.ref o0)])) (fun t k => XS.aloadN X172.here hx rfl (hb hby djdk_52_method_16_code_6) rfl rfl k) ?_
  refine Go.st (S' := T172.setTop (mkF m 8 A174 [(.int (0 : Int32)), (.ref b172), (.int (0 : Int32)), (.ref o0)])) (fun t k => XS.iconst X172.here hx rfl (hb hby djdk_52_method_16_code_7) k) ?_
  refine Go.st (S' := T172.setTop (mkF m 9 A174 [(.int (2 : Int32)), (.int (0 : Int32)), (.ref b172), (.int (0 : Int32)), (.ref o0)])) (fun t k => XS.iloadN X172.here hx rfl (hb hby djdk_52_method_16_code_8) rfl k) ?_
  have f203 := ((V_o0).ext E172)
  obtain ⟨r204, T204, L204, X204, hQ204, st204⟩ := own_callS (W := 0) X172 hx hZ e172 hown (y := (⟨"java/lang/StringUTF16", "compress", "([CI[BII)I"⟩ : MethodName)) (hw _ (List.mem_of_getElem? (i := 43) rfl)) (hw _ (List.mem_of_getElem? (i := 44) rfl)) (hw _ (List.mem_of_getElem? (i := 41) rfl)) (hw _ (List.mem_of_getElem? (i := 45) rfl)) (by decide) (rm8 l Z a0 hw [] o0 b172 k_o0 e0_o0 e1_o0 k172 (0 : Int32) (0 : Int32) h172 n0 Z173 (f203) (V172) (g_b172) ((Nat.ne_of_lt (Nat.lt_of_lt_of_le (V_o0).lt sz_b172))) (B172)) (by decide) (by decide) (by decide) (by decide) (g := (mkF m 9 A174 [(.int (2 : Int32)), (.int (0 : Int32)), (.ref b172), (.int (0 : Int32)), (.ref o0)])) rfl (by rw [hml]; rfl) (argsL := [(.ref o0), (.int (0 : Int32)), (.ref b172), (.int (0 : Int32)), (.int (2 : Int32))]) (rest := []) rfl (lenOf pd_7 rfl) rfl (by show 2 * 0 + _ ≤ _; exact Nat.le_of_eq rfl) (hb hby djdk_52_method_16_code_9)
  obtain ⟨r209, r210, r211, v205, v206, v207, v208, hv205, hv206, hv207, hv208, hc212, rfl, N204, K204_, f213, f214⟩ := hQ204
  have N204_ := Fr.app N0 N204
  have Z215 : n0 ≤ T204.heap.size := Nat.le_trans Z173 K204_.1
  have K215 : Keep h0 T204.heap [] := K173.trans K204_ (allS (Or.inr sz_b172) all0)
  refine Go.st (S' := T204.setTop (mkF m 12 A174 [(.int r209)])) st204 ?_
  let A216 : Array Slot := #[.val (.ref o0), .val (.int (0 : Int32)), .val (.int (2 : Int32)), .val (.ref b172), .val (.int r209), .unset]
  refine Go.st (S' := T204.setTop (mkF m 14 A216 [])) (fun t k => XS.istore X204.here hx rfl (hb hby djdk_52_method_16_code_12) rfl (l' := A216) rfl k) ?_
  refine Go.st (S' := T204.setTop (mkF m 16 A216 [(.int r209)])) (fun t k => XS.iload X204.here hx rfl (hb hby djdk_52_method_16_code_14) rfl k) ?_
  refine Go.st (S' := T204.setTop (mkF m 17 A216 [(.int (2 : Int32)), (.int r209)])) (fun t k => XS.iloadN X204.here hx rfl (hb hby djdk_52_method_16_code_16) rfl k) ?_
  by_cases hc217 : (r209 = (2 : Int32))
  · refine Go.st (S' := T204.setTop (mkF m 57 A216 [])) (fun t k => XS.icmpYes X204.here hx rfl (pc0 := 17) (pc' := 57) rfl (hb hby djdk_52_method_16_code_17) rfl (teq hc217).1 (by decide) (by decide) k) ?_
    refine Go.st (S' := T204.setTop (mkF m 58 A216 [(.ref b172)])) (fun t k => XS.aloadN X204.here hx rfl (hb hby djdk_52_method_16_code_57) rfl rfl k) ?_
    exact Go.ret X204 (v := some (.ref b172)) (fun h => by rw [Bd.returns] at h; cases h) Bd.notSynchronized (fun fs hr => retOut X204 hx Bd.returns rfl (Or.inr (Or.inr (Or.inr (Or.inr ⟨rfl, rfl, rfl⟩)))) (hb hby djdk_52_method_16_code_58) hr) (by decide) (by decide) (⟨r209, r210, r211, v205, v206, v207, v208, b172, k172, hv205, hv206, hv207, hv208, hc212, hc217, rfl, N204_, K215, sz_b172, f213, f214⟩)
  · refine Go.st (S' := T204.setTop (mkF m 20 A216 [])) (fun t k => XS.icmpNo X204.here hx rfl (hb hby djdk_52_method_16_code_17) rfl (feq hc217).1 k) ?_
    refine Go.st (S' := T204.setTop (mkF m 21 A216 [(.ref o0)])) (fun t k => XS.aloadN X204.here hx rfl (hb hby djdk_52_method_16_code_20) rfl rfl k) ?_
    refine Go.st (S' := T204.setTop (mkF m 22 A216 [(.int (0 : Int32)), (.ref o0)])) (fun t k => XS.iloadN X204.here hx rfl (hb hby djdk_52_method_16_code_21) rfl k) ?_
    refine Go.st (S' := T204.setTop (mkF m 23 A216 [(.int (2 : Int32)), (.int (0 : Int32)), (.ref o0)])) (fun t k => XS.iloadN X204.here hx rfl (hb hby djdk_52_method_16_code_22) rfl k) ?_
    exact absurd ⟨r209, r210, r211, v205, v206, v207, v208, hv205, hv206, hv207, hv208, hc212, hc217⟩ no1
theorem ef_10 (m : MethodId) (o0 : Addr) : entryFrame m #[(.ref o0), (.int (2 : Int32))] 2 = mkF m 0 #[.val (.ref o0), .val (.int (2 : Int32))] [] := by first | (simp [entryFrame, mkF, argsToLocals, Value.category, maxLocals]; done) | rfl
def Q10 (Z : State) (o0 : Addr) (k_o0 : ClassId) (e0_o0 : Int32) (e1_o0 : Int32) (h0 : Heap) (n0 : Nat) (v : Option Value) (h : Heap) (L : List Loc) : Prop := (v = some (.int (0 : Int32)) ∧ Fr n0 L ∧ h = h0)
set_option maxRecDepth 65536 in
set_option maxHeartbeats 40000000 in
theorem rm10 (l : Launch) (Z : State) (a0 : Array Value) (hw : ∀ d ∈ tables_1, d.before a0 Z = true) (ws : List Jvm.Cond) (o0 : Addr) (k_o0 : ClassId) (e0_o0 : Int32) (e1_o0 : Int32) (h0 : Heap) (n0 : Nat) (Z0 : n0 ≤ h0.size) (V_o0 : Arv Z h0 o0 k_o0 .byte (2 : Int32) [(.int e0_o0), (.int e1_o0)] (.int (0 : Int32))) :
    Con l Z (⟨"java/lang/StringUTF16", "coderFromArrayLen", "([BI)B"⟩ : MethodName) jdk_52_method_15_code 2 (some .byte) ws ({ frames := 0, cells := 0, slots := 0, locals := 0 } : Room) #[(.ref o0), (.int (2 : Int32))] h0 0 0 (Q10 Z o0 k_o0 e0_o0 e1_o0 h0 n0) := by
  refine MetFree.of_bodySF (plainFor_of_name pn_3) hisR ?_
  intro p e s m args below meth c s₁ Bd hml0 hP hK
  obtain ⟨rfl, hZ, hh⟩ := hP
  have hx := Bd.exec
  have hby := Bd.bytes
  have hml : c.maxLocals = 2 := hml0
  have hown : s.vm.findClass "java/lang/StringUTF16" = some m.cls := findClass_of_methodNamed Bd.named
  have hnm := (name_of_methodNamed Bd.named Bd.method).1
  have X0 : Stand p l e ({ frames := 0, cells := 0, slots := 0, locals := 0 } : Room) s m #[(.ref o0), (.int (2 : Int32))] below meth c s₁ [] 0 0 := Stand.of_body Bd
  have e0 : s₁.heap = h0 := by rw [← hh, Bd.state]; rfl
  have N0 := Fr.nil n0
  refine Go.of ?_
  refine Go.st (S' := s₁.setTop (mkF m 0 #[.val (.ref o0), .val (.int (2 : Int32))] [])) (fun t k => castTop (ef_10 m o0) k) ?_
  refine Go.st (S' := s₁.setTop (mkF m 1 #[.val (.ref o0), .val (.int (2 : Int32))] [(.int (2 : Int32))])) (fun t k => XS.iloadN X0.here hx rfl (hb hby djdk_52_method_15_code_0) rfl k) ?_
  refine Go.st (S' := s₁.setTop (mkF m 2 #[.val (.ref o0), .val (.int (2 : Int32))] [(.ref o0), (.int (2 : Int32))])) (fun t k => XS.aloadN X0.here hx rfl (hb hby djdk_52_method_15_code_1) rfl rfl k) ?_
  obtain ⟨cl244, Ar244, -, S244, N244_, -, -⟩ := id V_o0
  refine Go.op (F := fun z => s₁.setTop (mkF m 3 #[.val (.ref o0), .val (.int (2 : Int32))] [(.int z), (.int (2 : Int32))])) (x := cl244.slots.size.toInt32) (fun t k => X0.arraylength hx (own_eh e0 Ar244.1) (State.isArrayOf_alike hZ.alike Ar244.2.1) (g := (mkF m 2 #[.val (.ref o0), .val (.int (2 : Int32))] [(.ref o0), (.int (2 : Int32))])) rfl rfl (hb hby djdk_52_method_15_code_2) t k) ?_
  intro v245 hv245
  obtain rfl : (2 : Int32) = v245 := (hv245.trans (len_of S244 N244_)).symm
  refine Go.op (F := fun z => s₁.setTop (mkF m 4 #[.val (.ref o0), .val (.int (2 : Int32))] [(.int z)])) (x := ((2 : Int32) - (2 : Int32))) (fun t k => XS.isub X0.here hx rfl (hb hby djdk_52_method_15_code_3) rfl k) ?_
  intro v246 hv246
  obtain rfl : (0 : Int32) = v246 := (hv246.trans (by decide)).symm
  refine Go.st (S' := s₁.setTop (mkF m 6 #[.val (.ref o0), .val (.int (2 : Int32))] [(.int (31 : Int32)), (.int (0 : Int32))])) (fun t k => XS.bipush X0.here hx rfl (hb hby djdk_52_method_15_code_4) k) ?_
  refine Go.op (F := fun z => s₁.setTop (mkF m 7 #[.val (.ref o0), .val (.int (2 : Int32))] [(.int z)])) (x := (((0 : Int32).toUInt32 >>> ((31 : Int32) &&& 31).toUInt32).toInt32)) (fun t k => XS.iushr X0.here hx rfl (hb hby djdk_52_method_15_code_6) rfl k) ?_
  intro v247 hv247
  obtain rfl : (0 : Int32) = v247 := (hv247.trans (by decide)).symm
  refine Go.op (F := fun z => s₁.setTop (mkF m 8 #[.val (.ref o0), .val (.int (2 : Int32))] [(.int z)])) (x := (0 : Int32).toInt8.toInt32) (fun t k => XS.i2b X0.here hx rfl (hb hby djdk_52_method_15_code_7) rfl k) ?_
  intro v248 hv248
  obtain rfl : (0 : Int32) = v248 := (hv248.trans (by decide)).symm
  exact Go.ret X0 (v := some (.int (0 : Int32))) (fun h => by rw [Bd.returns] at h; cases h) Bd.notSynchronized (fun fs hr => retN X0 hx (t := .byte) Bd.returns (by simp) (hb hby djdk_52_method_15_code_8) hr) (by decide) (by decide) (⟨rfl, N0, (e0)⟩)
theorem ef_11 (m : MethodId) (o0 : Addr) (o1 : Addr) : entryFrame m #[(.ref o0), (.ref o1), (.int (0 : Int32)), (.int (2 : Int32)), .null] 6 = mkF m 0 #[.val (.ref o0), .val (.ref o1), .val (.int (0 : Int32)), .val (.int (2 : Int32)), .val .null, .unset] [] := by first | (simp [entryFrame, mkF, argsToLocals, Value.category, maxLocals]; done) | rfl
def Q11 (Z : State) (o0 : Addr) (o1 : Addr) (s_String_COMPACT_STRINGS : Int32) (k_o1 : ClassId) (e0_o1 : Int32) (e1_o1 : Int32) (u_o0_coder : Value) (u_o0_value : Value) (h0 : Heap) (n0 : Nat) (v : Option Value) (h : Heap) (L : List Loc) : Prop := (∃ (r234 : Int32) (r235 : Int32) (r236 : Int32) (v229 : Int32) (v230 : Int32) (v231 : Int32) (v232 : Int32) (b233 : Addr) (k237 : ClassId), v229 = e0_o1.toInt8.toInt32 ∧ v230 = v229.toInt8.toInt32 ∧ v231 = e1_o1.toInt8.toInt32 ∧ v232 = v231.toInt8.toInt32 ∧ (¬ (s_String_COMPACT_STRINGS = (0 : Int32))) ∧ ((((255 : Int32) < e0_o1) ∧ (r234 = (0 : Int32)) ∧ (r235 = (0 : Int32)) ∧ (r236 = (0 : Int32))) ∨ ((¬ ((255 : Int32) < e0_o1)) ∧ ((255 : Int32) < e1_o1) ∧ (r234 = (1 : Int32)) ∧ (r235 = v230) ∧ (r236 = (0 : Int32))) ∨ ((¬ ((255 : Int32) < e0_o1)) ∧ (¬ ((255 : Int32) < e1_o1)) ∧ (r234 = (2 : Int32)) ∧ (r235 = v230) ∧ (r236 = v232))) ∧ (r234 = (2 : Int32)) ∧ v = none ∧ Fr n0 L ∧ Keep h0 h [o0] ∧ h0.size ≤ b233 ∧ Arv Z h b233 k237 .byte (2 : Int32) [(.int r235), (.int r236)] (.int (0 : Int32)) ∧ Exa Z h b233 "[B" ∧ Exa Z h o0 "java/lang/String" ∧ Fld Z h o0 "java/lang/String" "coder" "B" (.int (0 : Int32)) ∧ Fld Z h o0 "java/lang/String" "value" "[B" (.ref b233))
set_option maxRecDepth 65536 in
set_option maxHeartbeats 40000000 in
theorem rm11 (l : Launch) (Z : State) (a0 : Array Value) (hw : ∀ d ∈ tables_1, d.before a0 Z = true) (ws : List Jvm.Cond) (o0 : Addr) (o1 : Addr) (s_String_COMPACT_STRINGS : Int32) (k_o1 : ClassId) (e0_o1 : Int32) (e1_o1 : Int32) (u_o0_coder : Value) (u_o0_value : Value) (h0 : Heap) (n0 : Nat) (Z0 : n0 ≤ h0.size) (S_s_String_COMPACT_STRINGS : Sta Z h0 "java/lang/String" "COMPACT_STRINGS" "Z" (.int s_String_COMPACT_STRINGS)) (nz_s_String_COMPACT_STRINGS : s_String_COMPACT_STRINGS ≠ 0) (V_o1 : Arv Z h0 o1 k_o1 .char (2 : Int32) [(.int e0_o1), (.int e1_o1)] (.int (0 : Int32))) (no3 : ¬ (∃ (r219 : Int32) (r220 : Int32) (r221 : Int32) (v222 : Int32) (v223 : Int32) (v224 : Int32) (v225 : Int32), v222 = e0_o1.toInt8.toInt32 ∧ v223 = v222.toInt8.toInt32 ∧ v224 = e1_o1.toInt8.toInt32 ∧ v225 = v224.toInt8.toInt32 ∧ (¬ (s_String_COMPACT_STRINGS = (0 : Int32))) ∧ ((((255 : Int32) < e0_o1) ∧ (r219 = (0 : Int32)) ∧ (r220 = (0 : Int32)) ∧ (r221 = (0 : Int32))) ∨ ((¬ ((255 : Int32) < e0_o1)) ∧ ((255 : Int32) < e1_o1) ∧ (r219 = (1 : Int32)) ∧ (r220 = v223) ∧ (r221 = (0 : Int32))) ∨ ((¬ ((255 : Int32) < e0_o1)) ∧ (¬ ((255 : Int32) < e1_o1)) ∧ (r219 = (2 : Int32)) ∧ (r220 = v223) ∧ (r221 = v225))) ∧ (¬ (r219 = (2 : Int32))))) (E_o0 : Exa Z h0 o0 "java/lang/String") (F_o0_coder : Fld Z h0 o0 "java/lang/String" "coder" "B" u_o0_coder) (g_o0 : n0 ≤ o0) (F_o0_value : Fld Z h0 o0 "java/lang/String" "value" "[B" u_o0_value) :
    Con l Z (⟨"java/lang/String", "<init>", "([CIILjava/lang/Void;)V"⟩ : MethodName) jdk_42_method_149_code 6 none ws ({ frames := 2, cells := 1, slots := 2, locals := 35 } : Room) #[(.ref o0), (.ref o1), (.int (0 : Int32)), (.int (2 : Int32)), .null] h0 1 2 (Q11 Z o0 o1 s_String_COMPACT_STRINGS k_o1 e0_o1 e1_o1 u_o0_coder u_o0_value h0 n0) := by
  refine MetFree.of_bodySF (plainFor_of_name pn_0) hisR ?_
  intro p e s m args below meth c s₁ Bd hml0 hP hK
  obtain ⟨rfl, hZ, hh⟩ := hP
  have hx := Bd.exec
  have hby := Bd.bytes
  have hml : c.maxLocals = 6 := hml0
  have hown : s.vm.findClass "java/lang/String" = some m.cls := findClass_of_methodNamed Bd.named
  have hnm := (name_of_methodNamed Bd.named Bd.method).1
  have X0 : Stand p l e ({ frames := 2, cells := 1, slots := 2, locals := 35 } : Room) s m #[(.ref o0), (.ref o1), (.int (0 : Int32)), (.int (2 : Int32)), .null] below meth c s₁ [] 0 0 := Stand.of_body Bd
  have e0 : s₁.heap = h0 := by rw [← hh, Bd.state]; rfl
  have N0 := Fr.nil n0
  refine Go.of ?_
  refine Go.st (S' := s₁.setTop (mkF m 0 #[.val (.ref o0), .val (.ref o1), .val (.int (0 : Int32)), .val (.int (2 : Int32)), .val .null, .unset] [])) (fun t k => castTop (ef_11 m o0 o1) k) ?_
  let A168 : Array Slot := #[.val (.ref o0), .val (.ref o1), .val (.int (0 : Int32)), .val (.int (2 : Int32)), .val .null, .unset]
  refine Go.st (S' := s₁.setTop (mkF m 1 A168 [(.ref o0)])) (fun t k => XS.aloadN X0.here hx rfl (hb hby djdk_42_method_149_code_0) rfl rfl k) ?_
  obtain ⟨T169, X169, e169, st169⟩ := initO X0 hx hZ hown (hw _ (List.mem_of_getElem? (i := 20) rfl)) (hw _ (List.mem_of_getElem? (i := 21) rfl)) (hw _ (List.mem_of_getElem? (i := 22) rfl)) e0 (g := (mkF m 1 A168 [(.ref o0)])) rfl (by rw [hml]; rfl) rfl (hb hby djdk_42_method_149_code_1) (by decide) (W := 0) (by show 2 * 0 + _ ≤ _; exact Nat.le_of_eq rfl) (by decide)
  refine Go.st (S' := T169.setTop (mkF m 4 A168 [])) st169 ?_
  refine Go.st (S' := T169.setTop (mkF m 5 A168 [(.int (2 : Int32))])) (fun t k => XS.iloadN X169.here hx rfl (hb hby djdk_42_method_149_code_4) rfl k) ?_
  refine Go.st (S' := T169.setTop (mkF m 27 A168 [])) (fun t k => XS.ifYes X169.here hx rfl (pc0 := 5) (pc' := 27) rfl (hb hby djdk_42_method_149_code_5) rfl ((if0 _ _).trans (feq (by decide : (¬ ((2 : Int32) = (0 : Int32))))).2) (by decide) (by decide) k) ?_
  obtain ⟨T170, X170, e170, st170⟩ := getS X169 hx hZ hown (hw _ (List.mem_of_getElem? (i := 5) rfl)) Via.refl e169 S_s_String_COMPACT_STRINGS (host := "") (g := (mkF m 27 A168 [])) rfl (hb hby djdk_42_method_149_code_27)
  refine Go.st (S' := T170.setTop (mkF m 30 A168 [(.int s_String_COMPACT_STRINGS)])) st170 ?_
  refine Go.st (S' := T170.setTop (mkF m 33 A168 [])) (fun t k => XS.ifNo X170.here hx rfl (hb hby djdk_42_method_149_code_30) rfl ((if0 _ _).trans (feq nz_s_String_COMPACT_STRINGS).1) k) ?_
  refine Go.st (S' := T170.setTop (mkF m 34 A168 [(.ref o1)])) (fun t k => XS.aloadN X170.here hx rfl (hb hby djdk_42_method_149_code_33) rfl rfl k) ?_
  refine Go.st (S' := T170.setTop (mkF m 35 A168 [(.int (0 : Int32)), (.ref o1)])) (fun t k => XS.iloadN X170.here hx rfl (hb hby djdk_42_method_149_code_34) rfl k) ?_
  refine Go.st (S' := T170.setTop (mkF m 36 A168 [(.int (2 : Int32)), (.int (0 : Int32)), (.ref o1)])) (fun t k => XS.iloadN X170.here hx rfl (hb hby djdk_42_method_149_code_35) rfl k) ?_
  have no218 : ¬ (∃ (r219 : Int32) (r220 : Int32) (r221 : Int32) (v222 : Int32) (v223 : Int32) (v224 : Int32) (v225 : Int32), v222 = e0_o1.toInt8.toInt32 ∧ v223 = v222.toInt8.toInt32 ∧ v224 = e1_o1.toInt8.toInt32 ∧ v225 = v224.toInt8.toInt32 ∧ ((((255 : Int32) < e0_o1) ∧ (r219 = (0 : Int32)) ∧ (r220 = (0 : Int32)) ∧ (r221 = (0 : Int32))) ∨ ((¬ ((255 : Int32) < e0_o1)) ∧ ((255 : Int32) < e1_o1) ∧ (r219 = (1 : Int32)) ∧ (r220 = v223) ∧ (r221 = (0 : Int32))) ∨ ((¬ ((255 : Int32) < e0_o1)) ∧ (¬ ((255 : Int32) < e1_o1)) ∧ (r219 = (2 : Int32)) ∧ (r220 = v223) ∧ (r221 = v225))) ∧ (¬ (r219 = (2 : Int32)))) := by
    rintro ⟨r219, r220, r221, v222, v223, v224, v225, hv222, hv223, hv224, hv225, hc226, hc227⟩
    exact absurd ⟨r219, r220, r221, v222, v223, v224, v225, hv222, hv223, hv224, hv225, nz_s_String_COMPACT_STRINGS, hc226, hc227⟩ no3
  obtain ⟨r228, T228, L228, X228, hQ228, st228⟩ := own_callS (W := 0) X170 hx hZ e170 hown (y := (⟨"java/lang/StringUTF16", "compress", "([CII)[B"⟩ : MethodName)) (hw _ (List.mem_of_getElem? (i := 39) rfl)) (hw _ (List.mem_of_getElem? (i := 40) rfl)) (hw _ (List.mem_of_getElem? (i := 41) rfl)) (hw _ (List.mem_of_getElem? (i := 42) rfl)) (by decide) (rm9 l Z a0 hw [] o1 k_o1 e0_o1 e1_o1 h0 n0 Z0 (V_o1) (no218)) (by decide) (by decide) (by decide) (by decide) (g := (mkF m 36 A168 [(.int (2 : Int32)), (.int (0 : Int32)), (.ref o1)])) rfl (by rw [hml]; rfl) (argsL := [(.ref o1), (.int (0 : Int32)), (.int (2 : Int32))]) (rest := []) rfl (lenOf pd_8 rfl) rfl (by show 2 * 0 + _ ≤ _; exact Nat.le_of_eq rfl) (hb hby djdk_42_method_149_code_36)
  obtain ⟨r234, r235, r236, v229, v230, v231, v232, b233, k237, hv229, hv230, hv231, hv232, hc238, hc239, rfl, N228, K228_, sz_b233_, f240, f241⟩ := hQ228
  have N228_ := Fr.app N0 N228
  have g_b233 : n0 ≤ b233 := Nat.le_trans Z0 sz_b233_
  have sz_b233 : h0.size ≤ b233 := Nat.le_trans (Keep.refl h0 [o0]).1 sz_b233_
  have Z242 : n0 ≤ T228.heap.size := Nat.le_trans Z0 K228_.1
  have K242 : Keep h0 T228.heap [o0] := (Keep.refl h0 [o0]).trans K228_ all0
  refine Go.st (S' := T228.setTop (mkF m 39 A168 [(.ref b233)])) st228 ?_
  let A243 : Array Slot := #[.val (.ref o0), .val (.ref o1), .val (.int (0 : Int32)), .val (.int (2 : Int32)), .val .null, .val (.ref b233)]
  refine Go.st (S' := T228.setTop (mkF m 41 A243 [])) (fun t k => XS.astore X228.here hx rfl (hb hby djdk_42_method_149_code_39) rfl rfl (l' := A243) rfl k) ?_
  refine Go.st (S' := T228.setTop (mkF m 42 A243 [(.ref o0)])) (fun t k => XS.aloadN X228.here hx rfl (hb hby djdk_42_method_149_code_41) rfl rfl k) ?_
  refine Go.st (S' := T228.setTop (mkF m 44 A243 [(.ref b233), (.ref o0)])) (fun t k => XS.aload X228.here hx rfl (hb hby djdk_42_method_149_code_42) rfl rfl k) ?_
  refine Go.st (S' := T228.setTop (mkF m 45 A243 [(.int (2 : Int32)), (.ref b233), (.ref o0)])) (fun t k => XS.iloadN X228.here hx rfl (hb hby djdk_42_method_149_code_44) rfl k) ?_
  obtain ⟨r249, T249, L249, X249, hQ249, st249⟩ := own_callS (W := 1) X228 hx hZ rfl hown (y := (⟨"java/lang/StringUTF16", "coderFromArrayLen", "([BI)B"⟩ : MethodName)) (hw _ (List.mem_of_getElem? (i := 46) rfl)) (hw _ (List.mem_of_getElem? (i := 47) rfl)) (hw _ (List.mem_of_getElem? (i := 41) rfl)) (hw _ (List.mem_of_getElem? (i := 48) rfl)) (by decide) (rm10 l Z a0 hw [] b233 k237 r235 r236 T228.heap n0 Z242 (f240)) (by decide) (by decide) (by decide) (by decide) (g := (mkF m 45 A243 [(.int (2 : Int32)), (.ref b233), (.ref o0)])) rfl (by rw [hml]; rfl) (argsL := [(.ref b233), (.int (2 : Int32))]) (rest := [(.ref o0)]) rfl (lenOf pd_9 rfl) rfl (by show 2 * 0 + _ ≤ _; exact Nat.le_of_eq rfl) (hb hby djdk_42_method_149_code_45)
  obtain ⟨rfl, N249, e249⟩ := hQ249
  have N249_ := Fr.app N228_ N249
  refine Go.st (S' := T249.setTop (mkF m 48 A243 [(.int (0 : Int32)), (.ref o0)])) st249 ?_
  have f250 := ((E_o0).keep K228_)
  have f251 := ((F_o0_coder).keep K228_ nin0)
  obtain ⟨T252, h252, X252, e252, W252, st252⟩ := putF X249 hx hZ hown (host := "") (Or.inl (hw _ (List.mem_of_getElem? (i := 25) rfl))) Via.refl e249 f251 f250 (Or.inr ⟨(hw _ (List.mem_of_getElem? (i := 26) rfl)), rfl, hnm⟩) (hw _ (List.mem_of_getElem? (i := 11) rfl)) (ty := .byte) (by decide) rfl (by decide) (g := (mkF m 48 A243 [(.int (0 : Int32)), (.ref o0)])) rfl rfl (hb hby djdk_42_method_149_code_48)
  have Fw252 := (f251).same W252
  have N252 := Fr.snoc X252 N249_ g_o0
  have Z253 : n0 ≤ h252.size := Nat.le_trans Z242 (Keep.of_wr W252).1
  have K253 : Keep h0 h252 [o0] := K242.wr W252 (Or.inl (by simp))
  refine Go.st (S' := T252.setTop (mkF m 51 A243 [])) st252 ?_
  refine Go.st (S' := T252.setTop (mkF m 52 A243 [(.ref o0)])) (fun t k => XS.aloadN X252.here hx rfl (hb hby djdk_42_method_149_code_51) rfl rfl k) ?_
  refine Go.st (S' := T252.setTop (mkF m 54 A243 [(.ref b233), (.ref o0)])) (fun t k => XS.aload X252.here hx rfl (hb hby djdk_42_method_149_code_52) rfl rfl k) ?_
  have f254 := ((f250).wr W252)
  have f255 := ((((F_o0_value).keep K228_ nin0)).other W252 (Or.inr (slot_ne (Or.inr (hw _ (List.mem_of_getElem? (i := 24) rfl))) (Or.inr (hw _ (List.mem_of_getElem? (i := 26) rfl))) (by decide) (t := (.array .byte)) (t' := .byte) (by decide) (by decide))))
  obtain ⟨T256, h256, X256, e256, W256, st256⟩ := putF X252 hx hZ hown (host := "") (Or.inl (hw _ (List.mem_of_getElem? (i := 23) rfl))) Via.refl e252 f255 f254 (Or.inr ⟨(hw _ (List.mem_of_getElem? (i := 24) rfl)), rfl, hnm⟩) (hw _ (List.mem_of_getElem? (i := 11) rfl)) (ty := (.array .byte)) (by decide) rfl rfl (g := (mkF m 54 A243 [(.ref b233), (.ref o0)])) rfl rfl (hb hby djdk_42_method_149_code_54)
  have Fw256 := (f255).same W256
  have N256 := Fr.snoc X256 N252 g_o0
  have Z257 : n0 ≤ h256.size := Nat.le_trans Z253 (Keep.of_wr W256).1
  have K257 : Keep h0 h256 [o0] := K253.wr W256 (Or.inl (by simp))
  refine Go.st (S' := T256.setTop (mkF m 57 A243 [])) st256 ?_
  have f258 := ((((f240).other W252 (Ne.symm (Nat.ne_of_lt (Nat.lt_of_lt_of_le (E_o0).lt sz_b233))))).other W256 (Ne.symm (Nat.ne_of_lt (Nat.lt_of_lt_of_le (E_o0).lt sz_b233))))
  have f259 := ((((f241).wr W252)).wr W256)
  have f260 := ((f254).wr W256)
  have f261 := ((Fw252).other W256 (Or.inr (slot_ne (Or.inr (hw _ (List.mem_of_getElem? (i := 26) rfl))) (Or.inr (hw _ (List.mem_of_getElem? (i := 24) rfl))) (by decide) (t := .byte) (t' := (.array .byte)) (by decide) (by decide))))
  exact Go.ret X256 (v := none) (fun _ => rfl) Bd.notSynchronized (fun fs hr => X256.returnOut hx Bd.returns (hb hby djdk_42_method_149_code_57) hr) (by decide) (by decide) (by rw [e256]; exact ⟨r234, r235, r236, v229, v230, v231, v232, b233, k237, hv229, hv230, hv231, hv232, nz_s_String_COMPACT_STRINGS, hc238, hc239, rfl, N256, K257, sz_b233, f258, f259, f260, f261, Fw256⟩)
theorem ef_12 (m : MethodId) (o0 : Addr) (o1 : Addr) : entryFrame m #[(.ref o0), (.ref o1)] 2 = mkF m 0 #[.val (.ref o0), .val (.ref o1)] [] := by first | (simp [entryFrame, mkF, argsToLocals, Value.category, maxLocals]; done) | rfl
def Q12 (Z : State) (o0 : Addr) (o1 : Addr) (k_o1 : ClassId) (e0_o1 : Int32) (e1_o1 : Int32) (s_String_COMPACT_STRINGS : Int32) (h0 : Heap) (n0 : Nat) (v : Option Value) (h : Heap) (L : List Loc) : Prop := (∃ (r279 : Int32) (r280 : Int32) (r281 : Int32) (v274 : Int32) (v275 : Int32) (v276 : Int32) (v277 : Int32) (b278 : Addr) (k282 : ClassId), v274 = e0_o1.toInt8.toInt32 ∧ v275 = v274.toInt8.toInt32 ∧ v276 = e1_o1.toInt8.toInt32 ∧ v277 = v276.toInt8.toInt32 ∧ (¬ (s_String_COMPACT_STRINGS = (0 : Int32))) ∧ (¬ (s_String_COMPACT_STRINGS = (0 : Int32))) ∧ ((((255 : Int32) < e0_o1) ∧ (r279 = (0 : Int32)) ∧ (r280 = (0 : Int32)) ∧ (r281 = (0 : Int32))) ∨ ((¬ ((255 : Int32) < e0_o1)) ∧ ((255 : Int32) < e1_o1) ∧ (r279 = (1 : Int32)) ∧ (r280 = v275) ∧ (r281 = (0 : Int32))) ∨ ((¬ ((255 : Int32) < e0_o1)) ∧ (¬ ((255 : Int32) < e1_o1)) ∧ (r279 = (2 : Int32)) ∧ (r280 = v275) ∧ (r281 = v277))) ∧ (r279 = (2 : Int32)) ∧ v = none ∧ Fr n0 L ∧ Keep h0 h [o0] ∧ h0.size ≤ b278 ∧ Exa Z h o0 "java/lang/String" ∧ Fld Z h o0 "java/lang/String" "coder" "B" (.int (0 : Int32)) ∧ Fld Z h o0 "java/lang/String" "value" "[B" (.ref b278) ∧ Arv Z h b278 k282 .byte (2 : Int32) [(.int r280), (.int r281)] (.int (0 : Int32)) ∧ Exa Z h b278 "[B")
set_option maxRecDepth 65536 in
set_option maxHeartbeats 40000000 in
theorem rm12 (l : Launch) (Z : State) (a0 : Array Value) (hw : ∀ d ∈ tables_1, d.before a0 Z = true) (ws : List Jvm.Cond) (o0 : Addr) (o1 : Addr) (k_o1 : ClassId) (e0_o1 : Int32) (e1_o1 : Int32) (s_String_COMPACT_STRINGS : Int32) (h0 : Heap) (n0 : Nat) (Z0 : n0 ≤ h0.size) (V_o1 : Arv Z h0 o1 k_o1 .char (2 : Int32) [(.int e0_o1), (.int e1_o1)] (.int (0 : Int32))) (E_o0 : Exa Z h0 o0 "java/lang/String") (F_o0_coder : Fld Z h0 o0 "java/lang/String" "coder" "B" (.int (0 : Int32))) (F_o0_value : Fld Z h0 o0 "java/lang/String" "value" "[B" .null) (S_s_String_COMPACT_STRINGS : Sta Z h0 "java/lang/String" "COMPACT_STRINGS" "Z" (.int s_String_COMPACT_STRINGS)) (nz_s_String_COMPACT_STRINGS : s_String_COMPACT_STRINGS ≠ 0) (no6 : ¬ (∃ (r263 : Int32) (r264 : Int32) (r265 : Int32) (v266 : Int32) (v267 : Int32) (v268 : Int32) (v269 : Int32), v266 = e0_o1.toInt8.toInt32 ∧ v267 = v266.toInt8.toInt32 ∧ v268 = e1_o1.toInt8.toInt32 ∧ v269 = v268.toInt8.toInt32 ∧ (¬ (s_String_COMPACT_STRINGS = (0 : Int32))) ∧ (¬ (s_String_COMPACT_STRINGS = (0 : Int32))) ∧ ((((255 : Int32) < e0_o1) ∧ (r263 = (0 : Int32)) ∧ (r264 = (0 : Int32)) ∧ (r265 = (0 : Int32))) ∨ ((¬ ((255 : Int32) < e0_o1)) ∧ ((255 : Int32) < e1_o1) ∧ (r263 = (1 : Int32)) ∧ (r264 = v267) ∧ (r265 = (0 : Int32))) ∨ ((¬ ((255 : Int32) < e0_o1)) ∧ (¬ ((255 : Int32) < e1_o1)) ∧ (r263 = (2 : Int32)) ∧ (r264 = v267) ∧ (r265 = v269))) ∧ (¬ (r263 = (2 : Int32))))) (g_o0 : n0 ≤ o0) :
    ConW l Z (⟨"java/lang/String", "<init>", "([C)V"⟩ : MethodName) jdk_42_method_3_code 2 none ws ({ frames := 3, cells := 1, slots := 2, locals := 52 } : Room) #[(.ref o0), (.ref o1)] h0 1 2 (Q12 Z o0 o1 k_o1 e0_o1 e1_o1 s_String_COMPACT_STRINGS h0 n0) := by
  refine MetFree.of_bodySF (plainFor_of_name pn_0) hisR ?_
  intro p e s m args below meth c s₁ Bd hml0 hP hK
  obtain ⟨rfl, hZH, hh⟩ := hP
  have hZ := hZH.wide
  have hx := Bd.exec
  have hby := Bd.bytes
  have hml : c.maxLocals = 2 := hml0
  have hown : s.vm.findClass "java/lang/String" = some m.cls := findClass_of_methodNamed Bd.named
  have hnm := (name_of_methodNamed Bd.named Bd.method).1
  have X0 : Stand p l e ({ frames := 3, cells := 1, slots := 2, locals := 52 } : Room) s m #[(.ref o0), (.ref o1)] below meth c s₁ [] 0 0 := Stand.of_body Bd
  have e0 : s₁.heap = h0 := by rw [← hh, Bd.state]; rfl
  have N0 := Fr.nil n0
  refine Go.of ?_
  refine Go.st (S' := s₁.setTop (mkF m 0 #[.val (.ref o0), .val (.ref o1)] [])) (fun t k => castTop (ef_12 m o0 o1) k) ?_
  refine Go.st (S' := s₁.setTop (mkF m 1 #[.val (.ref o0), .val (.ref o1)] [(.ref o0)])) (fun t k => XS.aloadN X0.here hx rfl (hb hby djdk_42_method_3_code_0) rfl rfl k) ?_
  refine Go.st (S' := s₁.setTop (mkF m 2 #[.val (.ref o0), .val (.ref o1)] [(.ref o1), (.ref o0)])) (fun t k => XS.aloadN X0.here hx rfl (hb hby djdk_42_method_3_code_1) rfl rfl k) ?_
  refine Go.st (S' := s₁.setTop (mkF m 3 #[.val (.ref o0), .val (.ref o1)] [(.int (0 : Int32)), (.ref o1), (.ref o0)])) (fun t k => XS.iconst X0.here hx rfl (hb hby djdk_42_method_3_code_2) k) ?_
  refine Go.st (S' := s₁.setTop (mkF m 4 #[.val (.ref o0), .val (.ref o1)] [(.ref o1), (.int (0 : Int32)), (.ref o1), (.ref o0)])) (fun t k => XS.aloadN X0.here hx rfl (hb hby djdk_42_method_3_code_3) rfl rfl k) ?_
  obtain ⟨cl166, Ar166, -, S166, N166_, -, -⟩ := id V_o1
  refine Go.op (F := fun z => s₁.setTop (mkF m 5 #[.val (.ref o0), .val (.ref o1)] [(.int z), (.int (0 : Int32)), (.ref o1), (.ref o0)])) (x := cl166.slots.size.toInt32) (fun t k => X0.arraylength hx (own_eh e0 Ar166.1) (State.isArrayOf_alike hZ.alike Ar166.2.1) (g := (mkF m 4 #[.val (.ref o0), .val (.ref o1)] [(.ref o1), (.int (0 : Int32)), (.ref o1), (.ref o0)])) rfl rfl (hb hby djdk_42_method_3_code_4) t k) ?_
  intro v167 hv167
  obtain rfl : (2 : Int32) = v167 := (hv167.trans (len_of S166 N166_)).symm
  refine Go.st (S' := s₁.setTop (mkF m 6 #[.val (.ref o0), .val (.ref o1)] [.null, (.int (2 : Int32)), (.int (0 : Int32)), (.ref o1), (.ref o0)])) (fun t k => XS.aconstNull X0.here hx rfl (hb hby djdk_42_method_3_code_5) k) ?_
  have no262 : ¬ (∃ (r263 : Int32) (r264 : Int32) (r265 : Int32) (v266 : Int32) (v267 : Int32) (v268 : Int32) (v269 : Int32), v266 = e0_o1.toInt8.toInt32 ∧ v267 = v266.toInt8.toInt32 ∧ v268 = e1_o1.toInt8.toInt32 ∧ v269 = v268.toInt8.toInt32 ∧ (¬ (s_String_COMPACT_STRINGS = (0 : Int32))) ∧ ((((255 : Int32) < e0_o1) ∧ (r263 = (0 : Int32)) ∧ (r264 = (0 : Int32)) ∧ (r265 = (0 : Int32))) ∨ ((¬ ((255 : Int32) < e0_o1)) ∧ ((255 : Int32) < e1_o1) ∧ (r263 = (1 : Int32)) ∧ (r264 = v267) ∧ (r265 = (0 : Int32))) ∨ ((¬ ((255 : Int32) < e0_o1)) ∧ (¬ ((255 : Int32) < e1_o1)) ∧ (r263 = (2 : Int32)) ∧ (r264 = v267) ∧ (r265 = v269))) ∧ (¬ (r263 = (2 : Int32)))) := by
    rintro ⟨r263, r264, r265, v266, v267, v268, v269, hv266, hv267, hv268, hv269, hc270, hc271, hc272⟩
    exact absurd ⟨r263, r264, r265, v266, v267, v268, v269, hv266, hv267, hv268, hv269, nz_s_String_COMPACT_STRINGS, hc270, hc271, hc272⟩ no6
  obtain ⟨r273, T273, L273, X273, hQ273, st273⟩ := own_callI (W := 0) (a := o0) X0 hx hZ e0 hown (y := (⟨"java/lang/String", "<init>", "([CIILjava/lang/Void;)V"⟩ : MethodName)) rfl (hw _ (List.mem_of_getElem? (i := 36) rfl)) (hw _ (List.mem_of_getElem? (i := 37) rfl)) (hw _ (List.mem_of_getElem? (i := 3) rfl)) (hw _ (List.mem_of_getElem? (i := 38) rfl)) (by decide) (rm11 l Z a0 hw [] o0 o1 s_String_COMPACT_STRINGS k_o1 e0_o1 e1_o1 ((.int (0 : Int32))) (.null) h0 n0 Z0 (S_s_String_COMPACT_STRINGS) (nz_s_String_COMPACT_STRINGS) (V_o1) (no262) (E_o0) (F_o0_coder) (g_o0) (F_o0_value)) (by decide) (by decide) (by decide) (by decide) (g := (mkF m 6 #[.val (.ref o0), .val (.ref o1)] [.null, (.int (2 : Int32)), (.int (0 : Int32)), (.ref o1), (.ref o0)])) rfl (by rw [hml]; rfl) (argsL := [(.ref o1), (.int (0 : Int32)), (.int (2 : Int32)), .null]) (rest := []) rfl (lenOf pd_0 rfl) rfl (by show 2 * 0 + _ ≤ _; exact Nat.le_of_eq rfl) (hb hby djdk_42_method_3_code_6)
  obtain ⟨r279, r280, r281, v274, v275, v276, v277, b278, k282, hv274, hv275, hv276, hv277, hc283, hc284, hc285, rfl, N273, K273_, sz_b278_, f286, f287, f288, f289, f290⟩ := hQ273
  have N273_ := Fr.app N0 N273
  have g_b278 : n0 ≤ b278 := Nat.le_trans Z0 sz_b278_
  have sz_b278 : h0.size ≤ b278 := Nat.le_trans (Keep.refl h0 [o0]).1 sz_b278_
  have Z291 : n0 ≤ T273.heap.size := Nat.le_trans Z0 K273_.1
  have K291 : Keep h0 T273.heap [o0] := (Keep.refl h0 [o0]).trans K273_ (allS (Or.inl (by simp)) all0)
  refine Go.st (S' := T273.setTop (mkF m 9 #[.val (.ref o0), .val (.ref o1)] [])) st273 ?_
  exact Go.retN X273 (v := none) (fun _ => rfl) Bd.notSynchronized (fun fs hr => X273.returnOut hx Bd.returns (hb hby djdk_42_method_3_code_9) hr) (by decide) (by decide) (⟨r279, r280, r281, v274, v275, v276, v277, b278, k282, hv274, hv275, hv276, hv277, nz_s_String_COMPACT_STRINGS, hc283, hc284, hc285, rfl, N273_, K291, sz_b278, f288, f289, f290, f286, f287⟩)
theorem ef_13 (m : MethodId) (p0 : Int32) (p1 : Int32) (p2 : Int32) (p3 : Int32) : entryFrame m #[(.int p0), (.int p1), (.int p2), (.int p3)] maxLocals = mkF m 0 #[.val (.int p0), .val (.int p1), .val (.int p2), .val (.int p3), .unset, .unset, .unset, .unset] [] := by first | (simp [entryFrame, mkF, argsToLocals, Value.category, maxLocals]; done) | rfl
def Q13 (Z : State) (p0 : Int32) (p1 : Int32) (p2 : Int32) (p3 : Int32) (s_String_COMPACT_STRINGS : Int32) (h0 : Heap) (n0 : Nat) (v : Option Value) (h : Heap) (L : List Loc) : Prop := v = some (.int 1) ∧ Fr n0 L
set_option maxRecDepth 65536 in
set_option maxHeartbeats 40000000 in
theorem rm13 (l : Launch) (Z : State) (a0 : Array Value) (hw : ∀ d ∈ tables_1, d.before a0 Z = true) (ws : List Jvm.Cond) (p0 : Int32) (p1 : Int32) (p2 : Int32) (p3 : Int32) (s_String_COMPACT_STRINGS : Int32) (h0 : Heap) (n0 : Nat) (Z0 : n0 ≤ h0.size) (keepZ : ∀ (b : Addr) (cl : Cell), Z.heap[b]? = some cl → h0[b]? = some cl) (held_7 : Jvm.Lit.constHeld Z "java/lang/String" 7) (hcw : Jvm.Lit.compactW.before a0 Z = true) (S_s_String_COMPACT_STRINGS : Sta Z h0 "java/lang/String" "COMPACT_STRINGS" "Z" (.int s_String_COMPACT_STRINGS)) (nz_s_String_COMPACT_STRINGS : s_String_COMPACT_STRINGS ≠ 0) :
    ConW l Z x code maxLocals ret ws room_1 #[(.int p0), (.int p1), (.int p2), (.int p3)] h0 4 8 (Q13 Z p0 p1 p2 p3 s_String_COMPACT_STRINGS h0 n0) := by
  refine MetFree.of_bodySF (plainFor_of_name pn_4) hisR ?_
  intro p e s m args below meth c s₁ Bd hml0 hP hK
  obtain ⟨rfl, hZH, hh⟩ := hP
  have hZ := hZH.wide
  have hx := Bd.exec
  have hby := Bd.bytes
  have hml : c.maxLocals = 8 := hml0
  have hown : s.vm.findClass "com/example/sluiceway/sluiceway/SettingsAtLeastOnePinLaw" = some m.cls := findClass_of_methodNamed Bd.named
  have hnm := (name_of_methodNamed Bd.named Bd.method).1
  have X0 : Stand p l e room_1 s m #[(.int p0), (.int p1), (.int p2), (.int p3)] below meth c s₁ [] 0 0 := Stand.of_body Bd
  have e0 : s₁.heap = h0 := by rw [← hh, Bd.state]; rfl
  have N0 := Fr.nil n0
  refine Go.of ?_
  refine Go.st (S' := s₁.setTop (mkF m 0 #[.val (.int p0), .val (.int p1), .val (.int p2), .val (.int p3), .unset, .unset, .unset, .unset] [])) (fun t k => castTop (ef_13 m p0 p1 p2 p3) k) ?_
  let A1 : Array Slot := #[.val (.int p0), .val (.int p1), .val (.int p2), .val (.int p3), .unset, .unset, .unset, .unset]
  refine Go.st (S' := s₁.setTop (mkF m 1 A1 [(.int p0)])) (fun t k => XS.iloadN X0.here hx rfl (hb hby at_0) rfl k) ?_
  refine Go.st (S' := s₁.setTop (mkF m 3 A1 [(.int (2147483647 : Int32)), (.int p0)])) (fun t k => X0.ldcInt hx hown (mvT hZ (hw _ (List.mem_of_getElem? (i := 0) rfl))) (g := (mkF m 1 A1 [(.int p0)])) rfl (hb hby at_1) t k) ?_
  refine Go.op (F := fun z => s₁.setTop (mkF m 4 A1 [(.int z)])) (x := (p0 &&& (2147483647 : Int32))) (fun t k => XS.iand X0.here hx rfl (hb hby at_3) rfl k) ?_
  intro v2 hv2
  let A3 : Array Slot := #[.val (.int p0), .val (.int p1), .val (.int p2), .val (.int p3), .val (.int v2), .unset, .unset, .unset]
  refine Go.st (S' := s₁.setTop (mkF m 6 A3 [])) (fun t k => XS.istore X0.here hx rfl (hb hby at_4) rfl (l' := A3) rfl k) ?_
  refine Go.st (S' := s₁.setTop (mkF m 8 A3 [(.int v2)])) (fun t k => XS.iload X0.here hx rfl (hb hby at_6) rfl k) ?_
  by_cases hc333 : (v2 = (0 : Int32))
  · refine Go.st (S' := s₁.setTop (mkF m 11 A3 [])) (fun t k => XS.ifNo X0.here hx rfl (hb hby at_8) rfl ((if0 _ _).trans (teq hc333).2) k) ?_
    refine Go.st (S' := s₁.setTop (mkF m 12 A3 [(.int (1 : Int32))])) (fun t k => XS.iconst X0.here hx rfl (hb hby at_11) k) ?_
    let A334 : Array Slot := #[.val (.int p0), .val (.int p1), .val (.int p2), .val (.int p3), .val (.int (1 : Int32)), .unset, .unset, .unset]
    refine Go.st (S' := s₁.setTop (mkF m 14 A334 [])) (fun t k => XS.istore X0.here hx rfl (hb hby at_12) rfl (l' := A334) rfl k) ?_
    refine Go.st (S' := s₁.setTop (mkF m 15 A334 [(.int p3)])) (fun t k => XS.iloadN X0.here hx rfl (hb hby at_14) rfl k) ?_
    refine Go.st (S' := s₁.setTop (mkF m 16 A334 [(.int (3 : Int32)), (.int p3)])) (fun t k => XS.iconst X0.here hx rfl (hb hby at_15) k) ?_
    refine Go.op (F := fun z => s₁.setTop (mkF m 17 A334 [(.int z)])) (x := (p3 &&& (3 : Int32))) (fun t k => XS.iand X0.here hx rfl (hb hby at_16) rfl k) ?_
    intro v335 hv335
    let A336 : Array Slot := #[.val (.int p0), .val (.int p1), .val (.int p2), .val (.int p3), .val (.int (1 : Int32)), .unset, .val (.int v335), .unset]
    refine Go.st (S' := s₁.setTop (mkF m 19 A336 [])) (fun t k => XS.istore X0.here hx rfl (hb hby at_17) rfl (l' := A336) rfl k) ?_
    refine Go.st (S' := s₁.setTop (mkF m 21 A336 [(.int v335)])) (fun t k => XS.iload X0.here hx rfl (hb hby at_19) rfl k) ?_
    by_cases hc429 : (v335 = (0 : Int32))
    · refine Go.st (S' := s₁.setTop (mkF m 24 A336 [])) (fun t k => XS.ifNo X0.here hx rfl (hb hby at_21) rfl ((if0 _ _).trans (teq hc429).2) k) ?_
      obtain ⟨T430, h430, X430, e430, E430, A430, D430, -, st430⟩ := newO X0 hx hZ hown (hw _ (List.mem_of_getElem? (i := 32) rfl)) (hw _ (List.mem_of_getElem? (i := 11) rfl)) (hw _ (List.mem_of_getElem? (i := 3) rfl)) e0 (g := (mkF m 24 A336 [])) rfl (hb hby at_24) (by decide) (by decide)
      obtain ⟨b430, gg430⟩ : ∃ z, z = h0.size := ⟨_, rfl⟩
      rw [← gg430] at A430 D430 st430
      have g_b430 : n0 ≤ b430 := Nat.le_trans Z0 (Nat.le_of_eq gg430.symm)
      have sz_b430 : h0.size ≤ b430 := Nat.le_trans (Keep.refl h0 []).1 (Nat.le_of_eq gg430.symm)
      have Z431 : n0 ≤ h430.size := Nat.le_trans Z0 E430.1
      have K431 : Keep h0 h430 [] := (Keep.refl h0 []).ext E430
      have Fb430_value : Fld Z h430 b430 "java/lang/String" "value" "[B" .null := D430 (Or.inr (hw _ (List.mem_of_getElem? (i := 24) rfl))) (ty := (.array .byte)) (by decide)
      have Fb430_coder : Fld Z h430 b430 "java/lang/String" "coder" "B" (.int (0 : Int32)) := D430 (Or.inr (hw _ (List.mem_of_getElem? (i := 26) rfl))) (ty := .byte) (by decide)
      refine Go.st (S' := T430.setTop (mkF m 27 A336 [(.ref b430)])) st430 ?_
      refine Go.st (S' := T430.setTop (mkF m 28 A336 [(.ref b430), (.ref b430)])) (fun t k => XS.dup X430.here hx rfl (hb hby at_27) rfl rfl k) ?_
      refine Go.st (S' := T430.setTop (mkF m 29 A336 [(.int (0 : Int32)), (.ref b430), (.ref b430)])) (fun t k => XS.iconst X430.here hx rfl (hb hby at_28) k) ?_
      obtain ⟨T432, h432, k432, X432, e432, E432, A432, B432, st432⟩ := newPE X430 hx hZ (hw _ (List.mem_of_getElem? (i := 31) rfl)) e430 (g := (mkF m 29 A336 [(.int (0 : Int32)), (.ref b430), (.ref b430)])) rfl (hb hby at_29) rfl (by decide) (cap := 0) (by decide) (by decide) (by decide) (by decide) (ad := "[C") (by decide)
      obtain ⟨b432, gg432⟩ : ∃ z, z = h430.size := ⟨_, rfl⟩
      rw [← gg432] at A432 B432 st432
      have g_b432 : n0 ≤ b432 := Nat.le_trans Z431 (Nat.le_of_eq gg432.symm)
      have sz_b432 : h0.size ≤ b432 := Nat.le_trans K431.1 (Nat.le_of_eq gg432.symm)
      have lt_b430_b432 : b430 < b432 := Nat.lt_of_lt_of_le (A430).lt (Nat.le_of_eq gg432.symm)
      have Z433 : n0 ≤ h432.size := Nat.le_trans Z431 E432.1
      have K433 : Keep h0 h432 [] := K431.ext E432
      have V432 : Arv Z h432 b432 k432 .char (0 : Int32) [] (.int (0 : Int32)) := (Arv.new A432 (by decide)).pad (pad_rep [] (.int (0 : Int32)) 0)
      refine Go.st (S' := T432.setTop (mkF m 31 A336 [(.ref b432), (.ref b430), (.ref b430)])) st432 ?_
      have f434 := ((A430).ext E432)
      have f435 := ((Fb430_value).ext E432)
      have f436 := ((Fb430_coder).ext E432)
      obtain ⟨r437, T437, L437, X437, hQ437, hS437, hZ, hown, st437⟩ := own_callIW (W := 1) (a := b430) X432 hx hZH e432 hown (y := (⟨"java/lang/String", "<init>", "([C)V"⟩ : MethodName)) rfl (hw _ (List.mem_of_getElem? (i := 33) rfl)) (hw _ (List.mem_of_getElem? (i := 34) rfl)) (hw _ (List.mem_of_getElem? (i := 3) rfl)) (hw _ (List.mem_of_getElem? (i := 35) rfl)) (by decide) (rm2 l Z a0 hw [] b430 b432 k432 h432 n0 Z433 (f434) (f435) (f436) (V432) ((fun b cl z => (K433).2.1 b cl (keepZ b cl z) nin0)) (held_7) (hcw) (g_b430)) (by decide) (by decide) (by decide) (by decide) (g := (mkF m 31 A336 [(.ref b432), (.ref b430), (.ref b430)])) rfl (by rw [hml]; rfl) (argsL := [(.ref b432)]) (rest := [(.ref b430)]) rfl (lenOf pd_1 rfl) rfl (by show 2 * 0 + _ ≤ _; exact Nat.le_of_eq rfl) (hb hby at_31)
      obtain ⟨rfl, N437, K437_, f438, f439⟩ := hQ437
      have N437_ := Fr.app N0 N437
      have Z440 : n0 ≤ T437.heap.size := Nat.le_trans Z433 K437_.1
      have K440 : Keep h0 T437.heap [] := K433.trans K437_ (allS (Or.inr sz_b430) all0)
      refine Go.st (S' := T437.setTop (mkF m 34 A336 [(.ref b430)])) st437 ?_
      let A441 : Array Slot := #[.val (.int p0), .val (.int p1), .val (.int p2), .val (.int p3), .val (.int (1 : Int32)), .val (.ref b430), .val (.int v335), .unset]
      refine Go.st (S' := T437.setTop (mkF m 36 A441 [])) (fun t k => XS.astore X437.here hx rfl (hb hby at_34) rfl rfl (l' := A441) rfl k) ?_
      refine Go.st (S' := T437.setTop (mkF m 95 A441 [])) (fun t k => XS.goto X437.here hx rfl (pc0 := 36) (pc' := 95) rfl (hb hby at_36) (by decide) (by decide) k) ?_
      refine Go.st (S' := T437.setTop (mkF m 97 A441 [(.int (1 : Int32))])) (fun t k => XS.iload X437.here hx rfl (hb hby at_95) rfl k) ?_
      refine Go.st (S' := T437.setTop (mkF m 99 A441 [(.ref b430), (.int (1 : Int32))])) (fun t k => XS.aload X437.here hx rfl (hb hby at_97) rfl rfl k) ?_
      have no442 : ¬ (((1 : Int32) < (1 : Int32))) := by
        intro hc443
        have lI1 : (1 : Int32).toInt = 1 := by decide
        simp only [Int32.lt_iff_toInt_lt, Int64.lt_iff_toInt_lt, ← Int32.toInt_inj, ← Int64.toInt_inj] at hc443
        omega
      obtain ⟨r444, T444, L444, X444, hQ444, st444⟩ := own_callS (W := 0) X437 hx hZ rfl hown (y := (⟨"com/example/sluiceway/sluiceway/Settings", "atLeastOne", "(ILjava/lang/String;)I"⟩ : MethodName)) (hw _ (List.mem_of_getElem? (i := 27) rfl)) (hw _ (List.mem_of_getElem? (i := 28) rfl)) (hw _ (List.mem_of_getElem? (i := 29) rfl)) (hw _ (List.mem_of_getElem? (i := 30) rfl)) (by decide) (rm3 l Z a0 hw [] (1 : Int32) b430 T437.heap n0 Z440 (no442)) (by decide) (by decide) (by decide) (by decide) (g := (mkF m 99 A441 [(.ref b430), (.int (1 : Int32))])) rfl (by rw [hml]; rfl) (argsL := [(.int (1 : Int32)), (.ref b430)]) (rest := []) rfl (lenOf pd_2 rfl) rfl (by show 2 * 0 + _ ≤ _; exact Nat.le_of_eq rfl) (hb hby at_99)
      obtain ⟨hc445, rfl, N444, e444⟩ := hQ444
      have N444_ := Fr.app N437_ N444
      refine Go.st (S' := T444.setTop (mkF m 102 A441 [(.int (1 : Int32))])) st444 ?_
      let A446 : Array Slot := #[.val (.int p0), .val (.int p1), .val (.int p2), .val (.int p3), .val (.int (1 : Int32)), .val (.ref b430), .val (.int v335), .val (.int (1 : Int32))]
      refine Go.st (S' := T444.setTop (mkF m 104 A446 [])) (fun t k => XS.istore X444.here hx rfl (hb hby at_102) rfl (l' := A446) rfl k) ?_
      refine Go.st (S' := T444.setTop (mkF m 106 A446 [(.int (1 : Int32))])) (fun t k => XS.iload X444.here hx rfl (hb hby at_104) rfl k) ?_
      refine Go.st (S' := T444.setTop (mkF m 108 A446 [(.int (1 : Int32)), (.int (1 : Int32))])) (fun t k => XS.iload X444.here hx rfl (hb hby at_106) rfl k) ?_
      refine Go.st (S' := T444.setTop (mkF m 111 A446 [])) (fun t k => XS.icmpNo X444.here hx rfl (hb hby at_108) rfl (teq (by decide : ((1 : Int32) = (1 : Int32)))).2 k) ?_
      refine Go.st (S' := T444.setTop (mkF m 112 A446 [(.int (1 : Int32))])) (fun t k => XS.iconst X444.here hx rfl (hb hby at_111) k) ?_
      refine Go.st (S' := T444.setTop (mkF m 116 A446 [(.int (1 : Int32))])) (fun t k => XS.goto X444.here hx rfl (pc0 := 112) (pc' := 116) rfl (hb hby at_112) (by decide) (by decide) k) ?_
      exact Go.retW X444 hS437 (by rw [e444]; exact (Nat.le_refl _)) (v := some (.int (1 : Int32))) (fun h => by rw [Bd.returns] at h; cases h) Bd.notSynchronized (fun fs hr => retN X444 hx (t := .boolean) Bd.returns (by simp) (hb hby at_116) hr) (by decide) (by decide) ⟨rfl, N444_⟩
    · refine Go.st (S' := s₁.setTop (mkF m 39 A336 [])) (fun t k => XS.ifYes X0.here hx rfl (pc0 := 21) (pc' := 39) rfl (hb hby at_21) rfl ((if0 _ _).trans (feq hc429).2) (by decide) (by decide) k) ?_
      refine Go.st (S' := s₁.setTop (mkF m 41 A336 [(.int v335)])) (fun t k => XS.iload X0.here hx rfl (hb hby at_39) rfl k) ?_
      refine Go.st (S' := s₁.setTop (mkF m 42 A336 [(.int (1 : Int32)), (.int v335)])) (fun t k => XS.iconst X0.here hx rfl (hb hby at_41) k) ?_
      by_cases hc526 : (v335 = (1 : Int32))
      · refine Go.st (S' := s₁.setTop (mkF m 45 A336 [])) (fun t k => XS.icmpNo X0.here hx rfl (hb hby at_42) rfl (teq hc526).2 k) ?_
        refine Go.st (S' := s₁.setTop (mkF m 46 A336 [(.int p1)])) (fun t k => XS.iloadN X0.here hx rfl (hb hby at_45) rfl k) ?_
        refine Go.st (S' := s₁.setTop (mkF m 49 A336 [(.int (255 : Int32)), (.int p1)])) (fun t k => XS.sipush X0.here hx rfl (hb hby at_46) k) ?_
        refine Go.op (F := fun z => s₁.setTop (mkF m 50 A336 [(.int z)])) (x := (p1 &&& (255 : Int32))) (fun t k => XS.iand X0.here hx rfl (hb hby at_49) rfl k) ?_
        intro v527 hv527
        refine Go.op (F := fun z => s₁.setTop (mkF m 51 A336 [(.int z)])) (x := v527.toUInt32.toUInt16.toUInt32.toInt32) (fun t k => XS.i2c X0.here hx rfl (hb hby at_50) rfl k) ?_
        intro v528 hv528
        have no529 : ¬ (∃ (r530 : Int32), (¬ (s_String_COMPACT_STRINGS = (0 : Int32))) ∧ ((((255 : Int32) < v528) ∧ (r530 = (0 : Int32))) ∨ ((¬ ((255 : Int32) < v528)) ∧ (r530 = (1 : Int32)))) ∧ (r530 = (0 : Int32))) := by
          rintro ⟨r530, hc531, hc532, hc533⟩
          have rv527 := rng32 v527
          have wv527 := c_mask p1 (255 : Int32) 8 (by decide) (by decide)
          rw [← hv527] at wv527
          have rv528 := rng32 v528
          have wv528 := c_i2c v527
          rw [← hv528] at wv528
          have rp1 := rng32 p1
          have rr530 := rng32 r530
          have lI0 : (0 : Int32).toInt = 0 := by decide
          have lI1 : (1 : Int32).toInt = 1 := by decide
          have lI255 : (255 : Int32).toInt = 255 := by decide
          simp only [Int32.lt_iff_toInt_lt, Int64.lt_iff_toInt_lt, ← Int32.toInt_inj, ← Int64.toInt_inj] at hc532 hc533
          omega
        obtain ⟨r534, T534, L534, X534, hQ534, st534⟩ := own_callS (W := 0) X0 hx hZ e0 hown (y := (⟨"java/lang/String", "valueOf", "(C)Ljava/lang/String;"⟩ : MethodName)) (hw _ (List.mem_of_getElem? (i := 1) rfl)) (hw _ (List.mem_of_getElem? (i := 2) rfl)) (hw _ (List.mem_of_getElem? (i := 3) rfl)) (hw _ (List.mem_of_getElem? (i := 4) rfl)) (by decide) (rm7 l Z a0 hw [] v528 s_String_COMPACT_STRINGS h0 n0 Z0 (S_s_String_COMPACT_STRINGS) (nz_s_String_COMPACT_STRINGS) (no529)) (by decide) (by decide) (by decide) (by decide) (g := (mkF m 51 A336 [(.int v528)])) rfl (by rw [hml]; rfl) (argsL := [(.int v528)]) (rest := []) rfl (lenOf pd_6 rfl) rfl (by show 2 * 0 + _ ≤ _; exact Nat.le_of_eq rfl) (hb hby at_51)
        obtain ⟨r539, v535, v536, b537, b538, k540, hv535, hv536, hc541, hc542, hc543, rfl, N534, K534_, sz_b537_, sz_b538_, f544, f545, f546, f547, f548, hlt549⟩ := hQ534
        have N534_ := Fr.app N0 N534
        have g_b537 : n0 ≤ b537 := Nat.le_trans Z0 sz_b537_
        have sz_b537 : h0.size ≤ b537 := Nat.le_trans (Keep.refl h0 []).1 sz_b537_
        have g_b538 : n0 ≤ b538 := Nat.le_trans Z0 sz_b538_
        have sz_b538 : h0.size ≤ b538 := Nat.le_trans (Keep.refl h0 []).1 sz_b538_
        have Z550 : n0 ≤ T534.heap.size := Nat.le_trans Z0 K534_.1
        have K550 : Keep h0 T534.heap [] := (Keep.refl h0 []).trans K534_ all0
        refine Go.st (S' := T534.setTop (mkF m 54 A336 [(.ref b537)])) st534 ?_
        let A551 : Array Slot := #[.val (.int p0), .val (.int p1), .val (.int p2), .val (.int p3), .val (.int (1 : Int32)), .val (.ref b537), .val (.int v335), .unset]
        refine Go.st (S' := T534.setTop (mkF m 56 A551 [])) (fun t k => XS.astore X534.here hx rfl (hb hby at_54) rfl rfl (l' := A551) rfl k) ?_
        refine Go.st (S' := T534.setTop (mkF m 95 A551 [])) (fun t k => XS.goto X534.here hx rfl (pc0 := 56) (pc' := 95) rfl (hb hby at_56) (by decide) (by decide) k) ?_
        refine Go.st (S' := T534.setTop (mkF m 97 A551 [(.int (1 : Int32))])) (fun t k => XS.iload X534.here hx rfl (hb hby at_95) rfl k) ?_
        refine Go.st (S' := T534.setTop (mkF m 99 A551 [(.ref b537), (.int (1 : Int32))])) (fun t k => XS.aload X534.here hx rfl (hb hby at_97) rfl rfl k) ?_
        have no552 : ¬ (((1 : Int32) < (1 : Int32))) := by
          intro hc553
          have lI1 : (1 : Int32).toInt = 1 := by decide
          simp only [Int32.lt_iff_toInt_lt, Int64.lt_iff_toInt_lt, ← Int32.toInt_inj, ← Int64.toInt_inj] at hc553
          omega
        obtain ⟨r554, T554, L554, X554, hQ554, st554⟩ := own_callS (W := 0) X534 hx hZ rfl hown (y := (⟨"com/example/sluiceway/sluiceway/Settings", "atLeastOne", "(ILjava/lang/String;)I"⟩ : MethodName)) (hw _ (List.mem_of_getElem? (i := 27) rfl)) (hw _ (List.mem_of_getElem? (i := 28) rfl)) (hw _ (List.mem_of_getElem? (i := 29) rfl)) (hw _ (List.mem_of_getElem? (i := 30) rfl)) (by decide) (rm3 l Z a0 hw [] (1 : Int32) b537 T534.heap n0 Z550 (no552)) (by decide) (by decide) (by decide) (by decide) (g := (mkF m 99 A551 [(.ref b537), (.int (1 : Int32))])) rfl (by rw [hml]; rfl) (argsL := [(.int (1 : Int32)), (.ref b537)]) (rest := []) rfl (lenOf pd_2 rfl) rfl (by show 2 * 0 + _ ≤ _; exact Nat.le_of_eq rfl) (hb hby at_99)
        obtain ⟨hc555, rfl, N554, e554⟩ := hQ554
        have N554_ := Fr.app N534_ N554
        refine Go.st (S' := T554.setTop (mkF m 102 A551 [(.int (1 : Int32))])) st554 ?_
        let A556 : Array Slot := #[.val (.int p0), .val (.int p1), .val (.int p2), .val (.int p3), .val (.int (1 : Int32)), .val (.ref b537), .val (.int v335), .val (.int (1 : Int32))]
        refine Go.st (S' := T554.setTop (mkF m 104 A556 [])) (fun t k => XS.istore X554.here hx rfl (hb hby at_102) rfl (l' := A556) rfl k) ?_
        refine Go.st (S' := T554.setTop (mkF m 106 A556 [(.int (1 : Int32))])) (fun t k => XS.iload X554.here hx rfl (hb hby at_104) rfl k) ?_
        refine Go.st (S' := T554.setTop (mkF m 108 A556 [(.int (1 : Int32)), (.int (1 : Int32))])) (fun t k => XS.iload X554.here hx rfl (hb hby at_106) rfl k) ?_
        refine Go.st (S' := T554.setTop (mkF m 111 A556 [])) (fun t k => XS.icmpNo X554.here hx rfl (hb hby at_108) rfl (teq (by decide : ((1 : Int32) = (1 : Int32)))).2 k) ?_
        refine Go.st (S' := T554.setTop (mkF m 112 A556 [(.int (1 : Int32))])) (fun t k => XS.iconst X554.here hx rfl (hb hby at_111) k) ?_
        refine Go.st (S' := T554.setTop (mkF m 116 A556 [(.int (1 : Int32))])) (fun t k => XS.goto X554.here hx rfl (pc0 := 112) (pc' := 116) rfl (hb hby at_112) (by decide) (by decide) k) ?_
        exact Go.retN X554 (v := some (.int (1 : Int32))) (fun h => by rw [Bd.returns] at h; cases h) Bd.notSynchronized (fun fs hr => retN X554 hx (t := .boolean) Bd.returns (by simp) (hb hby at_116) hr) (by decide) (by decide) ⟨rfl, N554_⟩
      · refine Go.st (S' := s₁.setTop (mkF m 59 A336 [])) (fun t k => XS.icmpYes X0.here hx rfl (pc0 := 42) (pc' := 59) rfl (hb hby at_42) rfl (feq hc526).2 (by decide) (by decide) k) ?_
        refine Go.st (S' := s₁.setTop (mkF m 60 A336 [(.int (2 : Int32))])) (fun t k => XS.iconst X0.here hx rfl (hb hby at_59) k) ?_
        obtain ⟨T557, h557, k557, X557, e557, E557, A557, B557, st557⟩ := newPE X0 hx hZ (hw _ (List.mem_of_getElem? (i := 31) rfl)) e0 (g := (mkF m 60 A336 [(.int (2 : Int32))])) rfl (hb hby at_60) rfl (by decide) (cap := 2) (by decide) (by decide) (by decide) (by decide) (ad := "[C") (by decide)
        obtain ⟨b557, gg557⟩ : ∃ z, z = h0.size := ⟨_, rfl⟩
        rw [← gg557] at A557 B557 st557
        have g_b557 : n0 ≤ b557 := Nat.le_trans Z0 (Nat.le_of_eq gg557.symm)
        have sz_b557 : h0.size ≤ b557 := Nat.le_trans (Keep.refl h0 []).1 (Nat.le_of_eq gg557.symm)
        have Z558 : n0 ≤ h557.size := Nat.le_trans Z0 E557.1
        have K558 : Keep h0 h557 [] := (Keep.refl h0 []).ext E557
        have V557 : Arv Z h557 b557 k557 .char (2 : Int32) [(.int (0 : Int32)), (.int (0 : Int32))] (.int (0 : Int32)) := (Arv.new A557 (by decide)).pad (pad_rep [] (.int (0 : Int32)) 2)
        refine Go.st (S' := T557.setTop (mkF m 62 A336 [(.ref b557)])) st557 ?_
        let A559 : Array Slot := #[.val (.int p0), .val (.int p1), .val (.int p2), .val (.int p3), .val (.int (1 : Int32)), .unset, .val (.int v335), .val (.ref b557)]
        refine Go.st (S' := T557.setTop (mkF m 64 A559 [])) (fun t k => XS.astore X557.here hx rfl (hb hby at_62) rfl rfl (l' := A559) rfl k) ?_
        refine Go.st (S' := T557.setTop (mkF m 66 A559 [(.ref b557)])) (fun t k => XS.aload X557.here hx rfl (hb hby at_64) rfl rfl k) ?_
        refine Go.st (S' := T557.setTop (mkF m 67 A559 [(.int (0 : Int32)), (.ref b557)])) (fun t k => XS.iconst X557.here hx rfl (hb hby at_66) k) ?_
        refine Go.st (S' := T557.setTop (mkF m 68 A559 [(.int p1), (.int (0 : Int32)), (.ref b557)])) (fun t k => XS.iloadN X557.here hx rfl (hb hby at_67) rfl k) ?_
        refine Go.st (S' := T557.setTop (mkF m 71 A559 [(.int (255 : Int32)), (.int p1), (.int (0 : Int32)), (.ref b557)])) (fun t k => XS.sipush X557.here hx rfl (hb hby at_68) k) ?_
        refine Go.op (F := fun z => T557.setTop (mkF m 72 A559 [(.int z), (.int (0 : Int32)), (.ref b557)])) (x := (p1 &&& (255 : Int32))) (fun t k => XS.iand X557.here hx rfl (hb hby at_71) rfl k) ?_
        intro v560 hv560
        refine Go.op (F := fun z => T557.setTop (mkF m 73 A559 [(.int z), (.int (0 : Int32)), (.ref b557)])) (x := v560.toUInt32.toUInt16.toUInt32.toInt32) (fun t k => XS.i2c X557.here hx rfl (hb hby at_72) rfl k) ?_
        intro v561 hv561
        obtain ⟨cl562, Ar562, q562, S562, N562_, H562, G562⟩ := id V557
        have hin562 : ¬ ((0 : Int32) < 0 ∨ cl562.slots.size ≤ ((0 : Int32)).toNatClampNeg) := inb_of S562 ⟨by decide, by decide⟩
        obtain ⟨v563, hv563⟩ : ∃ z, z = v561.toUInt32.toUInt16.toUInt32.toInt32 := ⟨_, rfl⟩
        obtain ⟨T562, h562, X562, e562, W562, st562⟩ := stC X557 hx hZ e557 Ar562 (j := (0 : Int32)) hin562 (g := (mkF m 73 A559 [(.int v561), (.int (0 : Int32)), (.ref b557)])) rfl rfl (hb hby at_73)
        have W562 : Wr h557 h562 b557 ((0 : Int32)).toNatClampNeg (.int v563) := by rw [hv563]; exact W562
        have V562 : Arv Z h562 b557 k557 .char (2 : Int32) [(.int v563), (.int (0 : Int32))] (.int (0 : Int32)) := Arv.set Ar562 q562 S562 N562_ H562 G562 (by rw [hv563]; exact fits_nar_char _) W562 0 rfl (Nat.le_of_ble_eq_true rfl)
        have N562 := Fr.snoc X562 N0 g_b557
        have Z564 : n0 ≤ h562.size := Nat.le_trans Z558 (Keep.of_wr W562).1
        have K564 : Keep h0 h562 [] := K558.wr W562 (Or.inr sz_b557)
        refine Go.st (S' := T562.setTop (mkF m 74 A559 [])) st562 ?_
        refine Go.st (S' := T562.setTop (mkF m 76 A559 [(.ref b557)])) (fun t k => XS.aload X562.here hx rfl (hb hby at_74) rfl rfl k) ?_
        refine Go.st (S' := T562.setTop (mkF m 77 A559 [(.int (1 : Int32)), (.ref b557)])) (fun t k => XS.iconst X562.here hx rfl (hb hby at_76) k) ?_
        refine Go.st (S' := T562.setTop (mkF m 78 A559 [(.int p2), (.int (1 : Int32)), (.ref b557)])) (fun t k => XS.iloadN X562.here hx rfl (hb hby at_77) rfl k) ?_
        refine Go.st (S' := T562.setTop (mkF m 81 A559 [(.int (255 : Int32)), (.int p2), (.int (1 : Int32)), (.ref b557)])) (fun t k => XS.sipush X562.here hx rfl (hb hby at_78) k) ?_
        refine Go.op (F := fun z => T562.setTop (mkF m 82 A559 [(.int z), (.int (1 : Int32)), (.ref b557)])) (x := (p2 &&& (255 : Int32))) (fun t k => XS.iand X562.here hx rfl (hb hby at_81) rfl k) ?_
        intro v565 hv565
        refine Go.op (F := fun z => T562.setTop (mkF m 83 A559 [(.int z), (.int (1 : Int32)), (.ref b557)])) (x := v565.toUInt32.toUInt16.toUInt32.toInt32) (fun t k => XS.i2c X562.here hx rfl (hb hby at_82) rfl k) ?_
        intro v566 hv566
        obtain ⟨cl567, Ar567, q567, S567, N567_, H567, G567⟩ := id V562
        have hin567 : ¬ ((1 : Int32) < 0 ∨ cl567.slots.size ≤ ((1 : Int32)).toNatClampNeg) := inb_of S567 ⟨by decide, by decide⟩
        obtain ⟨v568, hv568⟩ : ∃ z, z = v566.toUInt32.toUInt16.toUInt32.toInt32 := ⟨_, rfl⟩
        obtain ⟨T567, h567, X567, e567, W567, st567⟩ := stC X562 hx hZ e562 Ar567 (j := (1 : Int32)) hin567 (g := (mkF m 83 A559 [(.int v566), (.int (1 : Int32)), (.ref b557)])) rfl rfl (hb hby at_83)
        have W567 : Wr h562 h567 b557 ((1 : Int32)).toNatClampNeg (.int v568) := by rw [hv568]; exact W567
        have V567 : Arv Z h567 b557 k557 .char (2 : Int32) [(.int v563), (.int v568)] (.int (0 : Int32)) := Arv.set Ar567 q567 S567 N567_ H567 G567 (by rw [hv568]; exact fits_nar_char _) W567 1 rfl (Nat.le_of_ble_eq_true rfl)
        have N567 := Fr.snoc X567 N562 g_b557
        have Z569 : n0 ≤ h567.size := Nat.le_trans Z564 (Keep.of_wr W567).1
        have K569 : Keep h0 h567 [] := K564.wr W567 (Or.inr sz_b557)
        refine Go.st (S' := T567.setTop (mkF m 84 A559 [])) st567 ?_
        obtain ⟨T570, h570, X570, e570, E570, A570, D570, -, st570⟩ := newO X567 hx hZ hown (hw _ (List.mem_of_getElem? (i := 32) rfl)) (hw _ (List.mem_of_getElem? (i := 11) rfl)) (hw _ (List.mem_of_getElem? (i := 3) rfl)) e567 (g := (mkF m 84 A559 [])) rfl (hb hby at_84) (by decide) (by decide)
        obtain ⟨b570, gg570⟩ : ∃ z, z = h567.size := ⟨_, rfl⟩
        rw [← gg570] at A570 D570 st570
        have g_b570 : n0 ≤ b570 := Nat.le_trans Z569 (Nat.le_of_eq gg570.symm)
        have sz_b570 : h0.size ≤ b570 := Nat.le_trans K569.1 (Nat.le_of_eq gg570.symm)
        have f571 := ((((B557).wr W562)).wr W567)
        have lt_b557_b570 : b557 < b570 := Nat.lt_of_lt_of_le (f571).lt (Nat.le_of_eq gg570.symm)
        have Z572 : n0 ≤ h570.size := Nat.le_trans Z569 E570.1
        have K572 : Keep h0 h570 [] := K569.ext E570
        have Fb570_value : Fld Z h570 b570 "java/lang/String" "value" "[B" .null := D570 (Or.inr (hw _ (List.mem_of_getElem? (i := 24) rfl))) (ty := (.array .byte)) (by decide)
        have Fb570_coder : Fld Z h570 b570 "java/lang/String" "coder" "B" (.int (0 : Int32)) := D570 (Or.inr (hw _ (List.mem_of_getElem? (i := 26) rfl))) (ty := .byte) (by decide)
        refine Go.st (S' := T570.setTop (mkF m 87 A559 [(.ref b570)])) st570 ?_
        refine Go.st (S' := T570.setTop (mkF m 88 A559 [(.ref b570), (.ref b570)])) (fun t k => XS.dup X570.here hx rfl (hb hby at_87) rfl rfl k) ?_
        refine Go.st (S' := T570.setTop (mkF m 90 A559 [(.ref b557), (.ref b570), (.ref b570)])) (fun t k => XS.aload X570.here hx rfl (hb hby at_88) rfl rfl k) ?_
        have f574 := ((V567).ext E570)
        have f575 := (Sta.ext E570 ((Sta.wr W567 ((Sta.wr W562 ((Sta.ext E557 (S_s_String_COMPACT_STRINGS))))))))
        have no576 : ¬ (∃ (r577 : Int32) (r578 : Int32) (r579 : Int32) (v580 : Int32) (v581 : Int32) (v582 : Int32) (v583 : Int32), v580 = v563.toInt8.toInt32 ∧ v581 = v580.toInt8.toInt32 ∧ v582 = v568.toInt8.toInt32 ∧ v583 = v582.toInt8.toInt32 ∧ (¬ (s_String_COMPACT_STRINGS = (0 : Int32))) ∧ (¬ (s_String_COMPACT_STRINGS = (0 : Int32))) ∧ ((((255 : Int32) < v563) ∧ (r577 = (0 : Int32)) ∧ (r578 = (0 : Int32)) ∧ (r579 = (0 : Int32))) ∨ ((¬ ((255 : Int32) < v563)) ∧ ((255 : Int32) < v568) ∧ (r577 = (1 : Int32)) ∧ (r578 = v581) ∧ (r579 = (0 : Int32))) ∨ ((¬ ((255 : Int32) < v563)) ∧ (¬ ((255 : Int32) < v568)) ∧ (r577 = (2 : Int32)) ∧ (r578 = v581) ∧ (r579 = v583))) ∧ (¬ (r577 = (2 : Int32)))) := by
          rintro ⟨r577, r578, r579, v580, v581, v582, v583, hv580, hv581, hv582, hv583, hc584, hc585, hc586, hc587⟩
          have rv560 := rng32 v560
          have wv560 := c_mask p1 (255 : Int32) 8 (by decide) (by decide)
          rw [← hv560] at wv560
          have rv561 := rng32 v561
          have wv561 := c_i2c v560
          rw [← hv561] at wv561
          have rv563 := rng32 v563
          have wv563 := c_i2c v561
          rw [← hv563] at wv563
          have rv565 := rng32 v565
          have wv565 := c_mask p2 (255 : Int32) 8 (by decide) (by decide)
          rw [← hv565] at wv565
          have rv566 := rng32 v566
          have wv566 := c_i2c v565
          rw [← hv566] at wv566
          have rv568 := rng32 v568
          have wv568 := c_i2c v566
          rw [← hv568] at wv568
          have rv580 := rng32 v580
          have wv580 := c_i2b v563
          rw [← hv580] at wv580
          have rv581 := rng32 v581
          have wv581 := c_i2b v580
          rw [← hv581] at wv581
          have rv582 := rng32 v582
          have wv582 := c_i2b v568
          rw [← hv582] at wv582
          have rv583 := rng32 v583
          have wv583 := c_i2b v582
          rw [← hv583] at wv583
          have rp1 := rng32 p1
          have rp2 := rng32 p2
          have rr577 := rng32 r577
          have rr578 := rng32 r578
          have rr579 := rng32 r579
          have lI0 : (0 : Int32).toInt = 0 := by decide
          have lI1 : (1 : Int32).toInt = 1 := by decide
          have lI2 : (2 : Int32).toInt = 2 := by decide
          have lI255 : (255 : Int32).toInt = 255 := by decide
          simp only [Int32.lt_iff_toInt_lt, Int64.lt_iff_toInt_lt, ← Int32.toInt_inj, ← Int64.toInt_inj] at hc586 hc587
          omega
        obtain ⟨r588, T588, L588, X588, hQ588, hS588, hZ, hown, st588⟩ := own_callIW (W := 1) (a := b570) X570 hx hZH e570 hown (y := (⟨"java/lang/String", "<init>", "([C)V"⟩ : MethodName)) rfl (hw _ (List.mem_of_getElem? (i := 33) rfl)) (hw _ (List.mem_of_getElem? (i := 34) rfl)) (hw _ (List.mem_of_getElem? (i := 3) rfl)) (hw _ (List.mem_of_getElem? (i := 35) rfl)) (by decide) (rm12 l Z a0 hw [] b570 b557 k557 v563 v568 s_String_COMPACT_STRINGS h570 n0 Z572 (f574) (A570) (Fb570_coder) (Fb570_value) (f575) (nz_s_String_COMPACT_STRINGS) (no576) (g_b570)) (by decide) (by decide) (by decide) (by decide) (g := (mkF m 90 A559 [(.ref b557), (.ref b570), (.ref b570)])) rfl (by rw [hml]; rfl) (argsL := [(.ref b557)]) (rest := [(.ref b570)]) rfl (lenOf pd_1 rfl) rfl (by show 2 * 0 + _ ≤ _; exact Nat.le_of_eq rfl) (hb hby at_90)
        obtain ⟨r594, r595, r596, v589, v590, v591, v592, b593, k597, hv589, hv590, hv591, hv592, hc598, hc599, hc600, hc601, rfl, N588, K588_, sz_b593_, f602, f603, f604, f605, f606⟩ := hQ588
        have N588_ := Fr.app N567 N588
        have g_b593 : n0 ≤ b593 := Nat.le_trans Z572 sz_b593_
        have sz_b593 : h0.size ≤ b593 := Nat.le_trans K572.1 sz_b593_
        have f607 := ((f571).ext E570)
        have lt_b557_b593 : b557 < b593 := Nat.lt_of_lt_of_le (f607).lt sz_b593_
        have lt_b570_b593 : b570 < b593 := Nat.lt_of_lt_of_le (A570).lt sz_b593_
        have Z608 : n0 ≤ T588.heap.size := Nat.le_trans Z572 K588_.1
        have K608 : Keep h0 T588.heap [] := K572.trans K588_ (allS (Or.inr sz_b570) all0)
        refine Go.st (S' := T588.setTop (mkF m 93 A559 [(.ref b570)])) st588 ?_
        let A609 : Array Slot := #[.val (.int p0), .val (.int p1), .val (.int p2), .val (.int p3), .val (.int (1 : Int32)), .val (.ref b570), .val (.int v335), .val (.ref b557)]
        refine Go.st (S' := T588.setTop (mkF m 95 A609 [])) (fun t k => XS.astore X588.here hx rfl (hb hby at_93) rfl rfl (l' := A609) rfl k) ?_
        refine Go.st (S' := T588.setTop (mkF m 97 A609 [(.int (1 : Int32))])) (fun t k => XS.iload X588.here hx rfl (hb hby at_95) rfl k) ?_
        refine Go.st (S' := T588.setTop (mkF m 99 A609 [(.ref b570), (.int (1 : Int32))])) (fun t k => XS.aload X588.here hx rfl (hb hby at_97) rfl rfl k) ?_
        have no610 : ¬ (((1 : Int32) < (1 : Int32))) := by
          intro hc611
          have lI1 : (1 : Int32).toInt = 1 := by decide
          simp only [Int32.lt_iff_toInt_lt, Int64.lt_iff_toInt_lt, ← Int32.toInt_inj, ← Int64.toInt_inj] at hc611
          omega
        obtain ⟨r612, T612, L612, X612, hQ612, st612⟩ := own_callS (W := 0) X588 hx hZ rfl hown (y := (⟨"com/example/sluiceway/sluiceway/Settings", "atLeastOne", "(ILjava/lang/String;)I"⟩ : MethodName)) (hw _ (List.mem_of_getElem? (i := 27) rfl)) (hw _ (List.mem_of_getElem? (i := 28) rfl)) (hw _ (List.mem_of_getElem? (i := 29) rfl)) (hw _ (List.mem_of_getElem? (i := 30) rfl)) (by decide) (rm3 l Z a0 hw [] (1 : Int32) b570 T588.heap n0 Z608 (no610)) (by decide) (by decide) (by decide) (by decide) (g := (mkF m 99 A609 [(.ref b570), (.int (1 : Int32))])) rfl (by rw [hml]; rfl) (argsL := [(.int (1 : Int32)), (.ref b570)]) (rest := []) rfl (lenOf pd_2 rfl) rfl (by show 2 * 0 + _ ≤ _; exact Nat.le_of_eq rfl) (hb hby at_99)
        obtain ⟨hc613, rfl, N612, e612⟩ := hQ612
        have N612_ := Fr.app N588_ N612
        refine Go.st (S' := T612.setTop (mkF m 102 A609 [(.int (1 : Int32))])) st612 ?_
        let A614 : Array Slot := #[.val (.int p0), .val (.int p1), .val (.int p2), .val (.int p3), .val (.int (1 : Int32)), .val (.ref b570), .val (.int v335), .val (.int (1 : Int32))]
        refine Go.st (S' := T612.setTop (mkF m 104 A614 [])) (fun t k => XS.istore X612.here hx rfl (hb hby at_102) rfl (l' := A614) rfl k) ?_
        refine Go.st (S' := T612.setTop (mkF m 106 A614 [(.int (1 : Int32))])) (fun t k => XS.iload X612.here hx rfl (hb hby at_104) rfl k) ?_
        refine Go.st (S' := T612.setTop (mkF m 108 A614 [(.int (1 : Int32)), (.int (1 : Int32))])) (fun t k => XS.iload X612.here hx rfl (hb hby at_106) rfl k) ?_
        refine Go.st (S' := T612.setTop (mkF m 111 A614 [])) (fun t k => XS.icmpNo X612.here hx rfl (hb hby at_108) rfl (teq (by decide : ((1 : Int32) = (1 : Int32)))).2 k) ?_
        refine Go.st (S' := T612.setTop (mkF m 112 A614 [(.int (1 : Int32))])) (fun t k => XS.iconst X612.here hx rfl (hb hby at_111) k) ?_
        refine Go.st (S' := T612.setTop (mkF m 116 A614 [(.int (1 : Int32))])) (fun t k => XS.goto X612.here hx rfl (pc0 := 112) (pc' := 116) rfl (hb hby at_112) (by decide) (by decide) k) ?_
        exact Go.retW X612 hS588 (by rw [e612]; exact (Nat.le_refl _)) (v := some (.int (1 : Int32))) (fun h => by rw [Bd.returns] at h; cases h) Bd.notSynchronized (fun fs hr => retN X612 hx (t := .boolean) Bd.returns (by simp) (hb hby at_116) hr) (by decide) (by decide) ⟨rfl, N612_⟩
  · refine Go.st (S' := s₁.setTop (mkF m 14 A3 [])) (fun t k => XS.ifYes X0.here hx rfl (pc0 := 8) (pc' := 14) rfl (hb hby at_8) rfl ((if0 _ _).trans (feq hc333).2) (by decide) (by decide) k) ?_
    refine Go.st (S' := s₁.setTop (mkF m 15 A3 [(.int p3)])) (fun t k => XS.iloadN X0.here hx rfl (hb hby at_14) rfl k) ?_
    refine Go.st (S' := s₁.setTop (mkF m 16 A3 [(.int (3 : Int32)), (.int p3)])) (fun t k => XS.iconst X0.here hx rfl (hb hby at_15) k) ?_
    refine Go.op (F := fun z => s₁.setTop (mkF m 17 A3 [(.int z)])) (x := (p3 &&& (3 : Int32))) (fun t k => XS.iand X0.here hx rfl (hb hby at_16) rfl k) ?_
    intro v615 hv615
    let A616 : Array Slot := #[.val (.int p0), .val (.int p1), .val (.int p2), .val (.int p3), .val (.int v2), .unset, .val (.int v615), .unset]
    refine Go.st (S' := s₁.setTop (mkF m 19 A616 [])) (fun t k => XS.istore X0.here hx rfl (hb hby at_17) rfl (l' := A616) rfl k) ?_
    refine Go.st (S' := s₁.setTop (mkF m 21 A616 [(.int v615)])) (fun t k => XS.iload X0.here hx rfl (hb hby at_19) rfl k) ?_
    by_cases hc709 : (v615 = (0 : Int32))
    · refine Go.st (S' := s₁.setTop (mkF m 24 A616 [])) (fun t k => XS.ifNo X0.here hx rfl (hb hby at_21) rfl ((if0 _ _).trans (teq hc709).2) k) ?_
      obtain ⟨T710, h710, X710, e710, E710, A710, D710, -, st710⟩ := newO X0 hx hZ hown (hw _ (List.mem_of_getElem? (i := 32) rfl)) (hw _ (List.mem_of_getElem? (i := 11) rfl)) (hw _ (List.mem_of_getElem? (i := 3) rfl)) e0 (g := (mkF m 24 A616 [])) rfl (hb hby at_24) (by decide) (by decide)
      obtain ⟨b710, gg710⟩ : ∃ z, z = h0.size := ⟨_, rfl⟩
      rw [← gg710] at A710 D710 st710
      have g_b710 : n0 ≤ b710 := Nat.le_trans Z0 (Nat.le_of_eq gg710.symm)
      have sz_b710 : h0.size ≤ b710 := Nat.le_trans (Keep.refl h0 []).1 (Nat.le_of_eq gg710.symm)
      have Z711 : n0 ≤ h710.size := Nat.le_trans Z0 E710.1
      have K711 : Keep h0 h710 [] := (Keep.refl h0 []).ext E710
      have Fb710_value : Fld Z h710 b710 "java/lang/String" "value" "[B" .null := D710 (Or.inr (hw _ (List.mem_of_getElem? (i := 24) rfl))) (ty := (.array .byte)) (by decide)
      have Fb710_coder : Fld Z h710 b710 "java/lang/String" "coder" "B" (.int (0 : Int32)) := D710 (Or.inr (hw _ (List.mem_of_getElem? (i := 26) rfl))) (ty := .byte) (by decide)
      refine Go.st (S' := T710.setTop (mkF m 27 A616 [(.ref b710)])) st710 ?_
      refine Go.st (S' := T710.setTop (mkF m 28 A616 [(.ref b710), (.ref b710)])) (fun t k => XS.dup X710.here hx rfl (hb hby at_27) rfl rfl k) ?_
      refine Go.st (S' := T710.setTop (mkF m 29 A616 [(.int (0 : Int32)), (.ref b710), (.ref b710)])) (fun t k => XS.iconst X710.here hx rfl (hb hby at_28) k) ?_
      obtain ⟨T712, h712, k712, X712, e712, E712, A712, B712, st712⟩ := newPE X710 hx hZ (hw _ (List.mem_of_getElem? (i := 31) rfl)) e710 (g := (mkF m 29 A616 [(.int (0 : Int32)), (.ref b710), (.ref b710)])) rfl (hb hby at_29) rfl (by decide) (cap := 0) (by decide) (by decide) (by decide) (by decide) (ad := "[C") (by decide)
      obtain ⟨b712, gg712⟩ : ∃ z, z = h710.size := ⟨_, rfl⟩
      rw [← gg712] at A712 B712 st712
      have g_b712 : n0 ≤ b712 := Nat.le_trans Z711 (Nat.le_of_eq gg712.symm)
      have sz_b712 : h0.size ≤ b712 := Nat.le_trans K711.1 (Nat.le_of_eq gg712.symm)
      have lt_b710_b712 : b710 < b712 := Nat.lt_of_lt_of_le (A710).lt (Nat.le_of_eq gg712.symm)
      have Z713 : n0 ≤ h712.size := Nat.le_trans Z711 E712.1
      have K713 : Keep h0 h712 [] := K711.ext E712
      have V712 : Arv Z h712 b712 k712 .char (0 : Int32) [] (.int (0 : Int32)) := (Arv.new A712 (by decide)).pad (pad_rep [] (.int (0 : Int32)) 0)
      refine Go.st (S' := T712.setTop (mkF m 31 A616 [(.ref b712), (.ref b710), (.ref b710)])) st712 ?_
      have f714 := ((A710).ext E712)
      have f715 := ((Fb710_value).ext E712)
      have f716 := ((Fb710_coder).ext E712)
      obtain ⟨r717, T717, L717, X717, hQ717, hS717, hZ, hown, st717⟩ := own_callIW (W := 1) (a := b710) X712 hx hZH e712 hown (y := (⟨"java/lang/String", "<init>", "([C)V"⟩ : MethodName)) rfl (hw _ (List.mem_of_getElem? (i := 33) rfl)) (hw _ (List.mem_of_getElem? (i := 34) rfl)) (hw _ (List.mem_of_getElem? (i := 3) rfl)) (hw _ (List.mem_of_getElem? (i := 35) rfl)) (by decide) (rm2 l Z a0 hw [] b710 b712 k712 h712 n0 Z713 (f714) (f715) (f716) (V712) ((fun b cl z => (K713).2.1 b cl (keepZ b cl z) nin0)) (held_7) (hcw) (g_b710)) (by decide) (by decide) (by decide) (by decide) (g := (mkF m 31 A616 [(.ref b712), (.ref b710), (.ref b710)])) rfl (by rw [hml]; rfl) (argsL := [(.ref b712)]) (rest := [(.ref b710)]) rfl (lenOf pd_1 rfl) rfl (by show 2 * 0 + _ ≤ _; exact Nat.le_of_eq rfl) (hb hby at_31)
      obtain ⟨rfl, N717, K717_, f718, f719⟩ := hQ717
      have N717_ := Fr.app N0 N717
      have Z720 : n0 ≤ T717.heap.size := Nat.le_trans Z713 K717_.1
      have K720 : Keep h0 T717.heap [] := K713.trans K717_ (allS (Or.inr sz_b710) all0)
      refine Go.st (S' := T717.setTop (mkF m 34 A616 [(.ref b710)])) st717 ?_
      let A721 : Array Slot := #[.val (.int p0), .val (.int p1), .val (.int p2), .val (.int p3), .val (.int v2), .val (.ref b710), .val (.int v615), .unset]
      refine Go.st (S' := T717.setTop (mkF m 36 A721 [])) (fun t k => XS.astore X717.here hx rfl (hb hby at_34) rfl rfl (l' := A721) rfl k) ?_
      refine Go.st (S' := T717.setTop (mkF m 95 A721 [])) (fun t k => XS.goto X717.here hx rfl (pc0 := 36) (pc' := 95) rfl (hb hby at_36) (by decide) (by decide) k) ?_
      refine Go.st (S' := T717.setTop (mkF m 97 A721 [(.int v2)])) (fun t k => XS.iload X717.here hx rfl (hb hby at_95) rfl k) ?_
      refine Go.st (S' := T717.setTop (mkF m 99 A721 [(.ref b710), (.int v2)])) (fun t k => XS.aload X717.here hx rfl (hb hby at_97) rfl rfl k) ?_
      have no722 : ¬ ((v2 < (1 : Int32))) := by
        intro hc723
        have rv2 := rng32 v2
        have wv2 := c_mask p0 (2147483647 : Int32) 31 (by decide) (by decide)
        rw [← hv2] at wv2
        have rp0 := rng32 p0
        have lI0 : (0 : Int32).toInt = 0 := by decide
        have lI1 : (1 : Int32).toInt = 1 := by decide
        have lI2147483647 : (2147483647 : Int32).toInt = 2147483647 := by decide
        simp only [Int32.lt_iff_toInt_lt, Int64.lt_iff_toInt_lt, ← Int32.toInt_inj, ← Int64.toInt_inj] at hc333 hc723
        omega
      obtain ⟨r724, T724, L724, X724, hQ724, st724⟩ := own_callS (W := 0) X717 hx hZ rfl hown (y := (⟨"com/example/sluiceway/sluiceway/Settings", "atLeastOne", "(ILjava/lang/String;)I"⟩ : MethodName)) (hw _ (List.mem_of_getElem? (i := 27) rfl)) (hw _ (List.mem_of_getElem? (i := 28) rfl)) (hw _ (List.mem_of_getElem? (i := 29) rfl)) (hw _ (List.mem_of_getElem? (i := 30) rfl)) (by decide) (rm3 l Z a0 hw [] v2 b710 T717.heap n0 Z720 (no722)) (by decide) (by decide) (by decide) (by decide) (g := (mkF m 99 A721 [(.ref b710), (.int v2)])) rfl (by rw [hml]; rfl) (argsL := [(.int v2), (.ref b710)]) (rest := []) rfl (lenOf pd_2 rfl) rfl (by show 2 * 0 + _ ≤ _; exact Nat.le_of_eq rfl) (hb hby at_99)
      obtain ⟨hc725, rfl, N724, e724⟩ := hQ724
      have N724_ := Fr.app N717_ N724
      refine Go.st (S' := T724.setTop (mkF m 102 A721 [(.int v2)])) st724 ?_
      let A726 : Array Slot := #[.val (.int p0), .val (.int p1), .val (.int p2), .val (.int p3), .val (.int v2), .val (.ref b710), .val (.int v615), .val (.int v2)]
      refine Go.st (S' := T724.setTop (mkF m 104 A726 [])) (fun t k => XS.istore X724.here hx rfl (hb hby at_102) rfl (l' := A726) rfl k) ?_
      refine Go.st (S' := T724.setTop (mkF m 106 A726 [(.int v2)])) (fun t k => XS.iload X724.here hx rfl (hb hby at_104) rfl k) ?_
      refine Go.st (S' := T724.setTop (mkF m 108 A726 [(.int v2), (.int v2)])) (fun t k => XS.iload X724.here hx rfl (hb hby at_106) rfl k) ?_
      refine Go.st (S' := T724.setTop (mkF m 111 A726 [])) (fun t k => XS.icmpNo X724.here hx rfl (hb hby at_108) rfl (teq (rfl : v2 = v2)).2 k) ?_
      refine Go.st (S' := T724.setTop (mkF m 112 A726 [(.int (1 : Int32))])) (fun t k => XS.iconst X724.here hx rfl (hb hby at_111) k) ?_
      refine Go.st (S' := T724.setTop (mkF m 116 A726 [(.int (1 : Int32))])) (fun t k => XS.goto X724.here hx rfl (pc0 := 112) (pc' := 116) rfl (hb hby at_112) (by decide) (by decide) k) ?_
      exact Go.retW X724 hS717 (by rw [e724]; exact (Nat.le_refl _)) (v := some (.int (1 : Int32))) (fun h => by rw [Bd.returns] at h; cases h) Bd.notSynchronized (fun fs hr => retN X724 hx (t := .boolean) Bd.returns (by simp) (hb hby at_116) hr) (by decide) (by decide) ⟨rfl, N724_⟩
    · refine Go.st (S' := s₁.setTop (mkF m 39 A616 [])) (fun t k => XS.ifYes X0.here hx rfl (pc0 := 21) (pc' := 39) rfl (hb hby at_21) rfl ((if0 _ _).trans (feq hc709).2) (by decide) (by decide) k) ?_
      refine Go.st (S' := s₁.setTop (mkF m 41 A616 [(.int v615)])) (fun t k => XS.iload X0.here hx rfl (hb hby at_39) rfl k) ?_
      refine Go.st (S' := s₁.setTop (mkF m 42 A616 [(.int (1 : Int32)), (.int v615)])) (fun t k => XS.iconst X0.here hx rfl (hb hby at_41) k) ?_
      by_cases hc806 : (v615 = (1 : Int32))
      · refine Go.st (S' := s₁.setTop (mkF m 45 A616 [])) (fun t k => XS.icmpNo X0.here hx rfl (hb hby at_42) rfl (teq hc806).2 k) ?_
        refine Go.st (S' := s₁.setTop (mkF m 46 A616 [(.int p1)])) (fun t k => XS.iloadN X0.here hx rfl (hb hby at_45) rfl k) ?_
        refine Go.st (S' := s₁.setTop (mkF m 49 A616 [(.int (255 : Int32)), (.int p1)])) (fun t k => XS.sipush X0.here hx rfl (hb hby at_46) k) ?_
        refine Go.op (F := fun z => s₁.setTop (mkF m 50 A616 [(.int z)])) (x := (p1 &&& (255 : Int32))) (fun t k => XS.iand X0.here hx rfl (hb hby at_49) rfl k) ?_
        intro v807 hv807
        refine Go.op (F := fun z => s₁.setTop (mkF m 51 A616 [(.int z)])) (x := v807.toUInt32.toUInt16.toUInt32.toInt32) (fun t k => XS.i2c X0.here hx rfl (hb hby at_50) rfl k) ?_
        intro v808 hv808
        have no809 : ¬ (∃ (r810 : Int32), (¬ (s_String_COMPACT_STRINGS = (0 : Int32))) ∧ ((((255 : Int32) < v808) ∧ (r810 = (0 : Int32))) ∨ ((¬ ((255 : Int32) < v808)) ∧ (r810 = (1 : Int32)))) ∧ (r810 = (0 : Int32))) := by
          rintro ⟨r810, hc811, hc812, hc813⟩
          have rv807 := rng32 v807
          have wv807 := c_mask p1 (255 : Int32) 8 (by decide) (by decide)
          rw [← hv807] at wv807
          have rv808 := rng32 v808
          have wv808 := c_i2c v807
          rw [← hv808] at wv808
          have rp1 := rng32 p1
          have rr810 := rng32 r810
          have lI0 : (0 : Int32).toInt = 0 := by decide
          have lI1 : (1 : Int32).toInt = 1 := by decide
          have lI255 : (255 : Int32).toInt = 255 := by decide
          simp only [Int32.lt_iff_toInt_lt, Int64.lt_iff_toInt_lt, ← Int32.toInt_inj, ← Int64.toInt_inj] at hc812 hc813
          omega
        obtain ⟨r814, T814, L814, X814, hQ814, st814⟩ := own_callS (W := 0) X0 hx hZ e0 hown (y := (⟨"java/lang/String", "valueOf", "(C)Ljava/lang/String;"⟩ : MethodName)) (hw _ (List.mem_of_getElem? (i := 1) rfl)) (hw _ (List.mem_of_getElem? (i := 2) rfl)) (hw _ (List.mem_of_getElem? (i := 3) rfl)) (hw _ (List.mem_of_getElem? (i := 4) rfl)) (by decide) (rm7 l Z a0 hw [] v808 s_String_COMPACT_STRINGS h0 n0 Z0 (S_s_String_COMPACT_STRINGS) (nz_s_String_COMPACT_STRINGS) (no809)) (by decide) (by decide) (by decide) (by decide) (g := (mkF m 51 A616 [(.int v808)])) rfl (by rw [hml]; rfl) (argsL := [(.int v808)]) (rest := []) rfl (lenOf pd_6 rfl) rfl (by show 2 * 0 + _ ≤ _; exact Nat.le_of_eq rfl) (hb hby at_51)
        obtain ⟨r819, v815, v816, b817, b818, k820, hv815, hv816, hc821, hc822, hc823, rfl, N814, K814_, sz_b817_, sz_b818_, f824, f825, f826, f827, f828, hlt829⟩ := hQ814
        have N814_ := Fr.app N0 N814
        have g_b817 : n0 ≤ b817 := Nat.le_trans Z0 sz_b817_
        have sz_b817 : h0.size ≤ b817 := Nat.le_trans (Keep.refl h0 []).1 sz_b817_
        have g_b818 : n0 ≤ b818 := Nat.le_trans Z0 sz_b818_
        have sz_b818 : h0.size ≤ b818 := Nat.le_trans (Keep.refl h0 []).1 sz_b818_
        have Z830 : n0 ≤ T814.heap.size := Nat.le_trans Z0 K814_.1
        have K830 : Keep h0 T814.heap [] := (Keep.refl h0 []).trans K814_ all0
        refine Go.st (S' := T814.setTop (mkF m 54 A616 [(.ref b817)])) st814 ?_
        let A831 : Array Slot := #[.val (.int p0), .val (.int p1), .val (.int p2), .val (.int p3), .val (.int v2), .val (.ref b817), .val (.int v615), .unset]
        refine Go.st (S' := T814.setTop (mkF m 56 A831 [])) (fun t k => XS.astore X814.here hx rfl (hb hby at_54) rfl rfl (l' := A831) rfl k) ?_
        refine Go.st (S' := T814.setTop (mkF m 95 A831 [])) (fun t k => XS.goto X814.here hx rfl (pc0 := 56) (pc' := 95) rfl (hb hby at_56) (by decide) (by decide) k) ?_
        refine Go.st (S' := T814.setTop (mkF m 97 A831 [(.int v2)])) (fun t k => XS.iload X814.here hx rfl (hb hby at_95) rfl k) ?_
        refine Go.st (S' := T814.setTop (mkF m 99 A831 [(.ref b817), (.int v2)])) (fun t k => XS.aload X814.here hx rfl (hb hby at_97) rfl rfl k) ?_
        have no832 : ¬ ((v2 < (1 : Int32))) := by
          intro hc833
          have rv2 := rng32 v2
          have wv2 := c_mask p0 (2147483647 : Int32) 31 (by decide) (by decide)
          rw [← hv2] at wv2
          have rp0 := rng32 p0
          have lI0 : (0 : Int32).toInt = 0 := by decide
          have lI1 : (1 : Int32).toInt = 1 := by decide
          have lI2147483647 : (2147483647 : Int32).toInt = 2147483647 := by decide
          simp only [Int32.lt_iff_toInt_lt, Int64.lt_iff_toInt_lt, ← Int32.toInt_inj, ← Int64.toInt_inj] at hc333 hc833
          omega
        obtain ⟨r834, T834, L834, X834, hQ834, st834⟩ := own_callS (W := 0) X814 hx hZ rfl hown (y := (⟨"com/example/sluiceway/sluiceway/Settings", "atLeastOne", "(ILjava/lang/String;)I"⟩ : MethodName)) (hw _ (List.mem_of_getElem? (i := 27) rfl)) (hw _ (List.mem_of_getElem? (i := 28) rfl)) (hw _ (List.mem_of_getElem? (i := 29) rfl)) (hw _ (List.mem_of_getElem? (i := 30) rfl)) (by decide) (rm3 l Z a0 hw [] v2 b817 T814.heap n0 Z830 (no832)) (by decide) (by decide) (by decide) (by decide) (g := (mkF m 99 A831 [(.ref b817), (.int v2)])) rfl (by rw [hml]; rfl) (argsL := [(.int v2), (.ref b817)]) (rest := []) rfl (lenOf pd_2 rfl) rfl (by show 2 * 0 + _ ≤ _; exact Nat.le_of_eq rfl) (hb hby at_99)
        obtain ⟨hc835, rfl, N834, e834⟩ := hQ834
        have N834_ := Fr.app N814_ N834
        refine Go.st (S' := T834.setTop (mkF m 102 A831 [(.int v2)])) st834 ?_
        let A836 : Array Slot := #[.val (.int p0), .val (.int p1), .val (.int p2), .val (.int p3), .val (.int v2), .val (.ref b817), .val (.int v615), .val (.int v2)]
        refine Go.st (S' := T834.setTop (mkF m 104 A836 [])) (fun t k => XS.istore X834.here hx rfl (hb hby at_102) rfl (l' := A836) rfl k) ?_
        refine Go.st (S' := T834.setTop (mkF m 106 A836 [(.int v2)])) (fun t k => XS.iload X834.here hx rfl (hb hby at_104) rfl k) ?_
        refine Go.st (S' := T834.setTop (mkF m 108 A836 [(.int v2), (.int v2)])) (fun t k => XS.iload X834.here hx rfl (hb hby at_106) rfl k) ?_
        refine Go.st (S' := T834.setTop (mkF m 111 A836 [])) (fun t k => XS.icmpNo X834.here hx rfl (hb hby at_108) rfl (teq (rfl : v2 = v2)).2 k) ?_
        refine Go.st (S' := T834.setTop (mkF m 112 A836 [(.int (1 : Int32))])) (fun t k => XS.iconst X834.here hx rfl (hb hby at_111) k) ?_
        refine Go.st (S' := T834.setTop (mkF m 116 A836 [(.int (1 : Int32))])) (fun t k => XS.goto X834.here hx rfl (pc0 := 112) (pc' := 116) rfl (hb hby at_112) (by decide) (by decide) k) ?_
        exact Go.retN X834 (v := some (.int (1 : Int32))) (fun h => by rw [Bd.returns] at h; cases h) Bd.notSynchronized (fun fs hr => retN X834 hx (t := .boolean) Bd.returns (by simp) (hb hby at_116) hr) (by decide) (by decide) ⟨rfl, N834_⟩
      · refine Go.st (S' := s₁.setTop (mkF m 59 A616 [])) (fun t k => XS.icmpYes X0.here hx rfl (pc0 := 42) (pc' := 59) rfl (hb hby at_42) rfl (feq hc806).2 (by decide) (by decide) k) ?_
        refine Go.st (S' := s₁.setTop (mkF m 60 A616 [(.int (2 : Int32))])) (fun t k => XS.iconst X0.here hx rfl (hb hby at_59) k) ?_
        obtain ⟨T837, h837, k837, X837, e837, E837, A837, B837, st837⟩ := newPE X0 hx hZ (hw _ (List.mem_of_getElem? (i := 31) rfl)) e0 (g := (mkF m 60 A616 [(.int (2 : Int32))])) rfl (hb hby at_60) rfl (by decide) (cap := 2) (by decide) (by decide) (by decide) (by decide) (ad := "[C") (by decide)
        obtain ⟨b837, gg837⟩ : ∃ z, z = h0.size := ⟨_, rfl⟩
        rw [← gg837] at A837 B837 st837
        have g_b837 : n0 ≤ b837 := Nat.le_trans Z0 (Nat.le_of_eq gg837.symm)
        have sz_b837 : h0.size ≤ b837 := Nat.le_trans (Keep.refl h0 []).1 (Nat.le_of_eq gg837.symm)
        have Z838 : n0 ≤ h837.size := Nat.le_trans Z0 E837.1
        have K838 : Keep h0 h837 [] := (Keep.refl h0 []).ext E837
        have V837 : Arv Z h837 b837 k837 .char (2 : Int32) [(.int (0 : Int32)), (.int (0 : Int32))] (.int (0 : Int32)) := (Arv.new A837 (by decide)).pad (pad_rep [] (.int (0 : Int32)) 2)
        refine Go.st (S' := T837.setTop (mkF m 62 A616 [(.ref b837)])) st837 ?_
        let A839 : Array Slot := #[.val (.int p0), .val (.int p1), .val (.int p2), .val (.int p3), .val (.int v2), .unset, .val (.int v615), .val (.ref b837)]
        refine Go.st (S' := T837.setTop (mkF m 64 A839 [])) (fun t k => XS.astore X837.here hx rfl (hb hby at_62) rfl rfl (l' := A839) rfl k) ?_
        refine Go.st (S' := T837.setTop (mkF m 66 A839 [(.ref b837)])) (fun t k => XS.aload X837.here hx rfl (hb hby at_64) rfl rfl k) ?_
        refine Go.st (S' := T837.setTop (mkF m 67 A839 [(.int (0 : Int32)), (.ref b837)])) (fun t k => XS.iconst X837.here hx rfl (hb hby at_66) k) ?_
        refine Go.st (S' := T837.setTop (mkF m 68 A839 [(.int p1), (.int (0 : Int32)), (.ref b837)])) (fun t k => XS.iloadN X837.here hx rfl (hb hby at_67) rfl k) ?_
        refine Go.st (S' := T837.setTop (mkF m 71 A839 [(.int (255 : Int32)), (.int p1), (.int (0 : Int32)), (.ref b837)])) (fun t k => XS.sipush X837.here hx rfl (hb hby at_68) k) ?_
        refine Go.op (F := fun z => T837.setTop (mkF m 72 A839 [(.int z), (.int (0 : Int32)), (.ref b837)])) (x := (p1 &&& (255 : Int32))) (fun t k => XS.iand X837.here hx rfl (hb hby at_71) rfl k) ?_
        intro v840 hv840
        refine Go.op (F := fun z => T837.setTop (mkF m 73 A839 [(.int z), (.int (0 : Int32)), (.ref b837)])) (x := v840.toUInt32.toUInt16.toUInt32.toInt32) (fun t k => XS.i2c X837.here hx rfl (hb hby at_72) rfl k) ?_
        intro v841 hv841
        obtain ⟨cl842, Ar842, q842, S842, N842_, H842, G842⟩ := id V837
        have hin842 : ¬ ((0 : Int32) < 0 ∨ cl842.slots.size ≤ ((0 : Int32)).toNatClampNeg) := inb_of S842 ⟨by decide, by decide⟩
        obtain ⟨v843, hv843⟩ : ∃ z, z = v841.toUInt32.toUInt16.toUInt32.toInt32 := ⟨_, rfl⟩
        obtain ⟨T842, h842, X842, e842, W842, st842⟩ := stC X837 hx hZ e837 Ar842 (j := (0 : Int32)) hin842 (g := (mkF m 73 A839 [(.int v841), (.int (0 : Int32)), (.ref b837)])) rfl rfl (hb hby at_73)
        have W842 : Wr h837 h842 b837 ((0 : Int32)).toNatClampNeg (.int v843) := by rw [hv843]; exact W842
        have V842 : Arv Z h842 b837 k837 .char (2 : Int32) [(.int v843), (.int (0 : Int32))] (.int (0 : Int32)) := Arv.set Ar842 q842 S842 N842_ H842 G842 (by rw [hv843]; exact fits_nar_char _) W842 0 rfl (Nat.le_of_ble_eq_true rfl)
        have N842 := Fr.snoc X842 N0 g_b837
        have Z844 : n0 ≤ h842.size := Nat.le_trans Z838 (Keep.of_wr W842).1
        have K844 : Keep h0 h842 [] := K838.wr W842 (Or.inr sz_b837)
        refine Go.st (S' := T842.setTop (mkF m 74 A839 [])) st842 ?_
        refine Go.st (S' := T842.setTop (mkF m 76 A839 [(.ref b837)])) (fun t k => XS.aload X842.here hx rfl (hb hby at_74) rfl rfl k) ?_
        refine Go.st (S' := T842.setTop (mkF m 77 A839 [(.int (1 : Int32)), (.ref b837)])) (fun t k => XS.iconst X842.here hx rfl (hb hby at_76) k) ?_
        refine Go.st (S' := T842.setTop (mkF m 78 A839 [(.int p2), (.int (1 : Int32)), (.ref b837)])) (fun t k => XS.iloadN X842.here hx rfl (hb hby at_77) rfl k) ?_
        refine Go.st (S' := T842.setTop (mkF m 81 A839 [(.int (255 : Int32)), (.int p2), (.int (1 : Int32)), (.ref b837)])) (fun t k => XS.sipush X842.here hx rfl (hb hby at_78) k) ?_
        refine Go.op (F := fun z => T842.setTop (mkF m 82 A839 [(.int z), (.int (1 : Int32)), (.ref b837)])) (x := (p2 &&& (255 : Int32))) (fun t k => XS.iand X842.here hx rfl (hb hby at_81) rfl k) ?_
        intro v845 hv845
        refine Go.op (F := fun z => T842.setTop (mkF m 83 A839 [(.int z), (.int (1 : Int32)), (.ref b837)])) (x := v845.toUInt32.toUInt16.toUInt32.toInt32) (fun t k => XS.i2c X842.here hx rfl (hb hby at_82) rfl k) ?_
        intro v846 hv846
        obtain ⟨cl847, Ar847, q847, S847, N847_, H847, G847⟩ := id V842
        have hin847 : ¬ ((1 : Int32) < 0 ∨ cl847.slots.size ≤ ((1 : Int32)).toNatClampNeg) := inb_of S847 ⟨by decide, by decide⟩
        obtain ⟨v848, hv848⟩ : ∃ z, z = v846.toUInt32.toUInt16.toUInt32.toInt32 := ⟨_, rfl⟩
        obtain ⟨T847, h847, X847, e847, W847, st847⟩ := stC X842 hx hZ e842 Ar847 (j := (1 : Int32)) hin847 (g := (mkF m 83 A839 [(.int v846), (.int (1 : Int32)), (.ref b837)])) rfl rfl (hb hby at_83)
        have W847 : Wr h842 h847 b837 ((1 : Int32)).toNatClampNeg (.int v848) := by rw [hv848]; exact W847
        have V847 : Arv Z h847 b837 k837 .char (2 : Int32) [(.int v843), (.int v848)] (.int (0 : Int32)) := Arv.set Ar847 q847 S847 N847_ H847 G847 (by rw [hv848]; exact fits_nar_char _) W847 1 rfl (Nat.le_of_ble_eq_true rfl)
        have N847 := Fr.snoc X847 N842 g_b837
        have Z849 : n0 ≤ h847.size := Nat.le_trans Z844 (Keep.of_wr W847).1
        have K849 : Keep h0 h847 [] := K844.wr W847 (Or.inr sz_b837)
        refine Go.st (S' := T847.setTop (mkF m 84 A839 [])) st847 ?_
        obtain ⟨T850, h850, X850, e850, E850, A850, D850, -, st850⟩ := newO X847 hx hZ hown (hw _ (List.mem_of_getElem? (i := 32) rfl)) (hw _ (List.mem_of_getElem? (i := 11) rfl)) (hw _ (List.mem_of_getElem? (i := 3) rfl)) e847 (g := (mkF m 84 A839 [])) rfl (hb hby at_84) (by decide) (by decide)
        obtain ⟨b850, gg850⟩ : ∃ z, z = h847.size := ⟨_, rfl⟩
        rw [← gg850] at A850 D850 st850
        have g_b850 : n0 ≤ b850 := Nat.le_trans Z849 (Nat.le_of_eq gg850.symm)
        have sz_b850 : h0.size ≤ b850 := Nat.le_trans K849.1 (Nat.le_of_eq gg850.symm)
        have f851 := ((((B837).wr W842)).wr W847)
        have lt_b837_b850 : b837 < b850 := Nat.lt_of_lt_of_le (f851).lt (Nat.le_of_eq gg850.symm)
        have Z852 : n0 ≤ h850.size := Nat.le_trans Z849 E850.1
        have K852 : Keep h0 h850 [] := K849.ext E850
        have Fb850_value : Fld Z h850 b850 "java/lang/String" "value" "[B" .null := D850 (Or.inr (hw _ (List.mem_of_getElem? (i := 24) rfl))) (ty := (.array .byte)) (by decide)
        have Fb850_coder : Fld Z h850 b850 "java/lang/String" "coder" "B" (.int (0 : Int32)) := D850 (Or.inr (hw _ (List.mem_of_getElem? (i := 26) rfl))) (ty := .byte) (by decide)
        refine Go.st (S' := T850.setTop (mkF m 87 A839 [(.ref b850)])) st850 ?_
        refine Go.st (S' := T850.setTop (mkF m 88 A839 [(.ref b850), (.ref b850)])) (fun t k => XS.dup X850.here hx rfl (hb hby at_87) rfl rfl k) ?_
        refine Go.st (S' := T850.setTop (mkF m 90 A839 [(.ref b837), (.ref b850), (.ref b850)])) (fun t k => XS.aload X850.here hx rfl (hb hby at_88) rfl rfl k) ?_
        have f854 := ((V847).ext E850)
        have f855 := (Sta.ext E850 ((Sta.wr W847 ((Sta.wr W842 ((Sta.ext E837 (S_s_String_COMPACT_STRINGS))))))))
        have no856 : ¬ (∃ (r857 : Int32) (r858 : Int32) (r859 : Int32) (v860 : Int32) (v861 : Int32) (v862 : Int32) (v863 : Int32), v860 = v843.toInt8.toInt32 ∧ v861 = v860.toInt8.toInt32 ∧ v862 = v848.toInt8.toInt32 ∧ v863 = v862.toInt8.toInt32 ∧ (¬ (s_String_COMPACT_STRINGS = (0 : Int32))) ∧ (¬ (s_String_COMPACT_STRINGS = (0 : Int32))) ∧ ((((255 : Int32) < v843) ∧ (r857 = (0 : Int32)) ∧ (r858 = (0 : Int32)) ∧ (r859 = (0 : Int32))) ∨ ((¬ ((255 : Int32) < v843)) ∧ ((255 : Int32) < v848) ∧ (r857 = (1 : Int32)) ∧ (r858 = v861) ∧ (r859 = (0 : Int32))) ∨ ((¬ ((255 : Int32) < v843)) ∧ (¬ ((255 : Int32) < v848)) ∧ (r857 = (2 : Int32)) ∧ (r858 = v861) ∧ (r859 = v863))) ∧ (¬ (r857 = (2 : Int32)))) := by
          rintro ⟨r857, r858, r859, v860, v861, v862, v863, hv860, hv861, hv862, hv863, hc864, hc865, hc866, hc867⟩
          have rv840 := rng32 v840
          have wv840 := c_mask p1 (255 : Int32) 8 (by decide) (by decide)
          rw [← hv840] at wv840
          have rv841 := rng32 v841
          have wv841 := c_i2c v840
          rw [← hv841] at wv841
          have rv843 := rng32 v843
          have wv843 := c_i2c v841
          rw [← hv843] at wv843
          have rv845 := rng32 v845
          have wv845 := c_mask p2 (255 : Int32) 8 (by decide) (by decide)
          rw [← hv845] at wv845
          have rv846 := rng32 v846
          have wv846 := c_i2c v845
          rw [← hv846] at wv846
          have rv848 := rng32 v848
          have wv848 := c_i2c v846
          rw [← hv848] at wv848
          have rv860 := rng32 v860
          have wv860 := c_i2b v843
          rw [← hv860] at wv860
          have rv861 := rng32 v861
          have wv861 := c_i2b v860
          rw [← hv861] at wv861
          have rv862 := rng32 v862
          have wv862 := c_i2b v848
          rw [← hv862] at wv862
          have rv863 := rng32 v863
          have wv863 := c_i2b v862
          rw [← hv863] at wv863
          have rp1 := rng32 p1
          have rp2 := rng32 p2
          have rr857 := rng32 r857
          have rr858 := rng32 r858
          have rr859 := rng32 r859
          have lI0 : (0 : Int32).toInt = 0 := by decide
          have lI1 : (1 : Int32).toInt = 1 := by decide
          have lI2 : (2 : Int32).toInt = 2 := by decide
          have lI255 : (255 : Int32).toInt = 255 := by decide
          simp only [Int32.lt_iff_toInt_lt, Int64.lt_iff_toInt_lt, ← Int32.toInt_inj, ← Int64.toInt_inj] at hc866 hc867
          omega
        obtain ⟨r868, T868, L868, X868, hQ868, hS868, hZ, hown, st868⟩ := own_callIW (W := 1) (a := b850) X850 hx hZH e850 hown (y := (⟨"java/lang/String", "<init>", "([C)V"⟩ : MethodName)) rfl (hw _ (List.mem_of_getElem? (i := 33) rfl)) (hw _ (List.mem_of_getElem? (i := 34) rfl)) (hw _ (List.mem_of_getElem? (i := 3) rfl)) (hw _ (List.mem_of_getElem? (i := 35) rfl)) (by decide) (rm12 l Z a0 hw [] b850 b837 k837 v843 v848 s_String_COMPACT_STRINGS h850 n0 Z852 (f854) (A850) (Fb850_coder) (Fb850_value) (f855) (nz_s_String_COMPACT_STRINGS) (no856) (g_b850)) (by decide) (by decide) (by decide) (by decide) (g := (mkF m 90 A839 [(.ref b837), (.ref b850), (.ref b850)])) rfl (by rw [hml]; rfl) (argsL := [(.ref b837)]) (rest := [(.ref b850)]) rfl (lenOf pd_1 rfl) rfl (by show 2 * 0 + _ ≤ _; exact Nat.le_of_eq rfl) (hb hby at_90)
        obtain ⟨r874, r875, r876, v869, v870, v871, v872, b873, k877, hv869, hv870, hv871, hv872, hc878, hc879, hc880, hc881, rfl, N868, K868_, sz_b873_, f882, f883, f884, f885, f886⟩ := hQ868
        have N868_ := Fr.app N847 N868
        have g_b873 : n0 ≤ b873 := Nat.le_trans Z852 sz_b873_
        have sz_b873 : h0.size ≤ b873 := Nat.le_trans K852.1 sz_b873_
        have f887 := ((f851).ext E850)
        have lt_b837_b873 : b837 < b873 := Nat.lt_of_lt_of_le (f887).lt sz_b873_
        have lt_b850_b873 : b850 < b873 := Nat.lt_of_lt_of_le (A850).lt sz_b873_
        have Z888 : n0 ≤ T868.heap.size := Nat.le_trans Z852 K868_.1
        have K888 : Keep h0 T868.heap [] := K852.trans K868_ (allS (Or.inr sz_b850) all0)
        refine Go.st (S' := T868.setTop (mkF m 93 A839 [(.ref b850)])) st868 ?_
        let A889 : Array Slot := #[.val (.int p0), .val (.int p1), .val (.int p2), .val (.int p3), .val (.int v2), .val (.ref b850), .val (.int v615), .val (.ref b837)]
        refine Go.st (S' := T868.setTop (mkF m 95 A889 [])) (fun t k => XS.astore X868.here hx rfl (hb hby at_93) rfl rfl (l' := A889) rfl k) ?_
        refine Go.st (S' := T868.setTop (mkF m 97 A889 [(.int v2)])) (fun t k => XS.iload X868.here hx rfl (hb hby at_95) rfl k) ?_
        refine Go.st (S' := T868.setTop (mkF m 99 A889 [(.ref b850), (.int v2)])) (fun t k => XS.aload X868.here hx rfl (hb hby at_97) rfl rfl k) ?_
        have no890 : ¬ ((v2 < (1 : Int32))) := by
          intro hc891
          have rv2 := rng32 v2
          have wv2 := c_mask p0 (2147483647 : Int32) 31 (by decide) (by decide)
          rw [← hv2] at wv2
          have rp0 := rng32 p0
          have lI0 : (0 : Int32).toInt = 0 := by decide
          have lI1 : (1 : Int32).toInt = 1 := by decide
          have lI2147483647 : (2147483647 : Int32).toInt = 2147483647 := by decide
          simp only [Int32.lt_iff_toInt_lt, Int64.lt_iff_toInt_lt, ← Int32.toInt_inj, ← Int64.toInt_inj] at hc333 hc891
          omega
        obtain ⟨r892, T892, L892, X892, hQ892, st892⟩ := own_callS (W := 0) X868 hx hZ rfl hown (y := (⟨"com/example/sluiceway/sluiceway/Settings", "atLeastOne", "(ILjava/lang/String;)I"⟩ : MethodName)) (hw _ (List.mem_of_getElem? (i := 27) rfl)) (hw _ (List.mem_of_getElem? (i := 28) rfl)) (hw _ (List.mem_of_getElem? (i := 29) rfl)) (hw _ (List.mem_of_getElem? (i := 30) rfl)) (by decide) (rm3 l Z a0 hw [] v2 b850 T868.heap n0 Z888 (no890)) (by decide) (by decide) (by decide) (by decide) (g := (mkF m 99 A889 [(.ref b850), (.int v2)])) rfl (by rw [hml]; rfl) (argsL := [(.int v2), (.ref b850)]) (rest := []) rfl (lenOf pd_2 rfl) rfl (by show 2 * 0 + _ ≤ _; exact Nat.le_of_eq rfl) (hb hby at_99)
        obtain ⟨hc893, rfl, N892, e892⟩ := hQ892
        have N892_ := Fr.app N868_ N892
        refine Go.st (S' := T892.setTop (mkF m 102 A889 [(.int v2)])) st892 ?_
        let A894 : Array Slot := #[.val (.int p0), .val (.int p1), .val (.int p2), .val (.int p3), .val (.int v2), .val (.ref b850), .val (.int v615), .val (.int v2)]
        refine Go.st (S' := T892.setTop (mkF m 104 A894 [])) (fun t k => XS.istore X892.here hx rfl (hb hby at_102) rfl (l' := A894) rfl k) ?_
        refine Go.st (S' := T892.setTop (mkF m 106 A894 [(.int v2)])) (fun t k => XS.iload X892.here hx rfl (hb hby at_104) rfl k) ?_
        refine Go.st (S' := T892.setTop (mkF m 108 A894 [(.int v2), (.int v2)])) (fun t k => XS.iload X892.here hx rfl (hb hby at_106) rfl k) ?_
        refine Go.st (S' := T892.setTop (mkF m 111 A894 [])) (fun t k => XS.icmpNo X892.here hx rfl (hb hby at_108) rfl (teq (rfl : v2 = v2)).2 k) ?_
        refine Go.st (S' := T892.setTop (mkF m 112 A894 [(.int (1 : Int32))])) (fun t k => XS.iconst X892.here hx rfl (hb hby at_111) k) ?_
        refine Go.st (S' := T892.setTop (mkF m 116 A894 [(.int (1 : Int32))])) (fun t k => XS.goto X892.here hx rfl (pc0 := 112) (pc' := 116) rfl (hb hby at_112) (by decide) (by decide) k) ?_
        exact Go.retW X892 hS868 (by rw [e892]; exact (Nat.le_refl _)) (v := some (.int (1 : Int32))) (fun h => by rw [Bd.returns] at h; cases h) Bd.notSynchronized (fun fs hr => retN X892 hx (t := .boolean) Bd.returns (by simp) (hb hby at_116) hr) (by decide) (by decide) ⟨rfl, N892_⟩
set_option maxRecDepth 65536 in
set_option maxHeartbeats 40000000 in
theorem comes_1 {Post : Tables → Env → Array Value → State → Outcome → State → Prop} (hpost : ∀ tb e args s v u, (limb_1_1.after args s (.returned v) u = true ∧ limb_1_2.after args s (.returned v) u = true ∧ True) → Jvm.D.FramedW s (.returned v) u (Jvm.fieldLocs frame_1_writes args s ++ Jvm.arrayLocs frame_1_arrays args s ++ Jvm.staticLocs frame_1_statics s) 16 1152 → Post tb e args s (.returned v) u) :
    ArmFor flags0 classFile x code maxLocals ret World_1 tables_1 room_1 Calls_1 rest_1 Pre_1 Post := by
  intro l hfl _ _ p e ha hc hk s m args below hf hA hF happ hP
  obtain ⟨hcalls, hrest, hpre⟩ := hP
  obtain ⟨-, -, -, hnamed, -, -, -, hat⟩ := (Spec.applies_iff hf).mp happ
  obtain ⟨hg, hn⟩ := and_e (Cond.before_iff.mp (show (Jvm.Cond.and given_1 narrow_1).before args s = true from hpre))
  obtain ⟨h1, h2⟩ := and_e hg
  obtain ⟨w0, w1, w2, w3, rfl⟩ : ∃ w0 w1 w2 w3 : Value, args = #[w0, w1, w2, w3] := by
    have hs : args.size = 4 := by simpa [Cond.value, given_1] using h1
    obtain ⟨L⟩ := args
    match L, hs with
    | [w0, w1, w2, w3], _ => exact ⟨w0, w1, w2, w3, rfl⟩
  have hw := fun d (hd : d ∈ tables_1) => atoms_spec (ws := Jvm.Cond.code x code maxLocals ret :: tables_1) hat d (List.mem_cons_of_mem _ hd)
  have hfit : Fit s := fun {y c} hc i hi => by
    obtain ⟨ha, rfl⟩ := Array.getElem?_eq_some_iff.mp hc
    have q := List.all_eq_true.mp ((Array.all_eq_true_iff_forall_mem.mp hF) _ (Array.getElem_mem ha)) i (List.mem_range.mpr hi)
    simpa [Array.getElem?_eq_getElem hi] using q
  obtain ⟨q0, h2_0⟩ := and_e h2
  obtain ⟨i0, ee0⟩ := is_v q0
  obtain rfl : w0 = (.int i0) := Option.some.inj ee0
  obtain ⟨q1, h2_1⟩ := and_e h2_0
  obtain ⟨i1, ee1⟩ := is_v q1
  obtain rfl : w1 = (.int i1) := Option.some.inj ee1
  obtain ⟨q2, h2_2⟩ := and_e h2_1
  obtain ⟨i2, ee2⟩ := is_v q2
  obtain rfl : w2 = (.int i2) := Option.some.inj ee2
  obtain ⟨i3, ee3⟩ := is_v h2_2
  obtain rfl : w3 = (.int i3) := Option.some.inj ee3
  have hsets := (atoms_of jdkStatics_1 (show (jdkStatics_1.foldr Jvm.Cond.and restOwn_1).before _ s = true from rest_1_c_eq ▸ (show rest_1_c.before _ s = true from hrest))).1
  obtain ⟨s_String_COMPACT_STRINGS, ev_s_String_COMPACT_STRINGS⟩ := is_v (Cond.before_iff.mp (hsets _ (List.mem_of_getElem? (i := 1) rfl)))
  have nz_s_String_COMPACT_STRINGS : s_String_COMPACT_STRINGS ≠ 0 := own_ne0 ev_s_String_COMPACT_STRINGS (Cond.before_iff.mp (hsets _ (List.mem_of_getElem? (i := 2) rfl)))
  obtain ⟨n, o, h1, h2, h3, _, L, rfl, ⟨rfl, N⟩, hq⟩ := rm13 l s _ hw tables_1 i0 i1 i2 i3 s_String_COMPACT_STRINGS s.heap s.heap.size (Nat.le_refl _) (fun _ _ z => z) (hcalls.1 ("java/lang/String", 7) (by simp [consts_1])) (hsets _ (List.mem_of_getElem? (i := 2) rfl)) (Sta.start ev_s_String_COMPACT_STRINGS (Or.inl (Cond.before_iff.mpr (Cond.before_iff.mp (hsets _ (List.mem_of_getElem? (i := 0) rfl)))))) nz_s_String_COMPACT_STRINGS p e ha hc hk s m _ below hf ((Spec.applies_iff_loose hf).mp happ).1 ⟨rfl, State.WarmedH.refl s, rfl⟩ trivial
  refine ⟨n, _, h1, h2, h3, hpost _ _ _ _ _ _ ⟨Cond.after_iff.mpr rfl, Cond.after_iff.mpr (eq_i res_at (Term.int_eval (1)) rfl), trivial⟩ ⟨hq.1, hq.2.1, hq.2.2.1, (hq.2.2.2.sift fun y hy => Or.inr (N y hy)).mono (by decide) (by decide)⟩⟩
theorem main_1_1 : Claimed_1_1 := comes_1 fun _ _ _ _ _ _ h hF => ⟨h.1, hF⟩
theorem main_1_2 : Claimed_1_2 := comes_1 fun _ _ _ _ _ _ h hF => ⟨h.2.1, hF⟩
end Jvm.Pilot.@@N@@
namespace Jvm.Pilot.@@N@@
open Jvm Jvm.ClassFile Sem Op Lib Jvm.Free Jvm.Stand Jvm.Pilot.@@N@@.Jvm.D
/-! MADE BY PROGRAM (witnessworld.py) out of the Statement's table words and the real class files: 20 classes; the members and pool entries that the words name. The judged class is class 1, her method 1. -/
namespace start1
open Jvm.ClassFile
def u (s : String) : CpInfo := .utf8 (stringToUtf16 s)
/-- a pool by its gaps: so many unusable entries, then the entry; so many at the end -/
def gap : Nat → List CpInfo → List CpInfo
  | 0, r => r
  | n + 1, r => .unusable :: gap n r
def poolList (es : List (Nat × CpInfo)) (last : Nat) : List CpInfo := es.foldr (fun e r => gap e.1 (e.2 :: r)) (gap last [])
def pool (es : List (Nat × CpInfo)) (last : Nat) : Array CpInfo := ⟨poolList es last⟩
def fileOf (pool : Array CpInfo) (this : Nat) (attrs : Array Attribute := #[]) (ms : Array MethodInfo := #[]) (fl : Nat := 33) (sup : Nat := 0) (ifs : Array Nat := #[]) (fds : Array FieldInfo := #[]) : ClassFile where
  minorVersion := 0
  majorVersion := 65
  constantPool := pool
  accessFlags := fl
  thisClass := this
  superClass := sup
  interfaces := ifs
  fields := fds
  methods := ms
  attributes := attrs
def plain (name : String) (sup : Option ClassId) : Class where
  name := name
  kind := .ordinary
  loader := none
  accessFlags := 33
  super := sup
  interfaces := #[]
  cf := none
  fields := #[]
  methods := #[]
  instanceTypes := #[]
  staticTypes := #[]
  resolved := #[]
  callSites := []
  init := .initialized
  statics := none
  mirror := none

def pool0 : Array CpInfo := pool [(5, u "<init>"), (0, u "()V"), (1, .class_ 10), (1, u "java/lang/Object")] 113

def k0c0 : Code := { maxStack := 0, maxLocals := 1, code := object_method_1_code, exceptionTable := #[], attributes := #[] }
def k0m0 : Method := { name := "<init>", desc := "()V", sig := { parameters := [], returnType := none }, accessFlags := 1, code := some k0c0 }
/-- java/lang/Object -/
def k0 : Class := { plain "java/lang/Object" none with
  accessFlags := 33
  interfaces := #[]
  cf := some (fileOf pool0 8 #[] #[{ accessFlags := 1, nameIndex := 5, descriptorIndex := 6, attributes := #[] }] 33 0 #[] #[])
  fields := #[]
  methods := #[k0m0]
  instanceTypes := #[]
  staticTypes := #[]
  resolved := Array.replicate 124 none
  statics := none }

def pool1 : Array CpInfo := pool [(2, .class_ 4), (1, u "java/lang/Object"), (0, u "<init>"), (0, u "()V"), (0, .integer 2147483647), (0, .class_ 9), (0, u "java/lang/String"), (0, .methodref 8 11), (0, .nameAndType 5 12), (0, u "([C)V"), (0, .methodref 8 14), (0, .nameAndType 15 16), (0, u "valueOf"), (0, u "(C)Ljava/lang/String;"), (0, .methodref 18 19), (0, .class_ 20), (0, .nameAndType 21 22), (0, u "com/example/sluiceway/sluiceway/Settings"), (0, u "atLeastOne"), (0, u "(ILjava/lang/String;)I"), (0, .class_ 24), (0, u "com/example/sluiceway/sluiceway/SettingsAtLeastOnePinLaw"), (2, u "law"), (0, u "(IIII)Z")] 3

def k1m0 : Method := { name := "<init>", desc := "()V", sig := { parameters := [], returnType := none }, accessFlags := 2, code := none }
def k1c1 : Code := { maxStack := 4, maxLocals := 8, code := code, exceptionTable := #[], attributes := #[] }
def k1m1 : Method := { name := "law", desc := "(IIII)Z", sig := { parameters := [.int, .int, .int, .int], returnType := some .boolean }, accessFlags := 9, code := some k1c1 }
/-- com/example/sluiceway/sluiceway/SettingsAtLeastOnePinLaw -/
def k1 : Class := { plain "com/example/sluiceway/sluiceway/SettingsAtLeastOnePinLaw" (some 0) with
  accessFlags := 49
  interfaces := #[]
  cf := some (fileOf pool1 23 #[] #[{ accessFlags := 2, nameIndex := 5, descriptorIndex := 6, attributes := #[] }, { accessFlags := 9, nameIndex := 27, descriptorIndex := 28, attributes := #[] }] 49 2 #[] #[])
  fields := #[]
  methods := #[k1m0, k1m1]
  instanceTypes := #[]
  staticTypes := #[]
  resolved := Array.replicate 32 none
  statics := none }

def pool2 : Array CpInfo := pool [(1, .class_ 2), (0, u "java/io/Serializable"), (0, .class_ 4), (0, u "java/lang/Object")] 2

/-- java/io/Serializable -/
def k2 : Class := { plain "java/io/Serializable" (some 0) with
  accessFlags := 1537
  interfaces := #[]
  cf := some (fileOf pool2 1 #[] #[] 1537 3 #[] #[])
  fields := #[]
  methods := #[]
  instanceTypes := #[]
  staticTypes := #[]
  resolved := Array.replicate 7 none
  statics := none }

def pool3 : Array CpInfo := pool [(1, .class_ 2), (0, u "java/lang/Comparable"), (0, .class_ 4), (0, u "java/lang/Object")] 7

/-- java/lang/Comparable -/
def k3 : Class := { plain "java/lang/Comparable" (some 0) with
  accessFlags := 1537
  interfaces := #[]
  cf := some (fileOf pool3 1 #[] #[] 1537 3 #[] #[])
  fields := #[]
  methods := #[]
  instanceTypes := #[]
  staticTypes := #[]
  resolved := Array.replicate 12 none
  statics := none }

def pool4 : Array CpInfo := pool [(2, .class_ 4), (1, u "java/lang/CharSequence"), (42, .class_ 48), (0, u "java/lang/CharSequence$1CodePointIterator"), (10, .class_ 60), (0, u "java/lang/CharSequence$1CharIterator"), (5, .class_ 67), (0, u "java/lang/Object")] 63

/-- java/lang/CharSequence -/
def k4 : Class := { plain "java/lang/CharSequence" (some 0) with
  accessFlags := 1537
  interfaces := #[]
  cf := some (fileOf pool4 2 #[.nestMembers #[47, 59]] #[] 1537 66 #[] #[])
  fields := #[]
  methods := #[]
  instanceTypes := #[]
  staticTypes := #[]
  resolved := Array.replicate 131 none
  statics := none }

def pool5 : Array CpInfo := pool [(1, .class_ 2), (0, u "java/lang/constant/Constable"), (0, .class_ 4), (0, u "java/lang/Object")] 6

/-- java/lang/constant/Constable -/
def k5 : Class := { plain "java/lang/constant/Constable" (some 0) with
  accessFlags := 1537
  interfaces := #[]
  cf := some (fileOf pool5 1 #[] #[] 1537 3 #[] #[])
  fields := #[]
  methods := #[]
  instanceTypes := #[]
  staticTypes := #[]
  resolved := Array.replicate 11 none
  statics := none }

def pool6 : Array CpInfo := pool [(1, .class_ 2), (0, u "java/lang/constant/ConstantDesc"), (0, .class_ 4), (0, u "java/lang/Object")] 32

/-- java/lang/constant/ConstantDesc -/
def k6 : Class := { plain "java/lang/constant/ConstantDesc" (some 0) with
  accessFlags := 1537
  interfaces := #[]
  cf := some (fileOf pool6 1 #[] #[] 1537 3 #[] #[])
  fields := #[]
  methods := #[]
  instanceTypes := #[]
  staticTypes := #[]
  resolved := Array.replicate 37 none
  statics := none }

def pool7 : Array CpInfo := pool [(1, .methodref 2 3), (0, .class_ 4), (0, .nameAndType 5 6), (0, u "java/lang/Object"), (0, u "<init>"), (0, u "()V"), (0, .string 8), (0, u ""), (0, .fieldref 10 11), (0, .class_ 12), (0, .nameAndType 13 14), (0, u "java/lang/String"), (0, u "value"), (0, u "[B"), (0, .fieldref 10 16), (0, .nameAndType 17 18), (0, u "coder"), (0, u "B"), (2, u "hash"), (0, u "I"), (2, u "hashIsZero"), (0, u "Z"), (0, .methodref 10 28), (0, .nameAndType 5 29), (0, u "([CIILjava/lang/Void;)V"), (8, .fieldref 10 39), (0, .nameAndType 40 26), (0, u "COMPACT_STRINGS"), (1, .class_ 44), (1, u "java/lang/StringUTF16"), (0, u "compress"), (1, .methodref 42 48), (0, .nameAndType 49 50), (0, u "coderFromArrayLen"), (0, u "([BI)B"), (2, u "toBytes"), (53, .class_ 109), (1, u "java/lang/StringLatin1"), (67, .methodref 42 178), (0, .nameAndType 45 179), (0, u "([CII)[B"), (29, .methodref 10 210), (0, .nameAndType 5 211), (0, u "([BB)V"), (157, u "(C)Z"), (205, .class_ 576), (0, u "java/lang/CharSequence"), (22, u "CASE_INSENSITIVE_ORDER"), (0, u "Ljava/util/Comparator;"), (181, u "valueOf"), (0, u "(C)Ljava/lang/String;"), (226, u "([C)V"), (4, .methodref 107 1016), (0, .nameAndType 1017 369), (0, u "canEncode"), (0, .methodref 107 1019), (0, .nameAndType 53 1020), (0, u "(C)[B"), (80, u "serialPersistentFields"), (0, u "[Ljava/io/ObjectStreamField;"), (0, .class_ 1104), (0, u "java/lang/String$CaseInsensitiveComparator"), (1, .class_ 1107), (0, u "java/io/Serializable"), (0, .class_ 1109), (0, u "java/lang/Comparable"), (0, .class_ 1111), (0, u "java/lang/constant/Constable"), (0, .class_ 1113), (0, u "java/lang/constant/ConstantDesc"), (2, u "serialVersionUID"), (0, u "J"), (3, u "REPL"), (0, u "C"), (2, u "LATIN1"), (1, u "UTF16")] 323

def k7m0 : Method := { name := "<init>", desc := "()V", sig := { parameters := [], returnType := none }, accessFlags := 1, code := none }
def k7c1 : Code := { maxStack := 5, maxLocals := 2, code := jdk_42_method_3_code, exceptionTable := #[], attributes := #[] }
def k7m1 : Method := { name := "<init>", desc := "([C)V", sig := { parameters := [(.array .char)], returnType := none }, accessFlags := 1, code := some k7c1 }
def k7c2 : Code := { maxStack := 4, maxLocals := 1, code := jdk_42_method_139_code, exceptionTable := #[], attributes := #[] }
def k7m2 : Method := { name := "valueOf", desc := "(C)Ljava/lang/String;", sig := { parameters := [.char], returnType := some (.object "java/lang/String") }, accessFlags := 9, code := some k7c2 }
def k7c3 : Code := { maxStack := 4, maxLocals := 6, code := jdk_42_method_149_code, exceptionTable := #[], attributes := #[] }
def k7m3 : Method := { name := "<init>", desc := "([CIILjava/lang/Void;)V", sig := { parameters := [(.array .char), .int, .int, (.object "java/lang/Void")], returnType := none }, accessFlags := 2, code := some k7c3 }
def k7c4 : Code := { maxStack := 2, maxLocals := 3, code := jdk_42_method_151_code, exceptionTable := #[], attributes := #[] }
def k7m4 : Method := { name := "<init>", desc := "([BB)V", sig := { parameters := [(.array .byte), .byte], returnType := none }, accessFlags := 0, code := some k7c4 }
/-- java/lang/String -/
def k7 : Class := { plain "java/lang/String" (some 0) with
  accessFlags := 49
  interfaces := #[2, 3, 4, 5, 6]
  cf := some (fileOf pool7 10 #[.nestMembers #[1103]] #[{ accessFlags := 1, nameIndex := 5, descriptorIndex := 6, attributes := #[] }, { accessFlags := 1, nameIndex := 5, descriptorIndex := 1010, attributes := #[] }, { accessFlags := 9, nameIndex := 782, descriptorIndex := 783, attributes := #[] }, { accessFlags := 2, nameIndex := 5, descriptorIndex := 29, attributes := #[] }, { accessFlags := 0, nameIndex := 5, descriptorIndex := 211, attributes := #[] }] 49 2 #[1106, 1108, 575, 1110, 1112] #[{ accessFlags := 18, nameIndex := 13, descriptorIndex := 14, attributes := #[] }, { accessFlags := 18, nameIndex := 17, descriptorIndex := 18, attributes := #[] }, { accessFlags := 2, nameIndex := 21, descriptorIndex := 22, attributes := #[] }, { accessFlags := 2, nameIndex := 25, descriptorIndex := 26, attributes := #[] }, { accessFlags := 26, nameIndex := 1116, descriptorIndex := 1117, attributes := #[] }, { accessFlags := 24, nameIndex := 40, descriptorIndex := 26, attributes := #[] }, { accessFlags := 26, nameIndex := 1101, descriptorIndex := 1102, attributes := #[] }, { accessFlags := 26, nameIndex := 1121, descriptorIndex := 1122, attributes := #[] }, { accessFlags := 25, nameIndex := 599, descriptorIndex := 600, attributes := #[] }, { accessFlags := 24, nameIndex := 1125, descriptorIndex := 18, attributes := #[] }, { accessFlags := 24, nameIndex := 1127, descriptorIndex := 18, attributes := #[] }])
  fields := #[{ name := "value", type := (.array .byte), accessFlags := 18, slot := 0, constantValue := 0 }, { name := "coder", type := .byte, accessFlags := 18, slot := 1, constantValue := 0 }, { name := "hash", type := .int, accessFlags := 2, slot := 2, constantValue := 0 }, { name := "hashIsZero", type := .boolean, accessFlags := 2, slot := 3, constantValue := 0 }, { name := "serialVersionUID", type := .long, accessFlags := 26, slot := 0, constantValue := 0 }, { name := "COMPACT_STRINGS", type := .boolean, accessFlags := 24, slot := 1, constantValue := 0 }, { name := "serialPersistentFields", type := (.array (.object "java/io/ObjectStreamField")), accessFlags := 26, slot := 2, constantValue := 0 }, { name := "REPL", type := .char, accessFlags := 26, slot := 3, constantValue := 0 }, { name := "CASE_INSENSITIVE_ORDER", type := (.object "java/util/Comparator"), accessFlags := 25, slot := 4, constantValue := 0 }, { name := "LATIN1", type := .byte, accessFlags := 24, slot := 5, constantValue := 0 }, { name := "UTF16", type := .byte, accessFlags := 24, slot := 6, constantValue := 0 }]
  methods := #[k7m0, k7m1, k7m2, k7m3, k7m4]
  instanceTypes := #[(.array .byte), .byte, .int, .boolean]
  staticTypes := #[.long, .boolean, (.array (.object "java/io/ObjectStreamField")), .char, (.object "java/util/Comparator"), .byte, .byte]
  resolved := Array.replicate 1451 none
  statics := some 0 }

def pool8 : Array CpInfo := pool [(4, .class_ 6), (1, u "java/lang/Object"), (0, u "<init>"), (0, u "()V"), (5, .class_ 16), (1, u "java/lang/StringLatin1"), (73, u "canEncode"), (14, u "(C)Z"), (15, u "$assertionsDisabled"), (0, u "Z"), (98, .class_ 223), (1, u "java/lang/StringLatin1$LinesSpliterator"), (156, u "toBytes"), (1, u "(C)[B"), (7, .class_ 391), (0, u "java/lang/StringLatin1$CharsSpliterator")] 3

def k8m0 : Method := { name := "<init>", desc := "()V", sig := { parameters := [], returnType := none }, accessFlags := 0, code := none }
def k8c1 : Code := { maxStack := 2, maxLocals := 1, code := jdk_43_method_3_code, exceptionTable := #[], attributes := #[] }
def k8m1 : Method := { name := "canEncode", desc := "(C)Z", sig := { parameters := [.char], returnType := some .boolean }, accessFlags := 9, code := some k8c1 }
def k8c2 : Code := { maxStack := 4, maxLocals := 1, code := jdk_43_method_46_code, exceptionTable := #[], attributes := #[] }
def k8m2 : Method := { name := "toBytes", desc := "(C)[B", sig := { parameters := [.char], returnType := some (.array .byte) }, accessFlags := 9, code := some k8c2 }
/-- java/lang/StringLatin1 -/
def k8 : Class := { plain "java/lang/StringLatin1" (some 0) with
  accessFlags := 48
  interfaces := #[]
  cf := some (fileOf pool8 14 #[.nestMembers #[390, 221]] #[{ accessFlags := 0, nameIndex := 7, descriptorIndex := 8, attributes := #[] }, { accessFlags := 9, nameIndex := 90, descriptorIndex := 105, attributes := #[] }, { accessFlags := 9, nameIndex := 380, descriptorIndex := 382, attributes := #[] }] 48 4 #[] #[{ accessFlags := 4120, nameIndex := 121, descriptorIndex := 122, attributes := #[] }])
  fields := #[{ name := "$assertionsDisabled", type := .boolean, accessFlags := 4120, slot := 0, constantValue := 0 }]
  methods := #[k8m0, k8m1, k8m2]
  instanceTypes := #[]
  staticTypes := #[.boolean]
  resolved := Array.replicate 395 none
  statics := none }

def pool9 : Array CpInfo := pool [(2, .class_ 4), (1, u "java/lang/Object"), (0, u "<init>"), (0, u "()V"), (58, .class_ 66), (0, u "com/example/sluiceway/sluiceway/Settings"), (2, u "atLeastOne"), (0, u "(ILjava/lang/String;)I")] 33

def k9m0 : Method := { name := "<init>", desc := "()V", sig := { parameters := [], returnType := none }, accessFlags := 2, code := none }
def k9c1 : Code := { maxStack := 4, maxLocals := 2, code := prog_7_method_2_code, exceptionTable := #[], attributes := #[] }
def k9m1 : Method := { name := "atLeastOne", desc := "(ILjava/lang/String;)I", sig := { parameters := [.int, (.object "java/lang/String")], returnType := some .int }, accessFlags := 8, code := some k9c1 }
/-- com/example/sluiceway/sluiceway/Settings -/
def k9 : Class := { plain "com/example/sluiceway/sluiceway/Settings" (some 0) with
  accessFlags := 48
  interfaces := #[]
  cf := some (fileOf pool9 65 #[] #[{ accessFlags := 2, nameIndex := 5, descriptorIndex := 6, attributes := #[] }, { accessFlags := 8, nameIndex := 69, descriptorIndex := 70, attributes := #[] }] 48 2 #[] #[])
  fields := #[]
  methods := #[k9m0, k9m1]
  instanceTypes := #[]
  staticTypes := #[]
  resolved := Array.replicate 104 none
  statics := none }

def pool10 : Array CpInfo := pool [(6, .class_ 8), (1, u "java/lang/Object"), (0, u "<init>"), (0, u "()V"), (1, .class_ 14), (1, u "java/lang/StringUTF16"), (31, u "$assertionsDisabled"), (0, u "Z"), (13, u "HI_BYTE_SHIFT"), (0, u "I"), (2, u "LO_BYTE_SHIFT"), (49, .methodref 12 116), (0, .nameAndType 117 118), (0, u "compress"), (0, u "([CI[BII)I"), (3, u "([CII)[B"), (138, u "coderFromArrayLen"), (0, u "([BI)B"), (106, .class_ 371), (1, u "java/lang/StringUTF16$LinesSpliterator"), (58, u "MAX_LENGTH"), (196, .class_ 628), (0, u "java/lang/StringUTF16$CodePointsSpliterator"), (0, .class_ 630), (0, u "java/lang/StringUTF16$CharsSpliterator")] 4

def k10m0 : Method := { name := "<init>", desc := "()V", sig := { parameters := [], returnType := none }, accessFlags := 0, code := none }
def k10c1 : Code := { maxStack := 2, maxLocals := 2, code := jdk_52_method_15_code, exceptionTable := #[], attributes := #[] }
def k10m1 : Method := { name := "coderFromArrayLen", desc := "([BI)B", sig := { parameters := [(.array .byte), .int], returnType := some .byte }, accessFlags := 8, code := some k10c1 }
def k10c2 : Code := { maxStack := 5, maxLocals := 6, code := jdk_52_method_16_code, exceptionTable := #[], attributes := #[] }
def k10m2 : Method := { name := "compress", desc := "([CII)[B", sig := { parameters := [(.array .char), .int, .int], returnType := some (.array .byte) }, accessFlags := 9, code := some k10c2 }
def k10c3 : Code := { maxStack := 3, maxLocals := 7, code := jdk_52_method_21_code, exceptionTable := #[], attributes := #[] }
def k10m3 : Method := { name := "compress", desc := "([CI[BII)I", sig := { parameters := [(.array .char), .int, (.array .byte), .int, .int], returnType := some .int }, accessFlags := 9, code := some k10c3 }
/-- java/lang/StringUTF16 -/
def k10 : Class := { plain "java/lang/StringUTF16" (some 0) with
  accessFlags := 48
  interfaces := #[]
  cf := some (fileOf pool10 12 #[.nestMembers #[627, 629, 369]] #[{ accessFlags := 0, nameIndex := 9, descriptorIndex := 10, attributes := #[] }, { accessFlags := 8, nameIndex := 261, descriptorIndex := 262, attributes := #[] }, { accessFlags := 9, nameIndex := 117, descriptorIndex := 122, attributes := #[] }, { accessFlags := 9, nameIndex := 117, descriptorIndex := 118, attributes := #[] }] 48 6 #[] #[{ accessFlags := 26, nameIndex := 61, descriptorIndex := 62, attributes := #[] }, { accessFlags := 26, nameIndex := 65, descriptorIndex := 62, attributes := #[] }, { accessFlags := 24, nameIndex := 430, descriptorIndex := 62, attributes := #[] }, { accessFlags := 4120, nameIndex := 46, descriptorIndex := 47, attributes := #[] }])
  fields := #[{ name := "HI_BYTE_SHIFT", type := .int, accessFlags := 26, slot := 0, constantValue := 0 }, { name := "LO_BYTE_SHIFT", type := .int, accessFlags := 26, slot := 1, constantValue := 0 }, { name := "MAX_LENGTH", type := .int, accessFlags := 24, slot := 2, constantValue := 0 }, { name := "$assertionsDisabled", type := .boolean, accessFlags := 4120, slot := 3, constantValue := 0 }]
  methods := #[k10m0, k10m1, k10m2, k10m3]
  instanceTypes := #[]
  staticTypes := #[.int, .int, .int, .boolean]
  resolved := Array.replicate 635 none
  statics := none }

def pool11 : Array CpInfo := pool [(2, .class_ 4), (1, u "java/lang/Object"), (0, u "<init>"), (0, u "()V"), (17, .class_ 26), (1, u "jdk/internal/util/Preconditions"), (28, .class_ 56), (0, u "jdk/internal/util/Preconditions$4"), (57, .class_ 115), (0, u "jdk/internal/util/Preconditions$1"), (7, u "SIOOBE_FORMATTER"), (0, u "Ljava/util/function/BiFunction;"), (0, .class_ 126), (0, u "jdk/internal/util/Preconditions$2"), (3, u "AIOOBE_FORMATTER"), (0, .class_ 132), (0, u "jdk/internal/util/Preconditions$3"), (3, u "IOOBE_FORMATTER")] 57

def k11m0 : Method := { name := "<init>", desc := "()V", sig := { parameters := [], returnType := none }, accessFlags := 1, code := none }
/-- jdk/internal/util/Preconditions -/
def k11 : Class := { plain "jdk/internal/util/Preconditions" (some 0) with
  accessFlags := 33
  interfaces := #[]
  cf := some (fileOf pool11 24 #[.nestMembers #[55, 131, 125, 114]] #[{ accessFlags := 1, nameIndex := 5, descriptorIndex := 6, attributes := #[] }] 33 2 #[] #[{ accessFlags := 25, nameIndex := 123, descriptorIndex := 124, attributes := #[] }, { accessFlags := 25, nameIndex := 130, descriptorIndex := 124, attributes := #[] }, { accessFlags := 25, nameIndex := 136, descriptorIndex := 124, attributes := #[] }])
  fields := #[{ name := "SIOOBE_FORMATTER", type := (.object "java/util/function/BiFunction"), accessFlags := 25, slot := 0, constantValue := 0 }, { name := "AIOOBE_FORMATTER", type := (.object "java/util/function/BiFunction"), accessFlags := 25, slot := 1, constantValue := 0 }, { name := "IOOBE_FORMATTER", type := (.object "java/util/function/BiFunction"), accessFlags := 25, slot := 2, constantValue := 0 }]
  methods := #[k11m0]
  instanceTypes := #[]
  staticTypes := #[(.object "java/util/function/BiFunction"), (.object "java/util/function/BiFunction"), (.object "java/util/function/BiFunction")]
  resolved := Array.replicate 194 none
  statics := some 1 }

def pool12 : Array CpInfo := pool [(9, u "<init>"), (6, .class_ 18), (1, u "java/lang/Object"), (0, u "()V"), (1, .class_ 23), (1, u "jdk/internal/util/ArraysSupport"), (0, u "LOG2_ARRAY_LONG_INDEX_SCALE"), (0, u "I"), (2, u "U"), (0, u "Ljdk/internal/misc/Unsafe;"), (8, u "BIG_ENDIAN"), (0, u "Z"), (8, u "LOG2_BYTE_BIT_SIZE"), (4, u "LOG2_ARRAY_INT_INDEX_SCALE"), (54, u "JLA"), (0, u "Ljdk/internal/access/JavaLangAccess;"), (11, u "LOG2_ARRAY_BOOLEAN_INDEX_SCALE"), (9, u "LOG2_ARRAY_BYTE_INDEX_SCALE"), (5, u "LOG2_ARRAY_CHAR_INDEX_SCALE"), (5, u "LOG2_ARRAY_SHORT_INDEX_SCALE"), (18, u "LOG2_ARRAY_FLOAT_INDEX_SCALE"), (24, u "LOG2_ARRAY_DOUBLE_INDEX_SCALE"), (89, u "T_BOOLEAN"), (2, u "T_CHAR"), (1, u "T_FLOAT"), (1, u "T_DOUBLE"), (1, u "T_BYTE"), (1, u "T_SHORT"), (1, u "T_INT"), (1, u "T_LONG"), (1, u "SOFT_MAX_ARRAY_LENGTH")] 83

def k12m0 : Method := { name := "<init>", desc := "()V", sig := { parameters := [], returnType := none }, accessFlags := 2, code := none }
/-- jdk/internal/util/ArraysSupport -/
def k12 : Class := { plain "jdk/internal/util/ArraysSupport" (some 0) with
  accessFlags := 33
  interfaces := #[]
  cf := some (fileOf pool12 21 #[] #[{ accessFlags := 2, nameIndex := 9, descriptorIndex := 19, attributes := #[] }] 33 16 #[] #[{ accessFlags := 24, nameIndex := 28, descriptorIndex := 29, attributes := #[] }, { accessFlags := 26, nameIndex := 38, descriptorIndex := 39, attributes := #[] }, { accessFlags := 25, nameIndex := 121, descriptorIndex := 25, attributes := #[] }, { accessFlags := 25, nameIndex := 131, descriptorIndex := 25, attributes := #[] }, { accessFlags := 25, nameIndex := 137, descriptorIndex := 25, attributes := #[] }, { accessFlags := 25, nameIndex := 143, descriptorIndex := 25, attributes := #[] }, { accessFlags := 25, nameIndex := 53, descriptorIndex := 25, attributes := #[] }, { accessFlags := 25, nameIndex := 24, descriptorIndex := 25, attributes := #[] }, { accessFlags := 25, nameIndex := 162, descriptorIndex := 25, attributes := #[] }, { accessFlags := 25, nameIndex := 187, descriptorIndex := 25, attributes := #[] }, { accessFlags := 26, nameIndex := 48, descriptorIndex := 25, attributes := #[] }, { accessFlags := 25, nameIndex := 277, descriptorIndex := 25, attributes := #[] }, { accessFlags := 25, nameIndex := 280, descriptorIndex := 25, attributes := #[] }, { accessFlags := 25, nameIndex := 282, descriptorIndex := 25, attributes := #[] }, { accessFlags := 25, nameIndex := 284, descriptorIndex := 25, attributes := #[] }, { accessFlags := 25, nameIndex := 286, descriptorIndex := 25, attributes := #[] }, { accessFlags := 25, nameIndex := 288, descriptorIndex := 25, attributes := #[] }, { accessFlags := 25, nameIndex := 290, descriptorIndex := 25, attributes := #[] }, { accessFlags := 25, nameIndex := 292, descriptorIndex := 25, attributes := #[] }, { accessFlags := 26, nameIndex := 108, descriptorIndex := 109, attributes := #[] }, { accessFlags := 25, nameIndex := 294, descriptorIndex := 25, attributes := #[] }])
  fields := #[{ name := "U", type := (.object "jdk/internal/misc/Unsafe"), accessFlags := 24, slot := 0, constantValue := 0 }, { name := "BIG_ENDIAN", type := .boolean, accessFlags := 26, slot := 1, constantValue := 0 }, { name := "LOG2_ARRAY_BOOLEAN_INDEX_SCALE", type := .int, accessFlags := 25, slot := 2, constantValue := 0 }, { name := "LOG2_ARRAY_BYTE_INDEX_SCALE", type := .int, accessFlags := 25, slot := 3, constantValue := 0 }, { name := "LOG2_ARRAY_CHAR_INDEX_SCALE", type := .int, accessFlags := 25, slot := 4, constantValue := 0 }, { name := "LOG2_ARRAY_SHORT_INDEX_SCALE", type := .int, accessFlags := 25, slot := 5, constantValue := 0 }, { name := "LOG2_ARRAY_INT_INDEX_SCALE", type := .int, accessFlags := 25, slot := 6, constantValue := 0 }, { name := "LOG2_ARRAY_LONG_INDEX_SCALE", type := .int, accessFlags := 25, slot := 7, constantValue := 0 }, { name := "LOG2_ARRAY_FLOAT_INDEX_SCALE", type := .int, accessFlags := 25, slot := 8, constantValue := 0 }, { name := "LOG2_ARRAY_DOUBLE_INDEX_SCALE", type := .int, accessFlags := 25, slot := 9, constantValue := 0 }, { name := "LOG2_BYTE_BIT_SIZE", type := .int, accessFlags := 26, slot := 10, constantValue := 0 }, { name := "T_BOOLEAN", type := .int, accessFlags := 25, slot := 11, constantValue := 0 }, { name := "T_CHAR", type := .int, accessFlags := 25, slot := 12, constantValue := 0 }, { name := "T_FLOAT", type := .int, accessFlags := 25, slot := 13, constantValue := 0 }, { name := "T_DOUBLE", type := .int, accessFlags := 25, slot := 14, constantValue := 0 }, { name := "T_BYTE", type := .int, accessFlags := 25, slot := 15, constantValue := 0 }, { name := "T_SHORT", type := .int, accessFlags := 25, slot := 16, constantValue := 0 }, { name := "T_INT", type := .int, accessFlags := 25, slot := 17, constantValue := 0 }, { name := "T_LONG", type := .int, accessFlags := 25, slot := 18, constantValue := 0 }, { name := "JLA", type := (.object "jdk/internal/access/JavaLangAccess"), accessFlags := 26, slot := 19, constantValue := 0 }, { name := "SOFT_MAX_ARRAY_LENGTH", type := .int, accessFlags := 25, slot := 20, constantValue := 0 }]
  methods := #[k12m0]
  instanceTypes := #[]
  staticTypes := #[(.object "jdk/internal/misc/Unsafe"), .boolean, .int, .int, .int, .int, .int, .int, .int, .int, .int, .int, .int, .int, .int, .int, .int, .int, .int, (.object "jdk/internal/access/JavaLangAccess"), .int]
  resolved := Array.replicate 378 none
  statics := none }

def pool13 : Array CpInfo := pool [(1, u "java/lang/Cloneable"), (0, .class_ 1), (0, u "java/lang/Object"), (0, .class_ 3)] 3

/-- java/lang/Cloneable -/
def k13 : Class := { plain "java/lang/Cloneable" (some 0) with
  accessFlags := 1537
  interfaces := #[]
  cf := some (fileOf pool13 2 #[] #[] 1537 4 #[] #[])
  fields := #[]
  methods := #[]
  instanceTypes := #[]
  staticTypes := #[]
  resolved := Array.replicate 8 none
  statics := none }

/-- the primitive byte -/
def k14 : Class := { plain "byte" none with kind := .primitive 'B', accessFlags := 0x411 }
/-- [B -/
def k15 : Class := { plain "[B" (some 0) with kind := .array 14 .byte, interfaces := #[13, 2], accessFlags := 1041 }

/-- the primitive char -/
def k16 : Class := { plain "char" none with kind := .primitive 'C', accessFlags := 0x411 }
/-- [C -/
def k17 : Class := { plain "[C" (some 0) with kind := .array 16 .char, interfaces := #[13, 2], accessFlags := 1041 }

/-- the primitive int -/
def k18 : Class := { plain "int" none with kind := .primitive 'I', accessFlags := 0x411 }
/-- [I -/
def k19 : Class := { plain "[I" (some 0) with kind := .array 18 .int, interfaces := #[13, 2], accessFlags := 1041 }

def heap : Heap := #[{ cls := 7, slots := #[.long 0, .int 1, .null, .int 0, .null, .int 0, .int 0], vm := .statics 7 },
  { cls := 11, slots := #[.null, .null, .null], vm := .statics 11 }]
def classes : Array Class := #[k0, k1, k2, k3, k4, k5, k6, k7, k8, k9, k10, k11, k12, k13, k14, k15, k16, k17, k18, k19]
def interned : List (Array UInt16 × Addr) := []
def slotsUsed : Nat := 10
def theMethod : MethodId := ⟨1, 1⟩
def args0 : Array Value := #[.int 5, .int 65, .int 66, .int 2]
def aboutOver (below : List Frame) : State where
  vm := { classes := classes, interned := interned.toArray }
  heap := heap
  slotsUsed := slotsUsed
  threads := #[{ frames := .invoking theMethod args0 :: below }]
def below0 : List Frame := [.native { method := ⟨0, 0⟩, args := #[] }]
def about1 : State := aboutOver below0
def p0 : Program := .bare "" "" ""
def e0 : Env := launch0.env 0 0 0
theorem w_frames : about1.frames = Frame.invoking theMethod args0 :: below0 := rfl
set_option maxRecDepth 65536 in
theorem w_args : argsFit about1.vm theMethod args0 = true := by decide +kernel
set_option maxRecDepth 65536 in
theorem w_heap : heapFits about1 = true := by decide +kernel
set_option maxRecDepth 65536 in
theorem w_runnable : about1.curStatus? = some .runnable := by decide +kernel
set_option maxRecDepth 65536 in
theorem w_alone : about1.alone = true := by decide +kernel
set_option maxRecDepth 65536 in
theorem w_named : about1.methodNamed? x = some theMethod := by decide +kernel
set_option maxRecDepth 65536 in
theorem w_hears : about1.hears theMethod below0 = true := by decide +kernel
set_option maxRecDepth 65536 in
theorem w_ripe : about1.ripe theMethod args0 below0 = true := by decide +kernel
theorem w_running : about1.status = .running := rfl
set_option maxRecDepth 65536 in
theorem w_room : about1.hasRoom e0.platform room_1 = true :=
  launch0.hasRoom_least _ room_1 (by decide +kernel) (by decide +kernel) (by decide +kernel) (by decide +kernel) (by decide +kernel) (by decide +kernel)
theorem allAtoms_all (ts : List Jvm.Cond) (a : Array Jvm.Value) (st : Jvm.State) : (allAtoms ts).before a st = ts.all (fun c => c.before a st) := by
  induction ts with
  | nil => rfl
  | cons c t ih =>
    show (Jvm.Cond.and c (allAtoms t)).before a st = _
    rw [Jvm.Cond.before_and, ih, List.all_cons]
def words1 : List Jvm.Cond := Jvm.Cond.code x code maxLocals ret :: tables_1
/-- a 'code' word, met by the world's own term for the bytes: nothing is compared byte by byte -/
theorem code_word {y : MethodName} {bytes : ByteArray} {mx : Nat} {rt : Option FieldType} {a : Array Value} {s : State} {m : MethodId} {meth : Method} {c : Code} (h1 : s.methodNamed? y = some m) (h2 : s.vm.method? m = some meth) (h3 : meth.code = some c) (h4 : c.code = bytes)
    (h5 : (c.maxLocals == mx && c.exceptionTable.isEmpty && decide (c.maxStack ≤ mostOperands) && decide (meth.sig.returnType = rt) && !meth.locks && decide (parseMethodDescriptor y.desc = some meth.sig)) = true) : (Jvm.Cond.code y bytes mx rt).before a s = true := by
  simp only [Bool.and_eq_true, beq_iff_eq, Bool.not_eq_true', decide_eq_true_eq] at h5
  obtain ⟨⟨⟨⟨⟨g1, g2⟩, g3⟩, g4⟩, g5⟩, g6⟩ := h5
  simp [Cond.before, Cond.holds, Cond.value, h1, h2, h3, h4, g1, g2, g3, g4, g5, g6]
def isCode : Jvm.Cond → Bool
  | .code _ _ _ _ => true
  | _ => false
theorem all_split {L : List Jvm.Cond} {P : Jvm.Cond → Bool} (h1 : L.all (fun c => isCode c || P c) = true) (h2 : ∀ c ∈ L.filter isCode, P c = true) : L.all P = true := by
  refine List.all_eq_true.mpr fun c hc => ?_
  have h := List.all_eq_true.mp h1 c hc
  rcases Bool.eq_false_or_eq_true (isCode c) with hi | hi
  · exact h2 c (List.mem_filter.mpr ⟨hc, hi⟩)
  · simpa [hi] using h
set_option maxRecDepth 65536 in
theorem w_c0 : (Jvm.Cond.code x code maxLocals ret).before args0 about1 = true := code_word (m := ⟨1, 1⟩) (meth := k1m1) (c := k1c1) (by decide +kernel) rfl rfl rfl (by decide +kernel)
set_option maxRecDepth 65536 in
theorem w_c1 : (Jvm.Cond.code ({ cls := "java/lang/String", name := "valueOf", desc := "(C)Ljava/lang/String;" } : Jvm.MethodName) jdk_42_method_139_code (1 : Nat) (Option.some (Jvm.ClassFile.FieldType.object "java/lang/String"))).before args0 about1 = true := code_word (m := ⟨7, 2⟩) (meth := k7m2) (c := k7c2) (by decide +kernel) rfl rfl rfl (by decide +kernel)
set_option maxRecDepth 65536 in
theorem w_c2 : (Jvm.Cond.code ({ cls := "java/lang/StringLatin1", name := "canEncode", desc := "(C)Z" } : Jvm.MethodName) jdk_43_method_3_code (1 : Nat) (Option.some Jvm.ClassFile.FieldType.boolean)).before args0 about1 = true := code_word (m := ⟨8, 1⟩) (meth := k8m1) (c := k8c1) (by decide +kernel) rfl rfl rfl (by decide +kernel)
set_option maxRecDepth 65536 in
theorem w_c3 : (Jvm.Cond.code ({ cls := "java/lang/StringLatin1", name := "toBytes", desc := "(C)[B" } : Jvm.MethodName) jdk_43_method_46_code (1 : Nat) (Option.some (Jvm.ClassFile.FieldType.array Jvm.ClassFile.FieldType.byte))).before args0 about1 = true := code_word (m := ⟨8, 2⟩) (meth := k8m2) (c := k8c2) (by decide +kernel) rfl rfl rfl (by decide +kernel)
set_option maxRecDepth 65536 in
theorem w_c4 : (Jvm.Cond.code ({ cls := "java/lang/String", name := "<init>", desc := "([BB)V" } : Jvm.MethodName) jdk_42_method_151_code (3 : Nat) (Option.none : Option Jvm.ClassFile.FieldType)).before args0 about1 = true := code_word (m := ⟨7, 4⟩) (meth := k7m4) (c := k7c4) (by decide +kernel) rfl rfl rfl (by decide +kernel)
set_option maxRecDepth 65536 in
theorem w_c5 : (Jvm.Cond.code ({ cls := "java/lang/Object", name := "<init>", desc := "()V" } : Jvm.MethodName) object_method_1_code (1 : Nat) (Option.none : Option Jvm.ClassFile.FieldType)).before args0 about1 = true := code_word (m := ⟨0, 0⟩) (meth := k0m0) (c := k0c0) (by decide +kernel) rfl rfl rfl (by decide +kernel)
set_option maxRecDepth 65536 in
theorem w_c6 : (Jvm.Cond.code ({ cls := "com/example/sluiceway/sluiceway/Settings", name := "atLeastOne", desc := "(ILjava/lang/String;)I" } : Jvm.MethodName) prog_7_method_2_code (2 : Nat) (Option.some Jvm.ClassFile.FieldType.int)).before args0 about1 = true := code_word (m := ⟨9, 1⟩) (meth := k9m1) (c := k9c1) (by decide +kernel) rfl rfl rfl (by decide +kernel)
set_option maxRecDepth 65536 in
theorem w_c7 : (Jvm.Cond.code ({ cls := "java/lang/String", name := "<init>", desc := "([C)V" } : Jvm.MethodName) jdk_42_method_3_code (2 : Nat) (Option.none : Option Jvm.ClassFile.FieldType)).before args0 about1 = true := code_word (m := ⟨7, 1⟩) (meth := k7m1) (c := k7c1) (by decide +kernel) rfl rfl rfl (by decide +kernel)
set_option maxRecDepth 65536 in
theorem w_c8 : (Jvm.Cond.code ({ cls := "java/lang/String", name := "<init>", desc := "([CIILjava/lang/Void;)V" } : Jvm.MethodName) jdk_42_method_149_code (6 : Nat) (Option.none : Option Jvm.ClassFile.FieldType)).before args0 about1 = true := code_word (m := ⟨7, 3⟩) (meth := k7m3) (c := k7c3) (by decide +kernel) rfl rfl rfl (by decide +kernel)
set_option maxRecDepth 65536 in
theorem w_c9 : (Jvm.Cond.code ({ cls := "java/lang/StringUTF16", name := "compress", desc := "([CII)[B" } : Jvm.MethodName) jdk_52_method_16_code (6 : Nat) (Option.some (Jvm.ClassFile.FieldType.array Jvm.ClassFile.FieldType.byte))).before args0 about1 = true := code_word (m := ⟨10, 2⟩) (meth := k10m2) (c := k10c2) (by decide +kernel) rfl rfl rfl (by decide +kernel)
set_option maxRecDepth 65536 in
theorem w_c10 : (Jvm.Cond.code ({ cls := "java/lang/StringUTF16", name := "compress", desc := "([CI[BII)I" } : Jvm.MethodName) jdk_52_method_21_code (7 : Nat) (Option.some Jvm.ClassFile.FieldType.int)).before args0 about1 = true := code_word (m := ⟨10, 3⟩) (meth := k10m3) (c := k10c3) (by decide +kernel) rfl rfl rfl (by decide +kernel)
set_option maxRecDepth 65536 in
theorem w_c11 : (Jvm.Cond.code ({ cls := "java/lang/StringUTF16", name := "coderFromArrayLen", desc := "([BI)B" } : Jvm.MethodName) jdk_52_method_15_code (2 : Nat) (Option.some Jvm.ClassFile.FieldType.byte)).before args0 about1 = true := code_word (m := ⟨10, 1⟩) (meth := k10m1) (c := k10c1) (by decide +kernel) rfl rfl rfl (by decide +kernel)
def codes1 : List Jvm.Cond := [Jvm.Cond.code x code maxLocals ret, Jvm.Cond.code ({ cls := "java/lang/String", name := "valueOf", desc := "(C)Ljava/lang/String;" } : Jvm.MethodName) jdk_42_method_139_code (1 : Nat) (Option.some (Jvm.ClassFile.FieldType.object "java/lang/String")), Jvm.Cond.code ({ cls := "java/lang/StringLatin1", name := "canEncode", desc := "(C)Z" } : Jvm.MethodName) jdk_43_method_3_code (1 : Nat) (Option.some Jvm.ClassFile.FieldType.boolean), Jvm.Cond.code ({ cls := "java/lang/StringLatin1", name := "toBytes", desc := "(C)[B" } : Jvm.MethodName) jdk_43_method_46_code (1 : Nat) (Option.some (Jvm.ClassFile.FieldType.array Jvm.ClassFile.FieldType.byte)), Jvm.Cond.code ({ cls := "java/lang/String", name := "<init>", desc := "([BB)V" } : Jvm.MethodName) jdk_42_method_151_code (3 : Nat) (Option.none : Option Jvm.ClassFile.FieldType), Jvm.Cond.code ({ cls := "java/lang/Object", name := "<init>", desc := "()V" } : Jvm.MethodName) object_method_1_code (1 : Nat) (Option.none : Option Jvm.ClassFile.FieldType), Jvm.Cond.code ({ cls := "com/example/sluiceway/sluiceway/Settings", name := "atLeastOne", desc := "(ILjava/lang/String;)I" } : Jvm.MethodName) prog_7_method_2_code (2 : Nat) (Option.some Jvm.ClassFile.FieldType.int), Jvm.Cond.code ({ cls := "java/lang/String", name := "<init>", desc := "([C)V" } : Jvm.MethodName) jdk_42_method_3_code (2 : Nat) (Option.none : Option Jvm.ClassFile.FieldType), Jvm.Cond.code ({ cls := "java/lang/String", name := "<init>", desc := "([CIILjava/lang/Void;)V" } : Jvm.MethodName) jdk_42_method_149_code (6 : Nat) (Option.none : Option Jvm.ClassFile.FieldType), Jvm.Cond.code ({ cls := "java/lang/StringUTF16", name := "compress", desc := "([CII)[B" } : Jvm.MethodName) jdk_52_method_16_code (6 : Nat) (Option.some (Jvm.ClassFile.FieldType.array Jvm.ClassFile.FieldType.byte)), Jvm.Cond.code ({ cls := "java/lang/StringUTF16", name := "compress", desc := "([CI[BII)I" } : Jvm.MethodName) jdk_52_method_21_code (7 : Nat) (Option.some Jvm.ClassFile.FieldType.int), Jvm.Cond.code ({ cls := "java/lang/StringUTF16", name := "coderFromArrayLen", desc := "([BI)B" } : Jvm.MethodName) jdk_52_method_15_code (2 : Nat) (Option.some Jvm.ClassFile.FieldType.byte)]
set_option maxRecDepth 65536 in
theorem codes_eq : words1.filter isCode = codes1 := rfl
theorem w_codes : ∀ c ∈ words1.filter isCode, c.before args0 about1 = true := by
  rw [codes_eq]
  intro c hc
  simp only [codes1, List.mem_cons, List.not_mem_nil, or_false] at hc
  rcases hc with rfl | rfl | rfl | rfl | rfl | rfl | rfl | rfl | rfl | rfl | rfl | rfl
  · exact w_c0
  · exact w_c1
  · exact w_c2
  · exact w_c3
  · exact w_c4
  · exact w_c5
  · exact w_c6
  · exact w_c7
  · exact w_c8
  · exact w_c9
  · exact w_c10
  · exact w_c11
set_option maxRecDepth 65536 in
theorem w_t1 : (words1.take 24).all (fun c => isCode c || c.before args0 about1) = true := by decide +kernel
set_option maxRecDepth 65536 in
theorem w_t2 : ((words1.drop 24).take 24).all (fun c => isCode c || c.before args0 about1) = true := by decide +kernel
set_option maxRecDepth 65536 in
theorem w_t3 : ((words1.drop 24).drop 24).all (fun c => isCode c || c.before args0 about1) = true := by decide +kernel
theorem w_tables : (allAtoms (Jvm.Cond.code x code maxLocals ret :: tables_1)).before args0 about1 = true := by
  rw [allAtoms_all]
  show words1.all (fun c => c.before args0 about1) = true
  refine all_split ?_ w_codes
  rw [← List.take_append_drop 24 words1, List.all_append, w_t1, ← List.take_append_drop 24 (words1.drop 24), List.all_append, w_t2, w_t3]
  rfl
set_option maxRecDepth 65536 in
theorem w_rest : rest_1_c.before args0 about1 = true := by decide +kernel
set_option maxRecDepth 65536 in
theorem w_case : (Jvm.Cond.and given_1 narrow_1).before args0 about1 = true := by decide +kernel
set_option maxRecDepth 65536 in
theorem w_consts : constsHeld consts_1 about1 := Jvm.Lit.constsHeldB_iff.mp (by decide +kernel)
theorem w_applies : (headSpec (Jvm.Cond.code x code maxLocals ret :: tables_1) room_1).applies x e0.platform about1 = true :=
  (Spec.applies_iff w_frames).mpr ⟨w_running, w_runnable, w_alone, w_named, w_hears, w_ripe, w_room, w_tables⟩
theorem atStart : AtStart classFile x code maxLocals ret World_1 tables_1 room_1 Calls_1 rest_1 Pre_1 launch0 p0 e0 about1 theMethod args0 below0 :=
  ⟨lists_1, trivial, launch0.admits_env _ _ _, launch0.least_env, fairChoices_fair.cas, fairChoices_fair.clock, w_frames, w_args, w_heap, w_applies, ⟨w_consts, trivial⟩, w_rest, w_case⟩
end start1
theorem witness_1 : WitnessClaimed_1 := ⟨start1.p0, start1.e0, start1.about1, start1.theMethod, start1.args0, start1.below0, start1.atStart⟩
end Jvm.Pilot.@@N@@
