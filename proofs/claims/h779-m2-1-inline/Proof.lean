import JvmDerived
import JvmDerived.Pilot.@@N@@Statement
import JvmDerived.Pilot.@@N@@Code
set_option linter.unusedVariables false
set_option linter.unusedSimpArgs false
namespace Jvm.RoadKit
open Sem ClassFile Op Lib Jvm.Stand Jvm.Free Jvm.LawKit
section New
variable {p : Program} {l : Launch} {e : Env} {R : Room} {s : State} {m : MethodId} {args : Array Value} {below : List Frame} {meth : Method} {c : Code} {T : State} {locs : List Loc} {cells slots : Nat}
theorem retI (X : Stand p l e R s m args below meth c T locs cells slots) (hx : p.tables.exec = Jvm.exec) {pc : Nat} {Ls : Array Slot} {z : Int32} {rest : List Value} (hret : meth.sig.returnType = some .int) (hd : decode c.code pc = .ok (.ireturn, 1)) {fs : List Frame}
    (hl : ∀ (f : JFrame) (acts : List Action), f.method = m → f.locked = none → f.entered = [] → (doReturn e (T.setTop f) acts (some (.int z))).1 = T.setFrames fs) : Steps p.tables e below (T.setTop (mkF m pc Ls (.int z :: rest))) (T.setFrames fs) := retOut X hx hret rfl (Or.inl ⟨rfl, Or.inl rfl, _, rfl⟩) hd hl
end New
end Jvm.RoadKit
namespace Jvm.Pilot.@@N@@
open Jvm Jvm.ClassFile Sem Op Lib Jvm.Free Jvm.Stand Jvm.LawKit Jvm.RoadKit Bundle Jvm.Pilot.@@N@@.Jvm.D
section OwnKit
variable {p : Program} {l : Launch} {e : Env} {R : Room} {s : State} {m : MethodId} {args : Array Value} {below : List Frame} {meth : Method} {c : Code} {T : State} {locs : List Loc} {cells slots : Nat} {Z : State} {a0 : Array Value} {h : Heap}
def Go (p : Program) (e : Env) (below : List Frame) (Q : Outcome → State → Prop) (S : State) : Prop := ∃ s₂ o, Steps p.tables e below S s₂ ∧ s₂.status = .running ∧ Ended s₂ below o ∧ Q o s₂
theorem Go.of {Q : Outcome → State → Prop} {S : State} (k : Go p e below Q S) : ∃ s₂ o, Steps p.tables e below S s₂ ∧ s₂.status = .running ∧ Ended s₂ below o ∧ Q o s₂ := k
theorem Go.st {Q : Outcome → State → Prop} {S S' : State} (h : ∀ t, Steps p.tables e below S' t → Steps p.tables e below S t) (k : Go p e below Q S') : Go p e below Q S := by
  obtain ⟨s2, o, h1, h2⟩ := k; exact ⟨s2, o, h _ h1, h2⟩
theorem Go.op {α : Type} {Q : Outcome → State → Prop} {S : State} {F : α → State} {x : α} (h : ∀ t, Steps p.tables e below (F x) t → Steps p.tables e below S t) (k : ∀ z, z = x → Go p e below Q (F z)) : Go p e below Q S := Go.st h (k x rfl)
theorem Go.join {α : Type} {Q : Outcome → State → Prop} {S : State} (C : α → Prop) (F : α → State) (k : ∀ r, C r → Go p e below Q (F r)) (j : (∀ r, C r → Go p e below Q (F r)) → Go p e below Q S) : Go p e below Q S := j k
theorem Go.joinT {α : Type} {Q : Outcome → State → Prop} {S : State} (X : Stand p l e R s m args below meth c T locs cells slots) (eT : T.heap = h) (C : α → Prop) (F : State → α → State) (k : ∀ T', Stand p l e R s m args below meth c T' locs cells slots → T'.heap = h → ∀ r, C r → Go p e below Q (F T' r)) (j : (∀ T', Stand p l e R s m args below meth c T' locs cells slots → T'.heap = h → ∀ r, C r → Go p e below Q (F T' r)) → Go p e below Q S) : Go p e below Q S := j k
theorem Go.loop {α : Type} {Q : Outcome → State → Prop} (I : Nat → α → Prop) (F : α → State) (k0 : Nat) (x0 : α) (h0 : I k0 x0) (step : ∀ k x, I k x → (∀ k' x', k' < k → I k' x' → Go p e below Q (F x')) → Go p e below Q (F x)) : Go p e below Q (F x0) := by
  have H : ∀ k x, I k x → Go p e below Q (F x) := by
    intro k
    induction k using Nat.strongRecOn with
    | _ k ih => intro x hx; exact step k x hx fun k' x' hk hx' => ih k' hk x' hx'
  exact H k0 x0 h0
theorem Go.ret {Qn : Option Value → Heap → List Loc → Prop} {rc rs : Nat} (X : Stand p l e R s m args below meth c T locs cells slots) {v : Option Value} (hv : meth.sig.returnType = none → v = none) (hlk : meth.locks = false) {f : JFrame}
    (st : ∀ fs, (∀ (f : JFrame) (acts : List Action), f.method = m → f.locked = none → f.entered = [] → (doReturn e (T.setTop f) acts v).1 = T.setFrames fs) → Steps p.tables e below (T.setTop f) (T.setFrames fs))
    (hc : cells ≤ rc) (hs : slots ≤ rs) (hQ : Qn v T.heap locs) : Go p e below (fun o U' => ∃ v L, o = .returned v ∧ Qn v U'.heap L ∧ FrameEnd s o U' L rc rs) (T.setTop f) := by
  obtain ⟨fs, hr, hrun, hended, hW, hsame⟩ := X.leave (v := v) hv hlk
  exact ⟨_, _, st fs hr, hrun, hended, v, locs, rfl, hQ, ⟨_, rfl⟩, hW, hsame.mono hc hs⟩
abbrev Con (l : Launch) (Z : State) (y : MethodName) (bytes : ByteArray) (maxL : Nat) (ret : Option FieldType) (ws : List Jvm.Cond) (rm : Room) (as' : Array Value) (h : Heap) (rc rs : Nat) (Q : Option Value → Heap → List Loc → Prop) : Prop :=
  MetFree l y (head1 (Jvm.Cond.code y bytes maxL ret :: ws) rm) (fun a U => a = as' ∧ Z.Warmed39 U.vm ∧ U.heap = h) (fun _ _ _ _ _ => True) (fun _ U o U' => ∃ v L, o = .returned v ∧ Q v U'.heap L ∧ FrameEnd U o U' L rc rs)
theorem own_eh {a : Addr} {cl : Cell} (eT : T.heap = h) (q : h[a]? = some cl) : T.heap[a]? = some cl := by rw [eT]; exact q
theorem own_callS {own : String} {index : Nat} {y : MethodName} {bytes : ByteArray} {maxL : Nat} {ret : Option FieldType} {rm : Room} {as' : Array Value} {Q : Option Value → Heap → List Loc → Prop} {W : Nat} {g : JFrame} {argsL rest : List Value}
    (X : Stand p l e R s m args below meth c T locs cells slots) (hx : p.tables.exec = Jvm.exec) (hZ : Z.Warmed39 s.vm) (eT : T.heap = h) (hown : s.vm.findClass own = some m.cls)
    (w1 : (Jvm.Cond.methodLink own index y).before a0 Z = true) (w2 : (Jvm.Cond.static y).before a0 Z = true) (w3 : (Jvm.Cond.initialized y.cls).before a0 Z = true) (w4 : (Jvm.Cond.code y bytes maxL ret).before a0 Z = true)
    (hy : y.cls ≠ "java/lang/invoke/MethodHandle" ∧ y.cls ≠ "java/lang/invoke/VarHandle")
    (hM : Con l Z y bytes maxL ret [] rm as' h rm.cells rm.slots Q)
    (hf : rm.frames + 1 ≤ R.frames) (hl : W + (maxL + 11) + rm.locals ≤ R.locals) (hc : cells + rm.cells ≤ R.cells) (hs : slots + rm.slots ≤ R.slots)
    (hg : g.method = m) (hsize : g.locals.size = c.maxLocals) (has : argsL.toArray = as') (hlen : ∀ sig, parseMethodDescriptor y.desc = some sig → argsL.length = sig.parameters.length)
    (hstack : g.stack = argsL.reverse ++ rest) (hW : 2 * g.monitorRoom + (rest.map fun v => v.category).sum ≤ W) (hdg : decode c.code g.pc = .ok (.invokestatic index, 3)) :
    ∃ v T' L, Stand p l e R s m args below meth c T' (locs ++ L) (cells + rm.cells) (slots + rm.slots) ∧ Q v T'.heap L ∧ ∀ target, Steps p.tables e below (T'.setTop { g with pc := g.pc + 3, stack := v.toList ++ rest }) target → Steps p.tables e below (T.setTop g) target := by
  obtain ⟨v, _, ⟨T', L', k', n'⟩, -, X', ⟨L, hQ, l', y', z'⟩, st⟩ := Jvm.LawKit.callS X hx (y := y) hown (mvT hZ w1) (mvT hZ w2) (mvT hZ w3) (mvT hZ w4) hy (backOf (W := W) hM hZ w4 w3 hf hl) (g := g) hg hsize (argsL := argsL) (rest := rest) hlen hstack hW hdg (fun _ _ => ⟨has, eT, hc, hs⟩)
  dsimp only [Pt.U, Pt.locs, Pt.cells, Pt.slots] at X' l' y' z' st hQ
  subst l' y' z'
  exact ⟨v, T', L, X', hQ, st⟩
theorem own_callI {own : String} {index : Nat} {y : MethodName} {bytes : ByteArray} {maxL : Nat} {rm : Room} {as' : Array Value} {Q : Option Value → Heap → List Loc → Prop} {W : Nat} {g : JFrame} {a : Addr} {argsL rest : List Value}
    (X : Stand p l e R s m args below meth c T locs cells slots) (hx : p.tables.exec = Jvm.exec) (hZ : Z.Warmed39 s.vm) (eT : T.heap = h) (hown : s.vm.findClass own = some m.cls) (hyn : y.name = "<init>")
    (w1 : (Jvm.Cond.methodLink own index y).before a0 Z = true) (w2 : (Jvm.Cond.instanceMethod y).before a0 Z = true) (w3 : (Jvm.Cond.initialized y.cls).before a0 Z = true) (w4 : (Jvm.Cond.code y bytes maxL none).before a0 Z = true)
    (hy : y.cls ≠ "java/lang/invoke/MethodHandle" ∧ y.cls ≠ "java/lang/invoke/VarHandle")
    (hM : Con l Z y bytes maxL none [] rm as' h rm.cells rm.slots Q)
    (hf : rm.frames + 1 ≤ R.frames) (hl : W + (maxL + 11) + rm.locals ≤ R.locals) (hc : cells + rm.cells ≤ R.cells) (hs : slots + rm.slots ≤ R.slots)
    (hg : g.method = m) (hsize : g.locals.size = c.maxLocals) (has : (Value.ref a :: argsL).toArray = as') (hlen : ∀ sig, parseMethodDescriptor y.desc = some sig → argsL.length = sig.parameters.length)
    (hstack : g.stack = argsL.reverse ++ .ref a :: rest) (hW : 2 * g.monitorRoom + (rest.map fun v => v.category).sum ≤ W) (hdg : decode c.code g.pc = .ok (.invokespecial index, 3)) :
    ∃ v T' L, Stand p l e R s m args below meth c T' (locs ++ L) (cells + rm.cells) (slots + rm.slots) ∧ Q v T'.heap L ∧ ∀ target, Steps p.tables e below (T'.setTop { g with pc := g.pc + 3, stack := v.toList ++ rest }) target → Steps p.tables e below (T.setTop g) target := by
  obtain ⟨v, _, ⟨T', L', k', n'⟩, -, X', ⟨L, hQ, l', y', z'⟩, st⟩ := X.specialBack hx (y := y) hyn hown (mvT hZ w1) (mvT hZ w2) (mvT hZ w4) hy (backOf (W := W) hM hZ w4 w3 hf hl) (g := g) hg hsize (Steps.refl _) (a := a) (argsL := argsL) (rest := rest) hlen hstack hW hdg (fun _ _ => ⟨has, eT, hc, hs⟩)
  dsimp only [Pt.U, Pt.locs, Pt.cells, Pt.slots] at X' l' y' z' st hQ
  subst l' y' z'
  exact ⟨v, T', L, X', hQ, fun _ k => st.trans k⟩
theorem own_mvMN {own host : String} {index : Nat} {y : MethodName} (hZ : Z.Warmed39 s.vm) (w : (Jvm.Cond.methodLinkNest own index y host).before a0 Z = true) : (Jvm.Cond.methodLinkNest own index y host).before args s = true := (Cond.methodLinkNest_wide hZ w :)
theorem own_callN {own host : String} {index : Nat} {y : MethodName} {bytes : ByteArray} {maxL : Nat} {rm : Room} {as' : Array Value} {Q : Option Value → Heap → List Loc → Prop} {W : Nat} {g : JFrame} {a : Addr} {argsL rest : List Value}
    (X : Stand p l e R s m args below meth c T locs cells slots) (hx : p.tables.exec = Jvm.exec) (hZ : Z.Warmed39 s.vm) (eT : T.heap = h) (hown : s.vm.findClass own = some m.cls) (hyn : y.name = "<init>")
    (w1 : (Jvm.Cond.methodLinkNest own index y host).before a0 Z = true) (w2 : (Jvm.Cond.instanceMethod y).before a0 Z = true) (w3 : (Jvm.Cond.initialized y.cls).before a0 Z = true) (w4 : (Jvm.Cond.code y bytes maxL none).before a0 Z = true)
    (hy : y.cls ≠ "java/lang/invoke/MethodHandle" ∧ y.cls ≠ "java/lang/invoke/VarHandle")
    (hM : Con l Z y bytes maxL none [] rm as' h rm.cells rm.slots Q)
    (hf : rm.frames + 1 ≤ R.frames) (hl : W + (maxL + 11) + rm.locals ≤ R.locals) (hc : cells + rm.cells ≤ R.cells) (hs : slots + rm.slots ≤ R.slots)
    (hg : g.method = m) (hsize : g.locals.size = c.maxLocals) (has : (Value.ref a :: argsL).toArray = as') (hlen : ∀ sig, parseMethodDescriptor y.desc = some sig → argsL.length = sig.parameters.length)
    (hstack : g.stack = argsL.reverse ++ .ref a :: rest) (hW : 2 * g.monitorRoom + (rest.map fun v => v.category).sum ≤ W) (hdg : decode c.code g.pc = .ok (.invokespecial index, 3)) :
    ∃ v T' L, Stand p l e R s m args below meth c T' (locs ++ L) (cells + rm.cells) (slots + rm.slots) ∧ Q v T'.heap L ∧ ∀ target, Steps p.tables e below (T'.setTop { g with pc := g.pc + 3, stack := v.toList ++ rest }) target → Steps p.tables e below (T.setTop g) target := by
  obtain ⟨v, _, ⟨T', L', k', n'⟩, -, X', ⟨L, hQ, l', y', z'⟩, st⟩ := X.specialBackNest hx (y := y) hyn hown (own_mvMN hZ w1) (mvT hZ w2) (mvT hZ w4) hy (backOf (W := W) hM hZ w4 w3 hf hl) (g := g) hg hsize (Steps.refl _) (a := a) (argsL := argsL) (rest := rest) hlen hstack hW hdg (fun _ _ => ⟨has, eT, hc, hs⟩)
  dsimp only [Pt.U, Pt.locs, Pt.cells, Pt.slots] at X' l' y' z' st hQ
  subst l' y' z'
  exact ⟨v, T', L, X', hQ, fun _ k => st.trans k⟩
theorem own_callV {own C : String} {index : Nat} {y z : MethodName} {bytes : ByteArray} {maxL : Nat} {ret : Option FieldType} {rm : Room} {as' : Array Value} {Q : Option Value → Heap → List Loc → Prop} {W : Nat} {g : JFrame} {a : Addr} {argsL rest : List Value}
    (X : Stand p l e R s m args below meth c T locs cells slots) (hx : p.tables.exec = Jvm.exec) (hZ : Z.Warmed39 s.vm) (eT : T.heap = h) (hown : s.vm.findClass own = some m.cls)
    (w1 : (Jvm.Cond.methodLink own index y).before a0 Z = true) (w2 : (Jvm.Cond.declares y).before a0 Z = true) (nf : NotFace s y) (w5 : (Jvm.Cond.selects C y z).before a0 Z = true) (w6 : (Jvm.Cond.instanceMethod z).before a0 Z = true) (w3 : (Jvm.Cond.initialized z.cls).before a0 Z = true) (w4 : (Jvm.Cond.code z bytes maxL ret).before a0 Z = true)
    (hy : y.cls ≠ "java/lang/invoke/MethodHandle" ∧ y.cls ≠ "java/lang/invoke/VarHandle") (E : Exa Z h a C)
    (hM : Con l Z z bytes maxL ret [] rm as' h rm.cells rm.slots Q)
    (hf : rm.frames + 1 ≤ R.frames) (hl : W + (maxL + 11) + rm.locals ≤ R.locals) (hc : cells + rm.cells ≤ R.cells) (hs : slots + rm.slots ≤ R.slots)
    (hg : g.method = m) (hsize : g.locals.size = c.maxLocals) (has : (Value.ref a :: argsL).toArray = as') (hlen : ∀ sig, parseMethodDescriptor y.desc = some sig → argsL.length = sig.parameters.length)
    (hstack : g.stack = argsL.reverse ++ .ref a :: rest) (hW : 2 * g.monitorRoom + (rest.map fun v => v.category).sum ≤ W) (hdg : decode c.code g.pc = .ok (.invokevirtual index, 3)) :
    ∃ v T' L, Stand p l e R s m args below meth c T' (locs ++ L) (cells + rm.cells) (slots + rm.slots) ∧ Q v T'.heap L ∧ ∀ target, Steps p.tables e below (T'.setTop { g with pc := g.pc + 3, stack := v.toList ++ rest }) target → Steps p.tables e below (T.setTop g) target := by
  obtain ⟨cq, kq, qa, qb, qc⟩ := isOf hZ eT E
  obtain ⟨v, _, ⟨T', L', k', n'⟩, -, X', ⟨L, hQ, l', y', z'⟩, st⟩ := X.virtualBack hx (y := y) (z := z) hown (mvT hZ w1) (mvT hZ w2) nf (mvT hZ w5) (mvT hZ w6) hy (backOf (W := W) hM hZ w4 w3 hf hl) qa qc (g := g) hg hsize (Steps.refl _) (argsL := argsL) (rest := rest) hlen hstack hW hdg (fun _ _ => ⟨has, eT, hc, hs⟩)
  dsimp only [Pt.U, Pt.locs, Pt.cells, Pt.slots] at X' l' y' z' st hQ
  subst l' y' z'
  exact ⟨v, T', L, X', hQ, fun _ k => st.trans k⟩
theorem own_sta_keep {C n d : String} {w : Value} {h h' : Heap} {ws : List Addr} (F : Sta Z h C n d w) (K : Keep h h' ws) (q : ∀ x ∈ ws, ∃ cl : Cell, h[x]? = some cl ∧ cl.vm.isStatics = false) : Sta Z h' C n d w := by
  obtain ⟨cf, i, k, f, st, cell, h1, h2, h3, h4, h5, h6, h7⟩ := F
  refine ⟨cf, i, k, f, st, cell, h1, h2, h3, h4, K.2.1 st cell h5 fun z => ?_, h6, h7⟩
  obtain ⟨cl, q1, q2⟩ := q st z
  cases h5.symm.trans q1
  rw [h6] at q2; cases q2
theorem own_exa_plain {a : Addr} {C : String} {h : Heap} (F : Exa Z h a C) : ∃ cl : Cell, h[a]? = some cl ∧ cl.vm.isStatics = false := by
  obtain ⟨cell, k, h1, -, -, h4, -⟩ := F; exact ⟨cell, h1, h4⟩
theorem own_arv_plain {a : Addr} {k : ClassId} {ty : FieldType} {z : Int32} {vs : List Value} {dv : Value} {h : Heap} (F : Arv Z h a k ty z vs dv) : ∃ cl : Cell, h[a]? = some cl ∧ cl.vm.isStatics = false := by
  obtain ⟨cell, A, -⟩ := F; exact ⟨cell, A.1, A.plain⟩
theorem own_getR {own O n d : String} {index : Nat} {a : Addr} {v : Value} {g : JFrame} {rest : List Value} (X : Stand p l e R s m args below meth c T locs cells slots) (hx : p.tables.exec = Jvm.exec) (hZ : Z.Warmed39 s.vm) (hown : s.vm.findClass own = some m.cls)
    (w : (Jvm.Cond.fieldRef own index O n d).before a0 Z = true) (eT : T.heap = h) (F : Fld Z h a O n d v) (hg : g.method = m) (hs : g.stack = .ref a :: rest) (hd : decode c.code g.pc = .ok (.getfield index, 3)) :
    ∀ target, Steps p.tables e below (T.setTop { g with pc := g.pc + 3, stack := v :: rest }) target → Steps p.tables e below (T.setTop g) target := by
  have hU : Z.Warmed39 T.vm := wtrans hZ X.warmed
  have w2 := Cond.fieldRef_warmed39 hU w
  have hc : (Z.setVm T.vm).vm.findClass own = some m.cls := by
    show T.vm.findClass own = some m.cls
    rw [X.warmed.alike.findClass]; exact hown
  obtain ⟨c1, k1, i1, f1, hf1, hr⟩ := Cond.fieldRef_spec hc w2
  obtain ⟨cell, cf, k, i, f, h1, h2, h3, h4, -, -, h7⟩ := F
  obtain ⟨k', hi, -⟩ := State.fieldFound?_setVm (s := Z) hU.alike h2
  cases hi.symm.trans hf1
  intro t kk
  exact (X.getfieldR hx hg hr h3 hs (by rw [eT]; exact h1) h4 h7 hd (Steps.refl _)).trans kk
theorem own_callP {own C : String} {index : Nat} {y : MethodName} {bytes : ByteArray} {maxL : Nat} {ret : Option FieldType} {rm : Room} {as' : Array Value} {Q : Option Value → Heap → List Loc → Prop} {W : Nat} {g : JFrame} {a : Addr} {argsL rest : List Value}
    (X : Stand p l e R s m args below meth c T locs cells slots) (hx : p.tables.exec = Jvm.exec) (hZ : Z.Warmed39 s.vm) (eT : T.heap = h) (hown : s.vm.findClass own = some m.cls)
    (w1 : (Jvm.Cond.methodLink own index y).before a0 Z = true) (w2 : (Jvm.Cond.instanceMethod y).before a0 Z = true) (w5 : (Jvm.Cond.selects y.cls y y).before a0 Z = true) (w6 : (Jvm.Cond.privateMethod y).before a0 Z = true) (w3 : (Jvm.Cond.initialized y.cls).before a0 Z = true) (w4 : (Jvm.Cond.code y bytes maxL ret).before a0 Z = true)
    (hy : y.cls ≠ "java/lang/invoke/MethodHandle" ∧ y.cls ≠ "java/lang/invoke/VarHandle") (E : Exa Z h a C)
    (hM : Con l Z y bytes maxL ret [] rm as' h rm.cells rm.slots Q)
    (hf : rm.frames + 1 ≤ R.frames) (hl : W + (maxL + 11) + rm.locals ≤ R.locals) (hc : cells + rm.cells ≤ R.cells) (hs : slots + rm.slots ≤ R.slots)
    (hg : g.method = m) (hsize : g.locals.size = c.maxLocals) (has : (Value.ref a :: argsL).toArray = as') (hlen : ∀ sig, parseMethodDescriptor y.desc = some sig → argsL.length = sig.parameters.length)
    (hstack : g.stack = argsL.reverse ++ .ref a :: rest) (hW : 2 * g.monitorRoom + (rest.map fun v => v.category).sum ≤ W) (hdg : decode c.code g.pc = .ok (.invokevirtual index, 3)) :
    ∃ v T' L, Stand p l e R s m args below meth c T' (locs ++ L) (cells + rm.cells) (slots + rm.slots) ∧ Q v T'.heap L ∧ ∀ target, Steps p.tables e below (T'.setTop { g with pc := g.pc + 3, stack := v.toList ++ rest }) target → Steps p.tables e below (T.setTop g) target := by
  obtain ⟨cq, q1, q2⟩ := E.cell
  obtain ⟨v, _, ⟨T', L', k', n'⟩, -, X', ⟨L, hQ, l', y', z'⟩, st⟩ := X.privateBack hx (y := y) hown (mvT hZ w1) (mvT hZ w2) (mvT hZ w5) (Cond.privateMethod_at (mvP hZ w6 (args := #[]))) (mvT hZ w4) hy (backOf (W := W) hM hZ w4 w3 hf hl) (g := g) hg hsize (Steps.refl _) (a := a) (by rw [eT]; exact q1) q2 (argsL := argsL) (rest := rest) hlen hstack hW hdg (fun _ _ => ⟨has, eT, hc, hs⟩)
  dsimp only [Pt.U, Pt.locs, Pt.cells, Pt.slots] at X' l' y' z' st hQ
  subst l' y' z'
  exact ⟨v, T', L, X', hQ, fun _ k => st.trans k⟩
theorem own_callF {own C : String} {index count : Nat} {xi y : MethodName} {bytes : ByteArray} {maxL : Nat} {ret : Option FieldType} {rm : Room} {as' : Array Value} {Q : Option Value → Heap → List Loc → Prop} {W : Nat} {g : JFrame} {a : Addr} {argsL rest : List Value}
    (X : Stand p l e R s m args below meth c T locs cells slots) (hx : p.tables.exec = Jvm.exec) (hZ : Z.Warmed39 s.vm) (eT : T.heap = h) (hown : s.vm.findClass own = some m.cls)
    (w1 : (Jvm.Cond.methodLink own index xi).before a0 Z = true) (w2 : (Jvm.Cond.declares xi).before a0 Z = true) (w7 : (Jvm.Cond.interfaceMethod xi.cls xi.cls xi.name xi.desc).before args s = true) (w5 : (Jvm.Cond.selects C xi y).before a0 Z = true) (w6 : (Jvm.Cond.instanceMethod y).before a0 Z = true)
    (w8 : (Jvm.Cond.publicMethod y).before a0 Z = true) (w9 : (Jvm.Cond.unhidden C xi.name xi.desc).before a0 Z = true) (w10 : (Jvm.Cond.castable C xi.cls).before a0 Z = true) (w3 : (Jvm.Cond.initialized y.cls).before a0 Z = true) (w4 : (Jvm.Cond.code y bytes maxL ret).before a0 Z = true)
    (hy : xi.cls ≠ "java/lang/invoke/MethodHandle" ∧ xi.cls ≠ "java/lang/invoke/VarHandle") (E : Exa Z h a C)
    (hM : Con l Z y bytes maxL ret [] rm as' h rm.cells rm.slots Q)
    (hf : rm.frames + 1 ≤ R.frames) (hl : W + (maxL + 11) + rm.locals ≤ R.locals) (hc : cells + rm.cells ≤ R.cells) (hs : slots + rm.slots ≤ R.slots)
    (hg : g.method = m) (hsize : g.locals.size = c.maxLocals) (has : (Value.ref a :: argsL).toArray = as') (hlen : ∀ sig, parseMethodDescriptor xi.desc = some sig → argsL.length = sig.parameters.length)
    (hstack : g.stack = argsL.reverse ++ .ref a :: rest) (hW : 2 * g.monitorRoom + (rest.map fun v => v.category).sum ≤ W) (hdg : decode c.code g.pc = .ok (.invokeinterface index count, 5)) :
    ∃ v T' L, Stand p l e R s m args below meth c T' (locs ++ L) (cells + rm.cells) (slots + rm.slots) ∧ Q v T'.heap L ∧ ∀ target, Steps p.tables e below (T'.setTop { g with pc := g.pc + 5, stack := v.toList ++ rest }) target → Steps p.tables e below (T.setTop g) target := by
  obtain ⟨cq, kq, qa, qb, qc⟩ := isOf hZ eT E
  obtain ⟨v, _, ⟨T', L', k', n'⟩, -, X', ⟨L, hQ, l', y', z'⟩, st⟩ := X.interfaceBack hx (xi := xi) (y := y) hown (mvT hZ w1) (mvT hZ w2) w7 (mvT hZ w5) (mvT hZ w6) (mvT hZ w8) (mvT hZ w9) (mvT hZ w10) hy (backOf (W := W) hM hZ w4 w3 hf hl) qa qb qc (g := g) hg hsize (Steps.refl _) (argsL := argsL) (rest := rest) hlen hstack hW hdg (fun _ _ => ⟨has, eT, hc, hs⟩)
  dsimp only [Pt.U, Pt.locs, Pt.cells, Pt.slots] at X' l' y' z' st hQ
  subst l' y' z'
  exact ⟨v, T', L, X', hQ, fun _ k => st.trans k⟩
theorem own_ns_root {O K : String} {n : Nat} (w : (Jvm.Cond.noSuperclass O).before a0 Z = true) (wk : (Jvm.Cond.instantiable K n).before a0 Z = true) (hn : O ≠ K) : NS Z O K := by
  obtain ⟨c, k, h1, h2, h3, -, -⟩ := Cond.noSuperclass_spec w
  obtain ⟨t, kt, g1, -⟩ := Cond.instantiable_spec wk
  have ne := ids_ne h1 g1 hn
  refine ⟨c, t, h1, g1, fun fuel => ?_⟩
  cases fuel with
  | zero => rfl
  | succ f => simp [Vm.isSubclassAux, ne, h2, h3]
theorem own_ns_no {C S K : String} {n : Nat} (w : (Jvm.Cond.superclass C S).before a0 Z = true) (wk : (Jvm.Cond.instantiable K n).before a0 Z = true) (hN : NS Z C K) (hn : C ≠ K) : ∃ c t, Z.vm.findClass C = some c ∧ Z.vm.findClass K = some t ∧ Z.vm.assignable c t = false := by
  obtain ⟨c, t, h0, g0, n3⟩ := hN
  obtain ⟨p, k, kp, h1, h2, h3, h4, h5, -, h7⟩ := Cond.superclass_spec h0 w
  obtain ⟨t', kt, g1, g2, g3, g4, -⟩ := Cond.instantiable_spec wk
  cases g0.symm.trans g1
  have g7 : kt.isInterface = false := by
    cases hq : kt.isInterface
    · rfl
    · simp [hq] at g4
  have ne := ids_ne h0 g0 hn
  refine ⟨c, t, h0, g0, ?_⟩
  show Z.vm.assignableAux (255 + 1) c t = false
  simp [Vm.assignableAux, ne, h2, g2, h5, g3, g7, Vm.isSubclass, n3]
theorem own_ldcM {own C : String} {index : Nat} {mr : Addr} {g : JFrame} (X : Stand p l e R s m args below meth c T locs cells slots) (hx : p.tables.exec = Jvm.exec) (hZ : Z.Warmed39 s.vm) (hown : s.vm.findClass own = some m.cls) (w : (Jvm.Cond.classLink own index C).before a0 Z = true) (eT : T.heap = h) (M : Mir Z C mr)
    (hg : g.method = m) (hd : decode c.code g.pc = .ok (.ldc index, 2)) :
    ∃ T', Stand p l e R s m args below meth c T' locs cells slots ∧ T'.heap = h ∧ ∀ target, Steps p.tables e below (T'.setTop { g with pc := g.pc + 2, stack := .ref mr :: g.stack }) target → Steps p.tables e below (T.setTop g) target := by
  obtain ⟨cc, kc, m1, m2, m3, -⟩ := M
  obtain ⟨k', q, ek⟩ := hZ.alike.2.2 _ _ m2
  have ev : (Term.mirror C).eval args s none [] s = some (.ref mr) := by
    have h1 : s.vm.findClass C = some cc := by rw [hZ.alike.findClass]; exact m1
    have h2 : k'.mirror = some mr := by rw [ek]; exact m3
    simp [Term.eval, h1, q, h2]
  obtain ⟨vm', X', st⟩ := X.ldcMirror hx hown (mv hZ w) ev hg hd
  exact ⟨_, X', eT, st⟩
theorem own_declares {Z : State} {a0 : Array Value} {y : MethodName} {bytes : ByteArray} {maxL : Nat} {ret : Option FieldType} (w6 : (Jvm.Cond.instanceMethod y).before a0 Z = true) (w4 : (Jvm.Cond.code y bytes maxL ret).before a0 Z = true) : (Jvm.Cond.declares y).before a0 Z = true := by
  obtain ⟨mk, methM, hnamed, hmethM, hstM, habM⟩ := Cond.instanceMethod_spec w6
  obtain ⟨methM', cM, hmethM', hcodeM', -, hlocalsM, -, -, -, hsigM⟩ := Cond.code_spec hnamed w4
  cases hmethM.symm.trans hmethM'
  simp [Cond.before, Cond.value, Cond.holds, hnamed, hmethM, hstM, hsigM]
theorem own_sameM {y y' : MethodName} {C' : String} (w3 : (Jvm.Cond.instanceMethod y).before a0 Z = true) (ws : (Jvm.Cond.selects C' y' y').before a0 Z = true) (hcls : y'.cls = y.cls) (hy : y.cls ≠ "java/lang/invoke/MethodHandle" ∧ y.cls ≠ "java/lang/invoke/VarHandle") : (Jvm.Cond.sameMethod y.cls y.cls y.name y.desc).before a0 Z = true := by
  obtain ⟨mk, methM, hnamed, hmethM, hstM, habM⟩ := Cond.instanceMethod_spec w3
  obtain ⟨c2, r2, m2, q1, q2, q3, q4, kP, hkP, hkPi⟩ := Cond.selects_spec ws
  have hc := findClass_of_methodNamed hnamed
  have hc' := findClass_of_methodNamed q3
  rw [hcls] at hc'
  have e : mk.cls = m2.cls := by rw [hc] at hc'; injection hc'
  have hf := State.methodFound?_of_named hnamed hy
  have hkP' : Z.vm.classes[mk.cls]? = some kP := by rw [e]; exact hkP
  have hn' : Z.methodNamed? ⟨y.cls, y.name, y.desc⟩ = some mk := hnamed
  simp only [Cond.before, Cond.holds, Cond.value, hc, hf, hn', hkP']
  simp [hkPi]
theorem own_callU {own C C' : String} {y' : MethodName} {ret : Option FieldType} {index : Nat} {y : MethodName} {bytes : ByteArray} {maxL : Nat} {rm : Room} {as' : Array Value} {Q : Option Value → Heap → List Loc → Prop} {W : Nat} {g : JFrame} {a : Addr} {argsL rest : List Value}
    (X : Stand p l e R s m args below meth c T locs cells slots) (hx : p.tables.exec = Jvm.exec) (hZ : Z.Warmed39 s.vm) (eT : T.heap = h) (hown : s.vm.findClass own = some m.cls) (hyn : y.name ≠ "<init>") (E : Exa Z h a C)
    (w1 : (Jvm.Cond.methodLink own index y).before a0 Z = true) (w2 : (Jvm.Cond.instanceMethod y).before a0 Z = true) (wu : (Jvm.Cond.superclass own y.cls).before a0 Z = true) (ws : (Jvm.Cond.selects C' y' y').before a0 Z = true) (hcls : y'.cls = y.cls) (w3 : (Jvm.Cond.initialized y.cls).before a0 Z = true) (w4 : (Jvm.Cond.code y bytes maxL ret).before a0 Z = true)
    (hy : y.cls ≠ "java/lang/invoke/MethodHandle" ∧ y.cls ≠ "java/lang/invoke/VarHandle")
    (hM : Con l Z y bytes maxL ret [] rm as' h rm.cells rm.slots Q)
    (hf : rm.frames + 1 ≤ R.frames) (hl : W + (maxL + 11) + rm.locals ≤ R.locals) (hc : cells + rm.cells ≤ R.cells) (hs : slots + rm.slots ≤ R.slots)
    (hg : g.method = m) (hsize : g.locals.size = c.maxLocals) (has : (Value.ref a :: argsL).toArray = as') (hlen : ∀ sig, parseMethodDescriptor y.desc = some sig → argsL.length = sig.parameters.length)
    (hstack : g.stack = argsL.reverse ++ .ref a :: rest) (hW : 2 * g.monitorRoom + (rest.map fun v => v.category).sum ≤ W) (hdg : decode c.code g.pc = .ok (.invokespecial index, 3)) :
    ∃ v T' L, Stand p l e R s m args below meth c T' (locs ++ L) (cells + rm.cells) (slots + rm.slots) ∧ Q v T'.heap L ∧ ∀ target, Steps p.tables e below (T'.setTop { g with pc := g.pc + 3, stack := v.toList ++ rest }) target → Steps p.tables e below (T.setTop g) target := by
  obtain ⟨v, _, ⟨T', L', k', n'⟩, -, X', ⟨L, hQ, l', y', z'⟩, st⟩ := superBack X hx hZ (y := y) hown w1 (own_sameM w2 ws hcls hy) w2 wu hyn (backOf (W := W) hM hZ w4 w3 hf hl) eT (a := a) (Ins.self E) (g := g) hg hsize w4 (argsL := argsL) (rest := rest) hlen hstack hW hdg (fun _ _ => ⟨has, eT, hc, hs⟩)
  dsimp only [Pt.U, Pt.locs, Pt.cells, Pt.slots] at X' l' y' z' st hQ
  subst l' y' z'
  exact ⟨v, T', L, X', hQ, fun _ k => st.trans k⟩
theorem own_notface {y y' : MethodName} {C' : String} (hcls : y'.cls = y.cls) (ws : (Jvm.Cond.selects C' y' y').before args s = true) : NotFace s y := fun r0 h0 => by
  obtain ⟨c2, r2, m2, q1, q2, q3, q4, kP, hkP, hkPi⟩ := Cond.selects_spec ws
  have hc := findClass_of_methodNamed h0
  have hc' := findClass_of_methodNamed q3
  rw [hcls] at hc'
  have e : r0.cls = m2.cls := by rw [hc] at hc'; injection hc'
  exact ⟨kP, by rw [e]; exact hkP, hkPi⟩
theorem own_capI {z c : Int32} {n : Nat} (h : ¬ (c < z)) (hc : c.toInt = n) : z.toNatClampNeg ≤ n := by
  rw [Int32.lt_iff_toInt_lt] at h
  show z.toInt.toNat ≤ n
  omega
theorem own_ushr0 (x : Int32) : ((x.toUInt32 >>> ((0 : Int32) &&& 31).toUInt32).toInt32).toInt = x.toInt := by
  have e : ((0 : Int32) &&& 31).toUInt32 = 0 := by decide
  rw [e]; simp
end OwnKit
section OwnWide
variable {p : Program} {l : Launch} {e : Env} {R : Room} {s : State} {m : MethodId} {args : Array Value} {below : List Frame} {meth : Method} {c : Code} {T : State} {locs : List Loc} {cells slots : Nat} {Z : State} {a0 : Array Value} {h : Heap}
theorem Go.retW {Qn : Option Value → Heap → List Loc → Prop} {rc rs n : Nat} {vm0 : Vm} (X : Stand p l e R (s.setVm vm0) m args below meth c T locs cells slots) (hS : s.Since vm0 n) (hn : n ≤ T.heap.size) {v : Option Value} (hv : meth.sig.returnType = none → v = none) (hlk : meth.locks = false) {f : JFrame}
    (st : ∀ fs, (∀ (f : JFrame) (acts : List Action), f.method = m → f.locked = none → f.entered = [] → (doReturn e (T.setTop f) acts v).1 = T.setFrames fs) → Steps p.tables e below (T.setTop f) (T.setFrames fs))
    (hc : cells ≤ rc) (hs : slots ≤ rs) (hQ : Qn v T.heap locs) : Go p e below (fun o U' => ∃ v L, o = .returned v ∧ Qn v U'.heap L ∧ ReturnedEndW s o U' L rc rs) (T.setTop f) := by
  obtain ⟨fs, hr, hrun, hended, h1, h2, h3, h4⟩ := leaveW X hS hn (v := v) hv hlk
  exact ⟨_, _, st fs hr, hrun, hended, v, locs, rfl, hQ, h1, h2, h3, h4.mono hc hs⟩
abbrev ConW (l : Launch) (Z : State) (y : MethodName) (bytes : ByteArray) (maxL : Nat) (ret : Option FieldType) (ws : List Jvm.Cond) (rm : Room) (as' : Array Value) (h : Heap) (rc rs : Nat) (Q : Option Value → Heap → List Loc → Prop) : Prop :=
  MetFree l y (head1 (Jvm.Cond.code y bytes maxL ret :: ws) rm) (fun a U => a = as' ∧ Z.WarmedH U.vm ∧ U.heap = h) (fun _ _ _ _ _ => True) (fun _ U o U' => ∃ v L, o = .returned v ∧ Q v U'.heap L ∧ ReturnedEndW U o U' L rc rs)
theorem own_backW {y : MethodName} {bytes : ByteArray} {maxL : Nat} {ret : Option FieldType} {rm : Room} {len W : Nat} {as' : Array Value} {Q : Option Value → Heap → List Loc → Prop}
    (hM : ConW l Z y bytes maxL ret [] rm as' h rm.cells rm.slots Q) (hZ : Z.WarmedH s.vm) (wc : (Jvm.Cond.code y bytes maxL ret).before a0 Z = true) (wz : (Jvm.Cond.initialized y.cls).before a0 Z = true) (hf : rm.frames + 1 ≤ R.frames) (hl : W + (maxL + 11) + rm.locals ≤ R.locals) :
    BackS l R p e below s args y len W (fun A a => a = as' ∧ A.U.heap = h ∧ A.cells + rm.cells ≤ R.cells ∧ A.slots + rm.slots ≤ R.slots)
      (fun A _ v B => ∃ L, Q v B.U.heap L ∧ B.locs = A.locs ++ L ∧ B.cells = A.cells + rm.cells ∧ B.slots = A.slots + rm.slots) :=
  BackS.of_freeW (bytes := bytes) (maxL := maxL) (ret := ret) (E := fun _ _ o t L k n => k = rm.cells ∧ n = rm.slots ∧ ∃ v, o = .returned v ∧ Q v t.heap L) hM hf hl
    (fun m meth c A a Y hp => have hU : Z.Warmed39 A.U.vm := wtrans hZ.wide Y.warmed
      ⟨by show (Jvm.Cond.and _ .tt).before a A.U = true; rw [Cond.before_and, mv hU wc]; rfl, mv hU wc, mv hU wz, hp.2.2.1, hp.2.2.2⟩)
    (fun m meth c A a g mk Y hp => ⟨hp.1, State.WarmedH.trans hZ Y.warmed, hp.2.1⟩) (fun _ _ _ _ _ _ _ _ _ => trivial)
    (fun _ _ _ _ ⟨v, L, h1, h2, h3⟩ => ⟨L, _, _, h3, rfl, rfl, v, h1, h2⟩)
    (fun m meth c A a g mk v t L k n Y hp _ _ ⟨e1, e2, v', e3, e4⟩ => by cases e3; subst e1 e2; exact ⟨L, e4, rfl, rfl, rfl⟩)
theorem own_callIW {own : String} {index : Nat} {y : MethodName} {bytes : ByteArray} {maxL : Nat} {rm : Room} {as' : Array Value} {Q : Option Value → Heap → List Loc → Prop} {W : Nat} {g : JFrame} {a : Addr} {argsL rest : List Value}
    (X : Stand p l e R s m args below meth c T locs cells slots) (hx : p.tables.exec = Jvm.exec) (hZH : Z.WarmedH s.vm) (eT : T.heap = h) (hown : s.vm.findClass own = some m.cls) (hyn : y.name = "<init>")
    (w1 : (Jvm.Cond.methodLink own index y).before a0 Z = true) (w2 : (Jvm.Cond.instanceMethod y).before a0 Z = true) (w3 : (Jvm.Cond.initialized y.cls).before a0 Z = true) (w4 : (Jvm.Cond.code y bytes maxL none).before a0 Z = true)
    (hy : y.cls ≠ "java/lang/invoke/MethodHandle" ∧ y.cls ≠ "java/lang/invoke/VarHandle")
    (hM : ConW l Z y bytes maxL none [] rm as' h rm.cells rm.slots Q)
    (hf : rm.frames + 1 ≤ R.frames) (hl : W + (maxL + 11) + rm.locals ≤ R.locals) (hc : cells + rm.cells ≤ R.cells) (hs : slots + rm.slots ≤ R.slots)
    (hg : g.method = m) (hsize : g.locals.size = c.maxLocals) (has : (Value.ref a :: argsL).toArray = as') (hlen : ∀ sig, parseMethodDescriptor y.desc = some sig → argsL.length = sig.parameters.length)
    (hstack : g.stack = argsL.reverse ++ .ref a :: rest) (hW : 2 * g.monitorRoom + (rest.map fun v => v.category).sum ≤ W) (hdg : decode c.code g.pc = .ok (.invokespecial index, 3)) :
    ∃ v T' L, Stand p l e R (s.setVm T'.vm) m args below meth c T' (locs ++ L) (cells + rm.cells) (slots + rm.slots) ∧ Q v T'.heap L ∧ s.Since T'.vm T'.heap.size ∧ Z.Warmed39 T'.vm ∧ T'.vm.findClass own = some m.cls ∧ ∀ target, Steps p.tables e below (T'.setTop { g with pc := g.pc + 3, stack := v.toList ++ rest }) target → Steps p.tables e below (T.setTop g) target := by
  have hZ := hZH.wide
  obtain ⟨v, _, ⟨T', L', k', n'⟩, -, X', hS, -, ⟨L, hQ, l', y', z'⟩, st⟩ := X.specialBackS hx (y := y) hyn hown (mvT hZ w1) (mvT hZ w2) (mvT hZ w4) hy (own_backW (W := W) hM hZH w4 w3 hf hl) (g := g) hg hsize (Steps.refl _) (a := a) (argsL := argsL) (rest := rest) hlen hstack hW hdg (fun _ _ => ⟨has, eT, hc, hs⟩)
  dsimp only [Pt.U, Pt.locs, Pt.cells, Pt.slots] at X' l' y' z' st hQ hS
  subst l' y' z'
  exact ⟨v, T', L, X', hQ, hS, State.Warmed39.trans (t := s) hZ hS.1, by rw [hS.1.alike.findClass]; exact hown, fun _ k => st.trans k⟩
theorem own_ib {vm : Vm} (hZ : Z.WarmedH vm) : IB Z vm [] := ⟨#[], by rw [hZ.interned_eq]; simp, fun q hq => by simp at hq⟩
theorem own_since (hs : True) : s.Since s.vm 0 := State.WarmedH.since (State.WarmedH.refl _) 0
theorem Go.retN {Qn : Option Value → Heap → List Loc → Prop} {rc rs : Nat} (X : Stand p l e R s m args below meth c T locs cells slots) {v : Option Value} (hv : meth.sig.returnType = none → v = none) (hlk : meth.locks = false) {f : JFrame}
    (st : ∀ fs, (∀ (f : JFrame) (acts : List Action), f.method = m → f.locked = none → f.entered = [] → (doReturn e (T.setTop f) acts v).1 = T.setFrames fs) → Steps p.tables e below (T.setTop f) (T.setFrames fs))
    (hc : cells ≤ rc) (hs : slots ≤ rs) (hQ : Qn v T.heap locs) : Go p e below (fun o U' => ∃ v L, o = .returned v ∧ Qn v U'.heap L ∧ ReturnedEndW s o U' L rc rs) (T.setTop f) := by
  obtain ⟨fs, hr, hrun, hended, hW, hsame⟩ := X.leave (v := v) hv hlk
  exact ⟨_, _, st fs hr, hrun, hended, v, locs, rfl, hQ, ReturnedEndW.of_narrow ⟨_, rfl⟩ hW (hsame.mono hc hs)⟩
theorem own_arv_ne {k k' : ClassId} {ty ty' : FieldType} {z z' : Int32} {vs vs' : List Value} {d d' : Value} {a b : Addr} (F : Arv Z h a k ty z vs d) (G : Arv Z h b k' ty' z' vs' d') (q : z.toNatClampNeg ≠ z'.toNatClampNeg) : a ≠ b := fun e => by
  subst e
  obtain ⟨c, A, -, s1, -⟩ := F
  obtain ⟨c', A', -, s2, -⟩ := G
  have := A.1.symm.trans A'.1
  injection this with this
  subst this
  exact q (s1.symm.trans s2)
theorem own_fr_le {n n' : Nat} {L : List Loc} (N : Fr n L) (q : n' ≤ n) : Fr n' L := fun y hy => Nat.le_trans q (N y hy)
end OwnWide
theorem own_wS {Z : State} {a0 : Array Value} (hw : ∀ d ∈ tables_1, d.before a0 Z = true) : ∀ a ∈ Bundle.stringAtoms, a.before a0 Z = true := by
  intro a ha
  simp only [Bundle.stringAtoms, List.mem_cons, List.not_mem_nil, or_false] at ha
  rcases ha with rfl | rfl | rfl | rfl | rfl | rfl | rfl
  · exact (hw _ (List.mem_of_getElem? (i := 22) rfl))
  · exact (hw _ (List.mem_of_getElem? (i := 29) rfl))
  · exact (hw _ (List.mem_of_getElem? (i := 23) rfl))
  · exact (hw _ (List.mem_of_getElem? (i := 30) rfl))
  · exact (hw _ (List.mem_of_getElem? (i := 31) rfl))
  · exact (hw _ (List.mem_of_getElem? (i := 32) rfl))
  · exact (hw _ (List.mem_of_getElem? (i := 33) rfl))
section OwnStart
variable {args : Array Value} {Z : State}
theorem own_eq_int {t : Term} {k : Int32} (h : (Jvm.Cond.eq t (.int k)).value args Z none Z [] = some true) : t.eval args Z none [] Z = some (.int k) := by
  obtain ⟨a, b, h1, h2, h3, h4⟩ := cmp_v (Or.inl h)
  have hb : b = .int k := Option.some.inj (h2.symm.trans (Term.int_eval k))
  subst hb
  obtain ⟨z, rfl⟩ : ∃ z, a = .int z := h4
  have q : z = k := by simpa [Cond.value, h1, h2] using h
  rw [h1, q]
theorem own_eq_ref {t u : Term} {a : Addr} (h : (Jvm.Cond.eq t u).value args Z none Z [] = some true) (hu : u.eval args Z none [] Z = some (.ref a)) : t.eval args Z none [] Z = some (.ref a) := by
  obtain ⟨x, y, h1, h2, h3, h4⟩ := cmp_v (Or.inl h)
  have hb : y = .ref a := Option.some.inj (h2.symm.trans hu)
  subst hb
  obtain ⟨-, q⟩ : Value.isRef (.ref a) = true ∧ x.isRef = true := h4
  have e := eq_R (a := t) (b := u) h1 h2 q rfl
  rw [e] at h
  have r : x = .ref a := by simpa using h
  rw [h1, r]
theorem own_ne0 {t : Term} {z : Int32} (ht : t.eval args Z none [] Z = some (.int z)) (h : (Jvm.Cond.not (Jvm.Cond.eq t (.int 0))).value args Z none Z [] = some true) : z ≠ 0 := by
  have q := not_v h
  intro e
  subst e
  simp [Cond.value, ht, Term.eval] at q
theorem own_fld {t : Term} {C n d : String} {a : Addr} {v : Value} (ht : t.eval args Z none [] Z = some (.ref a)) (h : (Term.field t C n d).eval args Z none [] Z = some v) : Fld Z Z.heap a C n d v := Fld.start ((fld_at ht).symm.trans h)
theorem own_len {t : Term} {a : Addr} {c : Cell} {k : Int32} {ty : FieldType} (ht : t.eval args Z none [] Z = some (.ref a)) (A : Arr Z Z.heap a c ty) (h : (Term.length t).eval args Z none [] Z = some (.int k)) : c.slots.size < 2 ^ 31 ∧ c.slots.size.toInt32 = k := by
  have q : Z.arrayAt? a = some c := A.fin (Vm.Alike.refl _)
  by_cases hl : c.slots.size < 2 ^ 31
  · have e := (len_f (t := t) ht q hl).symm.trans h
    exact ⟨hl, by simpa using e⟩
  · exfalso
    have hl' : ¬ c.slots.size < 2147483648 := hl
    simp [Term.eval, ht, q, hl'] at h
theorem own_slot {t : Term} {a : Addr} {c : Cell} {ty : FieldType} {v : Value} {j : Int32} (ht : t.eval args Z none [] Z = some (.ref a)) (A : Arr Z Z.heap a c ty) (h : (Term.elem t (.int j)).eval args Z none [] Z = some v) : c.slots[j.toNatClampNeg]? = some v := (elem_in h ht (Term.int_eval j) A.1).2
end OwnStart
section OwnDigits
variable {args a0 : Array Value} {Z : State}
theorem own_arrX {t : Term} {a : Addr} {k : Int32} (ev : t.eval args Z none [] Z = some (.ref a)) (hx : (Jvm.Cond.exactly t "[B").value args Z none Z [] = some true) (hl : (Jvm.Cond.eq (.length t) (.int k)).value args Z none Z [] = some true) (wa : (Jvm.Cond.arrayClass .byte).before a0 Z = true) : ∃ c, Arr Z Z.heap a c .byte := by
  obtain ⟨d, cB, D, kB, hev, hfcB, hcellD, hkB, hstatD, hclsD, -⟩ := Cond.exactly_spec (Cond.before_iff.mpr hx)
  obtain ⟨d', D', hev', harrAt, hlen⟩ := Term.length_spec (own_eq_int hl)
  cases hev.symm.trans hev'
  cases ev.symm.trans hev'
  obtain ⟨hcellD', hknD, -, -⟩ := State.arrayAt?_spec harrAt
  cases hcellD.symm.trans hcellD'
  obtain ⟨cB', kB', comp, hnameB, hkB', hkindB⟩ := Cond.arrayClass_spec wa
  have eBA : ("[" ++ FieldType.toString .byte) = "[B" := by decide
  rw [eBA] at hnameB
  cases hfcB.symm.trans hnameB
  cases hkB.symm.trans hkB'
  exact ⟨D, hcellD, ⟨(fun q h => by rw [h] at hstatD; cases hstatD), kB, (by rw [hclsD]; exact hkB), comp, hkindB⟩, hknD⟩
theorem own_hasL {c : Cell} : ∀ (vs : List Value) (i : Nat), (∀ j, j < vs.length → c.slots[i + j]? = vs[j]?) → HasL c i vs
  | [], _, _ => trivial
  | v :: r, i, H => ⟨by have := H 0 (by simp); simpa using this, own_hasL r (i + 1) fun j hj => by
      have := H (j + 1) (by simp; omega)
      rw [show i + 1 + j = i + (j + 1) by omega]; simpa using this⟩
theorem own_digits {t : Term} {a : Addr} {c : Cell} (ev : ∀ idx, t.eval args Z none idx Z = some (.ref a)) (A : Arr Z Z.heap a c .byte) (hq : c.slots.size < 2 ^ 31) (hs : c.slots.size.toInt32 = 100)
    (h : (Jvm.Cond.all t (Jvm.Cond.eq (Term.elem t (.index 0)) (.add (.int 48) (.rem (.index 0) (.int 10))))).value args Z none Z [] = some true) {vs : List Value} (hv : vs = (List.range 100).map fun r => Value.int (48 + Int32.ofNat r % 10)) : HasL c 0 vs := by
  have S : c.slots.size = 100 := by
    have e : (c.slots.size.toInt32).toNatClampNeg = 100 := by rw [hs]; rfl
    simp only [Int32.toNatClampNeg, len_toInt hq] at e; exact e
  have harr : Z.arrayAt? a = some c := A.fin (Vm.Alike.refl _)
  subst hv
  refine own_hasL _ 0 fun j hj => ?_
  have hj' : j < 100 := by simpa using hj
  have q := Cond.all_elim (ev []) harr h j (by omega)
  have eL : (Term.elem t (.index 0)).eval args Z none [j] Z = c.slots[j]? := Jvm.Free.SBG.elem_at (ix := .index 0) (ev [j]) harr (by omega) (by omega) rfl
  have eR : (Term.add (.int 48) (.rem (.index 0) (.int 10))).eval args Z none [j] Z = some (.int (48 + Int32.ofNat j % 10)) := rfl
  obtain ⟨x, y, h1, h2, h3, h4⟩ := cmp_v (Or.inl q)
  have hy : y = .int (48 + Int32.ofNat j % 10) := Option.some.inj (h2.symm.trans eR)
  subst hy
  obtain ⟨z, rfl⟩ : ∃ z, x = .int z := h4
  have e := Cond.eq_ints h1 h2
  rw [e] at q
  have qq := of_decide_eq_true (Option.some.inj q)
  rw [Nat.zero_add, ← eL, h1, qq]
  simp [hj']
end OwnDigits
theorem djdk_2648_method_3_code_0 : decode jdk_2648_method_3_code 0 = .ok (.aload_n 0, 1) := by decide +kernel
theorem djdk_2648_method_3_code_1 : decode jdk_2648_method_3_code 1 = .ok (.invokespecial 1, 3) := by decide +kernel
theorem djdk_2648_method_3_code_4 : decode jdk_2648_method_3_code 4 = .ok (.aload_n 0, 1) := by decide +kernel
theorem djdk_2648_method_3_code_5 : decode jdk_2648_method_3_code 5 = .ok (.iconst 1, 1) := by decide +kernel
theorem djdk_2648_method_3_code_6 : decode jdk_2648_method_3_code 6 = .ok (.putfield 7, 3) := by decide +kernel
theorem djdk_2648_method_3_code_9 : decode jdk_2648_method_3_code 9 = .ok (.aload_n 0, 1) := by decide +kernel
theorem djdk_2648_method_3_code_10 : decode jdk_2648_method_3_code 10 = .ok (.dload_n 1, 1) := by decide +kernel
theorem djdk_2648_method_3_code_11 : decode jdk_2648_method_3_code 11 = .ok (.putfield 17, 3) := by decide +kernel
theorem djdk_2648_method_3_code_14 : decode jdk_2648_method_3_code 14 = .ok (.return_, 1) := by decide +kernel
theorem djdk_2648_method_4_code_0 : decode jdk_2648_method_4_code 0 = .ok (.new 8, 3) := by decide +kernel
theorem djdk_2648_method_4_code_3 : decode jdk_2648_method_4_code 3 = .ok (.dup, 1) := by decide +kernel
theorem djdk_2648_method_4_code_4 : decode jdk_2648_method_4_code 4 = .ok (.dload_n 0, 1) := by decide +kernel
theorem djdk_2648_method_4_code_5 : decode jdk_2648_method_4_code 5 = .ok (.invokespecial 25, 3) := by decide +kernel
theorem djdk_2648_method_4_code_8 : decode jdk_2648_method_4_code 8 = .ok (.areturn, 1) := by decide +kernel
theorem djdk_29_method_69_code_0 : decode jdk_29_method_69_code 0 = .ok (.iload_n 0, 1) := by decide +kernel
theorem djdk_29_method_69_code_1 : decode jdk_29_method_69_code 1 = .ok (.iload_n 1, 1) := by decide +kernel
theorem djdk_29_method_69_code_2 : decode jdk_29_method_69_code 2 = .ok (.if_icmp .gt 7, 3) := by decide +kernel
theorem djdk_29_method_69_code_9 : decode jdk_29_method_69_code 9 = .ok (.iload_n 1, 1) := by decide +kernel
theorem djdk_29_method_69_code_10 : decode jdk_29_method_69_code 10 = .ok (.ireturn, 1) := by decide +kernel
theorem djdk_33_method_12_code_0 : decode jdk_33_method_12_code 0 = .ok (.iload_n 1, 1) := by decide +kernel
theorem djdk_33_method_12_code_1 : decode jdk_33_method_12_code 1 = .ok (.istore 5, 2) := by decide +kernel
theorem djdk_33_method_12_code_3 : decode jdk_33_method_12_code 3 = .ok (.iload_n 0, 1) := by decide +kernel
theorem djdk_33_method_12_code_4 : decode jdk_33_method_12_code 4 = .ok (.ifCond .ge 7, 3) := by decide +kernel
theorem djdk_33_method_12_code_11 : decode jdk_33_method_12_code 11 = .ok (.iconst 0, 1) := by decide +kernel
theorem djdk_33_method_12_code_12 : decode jdk_33_method_12_code 12 = .ok (.istore 6, 2) := by decide +kernel
theorem djdk_33_method_12_code_14 : decode jdk_33_method_12_code 14 = .ok (.iload 6, 2) := by decide +kernel
theorem djdk_33_method_12_code_16 : decode jdk_33_method_12_code 16 = .ok (.ifCond .ne 6, 3) := by decide +kernel
theorem djdk_33_method_12_code_19 : decode jdk_33_method_12_code 19 = .ok (.iload_n 0, 1) := by decide +kernel
theorem djdk_33_method_12_code_20 : decode jdk_33_method_12_code 20 = .ok (.ineg, 1) := by decide +kernel
theorem djdk_33_method_12_code_21 : decode jdk_33_method_12_code 21 = .ok (.istore_n 0, 1) := by decide +kernel
theorem djdk_33_method_12_code_22 : decode jdk_33_method_12_code 22 = .ok (.iload_n 0, 1) := by decide +kernel
theorem djdk_33_method_12_code_23 : decode jdk_33_method_12_code 23 = .ok (.bipush (-100), 2) := by decide +kernel
theorem djdk_33_method_12_code_25 : decode jdk_33_method_12_code 25 = .ok (.if_icmp .gt 47, 3) := by decide +kernel
theorem djdk_33_method_12_code_72 : decode jdk_33_method_12_code 72 = .ok (.aload_n 2, 1) := by decide +kernel
theorem djdk_33_method_12_code_73 : decode jdk_33_method_12_code 73 = .ok (.iinc 5 (-1), 3) := by decide +kernel
theorem djdk_33_method_12_code_76 : decode jdk_33_method_12_code 76 = .ok (.iload 5, 2) := by decide +kernel
theorem djdk_33_method_12_code_78 : decode jdk_33_method_12_code 78 = .ok (.getstatic 83, 3) := by decide +kernel
theorem djdk_33_method_12_code_81 : decode jdk_33_method_12_code 81 = .ok (.iload_n 0, 1) := by decide +kernel
theorem djdk_33_method_12_code_82 : decode jdk_33_method_12_code 82 = .ok (.ineg, 1) := by decide +kernel
theorem djdk_33_method_12_code_83 : decode jdk_33_method_12_code 83 = .ok (.baload, 1) := by decide +kernel
theorem djdk_33_method_12_code_84 : decode jdk_33_method_12_code 84 = .ok (.bastore, 1) := by decide +kernel
theorem djdk_33_method_12_code_85 : decode jdk_33_method_12_code 85 = .ok (.iload_n 0, 1) := by decide +kernel
theorem djdk_33_method_12_code_86 : decode jdk_33_method_12_code 86 = .ok (.bipush (-9), 2) := by decide +kernel
theorem djdk_33_method_12_code_88 : decode jdk_33_method_12_code 88 = .ok (.if_icmp .ge 16, 3) := by decide +kernel
theorem djdk_33_method_12_code_104 : decode jdk_33_method_12_code 104 = .ok (.iload 6, 2) := by decide +kernel
theorem djdk_33_method_12_code_106 : decode jdk_33_method_12_code 106 = .ok (.ifCond .eq 12, 3) := by decide +kernel
theorem djdk_33_method_12_code_118 : decode jdk_33_method_12_code 118 = .ok (.iload 5, 2) := by decide +kernel
theorem djdk_33_method_12_code_120 : decode jdk_33_method_12_code 120 = .ok (.ireturn, 1) := by decide +kernel
theorem djdk_33_method_13_code_0 : decode jdk_33_method_13_code 0 = .ok (.iconst 1, 1) := by decide +kernel
theorem djdk_33_method_13_code_1 : decode jdk_33_method_13_code 1 = .ok (.istore_n 1, 1) := by decide +kernel
theorem djdk_33_method_13_code_2 : decode jdk_33_method_13_code 2 = .ok (.iload_n 0, 1) := by decide +kernel
theorem djdk_33_method_13_code_3 : decode jdk_33_method_13_code 3 = .ok (.ifCond .lt 8, 3) := by decide +kernel
theorem djdk_33_method_13_code_6 : decode jdk_33_method_13_code 6 = .ok (.iconst 0, 1) := by decide +kernel
theorem djdk_33_method_13_code_7 : decode jdk_33_method_13_code 7 = .ok (.istore_n 1, 1) := by decide +kernel
theorem djdk_33_method_13_code_8 : decode jdk_33_method_13_code 8 = .ok (.iload_n 0, 1) := by decide +kernel
theorem djdk_33_method_13_code_9 : decode jdk_33_method_13_code 9 = .ok (.ineg, 1) := by decide +kernel
theorem djdk_33_method_13_code_10 : decode jdk_33_method_13_code 10 = .ok (.istore_n 0, 1) := by decide +kernel
theorem djdk_33_method_13_code_11 : decode jdk_33_method_13_code 11 = .ok (.bipush (-10), 2) := by decide +kernel
theorem djdk_33_method_13_code_13 : decode jdk_33_method_13_code 13 = .ok (.istore_n 2, 1) := by decide +kernel
theorem djdk_33_method_13_code_14 : decode jdk_33_method_13_code 14 = .ok (.iconst 1, 1) := by decide +kernel
theorem djdk_33_method_13_code_15 : decode jdk_33_method_13_code 15 = .ok (.istore_n 3, 1) := by decide +kernel
theorem djdk_33_method_13_code_16 : decode jdk_33_method_13_code 16 = .ok (.iload_n 3, 1) := by decide +kernel
theorem djdk_33_method_13_code_17 : decode jdk_33_method_13_code 17 = .ok (.bipush 10, 2) := by decide +kernel
theorem djdk_33_method_13_code_19 : decode jdk_33_method_13_code 19 = .ok (.if_icmp .ge 23, 3) := by decide +kernel
theorem djdk_33_method_13_code_22 : decode jdk_33_method_13_code 22 = .ok (.iload_n 0, 1) := by decide +kernel
theorem djdk_33_method_13_code_23 : decode jdk_33_method_13_code 23 = .ok (.iload_n 2, 1) := by decide +kernel
theorem djdk_33_method_13_code_24 : decode jdk_33_method_13_code 24 = .ok (.if_icmp .le 7, 3) := by decide +kernel
theorem djdk_33_method_13_code_27 : decode jdk_33_method_13_code 27 = .ok (.iload_n 3, 1) := by decide +kernel
theorem djdk_33_method_13_code_28 : decode jdk_33_method_13_code 28 = .ok (.iload_n 1, 1) := by decide +kernel
theorem djdk_33_method_13_code_29 : decode jdk_33_method_13_code 29 = .ok (.iadd, 1) := by decide +kernel
theorem djdk_33_method_13_code_30 : decode jdk_33_method_13_code 30 = .ok (.ireturn, 1) := by decide +kernel
theorem djdk_42_method_147_code_0 : decode jdk_42_method_147_code 0 = .ok (.aload_n 0, 1) := by decide +kernel
theorem djdk_42_method_147_code_1 : decode jdk_42_method_147_code 1 = .ok (.invokevirtual 335, 3) := by decide +kernel
theorem djdk_42_method_147_code_4 : decode jdk_42_method_147_code 4 = .ok (.iload_n 3, 1) := by decide +kernel
theorem djdk_42_method_147_code_5 : decode jdk_42_method_147_code 5 = .ok (.if_icmp .ne 23, 3) := by decide +kernel
theorem djdk_42_method_147_code_8 : decode jdk_42_method_147_code 8 = .ok (.aload_n 0, 1) := by decide +kernel
theorem djdk_42_method_147_code_9 : decode jdk_42_method_147_code 9 = .ok (.getfield 9, 3) := by decide +kernel
theorem djdk_42_method_147_code_12 : decode jdk_42_method_147_code 12 = .ok (.iconst 0, 1) := by decide +kernel
theorem djdk_42_method_147_code_13 : decode jdk_42_method_147_code 13 = .ok (.aload_n 1, 1) := by decide +kernel
theorem djdk_42_method_147_code_14 : decode jdk_42_method_147_code 14 = .ok (.iload_n 2, 1) := by decide +kernel
theorem djdk_42_method_147_code_15 : decode jdk_42_method_147_code 15 = .ok (.iload_n 3, 1) := by decide +kernel
theorem djdk_42_method_147_code_16 : decode jdk_42_method_147_code 16 = .ok (.ishl, 1) := by decide +kernel
theorem djdk_42_method_147_code_17 : decode jdk_42_method_147_code 17 = .ok (.aload_n 0, 1) := by decide +kernel
theorem djdk_42_method_147_code_18 : decode jdk_42_method_147_code 18 = .ok (.getfield 9, 3) := by decide +kernel
theorem djdk_42_method_147_code_21 : decode jdk_42_method_147_code 21 = .ok (.arraylength, 1) := by decide +kernel
theorem djdk_42_method_147_code_22 : decode jdk_42_method_147_code 22 = .ok (.invokestatic 212, 3) := by decide +kernel
theorem djdk_42_method_147_code_25 : decode jdk_42_method_147_code 25 = .ok (.goto 18, 3) := by decide +kernel
theorem djdk_42_method_147_code_43 : decode jdk_42_method_147_code 43 = .ok (.return_, 1) := by decide +kernel
theorem djdk_42_method_150_code_0 : decode jdk_42_method_150_code 0 = .ok (.aload_n 0, 1) := by decide +kernel
theorem djdk_42_method_150_code_1 : decode jdk_42_method_150_code 1 = .ok (.invokespecial 1, 3) := by decide +kernel
theorem djdk_42_method_150_code_4 : decode jdk_42_method_150_code 4 = .ok (.aload_n 1, 1) := by decide +kernel
theorem djdk_42_method_150_code_5 : decode jdk_42_method_150_code 5 = .ok (.invokevirtual 552, 3) := by decide +kernel
theorem djdk_42_method_150_code_8 : decode jdk_42_method_150_code 8 = .ok (.astore_n 3, 1) := by decide +kernel
theorem djdk_42_method_150_code_9 : decode jdk_42_method_150_code 9 = .ok (.aload_n 1, 1) := by decide +kernel
theorem djdk_42_method_150_code_10 : decode jdk_42_method_150_code 10 = .ok (.invokevirtual 549, 3) := by decide +kernel
theorem djdk_42_method_150_code_13 : decode jdk_42_method_150_code 13 = .ok (.istore 4, 2) := by decide +kernel
theorem djdk_42_method_150_code_15 : decode jdk_42_method_150_code 15 = .ok (.aload_n 1, 1) := by decide +kernel
theorem djdk_42_method_150_code_16 : decode jdk_42_method_150_code 16 = .ok (.invokevirtual 1047, 3) := by decide +kernel
theorem djdk_42_method_150_code_19 : decode jdk_42_method_150_code 19 = .ok (.ifCond .eq 22, 3) := by decide +kernel
theorem djdk_42_method_150_code_22 : decode jdk_42_method_150_code 22 = .ok (.aload_n 0, 1) := by decide +kernel
theorem djdk_42_method_150_code_23 : decode jdk_42_method_150_code 23 = .ok (.iconst 0, 1) := by decide +kernel
theorem djdk_42_method_150_code_24 : decode jdk_42_method_150_code 24 = .ok (.putfield 15, 3) := by decide +kernel
theorem djdk_42_method_150_code_27 : decode jdk_42_method_150_code 27 = .ok (.aload_n 0, 1) := by decide +kernel
theorem djdk_42_method_150_code_28 : decode jdk_42_method_150_code 28 = .ok (.aload_n 3, 1) := by decide +kernel
theorem djdk_42_method_150_code_29 : decode jdk_42_method_150_code 29 = .ok (.iconst 0, 1) := by decide +kernel
theorem djdk_42_method_150_code_30 : decode jdk_42_method_150_code 30 = .ok (.iload 4, 2) := by decide +kernel
theorem djdk_42_method_150_code_32 : decode jdk_42_method_150_code 32 = .ok (.invokestatic 54, 3) := by decide +kernel
theorem djdk_42_method_150_code_35 : decode jdk_42_method_150_code 35 = .ok (.putfield 9, 3) := by decide +kernel
theorem djdk_42_method_150_code_38 : decode jdk_42_method_150_code 38 = .ok (.goto 59, 3) := by decide +kernel
theorem djdk_42_method_150_code_97 : decode jdk_42_method_150_code 97 = .ok (.return_, 1) := by decide +kernel
theorem djdk_42_method_152_code_0 : decode jdk_42_method_152_code 0 = .ok (.getstatic 38, 3) := by decide +kernel
theorem djdk_42_method_152_code_3 : decode jdk_42_method_152_code 3 = .ok (.ifCond .eq 10, 3) := by decide +kernel
theorem djdk_42_method_152_code_6 : decode jdk_42_method_152_code 6 = .ok (.aload_n 0, 1) := by decide +kernel
theorem djdk_42_method_152_code_7 : decode jdk_42_method_152_code 7 = .ok (.getfield 15, 3) := by decide +kernel
theorem djdk_42_method_152_code_10 : decode jdk_42_method_152_code 10 = .ok (.goto 4, 3) := by decide +kernel
theorem djdk_42_method_152_code_14 : decode jdk_42_method_152_code 14 = .ok (.ireturn, 1) := by decide +kernel
theorem djdk_42_method_53_code_0 : decode jdk_42_method_53_code 0 = .ok (.aload_n 0, 1) := by decide +kernel
theorem djdk_42_method_53_code_1 : decode jdk_42_method_53_code 1 = .ok (.aload_n 1, 1) := by decide +kernel
theorem djdk_42_method_53_code_2 : decode jdk_42_method_53_code 2 = .ok (.aconst_null, 1) := by decide +kernel
theorem djdk_42_method_53_code_3 : decode jdk_42_method_53_code 3 = .ok (.invokespecial 489, 3) := by decide +kernel
theorem djdk_42_method_53_code_6 : decode jdk_42_method_53_code 6 = .ok (.return_, 1) := by decide +kernel
theorem djdk_42_method_54_code_0 : decode jdk_42_method_54_code 0 = .ok (.aload_n 0, 1) := by decide +kernel
theorem djdk_42_method_54_code_1 : decode jdk_42_method_54_code 1 = .ok (.getfield 9, 3) := by decide +kernel
theorem djdk_42_method_54_code_4 : decode jdk_42_method_54_code 4 = .ok (.arraylength, 1) := by decide +kernel
theorem djdk_42_method_54_code_5 : decode jdk_42_method_54_code 5 = .ok (.aload_n 0, 1) := by decide +kernel
theorem djdk_42_method_54_code_6 : decode jdk_42_method_54_code 6 = .ok (.invokevirtual 335, 3) := by decide +kernel
theorem djdk_42_method_54_code_9 : decode jdk_42_method_54_code 9 = .ok (.ishr, 1) := by decide +kernel
theorem djdk_42_method_54_code_10 : decode jdk_42_method_54_code 10 = .ok (.ireturn, 1) := by decide +kernel
theorem djdk_65_method_131_code_0 : decode jdk_65_method_131_code 0 = .ok (.iload_n 1, 1) := by decide +kernel
theorem djdk_65_method_131_code_1 : decode jdk_65_method_131_code 1 = .ok (.iload_n 0, 1) := by decide +kernel
theorem djdk_65_method_131_code_2 : decode jdk_65_method_131_code 2 = .ok (.if_icmp .ge 35, 3) := by decide +kernel
theorem djdk_65_method_131_code_37 : decode jdk_65_method_131_code 37 = .ok (.return_, 1) := by decide +kernel
theorem djdk_65_method_132_code_0 : decode jdk_65_method_132_code 0 = .ok (.iload_n 1, 1) := by decide +kernel
theorem djdk_65_method_132_code_1 : decode jdk_65_method_132_code 1 = .ok (.ifCond .ne 9, 3) := by decide +kernel
theorem djdk_65_method_132_code_4 : decode jdk_65_method_132_code 4 = .ok (.iload_n 2, 1) := by decide +kernel
theorem djdk_65_method_132_code_5 : decode jdk_65_method_132_code 5 = .ok (.aload_n 0, 1) := by decide +kernel
theorem djdk_65_method_132_code_6 : decode jdk_65_method_132_code 6 = .ok (.arraylength, 1) := by decide +kernel
theorem djdk_65_method_132_code_7 : decode jdk_65_method_132_code 7 = .ok (.if_icmp .eq 10, 3) := by decide +kernel
theorem djdk_65_method_132_code_10 : decode jdk_65_method_132_code 10 = .ok (.aload_n 0, 1) := by decide +kernel
theorem djdk_65_method_132_code_11 : decode jdk_65_method_132_code 11 = .ok (.iload_n 1, 1) := by decide +kernel
theorem djdk_65_method_132_code_12 : decode jdk_65_method_132_code 12 = .ok (.iload_n 2, 1) := by decide +kernel
theorem djdk_65_method_132_code_13 : decode jdk_65_method_132_code 13 = .ok (.invokestatic 339, 3) := by decide +kernel
theorem djdk_65_method_132_code_16 : decode jdk_65_method_132_code 16 = .ok (.areturn, 1) := by decide +kernel
theorem djdk_65_method_133_code_0 : decode jdk_65_method_133_code 0 = .ok (.iload_n 1, 1) := by decide +kernel
theorem djdk_65_method_133_code_1 : decode jdk_65_method_133_code 1 = .ok (.iload_n 2, 1) := by decide +kernel
theorem djdk_65_method_133_code_2 : decode jdk_65_method_133_code 2 = .ok (.invokestatic 343, 3) := by decide +kernel
theorem djdk_65_method_133_code_5 : decode jdk_65_method_133_code 5 = .ok (.iload_n 2, 1) := by decide +kernel
theorem djdk_65_method_133_code_6 : decode jdk_65_method_133_code 6 = .ok (.iload_n 1, 1) := by decide +kernel
theorem djdk_65_method_133_code_7 : decode jdk_65_method_133_code 7 = .ok (.isub, 1) := by decide +kernel
theorem djdk_65_method_133_code_8 : decode jdk_65_method_133_code 8 = .ok (.istore_n 3, 1) := by decide +kernel
theorem djdk_65_method_133_code_9 : decode jdk_65_method_133_code 9 = .ok (.iload_n 3, 1) := by decide +kernel
theorem djdk_65_method_133_code_10 : decode jdk_65_method_133_code 10 = .ok (.newarray .byte, 2) := by decide +kernel
theorem djdk_65_method_133_code_12 : decode jdk_65_method_133_code 12 = .ok (.astore 4, 2) := by decide +kernel
theorem djdk_65_method_133_code_14 : decode jdk_65_method_133_code 14 = .ok (.aload_n 0, 1) := by decide +kernel
theorem djdk_65_method_133_code_15 : decode jdk_65_method_133_code 15 = .ok (.iload_n 1, 1) := by decide +kernel
theorem djdk_65_method_133_code_16 : decode jdk_65_method_133_code 16 = .ok (.aload 4, 2) := by decide +kernel
theorem djdk_65_method_133_code_18 : decode jdk_65_method_133_code 18 = .ok (.iconst 0, 1) := by decide +kernel
theorem djdk_65_method_133_code_19 : decode jdk_65_method_133_code 19 = .ok (.aload_n 0, 1) := by decide +kernel
theorem djdk_65_method_133_code_20 : decode jdk_65_method_133_code 20 = .ok (.arraylength, 1) := by decide +kernel
theorem djdk_65_method_133_code_21 : decode jdk_65_method_133_code 21 = .ok (.iload_n 1, 1) := by decide +kernel
theorem djdk_65_method_133_code_22 : decode jdk_65_method_133_code 22 = .ok (.isub, 1) := by decide +kernel
theorem djdk_65_method_133_code_23 : decode jdk_65_method_133_code 23 = .ok (.iload_n 3, 1) := by decide +kernel
theorem djdk_65_method_133_code_24 : decode jdk_65_method_133_code 24 = .ok (.invokestatic 304, 3) := by decide +kernel
theorem djdk_65_method_133_code_27 : decode jdk_65_method_133_code 27 = .ok (.invokestatic 150, 3) := by decide +kernel
theorem djdk_65_method_133_code_30 : decode jdk_65_method_133_code 30 = .ok (.aload 4, 2) := by decide +kernel
theorem djdk_65_method_133_code_32 : decode jdk_65_method_133_code 32 = .ok (.areturn, 1) := by decide +kernel
theorem djdk_67_method_15_code_0 : decode jdk_67_method_15_code 0 = .ok (.aload_n 0, 1) := by decide +kernel
theorem djdk_67_method_15_code_1 : decode jdk_67_method_15_code 1 = .ok (.iload_n 1, 1) := by decide +kernel
theorem djdk_67_method_15_code_2 : decode jdk_67_method_15_code 2 = .ok (.invokespecial 53, 3) := by decide +kernel
theorem djdk_67_method_15_code_5 : decode jdk_67_method_15_code 5 = .ok (.pop, 1) := by decide +kernel
theorem djdk_67_method_15_code_6 : decode jdk_67_method_15_code 6 = .ok (.aload_n 0, 1) := by decide +kernel
theorem djdk_67_method_15_code_7 : decode jdk_67_method_15_code 7 = .ok (.areturn, 1) := by decide +kernel
theorem djdk_67_method_1_code_0 : decode jdk_67_method_1_code 0 = .ok (.aload_n 0, 1) := by decide +kernel
theorem djdk_67_method_1_code_1 : decode jdk_67_method_1_code 1 = .ok (.bipush 16, 2) := by decide +kernel
theorem djdk_67_method_1_code_3 : decode jdk_67_method_1_code 3 = .ok (.invokespecial 1, 3) := by decide +kernel
theorem djdk_67_method_1_code_6 : decode jdk_67_method_1_code 6 = .ok (.return_, 1) := by decide +kernel
theorem djdk_67_method_42_code_0 : decode jdk_67_method_42_code 0 = .ok (.new 18, 3) := by decide +kernel
theorem djdk_67_method_42_code_3 : decode jdk_67_method_42_code 3 = .ok (.dup, 1) := by decide +kernel
theorem djdk_67_method_42_code_4 : decode jdk_67_method_42_code 4 = .ok (.aload_n 0, 1) := by decide +kernel
theorem djdk_67_method_42_code_5 : decode jdk_67_method_42_code 5 = .ok (.invokespecial 137, 3) := by decide +kernel
theorem djdk_67_method_42_code_8 : decode jdk_67_method_42_code 8 = .ok (.areturn, 1) := by decide +kernel
theorem djdk_67_method_7_code_0 : decode jdk_67_method_7_code 0 = .ok (.aload_n 0, 1) := by decide +kernel
theorem djdk_67_method_7_code_1 : decode jdk_67_method_7_code 1 = .ok (.aload_n 1, 1) := by decide +kernel
theorem djdk_67_method_7_code_2 : decode jdk_67_method_7_code 2 = .ok (.invokespecial 29, 3) := by decide +kernel
theorem djdk_67_method_7_code_5 : decode jdk_67_method_7_code 5 = .ok (.pop, 1) := by decide +kernel
theorem djdk_67_method_7_code_6 : decode jdk_67_method_7_code 6 = .ok (.aload_n 0, 1) := by decide +kernel
theorem djdk_67_method_7_code_7 : decode jdk_67_method_7_code 7 = .ok (.areturn, 1) := by decide +kernel
theorem djdk_67_method_93_code_0 : decode jdk_67_method_93_code 0 = .ok (.aload_n 0, 1) := by decide +kernel
theorem djdk_67_method_93_code_1 : decode jdk_67_method_93_code 1 = .ok (.invokespecial 343, 3) := by decide +kernel
theorem djdk_67_method_93_code_4 : decode jdk_67_method_93_code 4 = .ok (.ireturn, 1) := by decide +kernel
theorem djdk_68_method_22_code_0 : decode jdk_68_method_22_code 0 = .ok (.aload_n 1, 1) := by decide +kernel
theorem djdk_68_method_22_code_1 : decode jdk_68_method_22_code 1 = .ok (.ifnonnull 8, 3) := by decide +kernel
theorem djdk_68_method_22_code_9 : decode jdk_68_method_22_code 9 = .ok (.aload_n 1, 1) := by decide +kernel
theorem djdk_68_method_22_code_10 : decode jdk_68_method_22_code 10 = .ok (.invokevirtual 32, 3) := by decide +kernel
theorem djdk_68_method_22_code_13 : decode jdk_68_method_22_code 13 = .ok (.istore_n 2, 1) := by decide +kernel
theorem djdk_68_method_22_code_14 : decode jdk_68_method_22_code 14 = .ok (.aload_n 0, 1) := by decide +kernel
theorem djdk_68_method_22_code_15 : decode jdk_68_method_22_code 15 = .ok (.aload_n 0, 1) := by decide +kernel
theorem djdk_68_method_22_code_16 : decode jdk_68_method_22_code 16 = .ok (.getfield 79, 3) := by decide +kernel
theorem djdk_68_method_22_code_19 : decode jdk_68_method_22_code 19 = .ok (.iload_n 2, 1) := by decide +kernel
theorem djdk_68_method_22_code_20 : decode jdk_68_method_22_code 20 = .ok (.iadd, 1) := by decide +kernel
theorem djdk_68_method_22_code_21 : decode jdk_68_method_22_code 21 = .ok (.invokevirtual 100, 3) := by decide +kernel
theorem djdk_68_method_22_code_24 : decode jdk_68_method_22_code 24 = .ok (.aload_n 0, 1) := by decide +kernel
theorem djdk_68_method_22_code_25 : decode jdk_68_method_22_code 25 = .ok (.aload_n 0, 1) := by decide +kernel
theorem djdk_68_method_22_code_26 : decode jdk_68_method_22_code 26 = .ok (.getfield 79, 3) := by decide +kernel
theorem djdk_68_method_22_code_29 : decode jdk_68_method_22_code 29 = .ok (.aload_n 1, 1) := by decide +kernel
theorem djdk_68_method_22_code_30 : decode jdk_68_method_22_code 30 = .ok (.invokevirtual 208, 3) := by decide +kernel
theorem djdk_68_method_22_code_33 : decode jdk_68_method_22_code 33 = .ok (.aload_n 0, 1) := by decide +kernel
theorem djdk_68_method_22_code_34 : decode jdk_68_method_22_code 34 = .ok (.dup, 1) := by decide +kernel
theorem djdk_68_method_22_code_35 : decode jdk_68_method_22_code 35 = .ok (.getfield 79, 3) := by decide +kernel
theorem djdk_68_method_22_code_38 : decode jdk_68_method_22_code 38 = .ok (.iload_n 2, 1) := by decide +kernel
theorem djdk_68_method_22_code_39 : decode jdk_68_method_22_code 39 = .ok (.iadd, 1) := by decide +kernel
theorem djdk_68_method_22_code_40 : decode jdk_68_method_22_code 40 = .ok (.putfield 79, 3) := by decide +kernel
theorem djdk_68_method_22_code_43 : decode jdk_68_method_22_code 43 = .ok (.aload_n 0, 1) := by decide +kernel
theorem djdk_68_method_22_code_44 : decode jdk_68_method_22_code 44 = .ok (.areturn, 1) := by decide +kernel
theorem djdk_68_method_2_code_0 : decode jdk_68_method_2_code 0 = .ok (.aload_n 0, 1) := by decide +kernel
theorem djdk_68_method_2_code_1 : decode jdk_68_method_2_code 1 = .ok (.invokespecial 3, 3) := by decide +kernel
theorem djdk_68_method_2_code_4 : decode jdk_68_method_2_code 4 = .ok (.getstatic 18, 3) := by decide +kernel
theorem djdk_68_method_2_code_7 : decode jdk_68_method_2_code 7 = .ok (.ifCond .eq 18, 3) := by decide +kernel
theorem djdk_68_method_2_code_10 : decode jdk_68_method_2_code 10 = .ok (.aload_n 0, 1) := by decide +kernel
theorem djdk_68_method_2_code_11 : decode jdk_68_method_2_code 11 = .ok (.iload_n 1, 1) := by decide +kernel
theorem djdk_68_method_2_code_12 : decode jdk_68_method_2_code 12 = .ok (.newarray .byte, 2) := by decide +kernel
theorem djdk_68_method_2_code_14 : decode jdk_68_method_2_code 14 = .ok (.putfield 15, 3) := by decide +kernel
theorem djdk_68_method_2_code_17 : decode jdk_68_method_2_code 17 = .ok (.aload_n 0, 1) := by decide +kernel
theorem djdk_68_method_2_code_18 : decode jdk_68_method_2_code 18 = .ok (.iconst 0, 1) := by decide +kernel
theorem djdk_68_method_2_code_19 : decode jdk_68_method_2_code 19 = .ok (.putfield 22, 3) := by decide +kernel
theorem djdk_68_method_2_code_22 : decode jdk_68_method_2_code 22 = .ok (.goto 16, 3) := by decide +kernel
theorem djdk_68_method_2_code_38 : decode jdk_68_method_2_code 38 = .ok (.return_, 1) := by decide +kernel
theorem djdk_68_method_32_code_0 : decode jdk_68_method_32_code 0 = .ok (.aload_n 0, 1) := by decide +kernel
theorem djdk_68_method_32_code_1 : decode jdk_68_method_32_code 1 = .ok (.getfield 79, 3) := by decide +kernel
theorem djdk_68_method_32_code_4 : decode jdk_68_method_32_code 4 = .ok (.istore_n 2, 1) := by decide +kernel
theorem djdk_68_method_32_code_5 : decode jdk_68_method_32_code 5 = .ok (.iload_n 2, 1) := by decide +kernel
theorem djdk_68_method_32_code_6 : decode jdk_68_method_32_code 6 = .ok (.iload_n 1, 1) := by decide +kernel
theorem djdk_68_method_32_code_7 : decode jdk_68_method_32_code 7 = .ok (.invokestatic 245, 3) := by decide +kernel
theorem djdk_68_method_32_code_10 : decode jdk_68_method_32_code 10 = .ok (.iadd, 1) := by decide +kernel
theorem djdk_68_method_32_code_11 : decode jdk_68_method_32_code 11 = .ok (.istore_n 3, 1) := by decide +kernel
theorem djdk_68_method_32_code_12 : decode jdk_68_method_32_code 12 = .ok (.aload_n 0, 1) := by decide +kernel
theorem djdk_68_method_32_code_13 : decode jdk_68_method_32_code 13 = .ok (.iload_n 3, 1) := by decide +kernel
theorem djdk_68_method_32_code_14 : decode jdk_68_method_32_code 14 = .ok (.invokevirtual 100, 3) := by decide +kernel
theorem djdk_68_method_32_code_17 : decode jdk_68_method_32_code 17 = .ok (.aload_n 0, 1) := by decide +kernel
theorem djdk_68_method_32_code_18 : decode jdk_68_method_32_code 18 = .ok (.invokevirtual 83, 3) := by decide +kernel
theorem djdk_68_method_32_code_21 : decode jdk_68_method_32_code 21 = .ok (.ifCond .eq 16, 3) := by decide +kernel
theorem djdk_68_method_32_code_24 : decode jdk_68_method_32_code 24 = .ok (.iload_n 1, 1) := by decide +kernel
theorem djdk_68_method_32_code_25 : decode jdk_68_method_32_code 25 = .ok (.iload_n 3, 1) := by decide +kernel
theorem djdk_68_method_32_code_26 : decode jdk_68_method_32_code 26 = .ok (.aload_n 0, 1) := by decide +kernel
theorem djdk_68_method_32_code_27 : decode jdk_68_method_32_code 27 = .ok (.getfield 15, 3) := by decide +kernel
theorem djdk_68_method_32_code_30 : decode jdk_68_method_32_code 30 = .ok (.invokestatic 248, 3) := by decide +kernel
theorem djdk_68_method_32_code_33 : decode jdk_68_method_32_code 33 = .ok (.pop, 1) := by decide +kernel
theorem djdk_68_method_32_code_34 : decode jdk_68_method_32_code 34 = .ok (.goto 14, 3) := by decide +kernel
theorem djdk_68_method_32_code_48 : decode jdk_68_method_32_code 48 = .ok (.aload_n 0, 1) := by decide +kernel
theorem djdk_68_method_32_code_49 : decode jdk_68_method_32_code 49 = .ok (.iload_n 3, 1) := by decide +kernel
theorem djdk_68_method_32_code_50 : decode jdk_68_method_32_code 50 = .ok (.putfield 79, 3) := by decide +kernel
theorem djdk_68_method_32_code_53 : decode jdk_68_method_32_code 53 = .ok (.aload_n 0, 1) := by decide +kernel
theorem djdk_68_method_32_code_54 : decode jdk_68_method_32_code 54 = .ok (.areturn, 1) := by decide +kernel
theorem djdk_68_method_64_code_0 : decode jdk_68_method_64_code 0 = .ok (.aload_n 0, 1) := by decide +kernel
theorem djdk_68_method_64_code_1 : decode jdk_68_method_64_code 1 = .ok (.getfield 15, 3) := by decide +kernel
theorem djdk_68_method_64_code_4 : decode jdk_68_method_64_code 4 = .ok (.areturn, 1) := by decide +kernel
theorem djdk_68_method_68_code_0 : decode jdk_68_method_68_code 0 = .ok (.getstatic 18, 3) := by decide +kernel
theorem djdk_68_method_68_code_3 : decode jdk_68_method_68_code 3 = .ok (.ifCond .eq 14, 3) := by decide +kernel
theorem djdk_68_method_68_code_6 : decode jdk_68_method_68_code 6 = .ok (.aload_n 0, 1) := by decide +kernel
theorem djdk_68_method_68_code_7 : decode jdk_68_method_68_code 7 = .ok (.getfield 22, 3) := by decide +kernel
theorem djdk_68_method_68_code_10 : decode jdk_68_method_68_code 10 = .ok (.ifCond .ne 7, 3) := by decide +kernel
theorem djdk_68_method_68_code_13 : decode jdk_68_method_68_code 13 = .ok (.iconst 1, 1) := by decide +kernel
theorem djdk_68_method_68_code_14 : decode jdk_68_method_68_code 14 = .ok (.goto 4, 3) := by decide +kernel
theorem djdk_68_method_68_code_18 : decode jdk_68_method_68_code 18 = .ok (.ireturn, 1) := by decide +kernel
theorem djdk_68_method_6_code_0 : decode jdk_68_method_6_code 0 = .ok (.aload_n 0, 1) := by decide +kernel
theorem djdk_68_method_6_code_1 : decode jdk_68_method_6_code 1 = .ok (.getfield 79, 3) := by decide +kernel
theorem djdk_68_method_6_code_4 : decode jdk_68_method_6_code 4 = .ok (.ireturn, 1) := by decide +kernel
theorem djdk_68_method_71_code_0 : decode jdk_68_method_71_code 0 = .ok (.getstatic 18, 3) := by decide +kernel
theorem djdk_68_method_71_code_3 : decode jdk_68_method_71_code 3 = .ok (.ifCond .eq 18, 3) := by decide +kernel
theorem djdk_68_method_71_code_6 : decode jdk_68_method_71_code 6 = .ok (.aload_n 0, 1) := by decide +kernel
theorem djdk_68_method_71_code_7 : decode jdk_68_method_71_code 7 = .ok (.getfield 22, 3) := by decide +kernel
theorem djdk_68_method_71_code_10 : decode jdk_68_method_71_code 10 = .ok (.aload_n 1, 1) := by decide +kernel
theorem djdk_68_method_71_code_11 : decode jdk_68_method_71_code 11 = .ok (.invokevirtual 40, 3) := by decide +kernel
theorem djdk_68_method_71_code_14 : decode jdk_68_method_71_code 14 = .ok (.if_icmp .eq 7, 3) := by decide +kernel
theorem djdk_68_method_71_code_21 : decode jdk_68_method_71_code 21 = .ok (.return_, 1) := by decide +kernel
theorem djdk_68_method_73_code_0 : decode jdk_68_method_73_code 0 = .ok (.aload_n 0, 1) := by decide +kernel
theorem djdk_68_method_73_code_1 : decode jdk_68_method_73_code 1 = .ok (.aload_n 2, 1) := by decide +kernel
theorem djdk_68_method_73_code_2 : decode jdk_68_method_73_code 2 = .ok (.invokevirtual 397, 3) := by decide +kernel
theorem djdk_68_method_73_code_5 : decode jdk_68_method_73_code 5 = .ok (.aload_n 2, 1) := by decide +kernel
theorem djdk_68_method_73_code_6 : decode jdk_68_method_73_code 6 = .ok (.aload_n 0, 1) := by decide +kernel
theorem djdk_68_method_73_code_7 : decode jdk_68_method_73_code 7 = .ok (.getfield 15, 3) := by decide +kernel
theorem djdk_68_method_73_code_10 : decode jdk_68_method_73_code 10 = .ok (.iload_n 1, 1) := by decide +kernel
theorem djdk_68_method_73_code_11 : decode jdk_68_method_73_code 11 = .ok (.aload_n 0, 1) := by decide +kernel
theorem djdk_68_method_73_code_12 : decode jdk_68_method_73_code 12 = .ok (.getfield 22, 3) := by decide +kernel
theorem djdk_68_method_73_code_15 : decode jdk_68_method_73_code 15 = .ok (.invokevirtual 399, 3) := by decide +kernel
theorem djdk_68_method_73_code_18 : decode jdk_68_method_73_code 18 = .ok (.return_, 1) := by decide +kernel
theorem djdk_68_method_9_code_0 : decode jdk_68_method_9_code 0 = .ok (.aload_n 0, 1) := by decide +kernel
theorem djdk_68_method_9_code_1 : decode jdk_68_method_9_code 1 = .ok (.getfield 15, 3) := by decide +kernel
theorem djdk_68_method_9_code_4 : decode jdk_68_method_9_code 4 = .ok (.arraylength, 1) := by decide +kernel
theorem djdk_68_method_9_code_5 : decode jdk_68_method_9_code 5 = .ok (.aload_n 0, 1) := by decide +kernel
theorem djdk_68_method_9_code_6 : decode jdk_68_method_9_code 6 = .ok (.getfield 22, 3) := by decide +kernel
theorem djdk_68_method_9_code_9 : decode jdk_68_method_9_code 9 = .ok (.ishr, 1) := by decide +kernel
theorem djdk_68_method_9_code_10 : decode jdk_68_method_9_code 10 = .ok (.istore_n 2, 1) := by decide +kernel
theorem djdk_68_method_9_code_11 : decode jdk_68_method_9_code 11 = .ok (.iload_n 1, 1) := by decide +kernel
theorem djdk_68_method_9_code_12 : decode jdk_68_method_9_code 12 = .ok (.iload_n 2, 1) := by decide +kernel
theorem djdk_68_method_9_code_13 : decode jdk_68_method_9_code 13 = .ok (.isub, 1) := by decide +kernel
theorem djdk_68_method_9_code_14 : decode jdk_68_method_9_code 14 = .ok (.ifCond .le 24, 3) := by decide +kernel
theorem djdk_68_method_9_code_38 : decode jdk_68_method_9_code 38 = .ok (.return_, 1) := by decide +kernel
theorem dmethod_2_code_0 : decode method_2_code 0 = .ok (.iload_n 1, 1) := by decide +kernel
theorem dmethod_2_code_1 : decode method_2_code 1 = .ok (.aload_n 0, 1) := by decide +kernel
theorem dmethod_2_code_2 : decode method_2_code 2 = .ok (.arraylength, 1) := by decide +kernel
theorem dmethod_2_code_3 : decode method_2_code 3 = .ok (.if_icmp .ge 19, 3) := by decide +kernel
theorem dmethod_2_code_6 : decode method_2_code 6 = .ok (.aload_n 0, 1) := by decide +kernel
theorem dmethod_2_code_7 : decode method_2_code 7 = .ok (.iload_n 1, 1) := by decide +kernel
theorem dmethod_2_code_8 : decode method_2_code 8 = .ok (.iload_n 2, 1) := by decide +kernel
theorem dmethod_2_code_9 : decode method_2_code 9 = .ok (.iload_n 1, 1) := by decide +kernel
theorem dmethod_2_code_10 : decode method_2_code 10 = .ok (.iushr, 1) := by decide +kernel
theorem dmethod_2_code_11 : decode method_2_code 11 = .ok (.iconst 1, 1) := by decide +kernel
theorem dmethod_2_code_12 : decode method_2_code 12 = .ok (.iand, 1) := by decide +kernel
theorem dmethod_2_code_13 : decode method_2_code 13 = .ok (.ifCond .eq 7, 3) := by decide +kernel
theorem dmethod_2_code_16 : decode method_2_code 16 = .ok (.iconst 1, 1) := by decide +kernel
theorem dmethod_2_code_17 : decode method_2_code 17 = .ok (.goto 4, 3) := by decide +kernel
theorem dmethod_2_code_20 : decode method_2_code 20 = .ok (.iconst 0, 1) := by decide +kernel
theorem dmethod_2_code_21 : decode method_2_code 21 = .ok (.bastore, 1) := by decide +kernel
theorem dmethod_2_code_22 : decode method_2_code 22 = .ok (.return_, 1) := by decide +kernel
theorem dmethod_3_code_0 : decode method_3_code 0 = .ok (.iload_n 1, 1) := by decide +kernel
theorem dmethod_3_code_1 : decode method_3_code 1 = .ok (.iload_n 2, 1) := by decide +kernel
theorem dmethod_3_code_2 : decode method_3_code 2 = .ok (.if_icmp .ge 9, 3) := by decide +kernel
theorem dmethod_3_code_5 : decode method_3_code 5 = .ok (.iload_n 0, 1) := by decide +kernel
theorem dmethod_3_code_6 : decode method_3_code 6 = .ok (.iload_n 1, 1) := by decide +kernel
theorem dmethod_3_code_7 : decode method_3_code 7 = .ok (.iushr, 1) := by decide +kernel
theorem dmethod_3_code_8 : decode method_3_code 8 = .ok (.iconst 1, 1) := by decide +kernel
theorem dmethod_3_code_9 : decode method_3_code 9 = .ok (.iand, 1) := by decide +kernel
theorem dmethod_3_code_10 : decode method_3_code 10 = .ok (.ireturn, 1) := by decide +kernel
theorem dmethod_3_code_11 : decode method_3_code 11 = .ok (.iconst 0, 1) := by decide +kernel
theorem dmethod_3_code_12 : decode method_3_code 12 = .ok (.ireturn, 1) := by decide +kernel
theorem dmethod_4_code_0 : decode method_4_code 0 = .ok (.iload_n 1, 1) := by decide +kernel
theorem dmethod_4_code_1 : decode method_4_code 1 = .ok (.aload_n 0, 1) := by decide +kernel
theorem dmethod_4_code_2 : decode method_4_code 2 = .ok (.arraylength, 1) := by decide +kernel
theorem dmethod_4_code_3 : decode method_4_code 3 = .ok (.if_icmp .lt 5, 3) := by decide +kernel
theorem dmethod_4_code_6 : decode method_4_code 6 = .ok (.iconst 1, 1) := by decide +kernel
theorem dmethod_4_code_7 : decode method_4_code 7 = .ok (.ireturn, 1) := by decide +kernel
theorem dmethod_4_code_8 : decode method_4_code 8 = .ok (.aload_n 0, 1) := by decide +kernel
theorem dmethod_4_code_9 : decode method_4_code 9 = .ok (.iload_n 1, 1) := by decide +kernel
theorem dmethod_4_code_10 : decode method_4_code 10 = .ok (.baload, 1) := by decide +kernel
theorem dmethod_4_code_11 : decode method_4_code 11 = .ok (.iload_n 2, 1) := by decide +kernel
theorem dmethod_4_code_12 : decode method_4_code 12 = .ok (.iload_n 1, 1) := by decide +kernel
theorem dmethod_4_code_13 : decode method_4_code 13 = .ok (.iushr, 1) := by decide +kernel
theorem dmethod_4_code_14 : decode method_4_code 14 = .ok (.iconst 1, 1) := by decide +kernel
theorem dmethod_4_code_15 : decode method_4_code 15 = .ok (.iand, 1) := by decide +kernel
theorem dmethod_4_code_16 : decode method_4_code 16 = .ok (.ifCond .eq 7, 3) := by decide +kernel
theorem dmethod_4_code_19 : decode method_4_code 19 = .ok (.iconst 1, 1) := by decide +kernel
theorem dmethod_4_code_20 : decode method_4_code 20 = .ok (.goto 4, 3) := by decide +kernel
theorem dmethod_4_code_23 : decode method_4_code 23 = .ok (.iconst 0, 1) := by decide +kernel
theorem dmethod_4_code_24 : decode method_4_code 24 = .ok (.if_icmp .ne 7, 3) := by decide +kernel
theorem dmethod_4_code_27 : decode method_4_code 27 = .ok (.iconst 1, 1) := by decide +kernel
theorem dmethod_4_code_28 : decode method_4_code 28 = .ok (.goto 4, 3) := by decide +kernel
theorem dmethod_4_code_31 : decode method_4_code 31 = .ok (.iconst 0, 1) := by decide +kernel
theorem dmethod_4_code_32 : decode method_4_code 32 = .ok (.ireturn, 1) := by decide +kernel
theorem dprog_58_method_1_code_0 : decode prog_58_method_1_code 0 = .ok (.aload_n 0, 1) := by decide +kernel
theorem dprog_58_method_1_code_1 : decode prog_58_method_1_code 1 = .ok (.aload_n 1, 1) := by decide +kernel
theorem dprog_58_method_1_code_2 : decode prog_58_method_1_code 2 = .ok (.iload_n 2, 1) := by decide +kernel
theorem dprog_58_method_1_code_3 : decode prog_58_method_1_code 3 = .ok (.aload_n 3, 1) := by decide +kernel
theorem dprog_58_method_1_code_4 : decode prog_58_method_1_code 4 = .ok (.dload 4, 2) := by decide +kernel
theorem dprog_58_method_1_code_6 : decode prog_58_method_1_code 6 = .ok (.invokestatic 1, 3) := by decide +kernel
theorem dprog_58_method_1_code_9 : decode prog_58_method_1_code 9 = .ok (.invokespecial 7, 3) := by decide +kernel
theorem dprog_58_method_1_code_12 : decode prog_58_method_1_code 12 = .ok (.return_, 1) := by decide +kernel
theorem dprog_58_method_2_code_0 : decode prog_58_method_2_code 0 = .ok (.aload_n 0, 1) := by decide +kernel
theorem dprog_58_method_2_code_1 : decode prog_58_method_2_code 1 = .ok (.invokespecial 13, 3) := by decide +kernel
theorem dprog_58_method_2_code_4 : decode prog_58_method_2_code 4 = .ok (.aload_n 0, 1) := by decide +kernel
theorem dprog_58_method_2_code_5 : decode prog_58_method_2_code 5 = .ok (.aload_n 1, 1) := by decide +kernel
theorem dprog_58_method_2_code_6 : decode prog_58_method_2_code 6 = .ok (.putfield 18, 3) := by decide +kernel
theorem dprog_58_method_2_code_9 : decode prog_58_method_2_code 9 = .ok (.aload_n 0, 1) := by decide +kernel
theorem dprog_58_method_2_code_10 : decode prog_58_method_2_code 10 = .ok (.iload_n 2, 1) := by decide +kernel
theorem dprog_58_method_2_code_11 : decode prog_58_method_2_code 11 = .ok (.invokestatic 22, 3) := by decide +kernel
theorem dprog_58_method_2_code_14 : decode prog_58_method_2_code 14 = .ok (.putfield 27, 3) := by decide +kernel
theorem dprog_58_method_2_code_17 : decode prog_58_method_2_code 17 = .ok (.aload_n 0, 1) := by decide +kernel
theorem dprog_58_method_2_code_18 : decode prog_58_method_2_code 18 = .ok (.aload_n 3, 1) := by decide +kernel
theorem dprog_58_method_2_code_19 : decode prog_58_method_2_code 19 = .ok (.putfield 31, 3) := by decide +kernel
theorem dprog_58_method_2_code_22 : decode prog_58_method_2_code 22 = .ok (.aload_n 0, 1) := by decide +kernel
theorem dprog_58_method_2_code_23 : decode prog_58_method_2_code 23 = .ok (.aload 4, 2) := by decide +kernel
theorem dprog_58_method_2_code_25 : decode prog_58_method_2_code 25 = .ok (.putfield 35, 3) := by decide +kernel
theorem dprog_58_method_2_code_28 : decode prog_58_method_2_code 28 = .ok (.return_, 1) := by decide +kernel
theorem dprog_62_method_1_code_0 : decode prog_62_method_1_code 0 = .ok (.aload_n 0, 1) := by decide +kernel
theorem dprog_62_method_1_code_1 : decode prog_62_method_1_code 1 = .ok (.new 1, 3) := by decide +kernel
theorem dprog_62_method_1_code_4 : decode prog_62_method_1_code 4 = .ok (.dup, 1) := by decide +kernel
theorem dprog_62_method_1_code_5 : decode prog_62_method_1_code 5 = .ok (.invokespecial 3, 3) := by decide +kernel
theorem dprog_62_method_1_code_8 : decode prog_62_method_1_code 8 = .ok (.ldc 7, 2) := by decide +kernel
theorem dprog_62_method_1_code_10 : decode prog_62_method_1_code 10 = .ok (.invokevirtual 9, 3) := by decide +kernel
theorem dprog_62_method_1_code_13 : decode prog_62_method_1_code 13 = .ok (.iload_n 1, 1) := by decide +kernel
theorem dprog_62_method_1_code_14 : decode prog_62_method_1_code 14 = .ok (.invokevirtual 13, 3) := by decide +kernel
theorem dprog_62_method_1_code_17 : decode prog_62_method_1_code 17 = .ok (.invokevirtual 16, 3) := by decide +kernel
theorem dprog_62_method_1_code_20 : decode prog_62_method_1_code 20 = .ok (.iload_n 1, 1) := by decide +kernel
theorem dprog_62_method_1_code_21 : decode prog_62_method_1_code 21 = .ok (.getstatic 20, 3) := by decide +kernel
theorem dprog_62_method_1_code_24 : decode prog_62_method_1_code 24 = .ok (.iload_n 1, 1) := by decide +kernel
theorem dprog_62_method_1_code_25 : decode prog_62_method_1_code 25 = .ok (.i2d, 1) := by decide +kernel
theorem dprog_62_method_1_code_26 : decode prog_62_method_1_code 26 = .ok (.invokespecial 26, 3) := by decide +kernel
theorem dprog_62_method_1_code_29 : decode prog_62_method_1_code 29 = .ok (.return_, 1) := by decide +kernel
theorem dprog_62_method_2_code_0 : decode prog_62_method_2_code 0 = .ok (.iconst 0, 1) := by decide +kernel
theorem dprog_62_method_2_code_1 : decode prog_62_method_2_code 1 = .ok (.istore_n 2, 1) := by decide +kernel
theorem dprog_62_method_2_code_2 : decode prog_62_method_2_code 2 = .ok (.aload_n 1, 1) := by decide +kernel
theorem dprog_62_method_2_code_3 : decode prog_62_method_2_code 3 = .ok (.astore_n 3, 1) := by decide +kernel
theorem dprog_62_method_2_code_4 : decode prog_62_method_2_code 4 = .ok (.aload_n 3, 1) := by decide +kernel
theorem dprog_62_method_2_code_5 : decode prog_62_method_2_code 5 = .ok (.arraylength, 1) := by decide +kernel
theorem dprog_62_method_2_code_6 : decode prog_62_method_2_code 6 = .ok (.istore 4, 2) := by decide +kernel
theorem dprog_62_method_2_code_8 : decode prog_62_method_2_code 8 = .ok (.iconst 0, 1) := by decide +kernel
theorem dprog_62_method_2_code_9 : decode prog_62_method_2_code 9 = .ok (.istore 5, 2) := by decide +kernel
theorem dprog_62_method_2_code_11 : decode prog_62_method_2_code 11 = .ok (.iload 5, 2) := by decide +kernel
theorem dprog_62_method_2_code_13 : decode prog_62_method_2_code 13 = .ok (.iload 4, 2) := by decide +kernel
theorem dprog_62_method_2_code_15 : decode prog_62_method_2_code 15 = .ok (.if_icmp .ge 23, 3) := by decide +kernel
theorem dprog_62_method_2_code_18 : decode prog_62_method_2_code 18 = .ok (.aload_n 3, 1) := by decide +kernel
theorem dprog_62_method_2_code_19 : decode prog_62_method_2_code 19 = .ok (.iload 5, 2) := by decide +kernel
theorem dprog_62_method_2_code_21 : decode prog_62_method_2_code 21 = .ok (.baload, 1) := by decide +kernel
theorem dprog_62_method_2_code_22 : decode prog_62_method_2_code 22 = .ok (.istore 6, 2) := by decide +kernel
theorem dprog_62_method_2_code_24 : decode prog_62_method_2_code 24 = .ok (.iload 6, 2) := by decide +kernel
theorem dprog_62_method_2_code_26 : decode prog_62_method_2_code 26 = .ok (.ifCond .eq 6, 3) := by decide +kernel
theorem dprog_62_method_2_code_29 : decode prog_62_method_2_code 29 = .ok (.iinc 2 1, 3) := by decide +kernel
theorem dprog_62_method_2_code_32 : decode prog_62_method_2_code 32 = .ok (.iinc 5 1, 3) := by decide +kernel
theorem dprog_62_method_2_code_35 : decode prog_62_method_2_code 35 = .ok (.goto (-24), 3) := by decide +kernel
theorem dprog_62_method_2_code_38 : decode prog_62_method_2_code 38 = .ok (.iload_n 2, 1) := by decide +kernel
theorem dprog_62_method_2_code_39 : decode prog_62_method_2_code 39 = .ok (.i2d, 1) := by decide +kernel
theorem dprog_62_method_2_code_40 : decode prog_62_method_2_code 40 = .ok (.dreturn, 1) := by decide +kernel
theorem dprog_69_method_1_code_0 : decode prog_69_method_1_code 0 = .ok (.aload_n 0, 1) := by decide +kernel
theorem dprog_69_method_1_code_1 : decode prog_69_method_1_code 1 = .ok (.invokespecial 1, 3) := by decide +kernel
theorem dprog_69_method_1_code_4 : decode prog_69_method_1_code 4 = .ok (.aload_n 0, 1) := by decide +kernel
theorem dprog_69_method_1_code_5 : decode prog_69_method_1_code 5 = .ok (.iload_n 1, 1) := by decide +kernel
theorem dprog_69_method_1_code_6 : decode prog_69_method_1_code 6 = .ok (.putfield 7, 3) := by decide +kernel
theorem dprog_69_method_1_code_9 : decode prog_69_method_1_code 9 = .ok (.return_, 1) := by decide +kernel
theorem dprog_69_method_2_code_0 : decode prog_69_method_2_code 0 = .ok (.iload_n 0, 1) := by decide +kernel
theorem dprog_69_method_2_code_1 : decode prog_69_method_2_code 1 = .ok (.iconst 1, 1) := by decide +kernel
theorem dprog_69_method_2_code_2 : decode prog_69_method_2_code 2 = .ok (.if_icmp .lt 10, 3) := by decide +kernel
theorem dprog_69_method_2_code_5 : decode prog_69_method_2_code 5 = .ok (.iload_n 0, 1) := by decide +kernel
theorem dprog_69_method_2_code_6 : decode prog_69_method_2_code 6 = .ok (.sipush 4096, 3) := by decide +kernel
theorem dprog_69_method_2_code_9 : decode prog_69_method_2_code 9 = .ok (.if_icmp .le 30, 3) := by decide +kernel
theorem dprog_69_method_2_code_39 : decode prog_69_method_2_code 39 = .ok (.new 8, 3) := by decide +kernel
theorem dprog_69_method_2_code_42 : decode prog_69_method_2_code 42 = .ok (.dup, 1) := by decide +kernel
theorem dprog_69_method_2_code_43 : decode prog_69_method_2_code 43 = .ok (.iload_n 0, 1) := by decide +kernel
theorem dprog_69_method_2_code_44 : decode prog_69_method_2_code 44 = .ok (.invokespecial 34, 3) := by decide +kernel
theorem dprog_69_method_2_code_47 : decode prog_69_method_2_code 47 = .ok (.areturn, 1) := by decide +kernel
theorem pn_0 : plainName "java/lang/AbstractStringBuilder" = true := by first | (simp [plainName, overriddenIn]; done) | decide +kernel
theorem pn_1 : plainName "java/lang/StringBuilder" = true := by first | (simp [plainName, overriddenIn]; done) | decide +kernel
theorem pn_2 : plainName "java/lang/String" = true := by first | (simp [plainName, overriddenIn]; done) | decide +kernel
theorem pn_3 : plainName "java/lang/Integer" = true := by first | (simp [plainName, overriddenIn]; done) | decide +kernel
theorem pn_4 : plainName "java/util/Arrays" = true := by first | (simp [plainName, overriddenIn]; done) | decide +kernel
theorem pn_5 : plainName "java/util/OptionalDouble" = true := by first | (simp [plainName, overriddenIn]; done) | decide +kernel
theorem pn_6 : plainName "com/example/tuneless/tuneless/space/BitStringSpace" = true := by first | (simp [plainName, overriddenIn]; done) | decide +kernel
theorem pn_7 : plainName "com/example/tuneless/tuneless/problem/Landscape" = true := by first | (simp [plainName, overriddenIn]; done) | decide +kernel
theorem pn_8 : plainName "com/example/tuneless/tuneless/problem/OneMax" = true := by first | (simp [plainName, overriddenIn]; done) | decide +kernel
theorem pn_9 : plainName "com/example/tuneless/tuneless/problem/OneMaxEvaluatePinLaw" = true := by first | (simp [plainName, overriddenIn]; done) | decide +kernel
theorem pd_0 : parseMethodDescriptor "(I)V" = some ⟨[.int], none⟩ := by decide +kernel
theorem pd_1 : parseMethodDescriptor "()V" = some ⟨[], none⟩ := by decide +kernel
theorem pd_2 : parseMethodDescriptor "()B" = some ⟨[], some .byte⟩ := by decide +kernel
theorem pd_3 : parseMethodDescriptor "()I" = some ⟨[], some .int⟩ := by decide +kernel
theorem pd_4 : parseMethodDescriptor "(Ljava/lang/String;)V" = some ⟨[(.object "java/lang/String")], none⟩ := by decide +kernel
theorem pd_5 : parseMethodDescriptor "([BIB)V" = some ⟨[(.array .byte), .int, .byte], none⟩ := by decide +kernel
theorem pd_6 : parseMethodDescriptor "(ILjava/lang/String;)V" = some ⟨[.int, (.object "java/lang/String")], none⟩ := by decide +kernel
theorem pd_7 : parseMethodDescriptor "(Ljava/lang/String;)Ljava/lang/AbstractStringBuilder;" = some ⟨[(.object "java/lang/String")], some (.object "java/lang/AbstractStringBuilder")⟩ := by decide +kernel
theorem pd_8 : parseMethodDescriptor "(Ljava/lang/String;)Ljava/lang/StringBuilder;" = some ⟨[(.object "java/lang/String")], some (.object "java/lang/StringBuilder")⟩ := by decide +kernel
theorem pd_9 : parseMethodDescriptor "(I)I" = some ⟨[.int], some .int⟩ := by decide +kernel
theorem pd_10 : parseMethodDescriptor "()Z" = some ⟨[], some .boolean⟩ := by decide +kernel
theorem pd_11 : parseMethodDescriptor "(II[B)I" = some ⟨[.int, .int, (.array .byte)], some .int⟩ := by decide +kernel
theorem pd_12 : parseMethodDescriptor "(I)Ljava/lang/AbstractStringBuilder;" = some ⟨[.int], some (.object "java/lang/AbstractStringBuilder")⟩ := by decide +kernel
theorem pd_13 : parseMethodDescriptor "(I)Ljava/lang/StringBuilder;" = some ⟨[.int], some (.object "java/lang/StringBuilder")⟩ := by decide +kernel
theorem pd_14 : parseMethodDescriptor "()[B" = some ⟨[], some (.array .byte)⟩ := by decide +kernel
theorem pd_15 : parseMethodDescriptor "(II)V" = some ⟨[.int, .int], none⟩ := by decide +kernel
theorem pd_16 : parseMethodDescriptor "(II)I" = some ⟨[.int, .int], some .int⟩ := by decide +kernel
theorem pd_17 : parseMethodDescriptor "([BII)[B" = some ⟨[(.array .byte), .int, .int], some (.array .byte)⟩ := by decide +kernel
theorem pd_18 : parseMethodDescriptor "(Ljava/lang/AbstractStringBuilder;Ljava/lang/Void;)V" = some ⟨[(.object "java/lang/AbstractStringBuilder"), (.object "java/lang/Void")], none⟩ := by decide +kernel
theorem pd_19 : parseMethodDescriptor "(Ljava/lang/StringBuilder;)V" = some ⟨[(.object "java/lang/StringBuilder")], none⟩ := by decide +kernel
theorem pd_20 : parseMethodDescriptor "()Ljava/lang/String;" = some ⟨[], some (.object "java/lang/String")⟩ := by decide +kernel
theorem pd_21 : parseMethodDescriptor "(D)V" = some ⟨[.double], none⟩ := by decide +kernel
theorem pd_22 : parseMethodDescriptor "(D)Ljava/util/OptionalDouble;" = some ⟨[.double], some (.object "java/util/OptionalDouble")⟩ := by decide +kernel
theorem pd_23 : parseMethodDescriptor "(I)Lcom/example/tuneless/tuneless/space/BitStringSpace;" = some ⟨[.int], some (.object "com/example/tuneless/tuneless/space/BitStringSpace")⟩ := by decide +kernel
theorem pd_24 : parseMethodDescriptor "(Ljava/lang/String;ILcom/example/tuneless/tuneless/space/Direction;Ljava/util/OptionalDouble;)V" = some ⟨[(.object "java/lang/String"), .int, (.object "com/example/tuneless/tuneless/space/Direction"), (.object "java/util/OptionalDouble")], none⟩ := by decide +kernel
theorem pd_25 : parseMethodDescriptor "(Ljava/lang/String;ILcom/example/tuneless/tuneless/space/Direction;D)V" = some ⟨[(.object "java/lang/String"), .int, (.object "com/example/tuneless/tuneless/space/Direction"), .double], none⟩ := by decide +kernel
theorem pd_26 : parseMethodDescriptor "([ZII)V" = some ⟨[(.array .boolean), .int, .int], none⟩ := by decide +kernel
theorem pd_27 : parseMethodDescriptor "([Z)D" = some ⟨[(.array .boolean)], some .double⟩ := by decide +kernel
theorem pd_28 : parseMethodDescriptor "(III)I" = some ⟨[.int, .int, .int], some .int⟩ := by decide +kernel
theorem pd_29 : parseMethodDescriptor "([ZII)Z" = some ⟨[(.array .boolean), .int, .int], some .boolean⟩ := by decide +kernel
theorem ef_1 (m : MethodId) (o0 : Addr) : entryFrame m #[(.ref o0), (.int (16 : Int32))] 2 = mkF m 0 #[.val (.ref o0), .val (.int (16 : Int32))] [] := by first | (simp [entryFrame, mkF, argsToLocals, Value.category, maxLocals]; done) | rfl
def Q1 (Z : State) (o0 : Addr) (s_String_COMPACT_STRINGS : Int32) (u_o0_value : Value) (u_o0_coder : Value) (h0 : Heap) (n0 : Nat) (v : Option Value) (h : Heap) (L : List Loc) : Prop := (∃ (b11 : Addr) (k11 : ClassId), v = none ∧ Fr n0 L ∧ Keep h0 h [o0] ∧ h0.size ≤ b11 ∧ Arv Z h b11 k11 .byte (16 : Int32) [(.int (0 : Int32)), (.int (0 : Int32)), (.int (0 : Int32)), (.int (0 : Int32)), (.int (0 : Int32)), (.int (0 : Int32)), (.int (0 : Int32)), (.int (0 : Int32)), (.int (0 : Int32)), (.int (0 : Int32)), (.int (0 : Int32)), (.int (0 : Int32)), (.int (0 : Int32)), (.int (0 : Int32)), (.int (0 : Int32)), (.int (0 : Int32))] (.int (0 : Int32)) ∧ Exa Z h b11 "[B" ∧ Exa Z h o0 "java/lang/StringBuilder" ∧ Fld Z h o0 "java/lang/AbstractStringBuilder" "value" "[B" (.ref b11) ∧ Fld Z h o0 "java/lang/AbstractStringBuilder" "coder" "B" (.int (0 : Int32)))
set_option maxRecDepth 65536 in
set_option maxHeartbeats 40000000 in
theorem rm1 (l : Launch) (Z : State) (a0 : Array Value) (hw : ∀ d ∈ tables_1, d.before a0 Z = true) (ws : List Jvm.Cond) (o0 : Addr) (s_String_COMPACT_STRINGS : Int32) (u_o0_value : Value) (u_o0_coder : Value) (h0 : Heap) (n0 : Nat) (Z0 : n0 ≤ h0.size) (S_s_String_COMPACT_STRINGS : Sta Z h0 "java/lang/String" "COMPACT_STRINGS" "Z" (.int s_String_COMPACT_STRINGS)) (nz_s_String_COMPACT_STRINGS : s_String_COMPACT_STRINGS ≠ 0) (E_o0 : Exa Z h0 o0 "java/lang/StringBuilder") (F_o0_value : Fld Z h0 o0 "java/lang/AbstractStringBuilder" "value" "[B" u_o0_value) (g_o0 : n0 ≤ o0) (F_o0_coder : Fld Z h0 o0 "java/lang/AbstractStringBuilder" "coder" "B" u_o0_coder) :
    Con l Z (⟨"java/lang/AbstractStringBuilder", "<init>", "(I)V"⟩ : MethodName) jdk_68_method_2_code 2 none ws ({ frames := 1, cells := 1, slots := 16, locals := 12 } : Room) #[(.ref o0), (.int (16 : Int32))] h0 1 16 (Q1 Z o0 s_String_COMPACT_STRINGS u_o0_value u_o0_coder h0 n0) := by
  refine MetFree.of_bodySF (plainFor_of_name pn_0) hisR ?_
  intro p e s m args below meth c s₁ Bd hml0 hP hK
  obtain ⟨rfl, hZ, hh⟩ := hP
  have hx := Bd.exec
  have hby := Bd.bytes
  have hml : c.maxLocals = 2 := hml0
  have hown : s.vm.findClass "java/lang/AbstractStringBuilder" = some m.cls := findClass_of_methodNamed Bd.named
  have hnm := (name_of_methodNamed Bd.named Bd.method).1
  have X0 : Stand p l e ({ frames := 1, cells := 1, slots := 16, locals := 12 } : Room) s m #[(.ref o0), (.int (16 : Int32))] below meth c s₁ [] 0 0 := Stand.of_body Bd
  have e0 : s₁.heap = h0 := by rw [← hh, Bd.state]; rfl
  have N0 := Fr.nil n0
  refine Go.of ?_
  refine Go.st (S' := s₁.setTop (mkF m 0 #[.val (.ref o0), .val (.int (16 : Int32))] [])) (fun t k => castTop (ef_1 m o0) k) ?_
  refine Go.st (S' := s₁.setTop (mkF m 1 #[.val (.ref o0), .val (.int (16 : Int32))] [(.ref o0)])) (fun t k => XS.aloadN X0.here hx rfl (hb hby djdk_68_method_2_code_0) rfl rfl k) ?_
  obtain ⟨T9, X9, e9, st9⟩ := initO X0 hx hZ hown (hw _ (List.mem_of_getElem? (i := 18) rfl)) (hw _ (List.mem_of_getElem? (i := 19) rfl)) (hw _ (List.mem_of_getElem? (i := 20) rfl)) e0 (g := (mkF m 1 #[.val (.ref o0), .val (.int (16 : Int32))] [(.ref o0)])) rfl (by rw [hml]; rfl) rfl (hb hby djdk_68_method_2_code_1) (by decide) (W := 0) (by show 2 * 0 + _ ≤ _; exact Nat.le_of_eq rfl) (by decide)
  refine Go.st (S' := T9.setTop (mkF m 4 #[.val (.ref o0), .val (.int (16 : Int32))] [])) st9 ?_
  obtain ⟨T10, X10, e10, st10⟩ := getS X9 hx hZ hown (hw _ (List.mem_of_getElem? (i := 21) rfl)) Via.refl e9 S_s_String_COMPACT_STRINGS (host := "") (g := (mkF m 4 #[.val (.ref o0), .val (.int (16 : Int32))] [])) rfl (hb hby djdk_68_method_2_code_4)
  refine Go.st (S' := T10.setTop (mkF m 7 #[.val (.ref o0), .val (.int (16 : Int32))] [(.int s_String_COMPACT_STRINGS)])) st10 ?_
  refine Go.st (S' := T10.setTop (mkF m 10 #[.val (.ref o0), .val (.int (16 : Int32))] [])) (fun t k => XS.ifNo X10.here hx rfl (hb hby djdk_68_method_2_code_7) rfl ((if0 _ _).trans (feq nz_s_String_COMPACT_STRINGS).1) k) ?_
  refine Go.st (S' := T10.setTop (mkF m 11 #[.val (.ref o0), .val (.int (16 : Int32))] [(.ref o0)])) (fun t k => XS.aloadN X10.here hx rfl (hb hby djdk_68_method_2_code_10) rfl rfl k) ?_
  refine Go.st (S' := T10.setTop (mkF m 12 #[.val (.ref o0), .val (.int (16 : Int32))] [(.int (16 : Int32)), (.ref o0)])) (fun t k => XS.iloadN X10.here hx rfl (hb hby djdk_68_method_2_code_11) rfl k) ?_
  obtain ⟨T11, h11, k11, X11, e11, E11, A11, B11, st11⟩ := newPE X10 hx hZ (hw _ (List.mem_of_getElem? (i := 23) rfl)) e10 (g := (mkF m 12 #[.val (.ref o0), .val (.int (16 : Int32))] [(.int (16 : Int32)), (.ref o0)])) rfl (hb hby djdk_68_method_2_code_12) rfl (by decide) (cap := 16) (by decide) (by decide) (by decide) (by decide) (ad := "[B") (by decide)
  obtain ⟨b11, gg11⟩ : ∃ z, z = h0.size := ⟨_, rfl⟩
  rw [← gg11] at A11 B11 st11
  have g_b11 : n0 ≤ b11 := Nat.le_trans Z0 (Nat.le_of_eq gg11.symm)
  have sz_b11 : h0.size ≤ b11 := Nat.le_trans (Keep.refl h0 [o0]).1 (Nat.le_of_eq gg11.symm)
  have Z12 : n0 ≤ h11.size := Nat.le_trans Z0 E11.1
  have K12 : Keep h0 h11 [o0] := (Keep.refl h0 [o0]).ext E11
  have V11 : Arv Z h11 b11 k11 .byte (16 : Int32) [(.int (0 : Int32)), (.int (0 : Int32)), (.int (0 : Int32)), (.int (0 : Int32)), (.int (0 : Int32)), (.int (0 : Int32)), (.int (0 : Int32)), (.int (0 : Int32)), (.int (0 : Int32)), (.int (0 : Int32)), (.int (0 : Int32)), (.int (0 : Int32)), (.int (0 : Int32)), (.int (0 : Int32)), (.int (0 : Int32)), (.int (0 : Int32))] (.int (0 : Int32)) := (Arv.new A11 (by decide)).pad (pad_rep [] (.int (0 : Int32)) 16)
  refine Go.st (S' := T11.setTop (mkF m 14 #[.val (.ref o0), .val (.int (16 : Int32))] [(.ref b11), (.ref o0)])) st11 ?_
  have f13 := ((E_o0).ext E11)
  have f14 := ((F_o0_value).ext E11)
  obtain ⟨T15, h15, X15, e15, W15, st15⟩ := putF X11 hx hZ hown (host := "") (Or.inl (hw _ (List.mem_of_getElem? (i := 24) rfl))) Via.refl e11 f14 f13 (Or.inl (hw _ (List.mem_of_getElem? (i := 25) rfl))) (hw _ (List.mem_of_getElem? (i := 7) rfl)) (ty := (.array .byte)) (by decide) rfl rfl (g := (mkF m 14 #[.val (.ref o0), .val (.int (16 : Int32))] [(.ref b11), (.ref o0)])) rfl rfl (hb hby djdk_68_method_2_code_14)
  have Fw15 := (f14).same W15
  have N15 := Fr.snoc X15 N0 g_o0
  have Z16 : n0 ≤ h15.size := Nat.le_trans Z12 (Keep.of_wr W15).1
  have K16 : Keep h0 h15 [o0] := K12.wr W15 (Or.inl (by simp))
  refine Go.st (S' := T15.setTop (mkF m 17 #[.val (.ref o0), .val (.int (16 : Int32))] [])) st15 ?_
  refine Go.st (S' := T15.setTop (mkF m 18 #[.val (.ref o0), .val (.int (16 : Int32))] [(.ref o0)])) (fun t k => XS.aloadN X15.here hx rfl (hb hby djdk_68_method_2_code_17) rfl rfl k) ?_
  refine Go.st (S' := T15.setTop (mkF m 19 #[.val (.ref o0), .val (.int (16 : Int32))] [(.int (0 : Int32)), (.ref o0)])) (fun t k => XS.iconst X15.here hx rfl (hb hby djdk_68_method_2_code_18) k) ?_
  have f17 := ((f13).wr W15)
  have f18 := ((((F_o0_coder).ext E11)).other W15 (Or.inr (slot_ne (Or.inl (hw _ (List.mem_of_getElem? (i := 27) rfl))) (Or.inl (hw _ (List.mem_of_getElem? (i := 25) rfl))) (by decide) (t := .byte) (t' := (.array .byte)) (by decide) (by decide))))
  obtain ⟨T19, h19, X19, e19, W19, st19⟩ := putF X15 hx hZ hown (host := "") (Or.inl (hw _ (List.mem_of_getElem? (i := 26) rfl))) Via.refl e15 f18 f17 (Or.inl (hw _ (List.mem_of_getElem? (i := 27) rfl))) (hw _ (List.mem_of_getElem? (i := 7) rfl)) (ty := .byte) (by decide) rfl (by decide) (g := (mkF m 19 #[.val (.ref o0), .val (.int (16 : Int32))] [(.int (0 : Int32)), (.ref o0)])) rfl rfl (hb hby djdk_68_method_2_code_19)
  have Fw19 := (f18).same W19
  have N19 := Fr.snoc X19 N15 g_o0
  have Z20 : n0 ≤ h19.size := Nat.le_trans Z16 (Keep.of_wr W19).1
  have K20 : Keep h0 h19 [o0] := K16.wr W19 (Or.inl (by simp))
  refine Go.st (S' := T19.setTop (mkF m 22 #[.val (.ref o0), .val (.int (16 : Int32))] [])) st19 ?_
  refine Go.st (S' := T19.setTop (mkF m 38 #[.val (.ref o0), .val (.int (16 : Int32))] [])) (fun t k => XS.goto X19.here hx rfl (pc0 := 22) (pc' := 38) rfl (hb hby djdk_68_method_2_code_22) (by decide) (by decide) k) ?_
  have f21 := ((((V11).other W15 (Ne.symm (Nat.ne_of_lt (Nat.lt_of_lt_of_le (E_o0).lt sz_b11))))).other W19 (Ne.symm (Nat.ne_of_lt (Nat.lt_of_lt_of_le (E_o0).lt sz_b11))))
  have f22 := ((((B11).wr W15)).wr W19)
  have f23 := ((f17).wr W19)
  have f24 := ((Fw15).other W19 (Or.inr (slot_ne (Or.inl (hw _ (List.mem_of_getElem? (i := 25) rfl))) (Or.inl (hw _ (List.mem_of_getElem? (i := 27) rfl))) (by decide) (t := (.array .byte)) (t' := .byte) (by decide) (by decide))))
  exact Go.ret X19 (v := none) (fun _ => rfl) Bd.notSynchronized (fun fs hr => X19.returnOut hx Bd.returns (hb hby djdk_68_method_2_code_38) hr) (by decide) (by decide) (by rw [e19]; exact ⟨b11, k11, rfl, N19, K20, sz_b11, f21, f22, f23, f24, Fw19⟩)
theorem ef_2 (m : MethodId) (o0 : Addr) : entryFrame m #[(.ref o0), (.int (16 : Int32))] 2 = mkF m 0 #[.val (.ref o0), .val (.int (16 : Int32))] [] := by first | (simp [entryFrame, mkF, argsToLocals, Value.category, maxLocals]; done) | rfl
def Q2 (Z : State) (o0 : Addr) (s_String_COMPACT_STRINGS : Int32) (u_o0_value : Value) (u_o0_coder : Value) (u_o0_count : Value) (h0 : Heap) (n0 : Nat) (v : Option Value) (h : Heap) (L : List Loc) : Prop := (∃ (b36 : Addr) (k36 : ClassId), v = none ∧ Fr n0 L ∧ Keep h0 h [o0] ∧ h0.size ≤ b36 ∧ Arv Z h b36 k36 .byte (16 : Int32) [(.int (0 : Int32)), (.int (0 : Int32)), (.int (0 : Int32)), (.int (0 : Int32)), (.int (0 : Int32)), (.int (0 : Int32)), (.int (0 : Int32)), (.int (0 : Int32)), (.int (0 : Int32)), (.int (0 : Int32)), (.int (0 : Int32)), (.int (0 : Int32)), (.int (0 : Int32)), (.int (0 : Int32)), (.int (0 : Int32)), (.int (0 : Int32))] (.int (0 : Int32)) ∧ Exa Z h b36 "[B" ∧ Exa Z h o0 "java/lang/StringBuilder" ∧ Fld Z h o0 "java/lang/AbstractStringBuilder" "value" "[B" (.ref b36) ∧ Fld Z h o0 "java/lang/AbstractStringBuilder" "coder" "B" (.int (0 : Int32)) ∧ Fld Z h o0 "java/lang/AbstractStringBuilder" "count" "I" u_o0_count)
set_option maxRecDepth 65536 in
set_option maxHeartbeats 40000000 in
theorem rm2 (l : Launch) (Z : State) (a0 : Array Value) (hw : ∀ d ∈ tables_1, d.before a0 Z = true) (ws : List Jvm.Cond) (o0 : Addr) (s_String_COMPACT_STRINGS : Int32) (u_o0_value : Value) (u_o0_coder : Value) (u_o0_count : Value) (h0 : Heap) (n0 : Nat) (Z0 : n0 ≤ h0.size) (S_s_String_COMPACT_STRINGS : Sta Z h0 "java/lang/String" "COMPACT_STRINGS" "Z" (.int s_String_COMPACT_STRINGS)) (nz_s_String_COMPACT_STRINGS : s_String_COMPACT_STRINGS ≠ 0) (E_o0 : Exa Z h0 o0 "java/lang/StringBuilder") (F_o0_value : Fld Z h0 o0 "java/lang/AbstractStringBuilder" "value" "[B" u_o0_value) (g_o0 : n0 ≤ o0) (F_o0_coder : Fld Z h0 o0 "java/lang/AbstractStringBuilder" "coder" "B" u_o0_coder) (F_o0_count : Fld Z h0 o0 "java/lang/AbstractStringBuilder" "count" "I" u_o0_count) :
    Con l Z (⟨"java/lang/AbstractStringBuilder", "<init>", "(I)V"⟩ : MethodName) jdk_68_method_2_code 2 none ws ({ frames := 1, cells := 1, slots := 16, locals := 12 } : Room) #[(.ref o0), (.int (16 : Int32))] h0 1 16 (Q2 Z o0 s_String_COMPACT_STRINGS u_o0_value u_o0_coder u_o0_count h0 n0) := by
  refine MetFree.of_bodySF (plainFor_of_name pn_0) hisR ?_
  intro p e s m args below meth c s₁ Bd hml0 hP hK
  obtain ⟨rfl, hZ, hh⟩ := hP
  have hx := Bd.exec
  have hby := Bd.bytes
  have hml : c.maxLocals = 2 := hml0
  have hown : s.vm.findClass "java/lang/AbstractStringBuilder" = some m.cls := findClass_of_methodNamed Bd.named
  have hnm := (name_of_methodNamed Bd.named Bd.method).1
  have X0 : Stand p l e ({ frames := 1, cells := 1, slots := 16, locals := 12 } : Room) s m #[(.ref o0), (.int (16 : Int32))] below meth c s₁ [] 0 0 := Stand.of_body Bd
  have e0 : s₁.heap = h0 := by rw [← hh, Bd.state]; rfl
  have N0 := Fr.nil n0
  refine Go.of ?_
  refine Go.st (S' := s₁.setTop (mkF m 0 #[.val (.ref o0), .val (.int (16 : Int32))] [])) (fun t k => castTop (ef_2 m o0) k) ?_
  refine Go.st (S' := s₁.setTop (mkF m 1 #[.val (.ref o0), .val (.int (16 : Int32))] [(.ref o0)])) (fun t k => XS.aloadN X0.here hx rfl (hb hby djdk_68_method_2_code_0) rfl rfl k) ?_
  obtain ⟨T34, X34, e34, st34⟩ := initO X0 hx hZ hown (hw _ (List.mem_of_getElem? (i := 18) rfl)) (hw _ (List.mem_of_getElem? (i := 19) rfl)) (hw _ (List.mem_of_getElem? (i := 20) rfl)) e0 (g := (mkF m 1 #[.val (.ref o0), .val (.int (16 : Int32))] [(.ref o0)])) rfl (by rw [hml]; rfl) rfl (hb hby djdk_68_method_2_code_1) (by decide) (W := 0) (by show 2 * 0 + _ ≤ _; exact Nat.le_of_eq rfl) (by decide)
  refine Go.st (S' := T34.setTop (mkF m 4 #[.val (.ref o0), .val (.int (16 : Int32))] [])) st34 ?_
  obtain ⟨T35, X35, e35, st35⟩ := getS X34 hx hZ hown (hw _ (List.mem_of_getElem? (i := 21) rfl)) Via.refl e34 S_s_String_COMPACT_STRINGS (host := "") (g := (mkF m 4 #[.val (.ref o0), .val (.int (16 : Int32))] [])) rfl (hb hby djdk_68_method_2_code_4)
  refine Go.st (S' := T35.setTop (mkF m 7 #[.val (.ref o0), .val (.int (16 : Int32))] [(.int s_String_COMPACT_STRINGS)])) st35 ?_
  refine Go.st (S' := T35.setTop (mkF m 10 #[.val (.ref o0), .val (.int (16 : Int32))] [])) (fun t k => XS.ifNo X35.here hx rfl (hb hby djdk_68_method_2_code_7) rfl ((if0 _ _).trans (feq nz_s_String_COMPACT_STRINGS).1) k) ?_
  refine Go.st (S' := T35.setTop (mkF m 11 #[.val (.ref o0), .val (.int (16 : Int32))] [(.ref o0)])) (fun t k => XS.aloadN X35.here hx rfl (hb hby djdk_68_method_2_code_10) rfl rfl k) ?_
  refine Go.st (S' := T35.setTop (mkF m 12 #[.val (.ref o0), .val (.int (16 : Int32))] [(.int (16 : Int32)), (.ref o0)])) (fun t k => XS.iloadN X35.here hx rfl (hb hby djdk_68_method_2_code_11) rfl k) ?_
  obtain ⟨T36, h36, k36, X36, e36, E36, A36, B36, st36⟩ := newPE X35 hx hZ (hw _ (List.mem_of_getElem? (i := 23) rfl)) e35 (g := (mkF m 12 #[.val (.ref o0), .val (.int (16 : Int32))] [(.int (16 : Int32)), (.ref o0)])) rfl (hb hby djdk_68_method_2_code_12) rfl (by decide) (cap := 16) (by decide) (by decide) (by decide) (by decide) (ad := "[B") (by decide)
  obtain ⟨b36, gg36⟩ : ∃ z, z = h0.size := ⟨_, rfl⟩
  rw [← gg36] at A36 B36 st36
  have g_b36 : n0 ≤ b36 := Nat.le_trans Z0 (Nat.le_of_eq gg36.symm)
  have sz_b36 : h0.size ≤ b36 := Nat.le_trans (Keep.refl h0 [o0]).1 (Nat.le_of_eq gg36.symm)
  have Z37 : n0 ≤ h36.size := Nat.le_trans Z0 E36.1
  have K37 : Keep h0 h36 [o0] := (Keep.refl h0 [o0]).ext E36
  have V36 : Arv Z h36 b36 k36 .byte (16 : Int32) [(.int (0 : Int32)), (.int (0 : Int32)), (.int (0 : Int32)), (.int (0 : Int32)), (.int (0 : Int32)), (.int (0 : Int32)), (.int (0 : Int32)), (.int (0 : Int32)), (.int (0 : Int32)), (.int (0 : Int32)), (.int (0 : Int32)), (.int (0 : Int32)), (.int (0 : Int32)), (.int (0 : Int32)), (.int (0 : Int32)), (.int (0 : Int32))] (.int (0 : Int32)) := (Arv.new A36 (by decide)).pad (pad_rep [] (.int (0 : Int32)) 16)
  refine Go.st (S' := T36.setTop (mkF m 14 #[.val (.ref o0), .val (.int (16 : Int32))] [(.ref b36), (.ref o0)])) st36 ?_
  have f38 := ((E_o0).ext E36)
  have f39 := ((F_o0_value).ext E36)
  obtain ⟨T40, h40, X40, e40, W40, st40⟩ := putF X36 hx hZ hown (host := "") (Or.inl (hw _ (List.mem_of_getElem? (i := 24) rfl))) Via.refl e36 f39 f38 (Or.inl (hw _ (List.mem_of_getElem? (i := 25) rfl))) (hw _ (List.mem_of_getElem? (i := 7) rfl)) (ty := (.array .byte)) (by decide) rfl rfl (g := (mkF m 14 #[.val (.ref o0), .val (.int (16 : Int32))] [(.ref b36), (.ref o0)])) rfl rfl (hb hby djdk_68_method_2_code_14)
  have Fw40 := (f39).same W40
  have N40 := Fr.snoc X40 N0 g_o0
  have Z41 : n0 ≤ h40.size := Nat.le_trans Z37 (Keep.of_wr W40).1
  have K41 : Keep h0 h40 [o0] := K37.wr W40 (Or.inl (by simp))
  refine Go.st (S' := T40.setTop (mkF m 17 #[.val (.ref o0), .val (.int (16 : Int32))] [])) st40 ?_
  refine Go.st (S' := T40.setTop (mkF m 18 #[.val (.ref o0), .val (.int (16 : Int32))] [(.ref o0)])) (fun t k => XS.aloadN X40.here hx rfl (hb hby djdk_68_method_2_code_17) rfl rfl k) ?_
  refine Go.st (S' := T40.setTop (mkF m 19 #[.val (.ref o0), .val (.int (16 : Int32))] [(.int (0 : Int32)), (.ref o0)])) (fun t k => XS.iconst X40.here hx rfl (hb hby djdk_68_method_2_code_18) k) ?_
  have f42 := ((f38).wr W40)
  have f43 := ((((F_o0_coder).ext E36)).other W40 (Or.inr (slot_ne (Or.inl (hw _ (List.mem_of_getElem? (i := 27) rfl))) (Or.inl (hw _ (List.mem_of_getElem? (i := 25) rfl))) (by decide) (t := .byte) (t' := (.array .byte)) (by decide) (by decide))))
  obtain ⟨T44, h44, X44, e44, W44, st44⟩ := putF X40 hx hZ hown (host := "") (Or.inl (hw _ (List.mem_of_getElem? (i := 26) rfl))) Via.refl e40 f43 f42 (Or.inl (hw _ (List.mem_of_getElem? (i := 27) rfl))) (hw _ (List.mem_of_getElem? (i := 7) rfl)) (ty := .byte) (by decide) rfl (by decide) (g := (mkF m 19 #[.val (.ref o0), .val (.int (16 : Int32))] [(.int (0 : Int32)), (.ref o0)])) rfl rfl (hb hby djdk_68_method_2_code_19)
  have Fw44 := (f43).same W44
  have N44 := Fr.snoc X44 N40 g_o0
  have Z45 : n0 ≤ h44.size := Nat.le_trans Z41 (Keep.of_wr W44).1
  have K45 : Keep h0 h44 [o0] := K41.wr W44 (Or.inl (by simp))
  refine Go.st (S' := T44.setTop (mkF m 22 #[.val (.ref o0), .val (.int (16 : Int32))] [])) st44 ?_
  refine Go.st (S' := T44.setTop (mkF m 38 #[.val (.ref o0), .val (.int (16 : Int32))] [])) (fun t k => XS.goto X44.here hx rfl (pc0 := 22) (pc' := 38) rfl (hb hby djdk_68_method_2_code_22) (by decide) (by decide) k) ?_
  have f46 := ((((((F_o0_count).ext E36)).other W40 (Or.inr (slot_ne (Or.inl (hw _ (List.mem_of_getElem? (i := 58) rfl))) (Or.inl (hw _ (List.mem_of_getElem? (i := 25) rfl))) (by decide) (t := .int) (t' := (.array .byte)) (by decide) (by decide))))).other W44 (Or.inr (slot_ne (Or.inl (hw _ (List.mem_of_getElem? (i := 58) rfl))) (Or.inl (hw _ (List.mem_of_getElem? (i := 27) rfl))) (by decide) (t := .int) (t' := .byte) (by decide) (by decide))))
  have f47 := ((((V36).other W40 (Ne.symm (Nat.ne_of_lt (Nat.lt_of_lt_of_le (E_o0).lt sz_b36))))).other W44 (Ne.symm (Nat.ne_of_lt (Nat.lt_of_lt_of_le (E_o0).lt sz_b36))))
  have f48 := ((((B36).wr W40)).wr W44)
  have f49 := ((f42).wr W44)
  have f50 := ((Fw40).other W44 (Or.inr (slot_ne (Or.inl (hw _ (List.mem_of_getElem? (i := 25) rfl))) (Or.inl (hw _ (List.mem_of_getElem? (i := 27) rfl))) (by decide) (t := (.array .byte)) (t' := .byte) (by decide) (by decide))))
  exact Go.ret X44 (v := none) (fun _ => rfl) Bd.notSynchronized (fun fs hr => X44.returnOut hx Bd.returns (hb hby djdk_68_method_2_code_38) hr) (by decide) (by decide) (by rw [e44]; exact ⟨b36, k36, rfl, N44, K45, sz_b36, f47, f48, f49, f50, Fw44, f46⟩)
theorem ef_3 (m : MethodId) (o0 : Addr) : entryFrame m #[(.ref o0)] 1 = mkF m 0 #[.val (.ref o0)] [] := by first | (simp [entryFrame, mkF, argsToLocals, Value.category, maxLocals]; done) | rfl
def Q3 (Z : State) (o0 : Addr) (s_String_COMPACT_STRINGS : Int32) (h0 : Heap) (n0 : Nat) (v : Option Value) (h : Heap) (L : List Loc) : Prop := (∃ (b52 : Addr) (k53 : ClassId), v = none ∧ Fr n0 L ∧ Keep h0 h [o0] ∧ h0.size ≤ b52 ∧ Exa Z h o0 "java/lang/StringBuilder" ∧ Fld Z h o0 "java/lang/AbstractStringBuilder" "value" "[B" (.ref b52) ∧ Fld Z h o0 "java/lang/AbstractStringBuilder" "coder" "B" (.int (0 : Int32)) ∧ Fld Z h o0 "java/lang/AbstractStringBuilder" "count" "I" (.int (0 : Int32)) ∧ Arv Z h b52 k53 .byte (16 : Int32) [(.int (0 : Int32)), (.int (0 : Int32)), (.int (0 : Int32)), (.int (0 : Int32)), (.int (0 : Int32)), (.int (0 : Int32)), (.int (0 : Int32)), (.int (0 : Int32)), (.int (0 : Int32)), (.int (0 : Int32)), (.int (0 : Int32)), (.int (0 : Int32)), (.int (0 : Int32)), (.int (0 : Int32)), (.int (0 : Int32)), (.int (0 : Int32))] (.int (0 : Int32)) ∧ Exa Z h b52 "[B")
set_option maxRecDepth 65536 in
set_option maxHeartbeats 40000000 in
theorem rm3 (l : Launch) (Z : State) (a0 : Array Value) (hw : ∀ d ∈ tables_1, d.before a0 Z = true) (ws : List Jvm.Cond) (o0 : Addr) (s_String_COMPACT_STRINGS : Int32) (h0 : Heap) (n0 : Nat) (Z0 : n0 ≤ h0.size) (E_o0 : Exa Z h0 o0 "java/lang/StringBuilder") (F_o0_value : Fld Z h0 o0 "java/lang/AbstractStringBuilder" "value" "[B" .null) (F_o0_coder : Fld Z h0 o0 "java/lang/AbstractStringBuilder" "coder" "B" (.int (0 : Int32))) (F_o0_count : Fld Z h0 o0 "java/lang/AbstractStringBuilder" "count" "I" (.int (0 : Int32))) (S_s_String_COMPACT_STRINGS : Sta Z h0 "java/lang/String" "COMPACT_STRINGS" "Z" (.int s_String_COMPACT_STRINGS)) (nz_s_String_COMPACT_STRINGS : s_String_COMPACT_STRINGS ≠ 0) (g_o0 : n0 ≤ o0) :
    Con l Z (⟨"java/lang/StringBuilder", "<init>", "()V"⟩ : MethodName) jdk_67_method_1_code 1 none ws ({ frames := 2, cells := 1, slots := 16, locals := 25 } : Room) #[(.ref o0)] h0 1 16 (Q3 Z o0 s_String_COMPACT_STRINGS h0 n0) := by
  refine MetFree.of_bodySF (plainFor_of_name pn_1) hisR ?_
  intro p e s m args below meth c s₁ Bd hml0 hP hK
  obtain ⟨rfl, hZ, hh⟩ := hP
  have hx := Bd.exec
  have hby := Bd.bytes
  have hml : c.maxLocals = 1 := hml0
  have hown : s.vm.findClass "java/lang/StringBuilder" = some m.cls := findClass_of_methodNamed Bd.named
  have hnm := (name_of_methodNamed Bd.named Bd.method).1
  have X0 : Stand p l e ({ frames := 2, cells := 1, slots := 16, locals := 25 } : Room) s m #[(.ref o0)] below meth c s₁ [] 0 0 := Stand.of_body Bd
  have e0 : s₁.heap = h0 := by rw [← hh, Bd.state]; rfl
  have N0 := Fr.nil n0
  refine Go.of ?_
  refine Go.st (S' := s₁.setTop (mkF m 0 #[.val (.ref o0)] [])) (fun t k => castTop (ef_3 m o0) k) ?_
  refine Go.st (S' := s₁.setTop (mkF m 1 #[.val (.ref o0)] [(.ref o0)])) (fun t k => XS.aloadN X0.here hx rfl (hb hby djdk_67_method_1_code_0) rfl rfl k) ?_
  refine Go.st (S' := s₁.setTop (mkF m 3 #[.val (.ref o0)] [(.int (16 : Int32)), (.ref o0)])) (fun t k => XS.bipush X0.here hx rfl (hb hby djdk_67_method_1_code_1) k) ?_
  obtain ⟨r51, T51, L51, X51, hQ51, st51⟩ := own_callI (W := 0) (a := o0) X0 hx hZ e0 hown (y := (⟨"java/lang/AbstractStringBuilder", "<init>", "(I)V"⟩ : MethodName)) rfl (hw _ (List.mem_of_getElem? (i := 12) rfl)) (hw _ (List.mem_of_getElem? (i := 13) rfl)) (hw _ (List.mem_of_getElem? (i := 16) rfl)) (hw _ (List.mem_of_getElem? (i := 17) rfl)) (by decide) (rm2 l Z a0 hw [] o0 s_String_COMPACT_STRINGS (.null) ((.int (0 : Int32))) ((.int (0 : Int32))) h0 n0 Z0 (S_s_String_COMPACT_STRINGS) (nz_s_String_COMPACT_STRINGS) (E_o0) (F_o0_value) (g_o0) (F_o0_coder) (F_o0_count)) (by decide) (by decide) (by decide) (by decide) (g := (mkF m 3 #[.val (.ref o0)] [(.int (16 : Int32)), (.ref o0)])) rfl (by rw [hml]; rfl) (argsL := [(.int (16 : Int32))]) (rest := []) rfl (lenOf pd_0 rfl) rfl (by show 2 * 0 + _ ≤ _; exact Nat.le_of_eq rfl) (hb hby djdk_67_method_1_code_3)
  obtain ⟨b52, k53, rfl, N51, K51_, sz_b52_, f54, f55, f56, f57, f58, f59⟩ := hQ51
  have N51_ := Fr.app N0 N51
  have g_b52 : n0 ≤ b52 := Nat.le_trans Z0 sz_b52_
  have sz_b52 : h0.size ≤ b52 := Nat.le_trans (Keep.refl h0 [o0]).1 sz_b52_
  have Z60 : n0 ≤ T51.heap.size := Nat.le_trans Z0 K51_.1
  have K60 : Keep h0 T51.heap [o0] := (Keep.refl h0 [o0]).trans K51_ (allS (Or.inl (by simp)) all0)
  refine Go.st (S' := T51.setTop (mkF m 6 #[.val (.ref o0)] [])) st51 ?_
  exact Go.ret X51 (v := none) (fun _ => rfl) Bd.notSynchronized (fun fs hr => X51.returnOut hx Bd.returns (hb hby djdk_67_method_1_code_6) hr) (by decide) (by decide) (⟨b52, k53, rfl, N51_, K60, sz_b52, f56, f57, f58, f59, f54, f55⟩)
theorem ef_4 (m : MethodId) (o0 : Addr) : entryFrame m #[(.ref o0)] 1 = mkF m 0 #[.val (.ref o0)] [] := by first | (simp [entryFrame, mkF, argsToLocals, Value.category, maxLocals]; done) | rfl
def Q4 (Z : State) (o0 : Addr) (s_String_COMPACT_STRINGS : Int32) (h0 : Heap) (n0 : Nat) (v : Option Value) (h : Heap) (L : List Loc) : Prop := (v = some (.int (0 : Int32)) ∧ Fr n0 L ∧ h = h0)
set_option maxRecDepth 65536 in
set_option maxHeartbeats 40000000 in
theorem rm4 (l : Launch) (Z : State) (a0 : Array Value) (hw : ∀ d ∈ tables_1, d.before a0 Z = true) (ws : List Jvm.Cond) (o0 : Addr) (s_String_COMPACT_STRINGS : Int32) (h0 : Heap) (n0 : Nat) (Z0 : n0 ≤ h0.size) (S_s_String_COMPACT_STRINGS : Sta Z h0 "java/lang/String" "COMPACT_STRINGS" "Z" (.int s_String_COMPACT_STRINGS)) (nz_s_String_COMPACT_STRINGS : s_String_COMPACT_STRINGS ≠ 0) (F_o0_coder : Fld Z h0 o0 "java/lang/String" "coder" "B" (.int (0 : Int32))) :
    Con l Z (⟨"java/lang/String", "coder", "()B"⟩ : MethodName) jdk_42_method_152_code 1 (some .byte) ws ({ frames := 0, cells := 0, slots := 0, locals := 0 } : Room) #[(.ref o0)] h0 0 0 (Q4 Z o0 s_String_COMPACT_STRINGS h0 n0) := by
  refine MetFree.of_bodySF (plainFor_of_name pn_2) hisR ?_
  intro p e s m args below meth c s₁ Bd hml0 hP hK
  obtain ⟨rfl, hZ, hh⟩ := hP
  have hx := Bd.exec
  have hby := Bd.bytes
  have hml : c.maxLocals = 1 := hml0
  have hown : s.vm.findClass "java/lang/String" = some m.cls := findClass_of_methodNamed Bd.named
  have hnm := (name_of_methodNamed Bd.named Bd.method).1
  have X0 : Stand p l e ({ frames := 0, cells := 0, slots := 0, locals := 0 } : Room) s m #[(.ref o0)] below meth c s₁ [] 0 0 := Stand.of_body Bd
  have e0 : s₁.heap = h0 := by rw [← hh, Bd.state]; rfl
  have N0 := Fr.nil n0
  refine Go.of ?_
  refine Go.st (S' := s₁.setTop (mkF m 0 #[.val (.ref o0)] [])) (fun t k => castTop (ef_4 m o0) k) ?_
  obtain ⟨T92, X92, e92, st92⟩ := getS X0 hx hZ hown (hw _ (List.mem_of_getElem? (i := 55) rfl)) Via.refl e0 S_s_String_COMPACT_STRINGS (host := "") (g := (mkF m 0 #[.val (.ref o0)] [])) rfl (hb hby djdk_42_method_152_code_0)
  refine Go.st (S' := T92.setTop (mkF m 3 #[.val (.ref o0)] [(.int s_String_COMPACT_STRINGS)])) st92 ?_
  refine Go.st (S' := T92.setTop (mkF m 6 #[.val (.ref o0)] [])) (fun t k => XS.ifNo X92.here hx rfl (hb hby djdk_42_method_152_code_3) rfl ((if0 _ _).trans (feq nz_s_String_COMPACT_STRINGS).1) k) ?_
  refine Go.st (S' := T92.setTop (mkF m 7 #[.val (.ref o0)] [(.ref o0)])) (fun t k => XS.aloadN X92.here hx rfl (hb hby djdk_42_method_152_code_6) rfl rfl k) ?_
  obtain ⟨T93, X93, e93, st93⟩ := getF X92 hx hZ hown (host := "") (Or.inl (hw _ (List.mem_of_getElem? (i := 56) rfl))) Via.refl e92 F_o0_coder (g := (mkF m 7 #[.val (.ref o0)] [(.ref o0)])) rfl rfl (hb hby djdk_42_method_152_code_7)
  refine Go.st (S' := T93.setTop (mkF m 10 #[.val (.ref o0)] [(.int (0 : Int32))])) st93 ?_
  refine Go.st (S' := T93.setTop (mkF m 14 #[.val (.ref o0)] [(.int (0 : Int32))])) (fun t k => XS.goto X93.here hx rfl (pc0 := 10) (pc' := 14) rfl (hb hby djdk_42_method_152_code_10) (by decide) (by decide) k) ?_
  exact Go.ret X93 (v := some (.int (0 : Int32))) (fun h => by rw [Bd.returns] at h; cases h) Bd.notSynchronized (fun fs hr => retN X93 hx (t := .byte) Bd.returns (by simp) (hb hby djdk_42_method_152_code_14) hr) (by decide) (by decide) (⟨rfl, N0, (e93)⟩)
theorem ef_5 (m : MethodId) (o0 : Addr) : entryFrame m #[(.ref o0)] 1 = mkF m 0 #[.val (.ref o0)] [] := by first | (simp [entryFrame, mkF, argsToLocals, Value.category, maxLocals]; done) | rfl
def Q5 (Z : State) (o0 : Addr) (o_1 : Addr) (k_o_1 : ClassId) (e0_o_1 : Int32) (e1_o_1 : Int32) (e2_o_1 : Int32) (e3_o_1 : Int32) (e4_o_1 : Int32) (e5_o_1 : Int32) (e6_o_1 : Int32) (e7_o_1 : Int32) (e8_o_1 : Int32) (e9_o_1 : Int32) (e10_o_1 : Int32) (e11_o_1 : Int32) (e12_o_1 : Int32) (e13_o_1 : Int32) (s_String_COMPACT_STRINGS : Int32) (h0 : Heap) (n0 : Nat) (v : Option Value) (h : Heap) (L : List Loc) : Prop := (v = some (.int (14 : Int32)) ∧ Fr n0 L ∧ h = h0)
set_option maxRecDepth 65536 in
set_option maxHeartbeats 40000000 in
theorem rm5 (l : Launch) (Z : State) (a0 : Array Value) (hw : ∀ d ∈ tables_1, d.before a0 Z = true) (ws : List Jvm.Cond) (o0 : Addr) (o_1 : Addr) (k_o_1 : ClassId) (e0_o_1 : Int32) (e1_o_1 : Int32) (e2_o_1 : Int32) (e3_o_1 : Int32) (e4_o_1 : Int32) (e5_o_1 : Int32) (e6_o_1 : Int32) (e7_o_1 : Int32) (e8_o_1 : Int32) (e9_o_1 : Int32) (e10_o_1 : Int32) (e11_o_1 : Int32) (e12_o_1 : Int32) (e13_o_1 : Int32) (s_String_COMPACT_STRINGS : Int32) (h0 : Heap) (n0 : Nat) (Z0 : n0 ≤ h0.size) (F_o0_value : Fld Z h0 o0 "java/lang/String" "value" "[B" (.ref o_1)) (V_o_1 : Arv Z h0 o_1 k_o_1 .byte (14 : Int32) [(.int e0_o_1), (.int e1_o_1), (.int e2_o_1), (.int e3_o_1), (.int e4_o_1), (.int e5_o_1), (.int e6_o_1), (.int e7_o_1), (.int e8_o_1), (.int e9_o_1), (.int e10_o_1), (.int e11_o_1), (.int e12_o_1), (.int e13_o_1)] (.int 0)) (E_o0 : Exa Z h0 o0 "java/lang/String") (F_o0_coder : Fld Z h0 o0 "java/lang/String" "coder" "B" (.int (0 : Int32))) (S_s_String_COMPACT_STRINGS : Sta Z h0 "java/lang/String" "COMPACT_STRINGS" "Z" (.int s_String_COMPACT_STRINGS)) (nz_s_String_COMPACT_STRINGS : s_String_COMPACT_STRINGS ≠ 0) :
    Con l Z (⟨"java/lang/String", "length", "()I"⟩ : MethodName) jdk_42_method_54_code 1 (some .int) ws ({ frames := 1, cells := 0, slots := 0, locals := 13 } : Room) #[(.ref o0)] h0 0 0 (Q5 Z o0 o_1 k_o_1 e0_o_1 e1_o_1 e2_o_1 e3_o_1 e4_o_1 e5_o_1 e6_o_1 e7_o_1 e8_o_1 e9_o_1 e10_o_1 e11_o_1 e12_o_1 e13_o_1 s_String_COMPACT_STRINGS h0 n0) := by
  refine MetFree.of_bodySF (plainFor_of_name pn_2) hisR ?_
  intro p e s m args below meth c s₁ Bd hml0 hP hK
  obtain ⟨rfl, hZ, hh⟩ := hP
  have hx := Bd.exec
  have hby := Bd.bytes
  have hml : c.maxLocals = 1 := hml0
  have hown : s.vm.findClass "java/lang/String" = some m.cls := findClass_of_methodNamed Bd.named
  have hnm := (name_of_methodNamed Bd.named Bd.method).1
  have X0 : Stand p l e ({ frames := 1, cells := 0, slots := 0, locals := 13 } : Room) s m #[(.ref o0)] below meth c s₁ [] 0 0 := Stand.of_body Bd
  have e0 : s₁.heap = h0 := by rw [← hh, Bd.state]; rfl
  have N0 := Fr.nil n0
  refine Go.of ?_
  refine Go.st (S' := s₁.setTop (mkF m 0 #[.val (.ref o0)] [])) (fun t k => castTop (ef_5 m o0) k) ?_
  refine Go.st (S' := s₁.setTop (mkF m 1 #[.val (.ref o0)] [(.ref o0)])) (fun t k => XS.aloadN X0.here hx rfl (hb hby djdk_42_method_54_code_0) rfl rfl k) ?_
  obtain ⟨T89, X89, e89, st89⟩ := getF X0 hx hZ hown (host := "") (Or.inl (hw _ (List.mem_of_getElem? (i := 49) rfl))) Via.refl e0 F_o0_value (g := (mkF m 1 #[.val (.ref o0)] [(.ref o0)])) rfl rfl (hb hby djdk_42_method_54_code_1)
  refine Go.st (S' := T89.setTop (mkF m 4 #[.val (.ref o0)] [(.ref o_1)])) st89 ?_
  obtain ⟨cl90, Ar90, -, S90, N90_, -, -⟩ := id V_o_1
  refine Go.op (F := fun z => T89.setTop (mkF m 5 #[.val (.ref o0)] [(.int z)])) (x := cl90.slots.size.toInt32) (fun t k => X89.arraylength hx (own_eh e89 Ar90.1) (State.isArrayOf_alike hZ.alike Ar90.2.1) (g := (mkF m 4 #[.val (.ref o0)] [(.ref o_1)])) rfl rfl (hb hby djdk_42_method_54_code_4) t k) ?_
  intro v91 hv91
  obtain rfl : (14 : Int32) = v91 := (hv91.trans (len_of S90 N90_)).symm
  refine Go.st (S' := T89.setTop (mkF m 6 #[.val (.ref o0)] [(.ref o0), (.int (14 : Int32))])) (fun t k => XS.aloadN X89.here hx rfl (hb hby djdk_42_method_54_code_5) rfl rfl k) ?_
  obtain ⟨r94, T94, L94, X94, hQ94, st94⟩ := own_callV (W := 1) (a := o0) (C := "java/lang/String") X89 hx hZ e89 hown (y := (⟨"java/lang/String", "coder", "()B"⟩ : MethodName)) (z := (⟨"java/lang/String", "coder", "()B"⟩ : MethodName)) (hw _ (List.mem_of_getElem? (i := 50) rfl)) (hw _ (List.mem_of_getElem? (i := 51) rfl)) (notFace_of_selects (args := #[]) (mvT hZ (hw _ (List.mem_of_getElem? (i := 53) rfl)))) (hw _ (List.mem_of_getElem? (i := 53) rfl)) (hw _ (List.mem_of_getElem? (i := 52) rfl)) (hw _ (List.mem_of_getElem? (i := 22) rfl)) (hw _ (List.mem_of_getElem? (i := 54) rfl)) (by decide) (E_o0) (rm4 l Z a0 hw [] o0 s_String_COMPACT_STRINGS h0 n0 Z0 (S_s_String_COMPACT_STRINGS) (nz_s_String_COMPACT_STRINGS) (F_o0_coder)) (by decide) (by decide) (by decide) (by decide) (g := (mkF m 6 #[.val (.ref o0)] [(.ref o0), (.int (14 : Int32))])) rfl (by rw [hml]; rfl) (argsL := []) (rest := [(.int (14 : Int32))]) rfl (lenOf pd_2 rfl) rfl (by show 2 * 0 + _ ≤ _; exact Nat.le_of_eq rfl) (hb hby djdk_42_method_54_code_6)
  obtain ⟨rfl, N94, e94⟩ := hQ94
  have N94_ := Fr.app N0 N94
  refine Go.st (S' := T94.setTop (mkF m 9 #[.val (.ref o0)] [(.int (0 : Int32)), (.int (14 : Int32))])) st94 ?_
  refine Go.op (F := fun z => T94.setTop (mkF m 10 #[.val (.ref o0)] [(.int z)])) (x := ((14 : Int32) >>> ((0 : Int32) &&& 31))) (fun t k => XS.ishr X94.here hx rfl (hb hby djdk_42_method_54_code_9) rfl k) ?_
  intro v95 hv95
  obtain rfl : (14 : Int32) = v95 := (hv95.trans (by decide)).symm
  exact Go.ret X94 (v := some (.int (14 : Int32))) (fun h => by rw [Bd.returns] at h; cases h) Bd.notSynchronized (fun fs hr => retI X94 hx Bd.returns (hb hby djdk_42_method_54_code_10) hr) (by decide) (by decide) (⟨rfl, N94_, (e94)⟩)
theorem ef_6 (m : MethodId) (o0 : Addr) : entryFrame m #[(.ref o0), (.int (14 : Int32))] 3 = mkF m 0 #[.val (.ref o0), .val (.int (14 : Int32)), .unset] [] := by first | (simp [entryFrame, mkF, argsToLocals, Value.category, maxLocals]; done) | rfl
def Q6 (Z : State) (o0 : Addr) (o_1 : Addr) (k_o_1 : ClassId) (e0_o_1 : Int32) (e1_o_1 : Int32) (e2_o_1 : Int32) (e3_o_1 : Int32) (e4_o_1 : Int32) (e5_o_1 : Int32) (e6_o_1 : Int32) (e7_o_1 : Int32) (e8_o_1 : Int32) (e9_o_1 : Int32) (e10_o_1 : Int32) (e11_o_1 : Int32) (e12_o_1 : Int32) (e13_o_1 : Int32) (e14_o_1 : Int32) (e15_o_1 : Int32) (h0 : Heap) (n0 : Nat) (v : Option Value) (h : Heap) (L : List Loc) : Prop := (v = none ∧ Fr n0 L ∧ h = h0)
set_option maxRecDepth 65536 in
set_option maxHeartbeats 40000000 in
theorem rm6 (l : Launch) (Z : State) (a0 : Array Value) (hw : ∀ d ∈ tables_1, d.before a0 Z = true) (ws : List Jvm.Cond) (o0 : Addr) (o_1 : Addr) (k_o_1 : ClassId) (e0_o_1 : Int32) (e1_o_1 : Int32) (e2_o_1 : Int32) (e3_o_1 : Int32) (e4_o_1 : Int32) (e5_o_1 : Int32) (e6_o_1 : Int32) (e7_o_1 : Int32) (e8_o_1 : Int32) (e9_o_1 : Int32) (e10_o_1 : Int32) (e11_o_1 : Int32) (e12_o_1 : Int32) (e13_o_1 : Int32) (e14_o_1 : Int32) (e15_o_1 : Int32) (h0 : Heap) (n0 : Nat) (Z0 : n0 ≤ h0.size) (F_o0_value : Fld Z h0 o0 "java/lang/AbstractStringBuilder" "value" "[B" (.ref o_1)) (V_o_1 : Arv Z h0 o_1 k_o_1 .byte (16 : Int32) [(.int e0_o_1), (.int e1_o_1), (.int e2_o_1), (.int e3_o_1), (.int e4_o_1), (.int e5_o_1), (.int e6_o_1), (.int e7_o_1), (.int e8_o_1), (.int e9_o_1), (.int e10_o_1), (.int e11_o_1), (.int e12_o_1), (.int e13_o_1), (.int e14_o_1), (.int e15_o_1)] (.int (0 : Int32))) (F_o0_coder : Fld Z h0 o0 "java/lang/AbstractStringBuilder" "coder" "B" (.int (0 : Int32))) :
    Con l Z (⟨"java/lang/AbstractStringBuilder", "ensureCapacityInternal", "(I)V"⟩ : MethodName) jdk_68_method_9_code 3 none ws ({ frames := 0, cells := 0, slots := 0, locals := 0 } : Room) #[(.ref o0), (.int (14 : Int32))] h0 0 0 (Q6 Z o0 o_1 k_o_1 e0_o_1 e1_o_1 e2_o_1 e3_o_1 e4_o_1 e5_o_1 e6_o_1 e7_o_1 e8_o_1 e9_o_1 e10_o_1 e11_o_1 e12_o_1 e13_o_1 e14_o_1 e15_o_1 h0 n0) := by
  refine MetFree.of_bodySF (plainFor_of_name pn_0) hisR ?_
  intro p e s m args below meth c s₁ Bd hml0 hP hK
  obtain ⟨rfl, hZ, hh⟩ := hP
  have hx := Bd.exec
  have hby := Bd.bytes
  have hml : c.maxLocals = 3 := hml0
  have hown : s.vm.findClass "java/lang/AbstractStringBuilder" = some m.cls := findClass_of_methodNamed Bd.named
  have hnm := (name_of_methodNamed Bd.named Bd.method).1
  have X0 : Stand p l e ({ frames := 0, cells := 0, slots := 0, locals := 0 } : Room) s m #[(.ref o0), (.int (14 : Int32))] below meth c s₁ [] 0 0 := Stand.of_body Bd
  have e0 : s₁.heap = h0 := by rw [← hh, Bd.state]; rfl
  have N0 := Fr.nil n0
  refine Go.of ?_
  refine Go.st (S' := s₁.setTop (mkF m 0 #[.val (.ref o0), .val (.int (14 : Int32)), .unset] [])) (fun t k => castTop (ef_6 m o0) k) ?_
  refine Go.st (S' := s₁.setTop (mkF m 1 #[.val (.ref o0), .val (.int (14 : Int32)), .unset] [(.ref o0)])) (fun t k => XS.aloadN X0.here hx rfl (hb hby djdk_68_method_9_code_0) rfl rfl k) ?_
  obtain ⟨T101, X101, e101, st101⟩ := getF X0 hx hZ hown (host := "") (Or.inl (hw _ (List.mem_of_getElem? (i := 24) rfl))) Via.refl e0 F_o0_value (g := (mkF m 1 #[.val (.ref o0), .val (.int (14 : Int32)), .unset] [(.ref o0)])) rfl rfl (hb hby djdk_68_method_9_code_1)
  refine Go.st (S' := T101.setTop (mkF m 4 #[.val (.ref o0), .val (.int (14 : Int32)), .unset] [(.ref o_1)])) st101 ?_
  obtain ⟨cl103, Ar103, -, S103, N103_, -, -⟩ := id V_o_1
  refine Go.op (F := fun z => T101.setTop (mkF m 5 #[.val (.ref o0), .val (.int (14 : Int32)), .unset] [(.int z)])) (x := cl103.slots.size.toInt32) (fun t k => X101.arraylength hx (own_eh e101 Ar103.1) (State.isArrayOf_alike hZ.alike Ar103.2.1) (g := (mkF m 4 #[.val (.ref o0), .val (.int (14 : Int32)), .unset] [(.ref o_1)])) rfl rfl (hb hby djdk_68_method_9_code_4) t k) ?_
  intro v104 hv104
  obtain rfl : (16 : Int32) = v104 := (hv104.trans (len_of S103 N103_)).symm
  refine Go.st (S' := T101.setTop (mkF m 6 #[.val (.ref o0), .val (.int (14 : Int32)), .unset] [(.ref o0), (.int (16 : Int32))])) (fun t k => XS.aloadN X101.here hx rfl (hb hby djdk_68_method_9_code_5) rfl rfl k) ?_
  obtain ⟨T106, X106, e106, st106⟩ := getF X101 hx hZ hown (host := "") (Or.inl (hw _ (List.mem_of_getElem? (i := 26) rfl))) Via.refl e101 F_o0_coder (g := (mkF m 6 #[.val (.ref o0), .val (.int (14 : Int32)), .unset] [(.ref o0), (.int (16 : Int32))])) rfl rfl (hb hby djdk_68_method_9_code_6)
  refine Go.st (S' := T106.setTop (mkF m 9 #[.val (.ref o0), .val (.int (14 : Int32)), .unset] [(.int (0 : Int32)), (.int (16 : Int32))])) st106 ?_
  refine Go.op (F := fun z => T106.setTop (mkF m 10 #[.val (.ref o0), .val (.int (14 : Int32)), .unset] [(.int z)])) (x := ((16 : Int32) >>> ((0 : Int32) &&& 31))) (fun t k => XS.ishr X106.here hx rfl (hb hby djdk_68_method_9_code_9) rfl k) ?_
  intro v107 hv107
  obtain rfl : (16 : Int32) = v107 := (hv107.trans (by decide)).symm
  let A108 : Array Slot := #[.val (.ref o0), .val (.int (14 : Int32)), .val (.int (16 : Int32))]
  refine Go.st (S' := T106.setTop (mkF m 11 A108 [])) (fun t k => XS.istoreN X106.here hx rfl (hb hby djdk_68_method_9_code_10) rfl (l' := A108) rfl k) ?_
  refine Go.st (S' := T106.setTop (mkF m 12 A108 [(.int (14 : Int32))])) (fun t k => XS.iloadN X106.here hx rfl (hb hby djdk_68_method_9_code_11) rfl k) ?_
  refine Go.st (S' := T106.setTop (mkF m 13 A108 [(.int (16 : Int32)), (.int (14 : Int32))])) (fun t k => XS.iloadN X106.here hx rfl (hb hby djdk_68_method_9_code_12) rfl k) ?_
  refine Go.op (F := fun z => T106.setTop (mkF m 14 A108 [(.int z)])) (x := ((14 : Int32) - (16 : Int32))) (fun t k => XS.isub X106.here hx rfl (hb hby djdk_68_method_9_code_13) rfl k) ?_
  intro v109 hv109
  obtain rfl : (-2 : Int32) = v109 := (hv109.trans (by decide)).symm
  refine Go.st (S' := T106.setTop (mkF m 38 A108 [])) (fun t k => XS.ifYes X106.here hx rfl (pc0 := 14) (pc' := 38) rfl (hb hby djdk_68_method_9_code_14) rfl ((if0 _ _).trans (flt (by decide : (¬ ((0 : Int32) < (-2 : Int32))))).2.2.2) (by decide) (by decide) k) ?_
  exact Go.ret X106 (v := none) (fun _ => rfl) Bd.notSynchronized (fun fs hr => X106.returnOut hx Bd.returns (hb hby djdk_68_method_9_code_38) hr) (by decide) (by decide) (⟨rfl, N0, (e106)⟩)
theorem ef_7 (m : MethodId) (o0 : Addr) (o1 : Addr) : entryFrame m #[(.ref o0), (.ref o1)] 2 = mkF m 0 #[.val (.ref o0), .val (.ref o1)] [] := by first | (simp [entryFrame, mkF, argsToLocals, Value.category, maxLocals]; done) | rfl
def Q7 (Z : State) (o0 : Addr) (o1 : Addr) (s_String_COMPACT_STRINGS : Int32) (h0 : Heap) (n0 : Nat) (v : Option Value) (h : Heap) (L : List Loc) : Prop := (v = none ∧ Fr n0 L ∧ h = h0)
set_option maxRecDepth 65536 in
set_option maxHeartbeats 40000000 in
theorem rm7 (l : Launch) (Z : State) (a0 : Array Value) (hw : ∀ d ∈ tables_1, d.before a0 Z = true) (ws : List Jvm.Cond) (o0 : Addr) (o1 : Addr) (s_String_COMPACT_STRINGS : Int32) (h0 : Heap) (n0 : Nat) (Z0 : n0 ≤ h0.size) (S_s_String_COMPACT_STRINGS : Sta Z h0 "java/lang/String" "COMPACT_STRINGS" "Z" (.int s_String_COMPACT_STRINGS)) (nz_s_String_COMPACT_STRINGS : s_String_COMPACT_STRINGS ≠ 0) (F_o0_coder : Fld Z h0 o0 "java/lang/AbstractStringBuilder" "coder" "B" (.int (0 : Int32))) (E_o1 : Exa Z h0 o1 "java/lang/String") (F_o1_coder : Fld Z h0 o1 "java/lang/String" "coder" "B" (.int (0 : Int32))) :
    Con l Z (⟨"java/lang/AbstractStringBuilder", "inflateIfNeededFor", "(Ljava/lang/String;)V"⟩ : MethodName) jdk_68_method_71_code 2 none ws ({ frames := 1, cells := 0, slots := 0, locals := 13 } : Room) #[(.ref o0), (.ref o1)] h0 0 0 (Q7 Z o0 o1 s_String_COMPACT_STRINGS h0 n0) := by
  refine MetFree.of_bodySF (plainFor_of_name pn_0) hisR ?_
  intro p e s m args below meth c s₁ Bd hml0 hP hK
  obtain ⟨rfl, hZ, hh⟩ := hP
  have hx := Bd.exec
  have hby := Bd.bytes
  have hml : c.maxLocals = 2 := hml0
  have hown : s.vm.findClass "java/lang/AbstractStringBuilder" = some m.cls := findClass_of_methodNamed Bd.named
  have hnm := (name_of_methodNamed Bd.named Bd.method).1
  have X0 : Stand p l e ({ frames := 1, cells := 0, slots := 0, locals := 13 } : Room) s m #[(.ref o0), (.ref o1)] below meth c s₁ [] 0 0 := Stand.of_body Bd
  have e0 : s₁.heap = h0 := by rw [← hh, Bd.state]; rfl
  have N0 := Fr.nil n0
  refine Go.of ?_
  refine Go.st (S' := s₁.setTop (mkF m 0 #[.val (.ref o0), .val (.ref o1)] [])) (fun t k => castTop (ef_7 m o0 o1) k) ?_
  obtain ⟨T112, X112, e112, st112⟩ := getS X0 hx hZ hown (hw _ (List.mem_of_getElem? (i := 21) rfl)) Via.refl e0 S_s_String_COMPACT_STRINGS (host := "") (g := (mkF m 0 #[.val (.ref o0), .val (.ref o1)] [])) rfl (hb hby djdk_68_method_71_code_0)
  refine Go.st (S' := T112.setTop (mkF m 3 #[.val (.ref o0), .val (.ref o1)] [(.int s_String_COMPACT_STRINGS)])) st112 ?_
  refine Go.st (S' := T112.setTop (mkF m 6 #[.val (.ref o0), .val (.ref o1)] [])) (fun t k => XS.ifNo X112.here hx rfl (hb hby djdk_68_method_71_code_3) rfl ((if0 _ _).trans (feq nz_s_String_COMPACT_STRINGS).1) k) ?_
  refine Go.st (S' := T112.setTop (mkF m 7 #[.val (.ref o0), .val (.ref o1)] [(.ref o0)])) (fun t k => XS.aloadN X112.here hx rfl (hb hby djdk_68_method_71_code_6) rfl rfl k) ?_
  obtain ⟨T113, X113, e113, st113⟩ := getF X112 hx hZ hown (host := "") (Or.inl (hw _ (List.mem_of_getElem? (i := 26) rfl))) Via.refl e112 F_o0_coder (g := (mkF m 7 #[.val (.ref o0), .val (.ref o1)] [(.ref o0)])) rfl rfl (hb hby djdk_68_method_71_code_7)
  refine Go.st (S' := T113.setTop (mkF m 10 #[.val (.ref o0), .val (.ref o1)] [(.int (0 : Int32))])) st113 ?_
  refine Go.st (S' := T113.setTop (mkF m 11 #[.val (.ref o0), .val (.ref o1)] [(.ref o1), (.int (0 : Int32))])) (fun t k => XS.aloadN X113.here hx rfl (hb hby djdk_68_method_71_code_10) rfl rfl k) ?_
  obtain ⟨r114, T114, L114, X114, hQ114, st114⟩ := own_callV (W := 1) (a := o1) (C := "java/lang/String") X113 hx hZ e113 hown (y := (⟨"java/lang/String", "coder", "()B"⟩ : MethodName)) (z := (⟨"java/lang/String", "coder", "()B"⟩ : MethodName)) (hw _ (List.mem_of_getElem? (i := 74) rfl)) (hw _ (List.mem_of_getElem? (i := 51) rfl)) (notFace_of_selects (args := #[]) (mvT hZ (hw _ (List.mem_of_getElem? (i := 53) rfl)))) (hw _ (List.mem_of_getElem? (i := 53) rfl)) (hw _ (List.mem_of_getElem? (i := 52) rfl)) (hw _ (List.mem_of_getElem? (i := 22) rfl)) (hw _ (List.mem_of_getElem? (i := 54) rfl)) (by decide) (E_o1) (rm4 l Z a0 hw [] o1 s_String_COMPACT_STRINGS h0 n0 Z0 (S_s_String_COMPACT_STRINGS) (nz_s_String_COMPACT_STRINGS) (F_o1_coder)) (by decide) (by decide) (by decide) (by decide) (g := (mkF m 11 #[.val (.ref o0), .val (.ref o1)] [(.ref o1), (.int (0 : Int32))])) rfl (by rw [hml]; rfl) (argsL := []) (rest := [(.int (0 : Int32))]) rfl (lenOf pd_2 rfl) rfl (by show 2 * 0 + _ ≤ _; exact Nat.le_of_eq rfl) (hb hby djdk_68_method_71_code_11)
  obtain ⟨rfl, N114, e114⟩ := hQ114
  have N114_ := Fr.app N0 N114
  refine Go.st (S' := T114.setTop (mkF m 14 #[.val (.ref o0), .val (.ref o1)] [(.int (0 : Int32)), (.int (0 : Int32))])) st114 ?_
  refine Go.st (S' := T114.setTop (mkF m 21 #[.val (.ref o0), .val (.ref o1)] [])) (fun t k => XS.icmpYes X114.here hx rfl (pc0 := 14) (pc' := 21) rfl (hb hby djdk_68_method_71_code_14) rfl (teq (by decide : ((0 : Int32) = (0 : Int32)))).1 (by decide) (by decide) k) ?_
  exact Go.ret X114 (v := none) (fun _ => rfl) Bd.notSynchronized (fun fs hr => X114.returnOut hx Bd.returns (hb hby djdk_68_method_71_code_21) hr) (by decide) (by decide) (⟨rfl, N114_, (e114)⟩)
theorem ef_8 (m : MethodId) (o0 : Addr) (o1 : Addr) : entryFrame m #[(.ref o0), (.ref o1), (.int (0 : Int32)), (.int (0 : Int32))] 4 = mkF m 0 #[.val (.ref o0), .val (.ref o1), .val (.int (0 : Int32)), .val (.int (0 : Int32))] [] := by first | (simp [entryFrame, mkF, argsToLocals, Value.category, maxLocals]; done) | rfl
def Q8 (Z : State) (o0 : Addr) (o1 : Addr) (s_String_COMPACT_STRINGS : Int32) (o_2 : Addr) (k_o_2 : ClassId) (e0_o_2 : Int32) (e1_o_2 : Int32) (e2_o_2 : Int32) (e3_o_2 : Int32) (e4_o_2 : Int32) (e5_o_2 : Int32) (e6_o_2 : Int32) (e7_o_2 : Int32) (e8_o_2 : Int32) (e9_o_2 : Int32) (e10_o_2 : Int32) (e11_o_2 : Int32) (e12_o_2 : Int32) (e13_o_2 : Int32) (k_o1 : ClassId) (e0_o1 : Int32) (e1_o1 : Int32) (e2_o1 : Int32) (e3_o1 : Int32) (e4_o1 : Int32) (e5_o1 : Int32) (e6_o1 : Int32) (e7_o1 : Int32) (e8_o1 : Int32) (e9_o1 : Int32) (e10_o1 : Int32) (e11_o1 : Int32) (e12_o1 : Int32) (e13_o1 : Int32) (e14_o1 : Int32) (e15_o1 : Int32) (h0 : Heap) (n0 : Nat) (v : Option Value) (h : Heap) (L : List Loc) : Prop := (v = none ∧ Fr n0 L ∧ Keep h0 h [o1] ∧ Arv Z h o1 k_o1 .byte (16 : Int32) [(.int e0_o_2), (.int e1_o_2), (.int e2_o_2), (.int e3_o_2), (.int e4_o_2), (.int e5_o_2), (.int e6_o_2), (.int e7_o_2), (.int e8_o_2), (.int e9_o_2), (.int e10_o_2), (.int e11_o_2), (.int e12_o_2), (.int e13_o_2), (.int e14_o1), (.int e15_o1)] (.int (0 : Int32)))
set_option maxRecDepth 65536 in
set_option maxHeartbeats 40000000 in
theorem rm8 (l : Launch) (Z : State) (a0 : Array Value) (hw : ∀ d ∈ tables_1, d.before a0 Z = true) (ws : List Jvm.Cond) (o0 : Addr) (o1 : Addr) (s_String_COMPACT_STRINGS : Int32) (o_2 : Addr) (k_o_2 : ClassId) (e0_o_2 : Int32) (e1_o_2 : Int32) (e2_o_2 : Int32) (e3_o_2 : Int32) (e4_o_2 : Int32) (e5_o_2 : Int32) (e6_o_2 : Int32) (e7_o_2 : Int32) (e8_o_2 : Int32) (e9_o_2 : Int32) (e10_o_2 : Int32) (e11_o_2 : Int32) (e12_o_2 : Int32) (e13_o_2 : Int32) (k_o1 : ClassId) (e0_o1 : Int32) (e1_o1 : Int32) (e2_o1 : Int32) (e3_o1 : Int32) (e4_o1 : Int32) (e5_o1 : Int32) (e6_o1 : Int32) (e7_o1 : Int32) (e8_o1 : Int32) (e9_o1 : Int32) (e10_o1 : Int32) (e11_o1 : Int32) (e12_o1 : Int32) (e13_o1 : Int32) (e14_o1 : Int32) (e15_o1 : Int32) (h0 : Heap) (n0 : Nat) (Z0 : n0 ≤ h0.size) (E_o0 : Exa Z h0 o0 "java/lang/String") (S_s_String_COMPACT_STRINGS : Sta Z h0 "java/lang/String" "COMPACT_STRINGS" "Z" (.int s_String_COMPACT_STRINGS)) (nz_s_String_COMPACT_STRINGS : s_String_COMPACT_STRINGS ≠ 0) (F_o0_coder : Fld Z h0 o0 "java/lang/String" "coder" "B" (.int (0 : Int32))) (F_o0_value : Fld Z h0 o0 "java/lang/String" "value" "[B" (.ref o_2)) (V_o_2 : Arv Z h0 o_2 k_o_2 .byte (14 : Int32) [(.int e0_o_2), (.int e1_o_2), (.int e2_o_2), (.int e3_o_2), (.int e4_o_2), (.int e5_o_2), (.int e6_o_2), (.int e7_o_2), (.int e8_o_2), (.int e9_o_2), (.int e10_o_2), (.int e11_o_2), (.int e12_o_2), (.int e13_o_2)] (.int 0)) (V_o1 : Arv Z h0 o1 k_o1 .byte (16 : Int32) [(.int e0_o1), (.int e1_o1), (.int e2_o1), (.int e3_o1), (.int e4_o1), (.int e5_o1), (.int e6_o1), (.int e7_o1), (.int e8_o1), (.int e9_o1), (.int e10_o1), (.int e11_o1), (.int e12_o1), (.int e13_o1), (.int e14_o1), (.int e15_o1)] (.int (0 : Int32))) (g_o1 : n0 ≤ o1) :
    Con l Z (⟨"java/lang/String", "getBytes", "([BIB)V"⟩ : MethodName) jdk_42_method_147_code 4 none ws ({ frames := 1, cells := 0, slots := 0, locals := 40 } : Room) #[(.ref o0), (.ref o1), (.int (0 : Int32)), (.int (0 : Int32))] h0 0 0 (Q8 Z o0 o1 s_String_COMPACT_STRINGS o_2 k_o_2 e0_o_2 e1_o_2 e2_o_2 e3_o_2 e4_o_2 e5_o_2 e6_o_2 e7_o_2 e8_o_2 e9_o_2 e10_o_2 e11_o_2 e12_o_2 e13_o_2 k_o1 e0_o1 e1_o1 e2_o1 e3_o1 e4_o1 e5_o1 e6_o1 e7_o1 e8_o1 e9_o1 e10_o1 e11_o1 e12_o1 e13_o1 e14_o1 e15_o1 h0 n0) := by
  refine MetFree.of_bodySF (plainFor_of_name pn_2) hisR ?_
  intro p e s m args below meth c s₁ Bd hml0 hP hK
  obtain ⟨rfl, hZ, hh⟩ := hP
  have hx := Bd.exec
  have hby := Bd.bytes
  have hml : c.maxLocals = 4 := hml0
  have hown : s.vm.findClass "java/lang/String" = some m.cls := findClass_of_methodNamed Bd.named
  have hnm := (name_of_methodNamed Bd.named Bd.method).1
  have X0 : Stand p l e ({ frames := 1, cells := 0, slots := 0, locals := 40 } : Room) s m #[(.ref o0), (.ref o1), (.int (0 : Int32)), (.int (0 : Int32))] below meth c s₁ [] 0 0 := Stand.of_body Bd
  have e0 : s₁.heap = h0 := by rw [← hh, Bd.state]; rfl
  have N0 := Fr.nil n0
  refine Go.of ?_
  refine Go.st (S' := s₁.setTop (mkF m 0 #[.val (.ref o0), .val (.ref o1), .val (.int (0 : Int32)), .val (.int (0 : Int32))] [])) (fun t k => castTop (ef_8 m o0 o1) k) ?_
  let A118 : Array Slot := #[.val (.ref o0), .val (.ref o1), .val (.int (0 : Int32)), .val (.int (0 : Int32))]
  refine Go.st (S' := s₁.setTop (mkF m 1 A118 [(.ref o0)])) (fun t k => XS.aloadN X0.here hx rfl (hb hby djdk_42_method_147_code_0) rfl rfl k) ?_
  obtain ⟨r119, T119, L119, X119, hQ119, st119⟩ := own_callV (W := 0) (a := o0) (C := "java/lang/String") X0 hx hZ e0 hown (y := (⟨"java/lang/String", "coder", "()B"⟩ : MethodName)) (z := (⟨"java/lang/String", "coder", "()B"⟩ : MethodName)) (hw _ (List.mem_of_getElem? (i := 50) rfl)) (hw _ (List.mem_of_getElem? (i := 51) rfl)) (notFace_of_selects (args := #[]) (mvT hZ (hw _ (List.mem_of_getElem? (i := 53) rfl)))) (hw _ (List.mem_of_getElem? (i := 53) rfl)) (hw _ (List.mem_of_getElem? (i := 52) rfl)) (hw _ (List.mem_of_getElem? (i := 22) rfl)) (hw _ (List.mem_of_getElem? (i := 54) rfl)) (by decide) (E_o0) (rm4 l Z a0 hw [] o0 s_String_COMPACT_STRINGS h0 n0 Z0 (S_s_String_COMPACT_STRINGS) (nz_s_String_COMPACT_STRINGS) (F_o0_coder)) (by decide) (by decide) (by decide) (by decide) (g := (mkF m 1 A118 [(.ref o0)])) rfl (by rw [hml]; rfl) (argsL := []) (rest := []) rfl (lenOf pd_2 rfl) rfl (by show 2 * 0 + _ ≤ _; exact Nat.le_of_eq rfl) (hb hby djdk_42_method_147_code_1)
  obtain ⟨rfl, N119, e119⟩ := hQ119
  have N119_ := Fr.app N0 N119
  refine Go.st (S' := T119.setTop (mkF m 4 A118 [(.int (0 : Int32))])) st119 ?_
  refine Go.st (S' := T119.setTop (mkF m 5 A118 [(.int (0 : Int32)), (.int (0 : Int32))])) (fun t k => XS.iloadN X119.here hx rfl (hb hby djdk_42_method_147_code_4) rfl k) ?_
  refine Go.st (S' := T119.setTop (mkF m 8 A118 [])) (fun t k => XS.icmpNo X119.here hx rfl (hb hby djdk_42_method_147_code_5) rfl (teq (by decide : ((0 : Int32) = (0 : Int32)))).2 k) ?_
  refine Go.st (S' := T119.setTop (mkF m 9 A118 [(.ref o0)])) (fun t k => XS.aloadN X119.here hx rfl (hb hby djdk_42_method_147_code_8) rfl rfl k) ?_
  obtain ⟨T120, X120, e120, st120⟩ := getF X119 hx hZ hown (host := "") (Or.inl (hw _ (List.mem_of_getElem? (i := 49) rfl))) Via.refl e119 F_o0_value (g := (mkF m 9 A118 [(.ref o0)])) rfl rfl (hb hby djdk_42_method_147_code_9)
  refine Go.st (S' := T120.setTop (mkF m 12 A118 [(.ref o_2)])) st120 ?_
  refine Go.st (S' := T120.setTop (mkF m 13 A118 [(.int (0 : Int32)), (.ref o_2)])) (fun t k => XS.iconst X120.here hx rfl (hb hby djdk_42_method_147_code_12) k) ?_
  refine Go.st (S' := T120.setTop (mkF m 14 A118 [(.ref o1), (.int (0 : Int32)), (.ref o_2)])) (fun t k => XS.aloadN X120.here hx rfl (hb hby djdk_42_method_147_code_13) rfl rfl k) ?_
  refine Go.st (S' := T120.setTop (mkF m 15 A118 [(.int (0 : Int32)), (.ref o1), (.int (0 : Int32)), (.ref o_2)])) (fun t k => XS.iloadN X120.here hx rfl (hb hby djdk_42_method_147_code_14) rfl k) ?_
  refine Go.st (S' := T120.setTop (mkF m 16 A118 [(.int (0 : Int32)), (.int (0 : Int32)), (.ref o1), (.int (0 : Int32)), (.ref o_2)])) (fun t k => XS.iloadN X120.here hx rfl (hb hby djdk_42_method_147_code_15) rfl k) ?_
  refine Go.op (F := fun z => T120.setTop (mkF m 17 A118 [(.int z), (.ref o1), (.int (0 : Int32)), (.ref o_2)])) (x := ((0 : Int32) <<< ((0 : Int32) &&& 31))) (fun t k => XS.ishl X120.here hx rfl (hb hby djdk_42_method_147_code_16) rfl k) ?_
  intro v121 hv121
  obtain rfl : (0 : Int32) = v121 := (hv121.trans (by decide)).symm
  refine Go.st (S' := T120.setTop (mkF m 18 A118 [(.ref o0), (.int (0 : Int32)), (.ref o1), (.int (0 : Int32)), (.ref o_2)])) (fun t k => XS.aloadN X120.here hx rfl (hb hby djdk_42_method_147_code_17) rfl rfl k) ?_
  obtain ⟨T122, X122, e122, st122⟩ := getF X120 hx hZ hown (host := "") (Or.inl (hw _ (List.mem_of_getElem? (i := 49) rfl))) Via.refl e120 F_o0_value (g := (mkF m 18 A118 [(.ref o0), (.int (0 : Int32)), (.ref o1), (.int (0 : Int32)), (.ref o_2)])) rfl rfl (hb hby djdk_42_method_147_code_18)
  refine Go.st (S' := T122.setTop (mkF m 21 A118 [(.ref o_2), (.int (0 : Int32)), (.ref o1), (.int (0 : Int32)), (.ref o_2)])) st122 ?_
  obtain ⟨cl123, Ar123, -, S123, N123_, -, -⟩ := id V_o_2
  refine Go.op (F := fun z => T122.setTop (mkF m 22 A118 [(.int z), (.int (0 : Int32)), (.ref o1), (.int (0 : Int32)), (.ref o_2)])) (x := cl123.slots.size.toInt32) (fun t k => X122.arraylength hx (own_eh e122 Ar123.1) (State.isArrayOf_alike hZ.alike Ar123.2.1) (g := (mkF m 21 A118 [(.ref o_2), (.int (0 : Int32)), (.ref o1), (.int (0 : Int32)), (.ref o_2)])) rfl rfl (hb hby djdk_42_method_147_code_21) t k) ?_
  intro v124 hv124
  obtain rfl : (14 : Int32) = v124 := (hv124.trans (len_of S123 N123_)).symm
  obtain ⟨T125, h125, L125, X125, e125, N125, K125_, V125, st125⟩ := cpA X122 hx hZ hown (hw _ (List.mem_of_getElem? (i := 80) rfl)) (hw _ (List.mem_of_getElem? (i := 83) rfl)) (hw _ (List.mem_of_getElem? (i := 81) rfl)) (hw _ (List.mem_of_getElem? (i := 82) rfl)) e122 (V_o_2) (V_o1) (sp := (0 : Int32)) (dp := (0 : Int32)) (nn := (14 : Int32)) (us := [(.int e0_o_2), (.int e1_o_2), (.int e2_o_2), (.int e3_o_2), (.int e4_o_2), (.int e5_o_2), (.int e6_o_2), (.int e7_o_2), (.int e8_o_2), (.int e9_o_2), (.int e10_o_2), (.int e11_o_2), (.int e12_o_2), (.int e13_o_2)]) (Or.inl ⟨rfl, rfl⟩) (by decide) (by decide) (by decide) (by decide) (by decide) rfl (Nat.le_of_ble_eq_true rfl) N119_ g_o1 (g := (mkF m 22 A118 [(.int (14 : Int32)), (.int (0 : Int32)), (.ref o1), (.int (0 : Int32)), (.ref o_2)])) rfl (by rw [hml]; rfl) rfl (hb hby djdk_42_method_147_code_22) (by decide) (W := 0) (by show 2 * 0 + _ ≤ _; exact Nat.le_of_eq rfl) (by decide)
  have V125 : Arv Z h125 o1 k_o1 .byte (16 : Int32) [(.int e0_o_2), (.int e1_o_2), (.int e2_o_2), (.int e3_o_2), (.int e4_o_2), (.int e5_o_2), (.int e6_o_2), (.int e7_o_2), (.int e8_o_2), (.int e9_o_2), (.int e10_o_2), (.int e11_o_2), (.int e12_o_2), (.int e13_o_2), (.int e14_o1), (.int e15_o1)] (.int (0 : Int32)) := V125
  have Z126 : n0 ≤ h125.size := Nat.le_trans Z0 K125_.1
  have K126 : Keep h0 h125 [o1] := (Keep.refl h0 [o1]).trans K125_ (allS (Or.inl (by simp)) all0)
  refine Go.st (S' := T125.setTop (mkF m 25 A118 [])) st125 ?_
  refine Go.st (S' := T125.setTop (mkF m 43 A118 [])) (fun t k => XS.goto X125.here hx rfl (pc0 := 25) (pc' := 43) rfl (hb hby djdk_42_method_147_code_25) (by decide) (by decide) k) ?_
  exact Go.ret X125 (v := none) (fun _ => rfl) Bd.notSynchronized (fun fs hr => X125.returnOut hx Bd.returns (hb hby djdk_42_method_147_code_43) hr) (by decide) (by decide) (by rw [e125]; exact ⟨rfl, N125, K126, V125⟩)
theorem ef_9 (m : MethodId) (o0 : Addr) (o2 : Addr) : entryFrame m #[(.ref o0), (.int (0 : Int32)), (.ref o2)] 3 = mkF m 0 #[.val (.ref o0), .val (.int (0 : Int32)), .val (.ref o2)] [] := by first | (simp [entryFrame, mkF, argsToLocals, Value.category, maxLocals]; done) | rfl
def Q9 (Z : State) (o0 : Addr) (o2 : Addr) (s_String_COMPACT_STRINGS : Int32) (o_2 : Addr) (o_3 : Addr) (k_o_3 : ClassId) (e0_o_3 : Int32) (e1_o_3 : Int32) (e2_o_3 : Int32) (e3_o_3 : Int32) (e4_o_3 : Int32) (e5_o_3 : Int32) (e6_o_3 : Int32) (e7_o_3 : Int32) (e8_o_3 : Int32) (e9_o_3 : Int32) (e10_o_3 : Int32) (e11_o_3 : Int32) (e12_o_3 : Int32) (e13_o_3 : Int32) (k_o_2 : ClassId) (e0_o_2 : Int32) (e1_o_2 : Int32) (e2_o_2 : Int32) (e3_o_2 : Int32) (e4_o_2 : Int32) (e5_o_2 : Int32) (e6_o_2 : Int32) (e7_o_2 : Int32) (e8_o_2 : Int32) (e9_o_2 : Int32) (e10_o_2 : Int32) (e11_o_2 : Int32) (e12_o_2 : Int32) (e13_o_2 : Int32) (e14_o_2 : Int32) (e15_o_2 : Int32) (h0 : Heap) (n0 : Nat) (v : Option Value) (h : Heap) (L : List Loc) : Prop := (v = none ∧ Fr n0 L ∧ Keep h0 h [o_2] ∧ Arv Z h o_2 k_o_2 .byte (16 : Int32) [(.int e0_o_3), (.int e1_o_3), (.int e2_o_3), (.int e3_o_3), (.int e4_o_3), (.int e5_o_3), (.int e6_o_3), (.int e7_o_3), (.int e8_o_3), (.int e9_o_3), (.int e10_o_3), (.int e11_o_3), (.int e12_o_3), (.int e13_o_3), (.int e14_o_2), (.int e15_o_2)] (.int (0 : Int32)))
set_option maxRecDepth 65536 in
set_option maxHeartbeats 40000000 in
theorem rm9 (l : Launch) (Z : State) (a0 : Array Value) (hw : ∀ d ∈ tables_1, d.before a0 Z = true) (ws : List Jvm.Cond) (o0 : Addr) (o2 : Addr) (s_String_COMPACT_STRINGS : Int32) (o_2 : Addr) (o_3 : Addr) (k_o_3 : ClassId) (e0_o_3 : Int32) (e1_o_3 : Int32) (e2_o_3 : Int32) (e3_o_3 : Int32) (e4_o_3 : Int32) (e5_o_3 : Int32) (e6_o_3 : Int32) (e7_o_3 : Int32) (e8_o_3 : Int32) (e9_o_3 : Int32) (e10_o_3 : Int32) (e11_o_3 : Int32) (e12_o_3 : Int32) (e13_o_3 : Int32) (k_o_2 : ClassId) (e0_o_2 : Int32) (e1_o_2 : Int32) (e2_o_2 : Int32) (e3_o_2 : Int32) (e4_o_2 : Int32) (e5_o_2 : Int32) (e6_o_2 : Int32) (e7_o_2 : Int32) (e8_o_2 : Int32) (e9_o_2 : Int32) (e10_o_2 : Int32) (e11_o_2 : Int32) (e12_o_2 : Int32) (e13_o_2 : Int32) (e14_o_2 : Int32) (e15_o_2 : Int32) (h0 : Heap) (n0 : Nat) (Z0 : n0 ≤ h0.size) (E_o0 : Exa Z h0 o0 "java/lang/StringBuilder") (F_o0_coder : Fld Z h0 o0 "java/lang/AbstractStringBuilder" "coder" "B" (.int (0 : Int32))) (E_o2 : Exa Z h0 o2 "java/lang/String") (F_o2_coder : Fld Z h0 o2 "java/lang/String" "coder" "B" (.int (0 : Int32))) (S_s_String_COMPACT_STRINGS : Sta Z h0 "java/lang/String" "COMPACT_STRINGS" "Z" (.int s_String_COMPACT_STRINGS)) (nz_s_String_COMPACT_STRINGS : s_String_COMPACT_STRINGS ≠ 0) (F_o0_value : Fld Z h0 o0 "java/lang/AbstractStringBuilder" "value" "[B" (.ref o_2)) (F_o2_value : Fld Z h0 o2 "java/lang/String" "value" "[B" (.ref o_3)) (V_o_3 : Arv Z h0 o_3 k_o_3 .byte (14 : Int32) [(.int e0_o_3), (.int e1_o_3), (.int e2_o_3), (.int e3_o_3), (.int e4_o_3), (.int e5_o_3), (.int e6_o_3), (.int e7_o_3), (.int e8_o_3), (.int e9_o_3), (.int e10_o_3), (.int e11_o_3), (.int e12_o_3), (.int e13_o_3)] (.int 0)) (V_o_2 : Arv Z h0 o_2 k_o_2 .byte (16 : Int32) [(.int e0_o_2), (.int e1_o_2), (.int e2_o_2), (.int e3_o_2), (.int e4_o_2), (.int e5_o_2), (.int e6_o_2), (.int e7_o_2), (.int e8_o_2), (.int e9_o_2), (.int e10_o_2), (.int e11_o_2), (.int e12_o_2), (.int e13_o_2), (.int e14_o_2), (.int e15_o_2)] (.int (0 : Int32))) (g_o_2 : n0 ≤ o_2) :
    Con l Z (⟨"java/lang/AbstractStringBuilder", "putStringAt", "(ILjava/lang/String;)V"⟩ : MethodName) jdk_68_method_73_code 3 none ws ({ frames := 2, cells := 0, slots := 0, locals := 55 } : Room) #[(.ref o0), (.int (0 : Int32)), (.ref o2)] h0 0 0 (Q9 Z o0 o2 s_String_COMPACT_STRINGS o_2 o_3 k_o_3 e0_o_3 e1_o_3 e2_o_3 e3_o_3 e4_o_3 e5_o_3 e6_o_3 e7_o_3 e8_o_3 e9_o_3 e10_o_3 e11_o_3 e12_o_3 e13_o_3 k_o_2 e0_o_2 e1_o_2 e2_o_2 e3_o_2 e4_o_2 e5_o_2 e6_o_2 e7_o_2 e8_o_2 e9_o_2 e10_o_2 e11_o_2 e12_o_2 e13_o_2 e14_o_2 e15_o_2 h0 n0) := by
  refine MetFree.of_bodySF (plainFor_of_name pn_0) hisR ?_
  intro p e s m args below meth c s₁ Bd hml0 hP hK
  obtain ⟨rfl, hZ, hh⟩ := hP
  have hx := Bd.exec
  have hby := Bd.bytes
  have hml : c.maxLocals = 3 := hml0
  have hown : s.vm.findClass "java/lang/AbstractStringBuilder" = some m.cls := findClass_of_methodNamed Bd.named
  have hnm := (name_of_methodNamed Bd.named Bd.method).1
  have X0 : Stand p l e ({ frames := 2, cells := 0, slots := 0, locals := 55 } : Room) s m #[(.ref o0), (.int (0 : Int32)), (.ref o2)] below meth c s₁ [] 0 0 := Stand.of_body Bd
  have e0 : s₁.heap = h0 := by rw [← hh, Bd.state]; rfl
  have N0 := Fr.nil n0
  refine Go.of ?_
  refine Go.st (S' := s₁.setTop (mkF m 0 #[.val (.ref o0), .val (.int (0 : Int32)), .val (.ref o2)] [])) (fun t k => castTop (ef_9 m o0 o2) k) ?_
  refine Go.st (S' := s₁.setTop (mkF m 1 #[.val (.ref o0), .val (.int (0 : Int32)), .val (.ref o2)] [(.ref o0)])) (fun t k => XS.aloadN X0.here hx rfl (hb hby djdk_68_method_73_code_0) rfl rfl k) ?_
  refine Go.st (S' := s₁.setTop (mkF m 2 #[.val (.ref o0), .val (.int (0 : Int32)), .val (.ref o2)] [(.ref o2), (.ref o0)])) (fun t k => XS.aloadN X0.here hx rfl (hb hby djdk_68_method_73_code_1) rfl rfl k) ?_
  obtain ⟨r115, T115, L115, X115, hQ115, st115⟩ := own_callV (W := 0) (a := o0) (C := "java/lang/StringBuilder") X0 hx hZ e0 hown (y := (⟨"java/lang/AbstractStringBuilder", "inflateIfNeededFor", "(Ljava/lang/String;)V"⟩ : MethodName)) (z := (⟨"java/lang/AbstractStringBuilder", "inflateIfNeededFor", "(Ljava/lang/String;)V"⟩ : MethodName)) (hw _ (List.mem_of_getElem? (i := 69) rfl)) (own_declares (hw _ (List.mem_of_getElem? (i := 70) rfl)) (hw _ (List.mem_of_getElem? (i := 73) rfl))) (notFace_of_selects (args := #[]) (mvT hZ (hw _ (List.mem_of_getElem? (i := 72) rfl)))) (hw _ (List.mem_of_getElem? (i := 72) rfl)) (hw _ (List.mem_of_getElem? (i := 70) rfl)) (hw _ (List.mem_of_getElem? (i := 16) rfl)) (hw _ (List.mem_of_getElem? (i := 73) rfl)) (by decide) (E_o0) (rm7 l Z a0 hw [] o0 o2 s_String_COMPACT_STRINGS h0 n0 Z0 (S_s_String_COMPACT_STRINGS) (nz_s_String_COMPACT_STRINGS) (F_o0_coder) (E_o2) (F_o2_coder)) (by decide) (by decide) (by decide) (by decide) (g := (mkF m 2 #[.val (.ref o0), .val (.int (0 : Int32)), .val (.ref o2)] [(.ref o2), (.ref o0)])) rfl (by rw [hml]; rfl) (argsL := [(.ref o2)]) (rest := []) rfl (lenOf pd_4 rfl) rfl (by show 2 * 0 + _ ≤ _; exact Nat.le_of_eq rfl) (hb hby djdk_68_method_73_code_2)
  obtain ⟨rfl, N115, e115⟩ := hQ115
  have N115_ := Fr.app N0 N115
  refine Go.st (S' := T115.setTop (mkF m 5 #[.val (.ref o0), .val (.int (0 : Int32)), .val (.ref o2)] [])) st115 ?_
  refine Go.st (S' := T115.setTop (mkF m 6 #[.val (.ref o0), .val (.int (0 : Int32)), .val (.ref o2)] [(.ref o2)])) (fun t k => XS.aloadN X115.here hx rfl (hb hby djdk_68_method_73_code_5) rfl rfl k) ?_
  refine Go.st (S' := T115.setTop (mkF m 7 #[.val (.ref o0), .val (.int (0 : Int32)), .val (.ref o2)] [(.ref o0), (.ref o2)])) (fun t k => XS.aloadN X115.here hx rfl (hb hby djdk_68_method_73_code_6) rfl rfl k) ?_
  obtain ⟨T116, X116, e116, st116⟩ := getF X115 hx hZ hown (host := "") (Or.inl (hw _ (List.mem_of_getElem? (i := 24) rfl))) Via.refl e115 F_o0_value (g := (mkF m 7 #[.val (.ref o0), .val (.int (0 : Int32)), .val (.ref o2)] [(.ref o0), (.ref o2)])) rfl rfl (hb hby djdk_68_method_73_code_7)
  refine Go.st (S' := T116.setTop (mkF m 10 #[.val (.ref o0), .val (.int (0 : Int32)), .val (.ref o2)] [(.ref o_2), (.ref o2)])) st116 ?_
  refine Go.st (S' := T116.setTop (mkF m 11 #[.val (.ref o0), .val (.int (0 : Int32)), .val (.ref o2)] [(.int (0 : Int32)), (.ref o_2), (.ref o2)])) (fun t k => XS.iloadN X116.here hx rfl (hb hby djdk_68_method_73_code_10) rfl k) ?_
  refine Go.st (S' := T116.setTop (mkF m 12 #[.val (.ref o0), .val (.int (0 : Int32)), .val (.ref o2)] [(.ref o0), (.int (0 : Int32)), (.ref o_2), (.ref o2)])) (fun t k => XS.aloadN X116.here hx rfl (hb hby djdk_68_method_73_code_11) rfl rfl k) ?_
  obtain ⟨T117, X117, e117, st117⟩ := getF X116 hx hZ hown (host := "") (Or.inl (hw _ (List.mem_of_getElem? (i := 26) rfl))) Via.refl e116 F_o0_coder (g := (mkF m 12 #[.val (.ref o0), .val (.int (0 : Int32)), .val (.ref o2)] [(.ref o0), (.int (0 : Int32)), (.ref o_2), (.ref o2)])) rfl rfl (hb hby djdk_68_method_73_code_12)
  refine Go.st (S' := T117.setTop (mkF m 15 #[.val (.ref o0), .val (.int (0 : Int32)), .val (.ref o2)] [(.int (0 : Int32)), (.int (0 : Int32)), (.ref o_2), (.ref o2)])) st117 ?_
  obtain ⟨r127, T127, L127, X127, hQ127, st127⟩ := own_callV (W := 0) (a := o2) (C := "java/lang/String") X117 hx hZ e117 hown (y := (⟨"java/lang/String", "getBytes", "([BIB)V"⟩ : MethodName)) (z := (⟨"java/lang/String", "getBytes", "([BIB)V"⟩ : MethodName)) (hw _ (List.mem_of_getElem? (i := 75) rfl)) (hw _ (List.mem_of_getElem? (i := 76) rfl)) (notFace_of_selects (args := #[]) (mvT hZ (hw _ (List.mem_of_getElem? (i := 78) rfl)))) (hw _ (List.mem_of_getElem? (i := 78) rfl)) (hw _ (List.mem_of_getElem? (i := 77) rfl)) (hw _ (List.mem_of_getElem? (i := 22) rfl)) (hw _ (List.mem_of_getElem? (i := 79) rfl)) (by decide) (E_o2) (rm8 l Z a0 hw [] o2 o_2 s_String_COMPACT_STRINGS o_3 k_o_3 e0_o_3 e1_o_3 e2_o_3 e3_o_3 e4_o_3 e5_o_3 e6_o_3 e7_o_3 e8_o_3 e9_o_3 e10_o_3 e11_o_3 e12_o_3 e13_o_3 k_o_2 e0_o_2 e1_o_2 e2_o_2 e3_o_2 e4_o_2 e5_o_2 e6_o_2 e7_o_2 e8_o_2 e9_o_2 e10_o_2 e11_o_2 e12_o_2 e13_o_2 e14_o_2 e15_o_2 h0 n0 Z0 (E_o2) (S_s_String_COMPACT_STRINGS) (nz_s_String_COMPACT_STRINGS) (F_o2_coder) (F_o2_value) (V_o_3) (V_o_2) (g_o_2)) (by decide) (by decide) (by decide) (by decide) (g := (mkF m 15 #[.val (.ref o0), .val (.int (0 : Int32)), .val (.ref o2)] [(.int (0 : Int32)), (.int (0 : Int32)), (.ref o_2), (.ref o2)])) rfl (by rw [hml]; rfl) (argsL := [(.ref o_2), (.int (0 : Int32)), (.int (0 : Int32))]) (rest := []) rfl (lenOf pd_5 rfl) rfl (by show 2 * 0 + _ ≤ _; exact Nat.le_of_eq rfl) (hb hby djdk_68_method_73_code_15)
  obtain ⟨rfl, N127, K127_, f128⟩ := hQ127
  have N127_ := Fr.app N115_ N127
  have Z129 : n0 ≤ T127.heap.size := Nat.le_trans Z0 K127_.1
  have K129 : Keep h0 T127.heap [o_2] := (Keep.refl h0 [o_2]).trans K127_ (allS (Or.inl (by simp)) all0)
  refine Go.st (S' := T127.setTop (mkF m 18 #[.val (.ref o0), .val (.int (0 : Int32)), .val (.ref o2)] [])) st127 ?_
  exact Go.ret X127 (v := none) (fun _ => rfl) Bd.notSynchronized (fun fs hr => X127.returnOut hx Bd.returns (hb hby djdk_68_method_73_code_18) hr) (by decide) (by decide) (⟨rfl, N127_, K129, f128⟩)
theorem ef_10 (m : MethodId) (o0 : Addr) (o1 : Addr) : entryFrame m #[(.ref o0), (.ref o1)] 3 = mkF m 0 #[.val (.ref o0), .val (.ref o1), .unset] [] := by first | (simp [entryFrame, mkF, argsToLocals, Value.category, maxLocals]; done) | rfl
def Q10 (Z : State) (o0 : Addr) (o1 : Addr) (o_2 : Addr) (k_o_2 : ClassId) (e0_o_2 : Int32) (e1_o_2 : Int32) (e2_o_2 : Int32) (e3_o_2 : Int32) (e4_o_2 : Int32) (e5_o_2 : Int32) (e6_o_2 : Int32) (e7_o_2 : Int32) (e8_o_2 : Int32) (e9_o_2 : Int32) (e10_o_2 : Int32) (e11_o_2 : Int32) (e12_o_2 : Int32) (e13_o_2 : Int32) (s_String_COMPACT_STRINGS : Int32) (o_3 : Addr) (k_o_3 : ClassId) (e0_o_3 : Int32) (e1_o_3 : Int32) (e2_o_3 : Int32) (e3_o_3 : Int32) (e4_o_3 : Int32) (e5_o_3 : Int32) (e6_o_3 : Int32) (e7_o_3 : Int32) (e8_o_3 : Int32) (e9_o_3 : Int32) (e10_o_3 : Int32) (e11_o_3 : Int32) (e12_o_3 : Int32) (e13_o_3 : Int32) (e14_o_3 : Int32) (e15_o_3 : Int32) (h0 : Heap) (n0 : Nat) (v : Option Value) (h : Heap) (L : List Loc) : Prop := (v = some (.ref o0) ∧ Fr n0 L ∧ Keep h0 h [o_3, o0] ∧ Fld Z h o0 "java/lang/AbstractStringBuilder" "count" "I" (.int (14 : Int32)) ∧ Exa Z h o0 "java/lang/StringBuilder" ∧ Fld Z h o0 "java/lang/AbstractStringBuilder" "value" "[B" (.ref o_3) ∧ Arv Z h o_3 k_o_3 .byte (16 : Int32) [(.int e0_o_2), (.int e1_o_2), (.int e2_o_2), (.int e3_o_2), (.int e4_o_2), (.int e5_o_2), (.int e6_o_2), (.int e7_o_2), (.int e8_o_2), (.int e9_o_2), (.int e10_o_2), (.int e11_o_2), (.int e12_o_2), (.int e13_o_2), (.int e14_o_3), (.int e15_o_3)] (.int (0 : Int32)) ∧ Fld Z h o0 "java/lang/AbstractStringBuilder" "coder" "B" (.int (0 : Int32)))
set_option maxRecDepth 65536 in
set_option maxHeartbeats 40000000 in
theorem rm10 (l : Launch) (Z : State) (a0 : Array Value) (hw : ∀ d ∈ tables_1, d.before a0 Z = true) (ws : List Jvm.Cond) (o0 : Addr) (o1 : Addr) (o_2 : Addr) (k_o_2 : ClassId) (e0_o_2 : Int32) (e1_o_2 : Int32) (e2_o_2 : Int32) (e3_o_2 : Int32) (e4_o_2 : Int32) (e5_o_2 : Int32) (e6_o_2 : Int32) (e7_o_2 : Int32) (e8_o_2 : Int32) (e9_o_2 : Int32) (e10_o_2 : Int32) (e11_o_2 : Int32) (e12_o_2 : Int32) (e13_o_2 : Int32) (s_String_COMPACT_STRINGS : Int32) (o_3 : Addr) (k_o_3 : ClassId) (e0_o_3 : Int32) (e1_o_3 : Int32) (e2_o_3 : Int32) (e3_o_3 : Int32) (e4_o_3 : Int32) (e5_o_3 : Int32) (e6_o_3 : Int32) (e7_o_3 : Int32) (e8_o_3 : Int32) (e9_o_3 : Int32) (e10_o_3 : Int32) (e11_o_3 : Int32) (e12_o_3 : Int32) (e13_o_3 : Int32) (e14_o_3 : Int32) (e15_o_3 : Int32) (h0 : Heap) (n0 : Nat) (Z0 : n0 ≤ h0.size) (E_o1 : Exa Z h0 o1 "java/lang/String") (F_o1_value : Fld Z h0 o1 "java/lang/String" "value" "[B" (.ref o_2)) (V_o_2 : Arv Z h0 o_2 k_o_2 .byte (14 : Int32) [(.int e0_o_2), (.int e1_o_2), (.int e2_o_2), (.int e3_o_2), (.int e4_o_2), (.int e5_o_2), (.int e6_o_2), (.int e7_o_2), (.int e8_o_2), (.int e9_o_2), (.int e10_o_2), (.int e11_o_2), (.int e12_o_2), (.int e13_o_2)] (.int 0)) (F_o1_coder : Fld Z h0 o1 "java/lang/String" "coder" "B" (.int (0 : Int32))) (S_s_String_COMPACT_STRINGS : Sta Z h0 "java/lang/String" "COMPACT_STRINGS" "Z" (.int s_String_COMPACT_STRINGS)) (nz_s_String_COMPACT_STRINGS : s_String_COMPACT_STRINGS ≠ 0) (F_o0_count : Fld Z h0 o0 "java/lang/AbstractStringBuilder" "count" "I" (.int (0 : Int32))) (E_o0 : Exa Z h0 o0 "java/lang/StringBuilder") (F_o0_value : Fld Z h0 o0 "java/lang/AbstractStringBuilder" "value" "[B" (.ref o_3)) (V_o_3 : Arv Z h0 o_3 k_o_3 .byte (16 : Int32) [(.int e0_o_3), (.int e1_o_3), (.int e2_o_3), (.int e3_o_3), (.int e4_o_3), (.int e5_o_3), (.int e6_o_3), (.int e7_o_3), (.int e8_o_3), (.int e9_o_3), (.int e10_o_3), (.int e11_o_3), (.int e12_o_3), (.int e13_o_3), (.int e14_o_3), (.int e15_o_3)] (.int (0 : Int32))) (F_o0_coder : Fld Z h0 o0 "java/lang/AbstractStringBuilder" "coder" "B" (.int (0 : Int32))) (g_o_3 : n0 ≤ o_3) (ne_o0_o_3 : o0 ≠ o_3) (g_o0 : n0 ≤ o0) :
    Con l Z (⟨"java/lang/AbstractStringBuilder", "append", "(Ljava/lang/String;)Ljava/lang/AbstractStringBuilder;"⟩ : MethodName) jdk_68_method_22_code 3 (some (.object "java/lang/AbstractStringBuilder")) ws ({ frames := 3, cells := 0, slots := 0, locals := 69 } : Room) #[(.ref o0), (.ref o1)] h0 0 0 (Q10 Z o0 o1 o_2 k_o_2 e0_o_2 e1_o_2 e2_o_2 e3_o_2 e4_o_2 e5_o_2 e6_o_2 e7_o_2 e8_o_2 e9_o_2 e10_o_2 e11_o_2 e12_o_2 e13_o_2 s_String_COMPACT_STRINGS o_3 k_o_3 e0_o_3 e1_o_3 e2_o_3 e3_o_3 e4_o_3 e5_o_3 e6_o_3 e7_o_3 e8_o_3 e9_o_3 e10_o_3 e11_o_3 e12_o_3 e13_o_3 e14_o_3 e15_o_3 h0 n0) := by
  refine MetFree.of_bodySF (plainFor_of_name pn_0) hisR ?_
  intro p e s m args below meth c s₁ Bd hml0 hP hK
  obtain ⟨rfl, hZ, hh⟩ := hP
  have hx := Bd.exec
  have hby := Bd.bytes
  have hml : c.maxLocals = 3 := hml0
  have hown : s.vm.findClass "java/lang/AbstractStringBuilder" = some m.cls := findClass_of_methodNamed Bd.named
  have hnm := (name_of_methodNamed Bd.named Bd.method).1
  have X0 : Stand p l e ({ frames := 3, cells := 0, slots := 0, locals := 69 } : Room) s m #[(.ref o0), (.ref o1)] below meth c s₁ [] 0 0 := Stand.of_body Bd
  have e0 : s₁.heap = h0 := by rw [← hh, Bd.state]; rfl
  have N0 := Fr.nil n0
  refine Go.of ?_
  refine Go.st (S' := s₁.setTop (mkF m 0 #[.val (.ref o0), .val (.ref o1), .unset] [])) (fun t k => castTop (ef_10 m o0 o1) k) ?_
  refine Go.st (S' := s₁.setTop (mkF m 1 #[.val (.ref o0), .val (.ref o1), .unset] [(.ref o1)])) (fun t k => XS.aloadN X0.here hx rfl (hb hby djdk_68_method_22_code_0) rfl rfl k) ?_
  refine Go.st (S' := s₁.setTop (mkF m 9 #[.val (.ref o0), .val (.ref o1), .unset] [])) (fun t k => XS.ifnonnullYes X0.here hx rfl (pc0 := 1) (pc' := 9) rfl (hb hby djdk_68_method_22_code_1) rfl (by decide) (by decide) k) ?_
  refine Go.st (S' := s₁.setTop (mkF m 10 #[.val (.ref o0), .val (.ref o1), .unset] [(.ref o1)])) (fun t k => XS.aloadN X0.here hx rfl (hb hby djdk_68_method_22_code_9) rfl rfl k) ?_
  obtain ⟨r96, T96, L96, X96, hQ96, st96⟩ := own_callV (W := 0) (a := o1) (C := "java/lang/String") X0 hx hZ e0 hown (y := (⟨"java/lang/String", "length", "()I"⟩ : MethodName)) (z := (⟨"java/lang/String", "length", "()I"⟩ : MethodName)) (hw _ (List.mem_of_getElem? (i := 44) rfl)) (hw _ (List.mem_of_getElem? (i := 45) rfl)) (notFace_of_selects (args := #[]) (mvT hZ (hw _ (List.mem_of_getElem? (i := 47) rfl)))) (hw _ (List.mem_of_getElem? (i := 47) rfl)) (hw _ (List.mem_of_getElem? (i := 46) rfl)) (hw _ (List.mem_of_getElem? (i := 22) rfl)) (hw _ (List.mem_of_getElem? (i := 48) rfl)) (by decide) (E_o1) (rm5 l Z a0 hw [] o1 o_2 k_o_2 e0_o_2 e1_o_2 e2_o_2 e3_o_2 e4_o_2 e5_o_2 e6_o_2 e7_o_2 e8_o_2 e9_o_2 e10_o_2 e11_o_2 e12_o_2 e13_o_2 s_String_COMPACT_STRINGS h0 n0 Z0 (F_o1_value) (V_o_2) (E_o1) (F_o1_coder) (S_s_String_COMPACT_STRINGS) (nz_s_String_COMPACT_STRINGS)) (by decide) (by decide) (by decide) (by decide) (g := (mkF m 10 #[.val (.ref o0), .val (.ref o1), .unset] [(.ref o1)])) rfl (by rw [hml]; rfl) (argsL := []) (rest := []) rfl (lenOf pd_3 rfl) rfl (by show 2 * 0 + _ ≤ _; exact Nat.le_of_eq rfl) (hb hby djdk_68_method_22_code_10)
  obtain ⟨rfl, N96, e96⟩ := hQ96
  have N96_ := Fr.app N0 N96
  refine Go.st (S' := T96.setTop (mkF m 13 #[.val (.ref o0), .val (.ref o1), .unset] [(.int (14 : Int32))])) st96 ?_
  refine Go.st (S' := T96.setTop (mkF m 14 #[.val (.ref o0), .val (.ref o1), .val (.int (14 : Int32))] [])) (fun t k => XS.istoreN X96.here hx rfl (hb hby djdk_68_method_22_code_13) rfl (l' := #[.val (.ref o0), .val (.ref o1), .val (.int (14 : Int32))]) rfl k) ?_
  refine Go.st (S' := T96.setTop (mkF m 15 #[.val (.ref o0), .val (.ref o1), .val (.int (14 : Int32))] [(.ref o0)])) (fun t k => XS.aloadN X96.here hx rfl (hb hby djdk_68_method_22_code_14) rfl rfl k) ?_
  refine Go.st (S' := T96.setTop (mkF m 16 #[.val (.ref o0), .val (.ref o1), .val (.int (14 : Int32))] [(.ref o0), (.ref o0)])) (fun t k => XS.aloadN X96.here hx rfl (hb hby djdk_68_method_22_code_15) rfl rfl k) ?_
  obtain ⟨T98, X98, e98, st98⟩ := getF X96 hx hZ hown (host := "") (Or.inl (hw _ (List.mem_of_getElem? (i := 57) rfl))) Via.refl e96 F_o0_count (g := (mkF m 16 #[.val (.ref o0), .val (.ref o1), .val (.int (14 : Int32))] [(.ref o0), (.ref o0)])) rfl rfl (hb hby djdk_68_method_22_code_16)
  refine Go.st (S' := T98.setTop (mkF m 19 #[.val (.ref o0), .val (.ref o1), .val (.int (14 : Int32))] [(.int (0 : Int32)), (.ref o0)])) st98 ?_
  refine Go.st (S' := T98.setTop (mkF m 20 #[.val (.ref o0), .val (.ref o1), .val (.int (14 : Int32))] [(.int (14 : Int32)), (.int (0 : Int32)), (.ref o0)])) (fun t k => XS.iloadN X98.here hx rfl (hb hby djdk_68_method_22_code_19) rfl k) ?_
  refine Go.op (F := fun z => T98.setTop (mkF m 21 #[.val (.ref o0), .val (.ref o1), .val (.int (14 : Int32))] [(.int z), (.ref o0)])) (x := ((0 : Int32) + (14 : Int32))) (fun t k => XS.iadd X98.here hx rfl (hb hby djdk_68_method_22_code_20) rfl k) ?_
  intro v99 hv99
  obtain rfl : (14 : Int32) = v99 := (hv99.trans (by decide)).symm
  obtain ⟨r110, T110, L110, X110, hQ110, st110⟩ := own_callV (W := 0) (a := o0) (C := "java/lang/StringBuilder") X98 hx hZ e98 hown (y := (⟨"java/lang/AbstractStringBuilder", "ensureCapacityInternal", "(I)V"⟩ : MethodName)) (z := (⟨"java/lang/AbstractStringBuilder", "ensureCapacityInternal", "(I)V"⟩ : MethodName)) (hw _ (List.mem_of_getElem? (i := 59) rfl)) (own_declares (hw _ (List.mem_of_getElem? (i := 60) rfl)) (hw _ (List.mem_of_getElem? (i := 63) rfl))) (notFace_of_selects (args := #[]) (mvT hZ (hw _ (List.mem_of_getElem? (i := 62) rfl)))) (hw _ (List.mem_of_getElem? (i := 62) rfl)) (hw _ (List.mem_of_getElem? (i := 60) rfl)) (hw _ (List.mem_of_getElem? (i := 16) rfl)) (hw _ (List.mem_of_getElem? (i := 63) rfl)) (by decide) (E_o0) (rm6 l Z a0 hw [] o0 o_3 k_o_3 e0_o_3 e1_o_3 e2_o_3 e3_o_3 e4_o_3 e5_o_3 e6_o_3 e7_o_3 e8_o_3 e9_o_3 e10_o_3 e11_o_3 e12_o_3 e13_o_3 e14_o_3 e15_o_3 h0 n0 Z0 (F_o0_value) (V_o_3) (F_o0_coder)) (by decide) (by decide) (by decide) (by decide) (g := (mkF m 21 #[.val (.ref o0), .val (.ref o1), .val (.int (14 : Int32))] [(.int (14 : Int32)), (.ref o0)])) rfl (by rw [hml]; rfl) (argsL := [(.int (14 : Int32))]) (rest := []) rfl (lenOf pd_0 rfl) rfl (by show 2 * 0 + _ ≤ _; exact Nat.le_of_eq rfl) (hb hby djdk_68_method_22_code_21)
  obtain ⟨rfl, N110, e110⟩ := hQ110
  have N110_ := Fr.app N96_ N110
  refine Go.st (S' := T110.setTop (mkF m 24 #[.val (.ref o0), .val (.ref o1), .val (.int (14 : Int32))] [])) st110 ?_
  refine Go.st (S' := T110.setTop (mkF m 25 #[.val (.ref o0), .val (.ref o1), .val (.int (14 : Int32))] [(.ref o0)])) (fun t k => XS.aloadN X110.here hx rfl (hb hby djdk_68_method_22_code_24) rfl rfl k) ?_
  refine Go.st (S' := T110.setTop (mkF m 26 #[.val (.ref o0), .val (.ref o1), .val (.int (14 : Int32))] [(.ref o0), (.ref o0)])) (fun t k => XS.aloadN X110.here hx rfl (hb hby djdk_68_method_22_code_25) rfl rfl k) ?_
  obtain ⟨T111, X111, e111, st111⟩ := getF X110 hx hZ hown (host := "") (Or.inl (hw _ (List.mem_of_getElem? (i := 57) rfl))) Via.refl e110 F_o0_count (g := (mkF m 26 #[.val (.ref o0), .val (.ref o1), .val (.int (14 : Int32))] [(.ref o0), (.ref o0)])) rfl rfl (hb hby djdk_68_method_22_code_26)
  refine Go.st (S' := T111.setTop (mkF m 29 #[.val (.ref o0), .val (.ref o1), .val (.int (14 : Int32))] [(.int (0 : Int32)), (.ref o0)])) st111 ?_
  refine Go.st (S' := T111.setTop (mkF m 30 #[.val (.ref o0), .val (.ref o1), .val (.int (14 : Int32))] [(.ref o1), (.int (0 : Int32)), (.ref o0)])) (fun t k => XS.aloadN X111.here hx rfl (hb hby djdk_68_method_22_code_29) rfl rfl k) ?_
  obtain ⟨r130, T130, L130, X130, hQ130, st130⟩ := own_callV (W := 0) (a := o0) (C := "java/lang/StringBuilder") X111 hx hZ e111 hown (y := (⟨"java/lang/AbstractStringBuilder", "putStringAt", "(ILjava/lang/String;)V"⟩ : MethodName)) (z := (⟨"java/lang/AbstractStringBuilder", "putStringAt", "(ILjava/lang/String;)V"⟩ : MethodName)) (hw _ (List.mem_of_getElem? (i := 64) rfl)) (own_declares (hw _ (List.mem_of_getElem? (i := 65) rfl)) (hw _ (List.mem_of_getElem? (i := 68) rfl))) (notFace_of_selects (args := #[]) (mvT hZ (hw _ (List.mem_of_getElem? (i := 67) rfl)))) (hw _ (List.mem_of_getElem? (i := 67) rfl)) (hw _ (List.mem_of_getElem? (i := 65) rfl)) (hw _ (List.mem_of_getElem? (i := 16) rfl)) (hw _ (List.mem_of_getElem? (i := 68) rfl)) (by decide) (E_o0) (rm9 l Z a0 hw [] o0 o1 s_String_COMPACT_STRINGS o_3 o_2 k_o_2 e0_o_2 e1_o_2 e2_o_2 e3_o_2 e4_o_2 e5_o_2 e6_o_2 e7_o_2 e8_o_2 e9_o_2 e10_o_2 e11_o_2 e12_o_2 e13_o_2 k_o_3 e0_o_3 e1_o_3 e2_o_3 e3_o_3 e4_o_3 e5_o_3 e6_o_3 e7_o_3 e8_o_3 e9_o_3 e10_o_3 e11_o_3 e12_o_3 e13_o_3 e14_o_3 e15_o_3 h0 n0 Z0 (E_o0) (F_o0_coder) (E_o1) (F_o1_coder) (S_s_String_COMPACT_STRINGS) (nz_s_String_COMPACT_STRINGS) (F_o0_value) (F_o1_value) (V_o_2) (V_o_3) (g_o_3)) (by decide) (by decide) (by decide) (by decide) (g := (mkF m 30 #[.val (.ref o0), .val (.ref o1), .val (.int (14 : Int32))] [(.ref o1), (.int (0 : Int32)), (.ref o0)])) rfl (by rw [hml]; rfl) (argsL := [(.int (0 : Int32)), (.ref o1)]) (rest := []) rfl (lenOf pd_6 rfl) rfl (by show 2 * 0 + _ ≤ _; exact Nat.le_of_eq rfl) (hb hby djdk_68_method_22_code_30)
  obtain ⟨rfl, N130, K130_, f131⟩ := hQ130
  have N130_ := Fr.app N110_ N130
  have Z132 : n0 ≤ T130.heap.size := Nat.le_trans Z0 K130_.1
  have K132 : Keep h0 T130.heap [o_3, o0] := (Keep.refl h0 [o_3, o0]).trans K130_ (allS (Or.inl (by simp)) all0)
  refine Go.st (S' := T130.setTop (mkF m 33 #[.val (.ref o0), .val (.ref o1), .val (.int (14 : Int32))] [])) st130 ?_
  refine Go.st (S' := T130.setTop (mkF m 34 #[.val (.ref o0), .val (.ref o1), .val (.int (14 : Int32))] [(.ref o0)])) (fun t k => XS.aloadN X130.here hx rfl (hb hby djdk_68_method_22_code_33) rfl rfl k) ?_
  refine Go.st (S' := T130.setTop (mkF m 35 #[.val (.ref o0), .val (.ref o1), .val (.int (14 : Int32))] [(.ref o0), (.ref o0)])) (fun t k => XS.dup X130.here hx rfl (hb hby djdk_68_method_22_code_34) rfl rfl k) ?_
  have f133 := ((F_o0_count).keep K130_ (ninS ne_o0_o_3 nin0))
  obtain ⟨T134, X134, e134, st134⟩ := getF X130 hx hZ hown (host := "") (Or.inl (hw _ (List.mem_of_getElem? (i := 57) rfl))) Via.refl rfl f133 (g := (mkF m 35 #[.val (.ref o0), .val (.ref o1), .val (.int (14 : Int32))] [(.ref o0), (.ref o0)])) rfl rfl (hb hby djdk_68_method_22_code_35)
  refine Go.st (S' := T134.setTop (mkF m 38 #[.val (.ref o0), .val (.ref o1), .val (.int (14 : Int32))] [(.int (0 : Int32)), (.ref o0)])) st134 ?_
  refine Go.st (S' := T134.setTop (mkF m 39 #[.val (.ref o0), .val (.ref o1), .val (.int (14 : Int32))] [(.int (14 : Int32)), (.int (0 : Int32)), (.ref o0)])) (fun t k => XS.iloadN X134.here hx rfl (hb hby djdk_68_method_22_code_38) rfl k) ?_
  refine Go.op (F := fun z => T134.setTop (mkF m 40 #[.val (.ref o0), .val (.ref o1), .val (.int (14 : Int32))] [(.int z), (.ref o0)])) (x := ((0 : Int32) + (14 : Int32))) (fun t k => XS.iadd X134.here hx rfl (hb hby djdk_68_method_22_code_39) rfl k) ?_
  intro v135 hv135
  obtain rfl : (14 : Int32) = v135 := (hv135.trans (by decide)).symm
  have f136 := ((E_o0).keep K130_)
  obtain ⟨T137, h137, X137, e137, W137, st137⟩ := putF X134 hx hZ hown (host := "") (Or.inl (hw _ (List.mem_of_getElem? (i := 57) rfl))) Via.refl e134 f133 f136 (Or.inl (hw _ (List.mem_of_getElem? (i := 58) rfl))) (hw _ (List.mem_of_getElem? (i := 7) rfl)) (ty := .int) (by decide) rfl rfl (g := (mkF m 40 #[.val (.ref o0), .val (.ref o1), .val (.int (14 : Int32))] [(.int (14 : Int32)), (.ref o0)])) rfl rfl (hb hby djdk_68_method_22_code_40)
  have Fw137 := (f133).same W137
  have N137 := Fr.snoc X137 N130_ g_o0
  have Z138 : n0 ≤ h137.size := Nat.le_trans Z132 (Keep.of_wr W137).1
  have K138 : Keep h0 h137 [o_3, o0] := K132.wr W137 (Or.inl (by simp))
  refine Go.st (S' := T137.setTop (mkF m 43 #[.val (.ref o0), .val (.ref o1), .val (.int (14 : Int32))] [])) st137 ?_
  refine Go.st (S' := T137.setTop (mkF m 44 #[.val (.ref o0), .val (.ref o1), .val (.int (14 : Int32))] [(.ref o0)])) (fun t k => XS.aloadN X137.here hx rfl (hb hby djdk_68_method_22_code_43) rfl rfl k) ?_
  have f139 := ((f136).wr W137)
  have f140 := ((((F_o0_value).keep K130_ (ninS ne_o0_o_3 nin0))).other W137 (Or.inr (slot_ne (Or.inl (hw _ (List.mem_of_getElem? (i := 25) rfl))) (Or.inl (hw _ (List.mem_of_getElem? (i := 58) rfl))) (by decide) (t := (.array .byte)) (t' := .int) (by decide) (by decide))))
  have f141 := ((f131).other W137 (Ne.symm ne_o0_o_3))
  have f142 := ((((F_o0_coder).keep K130_ (ninS ne_o0_o_3 nin0))).other W137 (Or.inr (slot_ne (Or.inl (hw _ (List.mem_of_getElem? (i := 27) rfl))) (Or.inl (hw _ (List.mem_of_getElem? (i := 58) rfl))) (by decide) (t := .byte) (t' := .int) (by decide) (by decide))))
  exact Go.ret X137 (v := some (.ref o0)) (fun h => by rw [Bd.returns] at h; cases h) Bd.notSynchronized (fun fs hr => retOut X137 hx Bd.returns rfl (Or.inr (Or.inr (Or.inr (Or.inr ⟨rfl, rfl, rfl⟩)))) (hb hby djdk_68_method_22_code_44) hr) (by decide) (by decide) (by rw [e137]; exact ⟨rfl, N137, K138, Fw137, f139, f140, f141, f142⟩)
theorem ef_11 (m : MethodId) (o0 : Addr) (o1 : Addr) : entryFrame m #[(.ref o0), (.ref o1)] 2 = mkF m 0 #[.val (.ref o0), .val (.ref o1)] [] := by first | (simp [entryFrame, mkF, argsToLocals, Value.category, maxLocals]; done) | rfl
def Q11 (Z : State) (o0 : Addr) (o1 : Addr) (o_2 : Addr) (k_o_2 : ClassId) (e0_o_2 : Int32) (e1_o_2 : Int32) (e2_o_2 : Int32) (e3_o_2 : Int32) (e4_o_2 : Int32) (e5_o_2 : Int32) (e6_o_2 : Int32) (e7_o_2 : Int32) (e8_o_2 : Int32) (e9_o_2 : Int32) (e10_o_2 : Int32) (e11_o_2 : Int32) (e12_o_2 : Int32) (e13_o_2 : Int32) (o_3 : Addr) (k_o_3 : ClassId) (e0_o_3 : Int32) (e1_o_3 : Int32) (e2_o_3 : Int32) (e3_o_3 : Int32) (e4_o_3 : Int32) (e5_o_3 : Int32) (e6_o_3 : Int32) (e7_o_3 : Int32) (e8_o_3 : Int32) (e9_o_3 : Int32) (e10_o_3 : Int32) (e11_o_3 : Int32) (e12_o_3 : Int32) (e13_o_3 : Int32) (e14_o_3 : Int32) (e15_o_3 : Int32) (s_String_COMPACT_STRINGS : Int32) (h0 : Heap) (n0 : Nat) (v : Option Value) (h : Heap) (L : List Loc) : Prop := (v = some (.ref o0) ∧ Fr n0 L ∧ Keep h0 h [o0, o_3] ∧ Fld Z h o0 "java/lang/AbstractStringBuilder" "count" "I" (.int (14 : Int32)) ∧ Exa Z h o0 "java/lang/StringBuilder" ∧ Fld Z h o0 "java/lang/AbstractStringBuilder" "value" "[B" (.ref o_3) ∧ Arv Z h o_3 k_o_3 .byte (16 : Int32) [(.int e0_o_2), (.int e1_o_2), (.int e2_o_2), (.int e3_o_2), (.int e4_o_2), (.int e5_o_2), (.int e6_o_2), (.int e7_o_2), (.int e8_o_2), (.int e9_o_2), (.int e10_o_2), (.int e11_o_2), (.int e12_o_2), (.int e13_o_2), (.int e14_o_3), (.int e15_o_3)] (.int (0 : Int32)) ∧ Fld Z h o0 "java/lang/AbstractStringBuilder" "coder" "B" (.int (0 : Int32)) ∧ Exa Z h o_3 "[B")
set_option maxRecDepth 65536 in
set_option maxHeartbeats 40000000 in
theorem rm11 (l : Launch) (Z : State) (a0 : Array Value) (hw : ∀ d ∈ tables_1, d.before a0 Z = true) (ws : List Jvm.Cond) (o0 : Addr) (o1 : Addr) (o_2 : Addr) (k_o_2 : ClassId) (e0_o_2 : Int32) (e1_o_2 : Int32) (e2_o_2 : Int32) (e3_o_2 : Int32) (e4_o_2 : Int32) (e5_o_2 : Int32) (e6_o_2 : Int32) (e7_o_2 : Int32) (e8_o_2 : Int32) (e9_o_2 : Int32) (e10_o_2 : Int32) (e11_o_2 : Int32) (e12_o_2 : Int32) (e13_o_2 : Int32) (o_3 : Addr) (k_o_3 : ClassId) (e0_o_3 : Int32) (e1_o_3 : Int32) (e2_o_3 : Int32) (e3_o_3 : Int32) (e4_o_3 : Int32) (e5_o_3 : Int32) (e6_o_3 : Int32) (e7_o_3 : Int32) (e8_o_3 : Int32) (e9_o_3 : Int32) (e10_o_3 : Int32) (e11_o_3 : Int32) (e12_o_3 : Int32) (e13_o_3 : Int32) (e14_o_3 : Int32) (e15_o_3 : Int32) (s_String_COMPACT_STRINGS : Int32) (h0 : Heap) (n0 : Nat) (Z0 : n0 ≤ h0.size) (E_o1 : Exa Z h0 o1 "java/lang/String") (F_o1_value : Fld Z h0 o1 "java/lang/String" "value" "[B" (.ref o_2)) (V_o_2 : Arv Z h0 o_2 k_o_2 .byte (14 : Int32) [(.int e0_o_2), (.int e1_o_2), (.int e2_o_2), (.int e3_o_2), (.int e4_o_2), (.int e5_o_2), (.int e6_o_2), (.int e7_o_2), (.int e8_o_2), (.int e9_o_2), (.int e10_o_2), (.int e11_o_2), (.int e12_o_2), (.int e13_o_2)] (.int 0)) (F_o1_coder : Fld Z h0 o1 "java/lang/String" "coder" "B" (.int (0 : Int32))) (F_o0_count : Fld Z h0 o0 "java/lang/AbstractStringBuilder" "count" "I" (.int (0 : Int32))) (E_o0 : Exa Z h0 o0 "java/lang/StringBuilder") (F_o0_value : Fld Z h0 o0 "java/lang/AbstractStringBuilder" "value" "[B" (.ref o_3)) (V_o_3 : Arv Z h0 o_3 k_o_3 .byte (16 : Int32) [(.int e0_o_3), (.int e1_o_3), (.int e2_o_3), (.int e3_o_3), (.int e4_o_3), (.int e5_o_3), (.int e6_o_3), (.int e7_o_3), (.int e8_o_3), (.int e9_o_3), (.int e10_o_3), (.int e11_o_3), (.int e12_o_3), (.int e13_o_3), (.int e14_o_3), (.int e15_o_3)] (.int (0 : Int32))) (F_o0_coder : Fld Z h0 o0 "java/lang/AbstractStringBuilder" "coder" "B" (.int (0 : Int32))) (S_s_String_COMPACT_STRINGS : Sta Z h0 "java/lang/String" "COMPACT_STRINGS" "Z" (.int s_String_COMPACT_STRINGS)) (nz_s_String_COMPACT_STRINGS : s_String_COMPACT_STRINGS ≠ 0) (g_o_3 : n0 ≤ o_3) (ne_o0_o_3 : o0 ≠ o_3) (g_o0 : n0 ≤ o0) (E_o_3 : Exa Z h0 o_3 "[B") :
    Con l Z (⟨"java/lang/StringBuilder", "append", "(Ljava/lang/String;)Ljava/lang/StringBuilder;"⟩ : MethodName) jdk_67_method_7_code 2 (some (.object "java/lang/StringBuilder")) ws ({ frames := 4, cells := 0, slots := 0, locals := 83 } : Room) #[(.ref o0), (.ref o1)] h0 0 0 (Q11 Z o0 o1 o_2 k_o_2 e0_o_2 e1_o_2 e2_o_2 e3_o_2 e4_o_2 e5_o_2 e6_o_2 e7_o_2 e8_o_2 e9_o_2 e10_o_2 e11_o_2 e12_o_2 e13_o_2 o_3 k_o_3 e0_o_3 e1_o_3 e2_o_3 e3_o_3 e4_o_3 e5_o_3 e6_o_3 e7_o_3 e8_o_3 e9_o_3 e10_o_3 e11_o_3 e12_o_3 e13_o_3 e14_o_3 e15_o_3 s_String_COMPACT_STRINGS h0 n0) := by
  refine MetFree.of_bodySF (plainFor_of_name pn_1) hisR ?_
  intro p e s m args below meth c s₁ Bd hml0 hP hK
  obtain ⟨rfl, hZ, hh⟩ := hP
  have hx := Bd.exec
  have hby := Bd.bytes
  have hml : c.maxLocals = 2 := hml0
  have hown : s.vm.findClass "java/lang/StringBuilder" = some m.cls := findClass_of_methodNamed Bd.named
  have hnm := (name_of_methodNamed Bd.named Bd.method).1
  have X0 : Stand p l e ({ frames := 4, cells := 0, slots := 0, locals := 83 } : Room) s m #[(.ref o0), (.ref o1)] below meth c s₁ [] 0 0 := Stand.of_body Bd
  have e0 : s₁.heap = h0 := by rw [← hh, Bd.state]; rfl
  have N0 := Fr.nil n0
  refine Go.of ?_
  refine Go.st (S' := s₁.setTop (mkF m 0 #[.val (.ref o0), .val (.ref o1)] [])) (fun t k => castTop (ef_11 m o0 o1) k) ?_
  refine Go.st (S' := s₁.setTop (mkF m 1 #[.val (.ref o0), .val (.ref o1)] [(.ref o0)])) (fun t k => XS.aloadN X0.here hx rfl (hb hby djdk_67_method_7_code_0) rfl rfl k) ?_
  refine Go.st (S' := s₁.setTop (mkF m 2 #[.val (.ref o0), .val (.ref o1)] [(.ref o1), (.ref o0)])) (fun t k => XS.aloadN X0.here hx rfl (hb hby djdk_67_method_7_code_1) rfl rfl k) ?_
  obtain ⟨r143, T143, L143, X143, hQ143, st143⟩ := own_callU (W := 0) (a := o0) X0 hx hZ e0 hown (y := (⟨"java/lang/AbstractStringBuilder", "append", "(Ljava/lang/String;)Ljava/lang/AbstractStringBuilder;"⟩ : MethodName)) (by decide) (E_o0) (hw _ (List.mem_of_getElem? (i := 39) rfl)) (hw _ (List.mem_of_getElem? (i := 40) rfl)) (hw _ (List.mem_of_getElem? (i := 41) rfl)) (hw _ (List.mem_of_getElem? (i := 62) rfl)) rfl (hw _ (List.mem_of_getElem? (i := 16) rfl)) (hw _ (List.mem_of_getElem? (i := 43) rfl)) (by decide) (rm10 l Z a0 hw [] o0 o1 o_2 k_o_2 e0_o_2 e1_o_2 e2_o_2 e3_o_2 e4_o_2 e5_o_2 e6_o_2 e7_o_2 e8_o_2 e9_o_2 e10_o_2 e11_o_2 e12_o_2 e13_o_2 s_String_COMPACT_STRINGS o_3 k_o_3 e0_o_3 e1_o_3 e2_o_3 e3_o_3 e4_o_3 e5_o_3 e6_o_3 e7_o_3 e8_o_3 e9_o_3 e10_o_3 e11_o_3 e12_o_3 e13_o_3 e14_o_3 e15_o_3 h0 n0 Z0 (E_o1) (F_o1_value) (V_o_2) (F_o1_coder) (S_s_String_COMPACT_STRINGS) (nz_s_String_COMPACT_STRINGS) (F_o0_count) (E_o0) (F_o0_value) (V_o_3) (F_o0_coder) (g_o_3) (ne_o0_o_3) (g_o0)) (by decide) (by decide) (by decide) (by decide) (g := (mkF m 2 #[.val (.ref o0), .val (.ref o1)] [(.ref o1), (.ref o0)])) rfl (by rw [hml]; rfl) (argsL := [(.ref o1)]) (rest := []) rfl (lenOf pd_7 rfl) rfl (by show 2 * 0 + _ ≤ _; exact Nat.le_of_eq rfl) (hb hby djdk_67_method_7_code_2)
  obtain ⟨rfl, N143, K143_, f144, f145, f146, f147, f148⟩ := hQ143
  have N143_ := Fr.app N0 N143
  have Z149 : n0 ≤ T143.heap.size := Nat.le_trans Z0 K143_.1
  have K149 : Keep h0 T143.heap [o0, o_3] := (Keep.refl h0 [o0, o_3]).trans K143_ (allS (Or.inl (by simp)) (allS (Or.inl (by simp)) all0))
  refine Go.st (S' := T143.setTop (mkF m 5 #[.val (.ref o0), .val (.ref o1)] [(.ref o0)])) st143 ?_
  refine Go.st (S' := T143.setTop (mkF m 6 #[.val (.ref o0), .val (.ref o1)] [])) (fun t k => XS.pop X143.here hx rfl (hb hby djdk_67_method_7_code_5) rfl rfl k) ?_
  refine Go.st (S' := T143.setTop (mkF m 7 #[.val (.ref o0), .val (.ref o1)] [(.ref o0)])) (fun t k => XS.aloadN X143.here hx rfl (hb hby djdk_67_method_7_code_6) rfl rfl k) ?_
  have f151 := ((E_o_3).keep K143_)
  exact Go.ret X143 (v := some (.ref o0)) (fun h => by rw [Bd.returns] at h; cases h) Bd.notSynchronized (fun fs hr => retOut X143 hx Bd.returns rfl (Or.inr (Or.inr (Or.inr (Or.inr ⟨rfl, rfl, rfl⟩)))) (hb hby djdk_67_method_7_code_7) hr) (by decide) (by decide) (⟨rfl, N143_, K149, f144, f145, f146, f147, f148, f151⟩)
theorem ef_12 (m : MethodId) (p0 : Int32) : entryFrame m #[(.int p0)] 4 = mkF m 0 #[.val (.int p0), .unset, .unset, .unset] [] := by first | (simp [entryFrame, mkF, argsToLocals, Value.category, maxLocals]; done) | rfl
def Q12 (Z : State) (p0 : Int32) (h0 : Heap) (n0 : Nat) (v : Option Value) (h : Heap) (L : List Loc) : Prop := (v = some (.int (1 : Int32)) ∧ Fr n0 L ∧ h = h0)
set_option maxRecDepth 65536 in
set_option maxHeartbeats 40000000 in
theorem rm12 (l : Launch) (Z : State) (a0 : Array Value) (hw : ∀ d ∈ tables_1, d.before a0 Z = true) (ws : List Jvm.Cond) (p0 : Int32) (h0 : Heap) (n0 : Nat) (Z0 : n0 ≤ h0.size) (hra_p0 : (¬ (p0 < (1 : Int32)))) (hrb_p0 : (¬ ((8 : Int32) < p0))) :
    Con l Z (⟨"java/lang/Integer", "stringSize", "(I)I"⟩ : MethodName) jdk_33_method_13_code 4 (some .int) ws ({ frames := 0, cells := 0, slots := 0, locals := 0 } : Room) #[(.int p0)] h0 0 0 (Q12 Z p0 h0 n0) := by
  refine MetFree.of_bodySF (plainFor_of_name pn_3) hisR ?_
  intro p e s m args below meth c s₁ Bd hml0 hP hK
  obtain ⟨rfl, hZ, hh⟩ := hP
  have hx := Bd.exec
  have hby := Bd.bytes
  have hml : c.maxLocals = 4 := hml0
  have hown : s.vm.findClass "java/lang/Integer" = some m.cls := findClass_of_methodNamed Bd.named
  have hnm := (name_of_methodNamed Bd.named Bd.method).1
  have X0 : Stand p l e ({ frames := 0, cells := 0, slots := 0, locals := 0 } : Room) s m #[(.int p0)] below meth c s₁ [] 0 0 := Stand.of_body Bd
  have e0 : s₁.heap = h0 := by rw [← hh, Bd.state]; rfl
  have N0 := Fr.nil n0
  refine Go.of ?_
  refine Go.st (S' := s₁.setTop (mkF m 0 #[.val (.int p0), .unset, .unset, .unset] [])) (fun t k => castTop (ef_12 m p0) k) ?_
  refine Go.st (S' := s₁.setTop (mkF m 1 #[.val (.int p0), .unset, .unset, .unset] [(.int (1 : Int32))])) (fun t k => XS.iconst X0.here hx rfl (hb hby djdk_33_method_13_code_0) k) ?_
  refine Go.st (S' := s₁.setTop (mkF m 2 #[.val (.int p0), .val (.int (1 : Int32)), .unset, .unset] [])) (fun t k => XS.istoreN X0.here hx rfl (hb hby djdk_33_method_13_code_1) rfl (l' := #[.val (.int p0), .val (.int (1 : Int32)), .unset, .unset]) rfl k) ?_
  refine Go.st (S' := s₁.setTop (mkF m 3 #[.val (.int p0), .val (.int (1 : Int32)), .unset, .unset] [(.int p0)])) (fun t k => XS.iloadN X0.here hx rfl (hb hby djdk_33_method_13_code_2) rfl k) ?_
  by_cases hc170 : (p0 < (0 : Int32))
  · exfalso
    have rp0 := rng32 p0
    have lI0 : (0 : Int32).toInt = 0 := by decide
    have lI1 : (1 : Int32).toInt = 1 := by decide
    have lI8 : (8 : Int32).toInt = 8 := by decide
    simp only [Int32.lt_iff_toInt_lt, Int64.lt_iff_toInt_lt, ← Int32.toInt_inj, ← Int64.toInt_inj] at hra_p0 hrb_p0 hc170
    omega
  · refine Go.st (S' := s₁.setTop (mkF m 6 #[.val (.int p0), .val (.int (1 : Int32)), .unset, .unset] [])) (fun t k => XS.ifNo X0.here hx rfl (hb hby djdk_33_method_13_code_3) rfl ((if0 _ _).trans (flt hc170).1) k) ?_
    refine Go.st (S' := s₁.setTop (mkF m 7 #[.val (.int p0), .val (.int (1 : Int32)), .unset, .unset] [(.int (0 : Int32))])) (fun t k => XS.iconst X0.here hx rfl (hb hby djdk_33_method_13_code_6) k) ?_
    refine Go.st (S' := s₁.setTop (mkF m 8 #[.val (.int p0), .val (.int (0 : Int32)), .unset, .unset] [])) (fun t k => XS.istoreN X0.here hx rfl (hb hby djdk_33_method_13_code_7) rfl (l' := #[.val (.int p0), .val (.int (0 : Int32)), .unset, .unset]) rfl k) ?_
    refine Go.st (S' := s₁.setTop (mkF m 9 #[.val (.int p0), .val (.int (0 : Int32)), .unset, .unset] [(.int p0)])) (fun t k => XS.iloadN X0.here hx rfl (hb hby djdk_33_method_13_code_8) rfl k) ?_
    refine Go.op (F := fun z => s₁.setTop (mkF m 10 #[.val (.int p0), .val (.int (0 : Int32)), .unset, .unset] [(.int z)])) (x := (-p0)) (fun t k => XS.ineg X0.here hx rfl (hb hby djdk_33_method_13_code_9) rfl k) ?_
    intro v171 hv171
    refine Go.st (S' := s₁.setTop (mkF m 11 #[.val (.int v171), .val (.int (0 : Int32)), .unset, .unset] [])) (fun t k => XS.istoreN X0.here hx rfl (hb hby djdk_33_method_13_code_10) rfl (l' := #[.val (.int v171), .val (.int (0 : Int32)), .unset, .unset]) rfl k) ?_
    refine Go.st (S' := s₁.setTop (mkF m 13 #[.val (.int v171), .val (.int (0 : Int32)), .unset, .unset] [(.int (-10 : Int32))])) (fun t k => XS.bipush X0.here hx rfl (hb hby djdk_33_method_13_code_11) k) ?_
    let A172 : Array Slot := #[.val (.int v171), .val (.int (0 : Int32)), .val (.int (-10 : Int32)), .unset]
    refine Go.st (S' := s₁.setTop (mkF m 14 A172 [])) (fun t k => XS.istoreN X0.here hx rfl (hb hby djdk_33_method_13_code_13) rfl (l' := A172) rfl k) ?_
    refine Go.st (S' := s₁.setTop (mkF m 15 A172 [(.int (1 : Int32))])) (fun t k => XS.iconst X0.here hx rfl (hb hby djdk_33_method_13_code_14) k) ?_
    let A173 : Array Slot := #[.val (.int v171), .val (.int (0 : Int32)), .val (.int (-10 : Int32)), .val (.int (1 : Int32))]
    refine Go.st (S' := s₁.setTop (mkF m 16 A173 [])) (fun t k => XS.istoreN X0.here hx rfl (hb hby djdk_33_method_13_code_15) rfl (l' := A173) rfl k) ?_
    refine Go.st (S' := s₁.setTop (mkF m 17 A173 [(.int (1 : Int32))])) (fun t k => XS.iloadN X0.here hx rfl (hb hby djdk_33_method_13_code_16) rfl k) ?_
    refine Go.st (S' := s₁.setTop (mkF m 19 A173 [(.int (10 : Int32)), (.int (1 : Int32))])) (fun t k => XS.bipush X0.here hx rfl (hb hby djdk_33_method_13_code_17) k) ?_
    refine Go.st (S' := s₁.setTop (mkF m 22 A173 [])) (fun t k => XS.icmpNo X0.here hx rfl (hb hby djdk_33_method_13_code_19) rfl (tlt (by decide : ((1 : Int32) < (10 : Int32)))).2.1 k) ?_
    refine Go.st (S' := s₁.setTop (mkF m 23 A173 [(.int v171)])) (fun t k => XS.iloadN X0.here hx rfl (hb hby djdk_33_method_13_code_22) rfl k) ?_
    refine Go.st (S' := s₁.setTop (mkF m 24 A173 [(.int (-10 : Int32)), (.int v171)])) (fun t k => XS.iloadN X0.here hx rfl (hb hby djdk_33_method_13_code_23) rfl k) ?_
    by_cases hc174 : ((-10 : Int32) < v171)
    · refine Go.st (S' := s₁.setTop (mkF m 27 A173 [])) (fun t k => XS.icmpNo X0.here hx rfl (hb hby djdk_33_method_13_code_24) rfl (tlt hc174).2.2.2 k) ?_
      refine Go.st (S' := s₁.setTop (mkF m 28 A173 [(.int (1 : Int32))])) (fun t k => XS.iloadN X0.here hx rfl (hb hby djdk_33_method_13_code_27) rfl k) ?_
      refine Go.st (S' := s₁.setTop (mkF m 29 A173 [(.int (0 : Int32)), (.int (1 : Int32))])) (fun t k => XS.iloadN X0.here hx rfl (hb hby djdk_33_method_13_code_28) rfl k) ?_
      refine Go.op (F := fun z => s₁.setTop (mkF m 30 A173 [(.int z)])) (x := ((1 : Int32) + (0 : Int32))) (fun t k => XS.iadd X0.here hx rfl (hb hby djdk_33_method_13_code_29) rfl k) ?_
      intro v175 hv175
      obtain rfl : (1 : Int32) = v175 := (hv175.trans (by decide)).symm
      exact Go.ret X0 (v := some (.int (1 : Int32))) (fun h => by rw [Bd.returns] at h; cases h) Bd.notSynchronized (fun fs hr => retI X0 hx Bd.returns (hb hby djdk_33_method_13_code_30) hr) (by decide) (by decide) (⟨rfl, N0, (e0)⟩)
    · exfalso
      have rv171 := rng32 v171
      have wv171 := c_ineg p0
      rw [← hv171] at wv171
      have rp0 := rng32 p0
      have lIm10 : (-10 : Int32).toInt = -10 := by decide
      have lI0 : (0 : Int32).toInt = 0 := by decide
      have lI1 : (1 : Int32).toInt = 1 := by decide
      have lI8 : (8 : Int32).toInt = 8 := by decide
      simp only [Int32.lt_iff_toInt_lt, Int64.lt_iff_toInt_lt, ← Int32.toInt_inj, ← Int64.toInt_inj] at hra_p0 hrb_p0 hc170 hc174
      omega
theorem ef_13 (m : MethodId) (o0 : Addr) : entryFrame m #[(.ref o0), (.int (15 : Int32))] 3 = mkF m 0 #[.val (.ref o0), .val (.int (15 : Int32)), .unset] [] := by first | (simp [entryFrame, mkF, argsToLocals, Value.category, maxLocals]; done) | rfl
def Q13 (Z : State) (o0 : Addr) (o_1 : Addr) (k_o_1 : ClassId) (e0_o_1 : Int32) (e1_o_1 : Int32) (e2_o_1 : Int32) (e3_o_1 : Int32) (e4_o_1 : Int32) (e5_o_1 : Int32) (e6_o_1 : Int32) (e7_o_1 : Int32) (e8_o_1 : Int32) (e9_o_1 : Int32) (e10_o_1 : Int32) (e11_o_1 : Int32) (e12_o_1 : Int32) (e13_o_1 : Int32) (e14_o_1 : Int32) (e15_o_1 : Int32) (h0 : Heap) (n0 : Nat) (v : Option Value) (h : Heap) (L : List Loc) : Prop := (v = none ∧ Fr n0 L ∧ h = h0)
set_option maxRecDepth 65536 in
set_option maxHeartbeats 40000000 in
theorem rm13 (l : Launch) (Z : State) (a0 : Array Value) (hw : ∀ d ∈ tables_1, d.before a0 Z = true) (ws : List Jvm.Cond) (o0 : Addr) (o_1 : Addr) (k_o_1 : ClassId) (e0_o_1 : Int32) (e1_o_1 : Int32) (e2_o_1 : Int32) (e3_o_1 : Int32) (e4_o_1 : Int32) (e5_o_1 : Int32) (e6_o_1 : Int32) (e7_o_1 : Int32) (e8_o_1 : Int32) (e9_o_1 : Int32) (e10_o_1 : Int32) (e11_o_1 : Int32) (e12_o_1 : Int32) (e13_o_1 : Int32) (e14_o_1 : Int32) (e15_o_1 : Int32) (h0 : Heap) (n0 : Nat) (Z0 : n0 ≤ h0.size) (F_o0_value : Fld Z h0 o0 "java/lang/AbstractStringBuilder" "value" "[B" (.ref o_1)) (V_o_1 : Arv Z h0 o_1 k_o_1 .byte (16 : Int32) [(.int e0_o_1), (.int e1_o_1), (.int e2_o_1), (.int e3_o_1), (.int e4_o_1), (.int e5_o_1), (.int e6_o_1), (.int e7_o_1), (.int e8_o_1), (.int e9_o_1), (.int e10_o_1), (.int e11_o_1), (.int e12_o_1), (.int e13_o_1), (.int e14_o_1), (.int e15_o_1)] (.int (0 : Int32))) (F_o0_coder : Fld Z h0 o0 "java/lang/AbstractStringBuilder" "coder" "B" (.int (0 : Int32))) :
    Con l Z (⟨"java/lang/AbstractStringBuilder", "ensureCapacityInternal", "(I)V"⟩ : MethodName) jdk_68_method_9_code 3 none ws ({ frames := 0, cells := 0, slots := 0, locals := 0 } : Room) #[(.ref o0), (.int (15 : Int32))] h0 0 0 (Q13 Z o0 o_1 k_o_1 e0_o_1 e1_o_1 e2_o_1 e3_o_1 e4_o_1 e5_o_1 e6_o_1 e7_o_1 e8_o_1 e9_o_1 e10_o_1 e11_o_1 e12_o_1 e13_o_1 e14_o_1 e15_o_1 h0 n0) := by
  refine MetFree.of_bodySF (plainFor_of_name pn_0) hisR ?_
  intro p e s m args below meth c s₁ Bd hml0 hP hK
  obtain ⟨rfl, hZ, hh⟩ := hP
  have hx := Bd.exec
  have hby := Bd.bytes
  have hml : c.maxLocals = 3 := hml0
  have hown : s.vm.findClass "java/lang/AbstractStringBuilder" = some m.cls := findClass_of_methodNamed Bd.named
  have hnm := (name_of_methodNamed Bd.named Bd.method).1
  have X0 : Stand p l e ({ frames := 0, cells := 0, slots := 0, locals := 0 } : Room) s m #[(.ref o0), (.int (15 : Int32))] below meth c s₁ [] 0 0 := Stand.of_body Bd
  have e0 : s₁.heap = h0 := by rw [← hh, Bd.state]; rfl
  have N0 := Fr.nil n0
  refine Go.of ?_
  refine Go.st (S' := s₁.setTop (mkF m 0 #[.val (.ref o0), .val (.int (15 : Int32)), .unset] [])) (fun t k => castTop (ef_13 m o0) k) ?_
  refine Go.st (S' := s₁.setTop (mkF m 1 #[.val (.ref o0), .val (.int (15 : Int32)), .unset] [(.ref o0)])) (fun t k => XS.aloadN X0.here hx rfl (hb hby djdk_68_method_9_code_0) rfl rfl k) ?_
  obtain ⟨T179, X179, e179, st179⟩ := getF X0 hx hZ hown (host := "") (Or.inl (hw _ (List.mem_of_getElem? (i := 24) rfl))) Via.refl e0 F_o0_value (g := (mkF m 1 #[.val (.ref o0), .val (.int (15 : Int32)), .unset] [(.ref o0)])) rfl rfl (hb hby djdk_68_method_9_code_1)
  refine Go.st (S' := T179.setTop (mkF m 4 #[.val (.ref o0), .val (.int (15 : Int32)), .unset] [(.ref o_1)])) st179 ?_
  obtain ⟨cl180, Ar180, -, S180, N180_, -, -⟩ := id V_o_1
  refine Go.op (F := fun z => T179.setTop (mkF m 5 #[.val (.ref o0), .val (.int (15 : Int32)), .unset] [(.int z)])) (x := cl180.slots.size.toInt32) (fun t k => X179.arraylength hx (own_eh e179 Ar180.1) (State.isArrayOf_alike hZ.alike Ar180.2.1) (g := (mkF m 4 #[.val (.ref o0), .val (.int (15 : Int32)), .unset] [(.ref o_1)])) rfl rfl (hb hby djdk_68_method_9_code_4) t k) ?_
  intro v181 hv181
  obtain rfl : (16 : Int32) = v181 := (hv181.trans (len_of S180 N180_)).symm
  refine Go.st (S' := T179.setTop (mkF m 6 #[.val (.ref o0), .val (.int (15 : Int32)), .unset] [(.ref o0), (.int (16 : Int32))])) (fun t k => XS.aloadN X179.here hx rfl (hb hby djdk_68_method_9_code_5) rfl rfl k) ?_
  obtain ⟨T182, X182, e182, st182⟩ := getF X179 hx hZ hown (host := "") (Or.inl (hw _ (List.mem_of_getElem? (i := 26) rfl))) Via.refl e179 F_o0_coder (g := (mkF m 6 #[.val (.ref o0), .val (.int (15 : Int32)), .unset] [(.ref o0), (.int (16 : Int32))])) rfl rfl (hb hby djdk_68_method_9_code_6)
  refine Go.st (S' := T182.setTop (mkF m 9 #[.val (.ref o0), .val (.int (15 : Int32)), .unset] [(.int (0 : Int32)), (.int (16 : Int32))])) st182 ?_
  refine Go.op (F := fun z => T182.setTop (mkF m 10 #[.val (.ref o0), .val (.int (15 : Int32)), .unset] [(.int z)])) (x := ((16 : Int32) >>> ((0 : Int32) &&& 31))) (fun t k => XS.ishr X182.here hx rfl (hb hby djdk_68_method_9_code_9) rfl k) ?_
  intro v183 hv183
  obtain rfl : (16 : Int32) = v183 := (hv183.trans (by decide)).symm
  let A184 : Array Slot := #[.val (.ref o0), .val (.int (15 : Int32)), .val (.int (16 : Int32))]
  refine Go.st (S' := T182.setTop (mkF m 11 A184 [])) (fun t k => XS.istoreN X182.here hx rfl (hb hby djdk_68_method_9_code_10) rfl (l' := A184) rfl k) ?_
  refine Go.st (S' := T182.setTop (mkF m 12 A184 [(.int (15 : Int32))])) (fun t k => XS.iloadN X182.here hx rfl (hb hby djdk_68_method_9_code_11) rfl k) ?_
  refine Go.st (S' := T182.setTop (mkF m 13 A184 [(.int (16 : Int32)), (.int (15 : Int32))])) (fun t k => XS.iloadN X182.here hx rfl (hb hby djdk_68_method_9_code_12) rfl k) ?_
  refine Go.op (F := fun z => T182.setTop (mkF m 14 A184 [(.int z)])) (x := ((15 : Int32) - (16 : Int32))) (fun t k => XS.isub X182.here hx rfl (hb hby djdk_68_method_9_code_13) rfl k) ?_
  intro v185 hv185
  obtain rfl : (-1 : Int32) = v185 := (hv185.trans (by decide)).symm
  refine Go.st (S' := T182.setTop (mkF m 38 A184 [])) (fun t k => XS.ifYes X182.here hx rfl (pc0 := 14) (pc' := 38) rfl (hb hby djdk_68_method_9_code_14) rfl ((if0 _ _).trans (flt (by decide : (¬ ((0 : Int32) < (-1 : Int32))))).2.2.2) (by decide) (by decide) k) ?_
  exact Go.ret X182 (v := none) (fun _ => rfl) Bd.notSynchronized (fun fs hr => X182.returnOut hx Bd.returns (hb hby djdk_68_method_9_code_38) hr) (by decide) (by decide) (⟨rfl, N0, (e182)⟩)
theorem ef_14 (m : MethodId) (o0 : Addr) : entryFrame m #[(.ref o0)] 1 = mkF m 0 #[.val (.ref o0)] [] := by first | (simp [entryFrame, mkF, argsToLocals, Value.category, maxLocals]; done) | rfl
def Q14 (Z : State) (o0 : Addr) (s_String_COMPACT_STRINGS : Int32) (h0 : Heap) (n0 : Nat) (v : Option Value) (h : Heap) (L : List Loc) : Prop := (v = some (.int (1 : Int32)) ∧ Fr n0 L ∧ h = h0)
set_option maxRecDepth 65536 in
set_option maxHeartbeats 40000000 in
theorem rm14 (l : Launch) (Z : State) (a0 : Array Value) (hw : ∀ d ∈ tables_1, d.before a0 Z = true) (ws : List Jvm.Cond) (o0 : Addr) (s_String_COMPACT_STRINGS : Int32) (h0 : Heap) (n0 : Nat) (Z0 : n0 ≤ h0.size) (S_s_String_COMPACT_STRINGS : Sta Z h0 "java/lang/String" "COMPACT_STRINGS" "Z" (.int s_String_COMPACT_STRINGS)) (nz_s_String_COMPACT_STRINGS : s_String_COMPACT_STRINGS ≠ 0) (F_o0_coder : Fld Z h0 o0 "java/lang/AbstractStringBuilder" "coder" "B" (.int (0 : Int32))) :
    Con l Z (⟨"java/lang/AbstractStringBuilder", "isLatin1", "()Z"⟩ : MethodName) jdk_68_method_68_code 1 (some .boolean) ws ({ frames := 0, cells := 0, slots := 0, locals := 0 } : Room) #[(.ref o0)] h0 0 0 (Q14 Z o0 s_String_COMPACT_STRINGS h0 n0) := by
  refine MetFree.of_bodySF (plainFor_of_name pn_0) hisR ?_
  intro p e s m args below meth c s₁ Bd hml0 hP hK
  obtain ⟨rfl, hZ, hh⟩ := hP
  have hx := Bd.exec
  have hby := Bd.bytes
  have hml : c.maxLocals = 1 := hml0
  have hown : s.vm.findClass "java/lang/AbstractStringBuilder" = some m.cls := findClass_of_methodNamed Bd.named
  have hnm := (name_of_methodNamed Bd.named Bd.method).1
  have X0 : Stand p l e ({ frames := 0, cells := 0, slots := 0, locals := 0 } : Room) s m #[(.ref o0)] below meth c s₁ [] 0 0 := Stand.of_body Bd
  have e0 : s₁.heap = h0 := by rw [← hh, Bd.state]; rfl
  have N0 := Fr.nil n0
  refine Go.of ?_
  refine Go.st (S' := s₁.setTop (mkF m 0 #[.val (.ref o0)] [])) (fun t k => castTop (ef_14 m o0) k) ?_
  obtain ⟨T187, X187, e187, st187⟩ := getS X0 hx hZ hown (hw _ (List.mem_of_getElem? (i := 21) rfl)) Via.refl e0 S_s_String_COMPACT_STRINGS (host := "") (g := (mkF m 0 #[.val (.ref o0)] [])) rfl (hb hby djdk_68_method_68_code_0)
  refine Go.st (S' := T187.setTop (mkF m 3 #[.val (.ref o0)] [(.int s_String_COMPACT_STRINGS)])) st187 ?_
  refine Go.st (S' := T187.setTop (mkF m 6 #[.val (.ref o0)] [])) (fun t k => XS.ifNo X187.here hx rfl (hb hby djdk_68_method_68_code_3) rfl ((if0 _ _).trans (feq nz_s_String_COMPACT_STRINGS).1) k) ?_
  refine Go.st (S' := T187.setTop (mkF m 7 #[.val (.ref o0)] [(.ref o0)])) (fun t k => XS.aloadN X187.here hx rfl (hb hby djdk_68_method_68_code_6) rfl rfl k) ?_
  obtain ⟨T188, X188, e188, st188⟩ := getF X187 hx hZ hown (host := "") (Or.inl (hw _ (List.mem_of_getElem? (i := 26) rfl))) Via.refl e187 F_o0_coder (g := (mkF m 7 #[.val (.ref o0)] [(.ref o0)])) rfl rfl (hb hby djdk_68_method_68_code_7)
  refine Go.st (S' := T188.setTop (mkF m 10 #[.val (.ref o0)] [(.int (0 : Int32))])) st188 ?_
  refine Go.st (S' := T188.setTop (mkF m 13 #[.val (.ref o0)] [])) (fun t k => XS.ifNo X188.here hx rfl (hb hby djdk_68_method_68_code_10) rfl ((if0 _ _).trans (teq (by decide : ((0 : Int32) = (0 : Int32)))).2) k) ?_
  refine Go.st (S' := T188.setTop (mkF m 14 #[.val (.ref o0)] [(.int (1 : Int32))])) (fun t k => XS.iconst X188.here hx rfl (hb hby djdk_68_method_68_code_13) k) ?_
  refine Go.st (S' := T188.setTop (mkF m 18 #[.val (.ref o0)] [(.int (1 : Int32))])) (fun t k => XS.goto X188.here hx rfl (pc0 := 14) (pc' := 18) rfl (hb hby djdk_68_method_68_code_14) (by decide) (by decide) k) ?_
  exact Go.ret X188 (v := some (.int (1 : Int32))) (fun h => by rw [Bd.returns] at h; cases h) Bd.notSynchronized (fun fs hr => retN X188 hx (t := .boolean) Bd.returns (by simp) (hb hby djdk_68_method_68_code_18) hr) (by decide) (by decide) (⟨rfl, N0, (e188)⟩)
theorem ef_15 (m : MethodId) (p0 : Int32) (o2 : Addr) : entryFrame m #[(.int p0), (.int (15 : Int32)), (.ref o2)] 7 = mkF m 0 #[.val (.int p0), .val (.int (15 : Int32)), .val (.ref o2), .unset, .unset, .unset, .unset] [] := by first | (simp [entryFrame, mkF, argsToLocals, Value.category, maxLocals]; done) | rfl
def Q15 (Z : State) (p0 : Int32) (o2 : Addr) (s_Integer_DigitOnes : Addr) (k_s_Integer_DigitOnes : ClassId) (k_o2 : ClassId) (e0_o2 : Int32) (e1_o2 : Int32) (e2_o2 : Int32) (e3_o2 : Int32) (e4_o2 : Int32) (e5_o2 : Int32) (e6_o2 : Int32) (e7_o2 : Int32) (e8_o2 : Int32) (e9_o2 : Int32) (e10_o2 : Int32) (e11_o2 : Int32) (e12_o2 : Int32) (e13_o2 : Int32) (e14_o2 : Int32) (e15_o2 : Int32) (h0 : Heap) (n0 : Nat) (v : Option Value) (h : Heap) (L : List Loc) : Prop := (∃ (fv15_0_14 : Int32), (((fv15_0_14 = (49 : Int32))) ∨ ((fv15_0_14 = (50 : Int32))) ∨ ((fv15_0_14 = (51 : Int32))) ∨ ((fv15_0_14 = (52 : Int32))) ∨ ((fv15_0_14 = (53 : Int32))) ∨ ((fv15_0_14 = (54 : Int32))) ∨ ((fv15_0_14 = (55 : Int32))) ∨ ((fv15_0_14 = (56 : Int32)))) ∧ v = some (.int (14 : Int32)) ∧ Fr n0 L ∧ Keep h0 h [o2] ∧ Arv Z h o2 k_o2 .byte (16 : Int32) [(.int e0_o2), (.int e1_o2), (.int e2_o2), (.int e3_o2), (.int e4_o2), (.int e5_o2), (.int e6_o2), (.int e7_o2), (.int e8_o2), (.int e9_o2), (.int e10_o2), (.int e11_o2), (.int e12_o2), (.int e13_o2), (.int fv15_0_14), (.int e15_o2)] (.int (0 : Int32)))
set_option maxRecDepth 65536 in
set_option maxHeartbeats 40000000 in
theorem rm15 (l : Launch) (Z : State) (a0 : Array Value) (hw : ∀ d ∈ tables_1, d.before a0 Z = true) (ws : List Jvm.Cond) (p0 : Int32) (o2 : Addr) (s_Integer_DigitOnes : Addr) (k_s_Integer_DigitOnes : ClassId) (k_o2 : ClassId) (e0_o2 : Int32) (e1_o2 : Int32) (e2_o2 : Int32) (e3_o2 : Int32) (e4_o2 : Int32) (e5_o2 : Int32) (e6_o2 : Int32) (e7_o2 : Int32) (e8_o2 : Int32) (e9_o2 : Int32) (e10_o2 : Int32) (e11_o2 : Int32) (e12_o2 : Int32) (e13_o2 : Int32) (e14_o2 : Int32) (e15_o2 : Int32) (h0 : Heap) (n0 : Nat) (Z0 : n0 ≤ h0.size) (hra_p0 : (¬ (p0 < (1 : Int32)))) (hrb_p0 : (¬ ((8 : Int32) < p0))) (S_s_Integer_DigitOnes : Sta Z h0 "java/lang/Integer" "DigitOnes" "[B" (.ref s_Integer_DigitOnes)) (V_s_Integer_DigitOnes : Arv Z h0 s_Integer_DigitOnes k_s_Integer_DigitOnes .byte (100 : Int32) [(.int (48 : Int32)), (.int (49 : Int32)), (.int (50 : Int32)), (.int (51 : Int32)), (.int (52 : Int32)), (.int (53 : Int32)), (.int (54 : Int32)), (.int (55 : Int32)), (.int (56 : Int32)), (.int (57 : Int32)), (.int (48 : Int32)), (.int (49 : Int32)), (.int (50 : Int32)), (.int (51 : Int32)), (.int (52 : Int32)), (.int (53 : Int32)), (.int (54 : Int32)), (.int (55 : Int32)), (.int (56 : Int32)), (.int (57 : Int32)), (.int (48 : Int32)), (.int (49 : Int32)), (.int (50 : Int32)), (.int (51 : Int32)), (.int (52 : Int32)), (.int (53 : Int32)), (.int (54 : Int32)), (.int (55 : Int32)), (.int (56 : Int32)), (.int (57 : Int32)), (.int (48 : Int32)), (.int (49 : Int32)), (.int (50 : Int32)), (.int (51 : Int32)), (.int (52 : Int32)), (.int (53 : Int32)), (.int (54 : Int32)), (.int (55 : Int32)), (.int (56 : Int32)), (.int (57 : Int32)), (.int (48 : Int32)), (.int (49 : Int32)), (.int (50 : Int32)), (.int (51 : Int32)), (.int (52 : Int32)), (.int (53 : Int32)), (.int (54 : Int32)), (.int (55 : Int32)), (.int (56 : Int32)), (.int (57 : Int32)), (.int (48 : Int32)), (.int (49 : Int32)), (.int (50 : Int32)), (.int (51 : Int32)), (.int (52 : Int32)), (.int (53 : Int32)), (.int (54 : Int32)), (.int (55 : Int32)), (.int (56 : Int32)), (.int (57 : Int32)), (.int (48 : Int32)), (.int (49 : Int32)), (.int (50 : Int32)), (.int (51 : Int32)), (.int (52 : Int32)), (.int (53 : Int32)), (.int (54 : Int32)), (.int (55 : Int32)), (.int (56 : Int32)), (.int (57 : Int32)), (.int (48 : Int32)), (.int (49 : Int32)), (.int (50 : Int32)), (.int (51 : Int32)), (.int (52 : Int32)), (.int (53 : Int32)), (.int (54 : Int32)), (.int (55 : Int32)), (.int (56 : Int32)), (.int (57 : Int32)), (.int (48 : Int32)), (.int (49 : Int32)), (.int (50 : Int32)), (.int (51 : Int32)), (.int (52 : Int32)), (.int (53 : Int32)), (.int (54 : Int32)), (.int (55 : Int32)), (.int (56 : Int32)), (.int (57 : Int32)), (.int (48 : Int32)), (.int (49 : Int32)), (.int (50 : Int32)), (.int (51 : Int32)), (.int (52 : Int32)), (.int (53 : Int32)), (.int (54 : Int32)), (.int (55 : Int32)), (.int (56 : Int32)), (.int (57 : Int32))] (.int 0)) (V_o2 : Arv Z h0 o2 k_o2 .byte (16 : Int32) [(.int e0_o2), (.int e1_o2), (.int e2_o2), (.int e3_o2), (.int e4_o2), (.int e5_o2), (.int e6_o2), (.int e7_o2), (.int e8_o2), (.int e9_o2), (.int e10_o2), (.int e11_o2), (.int e12_o2), (.int e13_o2), (.int e14_o2), (.int e15_o2)] (.int (0 : Int32))) (g_o2 : n0 ≤ o2) :
    Con l Z (⟨"java/lang/Integer", "getChars", "(II[B)I"⟩ : MethodName) jdk_33_method_12_code 7 (some .int) ws ({ frames := 0, cells := 0, slots := 0, locals := 0 } : Room) #[(.int p0), (.int (15 : Int32)), (.ref o2)] h0 0 0 (Q15 Z p0 o2 s_Integer_DigitOnes k_s_Integer_DigitOnes k_o2 e0_o2 e1_o2 e2_o2 e3_o2 e4_o2 e5_o2 e6_o2 e7_o2 e8_o2 e9_o2 e10_o2 e11_o2 e12_o2 e13_o2 e14_o2 e15_o2 h0 n0) := by
  refine MetFree.of_bodySF (plainFor_of_name pn_3) hisR ?_
  intro p e s m args below meth c s₁ Bd hml0 hP hK
  obtain ⟨rfl, hZ, hh⟩ := hP
  have hx := Bd.exec
  have hby := Bd.bytes
  have hml : c.maxLocals = 7 := hml0
  have hown : s.vm.findClass "java/lang/Integer" = some m.cls := findClass_of_methodNamed Bd.named
  have hnm := (name_of_methodNamed Bd.named Bd.method).1
  have X0 : Stand p l e ({ frames := 0, cells := 0, slots := 0, locals := 0 } : Room) s m #[(.int p0), (.int (15 : Int32)), (.ref o2)] below meth c s₁ [] 0 0 := Stand.of_body Bd
  have e0 : s₁.heap = h0 := by rw [← hh, Bd.state]; rfl
  have N0 := Fr.nil n0
  refine Go.of ?_
  refine Go.st (S' := s₁.setTop (mkF m 0 #[.val (.int p0), .val (.int (15 : Int32)), .val (.ref o2), .unset, .unset, .unset, .unset] [])) (fun t k => castTop (ef_15 m p0 o2) k) ?_
  let A191 : Array Slot := #[.val (.int p0), .val (.int (15 : Int32)), .val (.ref o2), .unset, .unset, .unset, .unset]
  refine Go.st (S' := s₁.setTop (mkF m 1 A191 [(.int (15 : Int32))])) (fun t k => XS.iloadN X0.here hx rfl (hb hby djdk_33_method_12_code_0) rfl k) ?_
  let A192 : Array Slot := #[.val (.int p0), .val (.int (15 : Int32)), .val (.ref o2), .unset, .unset, .val (.int (15 : Int32)), .unset]
  refine Go.st (S' := s₁.setTop (mkF m 3 A192 [])) (fun t k => XS.istore X0.here hx rfl (hb hby djdk_33_method_12_code_1) rfl (l' := A192) rfl k) ?_
  refine Go.st (S' := s₁.setTop (mkF m 4 A192 [(.int p0)])) (fun t k => XS.iloadN X0.here hx rfl (hb hby djdk_33_method_12_code_3) rfl k) ?_
  by_cases hc194 : (p0 < (0 : Int32))
  · exfalso
    have rp0 := rng32 p0
    have lI0 : (0 : Int32).toInt = 0 := by decide
    have lI1 : (1 : Int32).toInt = 1 := by decide
    have lI8 : (8 : Int32).toInt = 8 := by decide
    simp only [Int32.lt_iff_toInt_lt, Int64.lt_iff_toInt_lt, ← Int32.toInt_inj, ← Int64.toInt_inj] at hra_p0 hrb_p0 hc194
    omega
  · refine Go.st (S' := s₁.setTop (mkF m 11 A192 [])) (fun t k => XS.ifYes X0.here hx rfl (pc0 := 4) (pc' := 11) rfl (hb hby djdk_33_method_12_code_4) rfl ((if0 _ _).trans (flt hc194).2.1) (by decide) (by decide) k) ?_
    refine Go.st (S' := s₁.setTop (mkF m 12 A192 [(.int (0 : Int32))])) (fun t k => XS.iconst X0.here hx rfl (hb hby djdk_33_method_12_code_11) k) ?_
    let A195 : Array Slot := #[.val (.int p0), .val (.int (15 : Int32)), .val (.ref o2), .unset, .unset, .val (.int (15 : Int32)), .val (.int (0 : Int32))]
    refine Go.st (S' := s₁.setTop (mkF m 14 A195 [])) (fun t k => XS.istore X0.here hx rfl (hb hby djdk_33_method_12_code_12) rfl (l' := A195) rfl k) ?_
    refine Go.st (S' := s₁.setTop (mkF m 16 A195 [(.int (0 : Int32))])) (fun t k => XS.iload X0.here hx rfl (hb hby djdk_33_method_12_code_14) rfl k) ?_
    refine Go.st (S' := s₁.setTop (mkF m 19 A195 [])) (fun t k => XS.ifNo X0.here hx rfl (hb hby djdk_33_method_12_code_16) rfl ((if0 _ _).trans (teq (by decide : ((0 : Int32) = (0 : Int32)))).2) k) ?_
    refine Go.st (S' := s₁.setTop (mkF m 20 A195 [(.int p0)])) (fun t k => XS.iloadN X0.here hx rfl (hb hby djdk_33_method_12_code_19) rfl k) ?_
    refine Go.op (F := fun z => s₁.setTop (mkF m 21 A195 [(.int z)])) (x := (-p0)) (fun t k => XS.ineg X0.here hx rfl (hb hby djdk_33_method_12_code_20) rfl k) ?_
    intro v196 hv196
    let A197 : Array Slot := #[.val (.int v196), .val (.int (15 : Int32)), .val (.ref o2), .unset, .unset, .val (.int (15 : Int32)), .val (.int (0 : Int32))]
    refine Go.st (S' := s₁.setTop (mkF m 22 A197 [])) (fun t k => XS.istoreN X0.here hx rfl (hb hby djdk_33_method_12_code_21) rfl (l' := A197) rfl k) ?_
    refine Go.st (S' := s₁.setTop (mkF m 23 A197 [(.int v196)])) (fun t k => XS.iloadN X0.here hx rfl (hb hby djdk_33_method_12_code_22) rfl k) ?_
    refine Go.st (S' := s₁.setTop (mkF m 25 A197 [(.int (-100 : Int32)), (.int v196)])) (fun t k => XS.bipush X0.here hx rfl (hb hby djdk_33_method_12_code_23) k) ?_
    by_cases hc199 : ((-100 : Int32) < v196)
    · refine Go.st (S' := s₁.setTop (mkF m 72 A197 [])) (fun t k => XS.icmpYes X0.here hx rfl (pc0 := 25) (pc' := 72) rfl (hb hby djdk_33_method_12_code_25) rfl (tlt hc199).2.2.1 (by decide) (by decide) k) ?_
      refine Go.st (S' := s₁.setTop (mkF m 73 A197 [(.ref o2)])) (fun t k => XS.aloadN X0.here hx rfl (hb hby djdk_33_method_12_code_72) rfl rfl k) ?_
      refine Go.op (F := fun z => s₁.setTop (mkF m 76 #[.val (.int v196), .val (.int (15 : Int32)), .val (.ref o2), .unset, .unset, .val (.int z), .val (.int (0 : Int32))] [(.ref o2)])) (x := ((15 : Int32) + (-1 : Int32))) (fun t k => XS.iinc X0.here hx rfl (hb hby djdk_33_method_12_code_73) rfl rfl k) ?_
      intro v200 hv200
      obtain rfl : (14 : Int32) = v200 := (hv200.trans (by decide)).symm
      let A201 : Array Slot := #[.val (.int v196), .val (.int (15 : Int32)), .val (.ref o2), .unset, .unset, .val (.int (14 : Int32)), .val (.int (0 : Int32))]
      refine Go.st (S' := s₁.setTop (mkF m 78 A201 [(.int (14 : Int32)), (.ref o2)])) (fun t k => XS.iload X0.here hx rfl (hb hby djdk_33_method_12_code_76) rfl k) ?_
      obtain ⟨T202, X202, e202, st202⟩ := getS X0 hx hZ hown (hw _ (List.mem_of_getElem? (i := 105) rfl)) Via.refl e0 S_s_Integer_DigitOnes (host := "") (g := (mkF m 78 A201 [(.int (14 : Int32)), (.ref o2)])) rfl (hb hby djdk_33_method_12_code_78)
      refine Go.st (S' := T202.setTop (mkF m 81 A201 [(.ref s_Integer_DigitOnes), (.int (14 : Int32)), (.ref o2)])) st202 ?_
      refine Go.st (S' := T202.setTop (mkF m 82 A201 [(.int v196), (.ref s_Integer_DigitOnes), (.int (14 : Int32)), (.ref o2)])) (fun t k => XS.iloadN X202.here hx rfl (hb hby djdk_33_method_12_code_81) rfl k) ?_
      refine Go.op (F := fun z => T202.setTop (mkF m 83 A201 [(.int z), (.ref s_Integer_DigitOnes), (.int (14 : Int32)), (.ref o2)])) (x := (-v196)) (fun t k => XS.ineg X202.here hx rfl (hb hby djdk_33_method_12_code_82) rfl k) ?_
      intro v203 hv203
      by_cases hj205 : v203 = (1 : Int32)
      · obtain ⟨cl206, Ar206, -, S206, N206_, H206, -⟩ := id V_s_Integer_DigitOnes
        have hin206 : ¬ (v203 < 0 ∨ cl206.slots.size ≤ (v203).toNatClampNeg) := by rw [hj205]; exact inb_of S206 ⟨by decide, by decide⟩
        have hat206 : cl206.slots[(v203).toNatClampNeg]? = some (.int (49 : Int32)) := Has.at H206 hin206 (by rw [hj205]; rfl)
        refine Go.st (S' := T202.setTop (mkF m 84 A201 [(.int (49 : Int32)), (.int (14 : Int32)), (.ref o2)])) (fun t k => X202.baloadBytes hx (j := v203) (v := (.int (49 : Int32))) (own_eh e202 Ar206.1) (State.isArrayOf_alike hZ.alike Ar206.2.1) Ar206.2.2 hin206 hat206 (g := (mkF m 83 A201 [(.int v203), (.ref s_Integer_DigitOnes), (.int (14 : Int32)), (.ref o2)])) rfl rfl (hb hby djdk_33_method_12_code_83) t k) ?_
        obtain ⟨cl207, Ar207, q207, S207, N207_, H207, G207⟩ := id V_o2
        have hin207 : ¬ ((14 : Int32) < 0 ∨ cl207.slots.size ≤ ((14 : Int32)).toNatClampNeg) := inb_of S207 ⟨by decide, by decide⟩
        obtain ⟨T207, h207, X207, e207, W207, st207⟩ := stB X202 hx hZ e202 Ar207 (j := (14 : Int32)) hin207 (g := (mkF m 84 A201 [(.int (49 : Int32)), (.int (14 : Int32)), (.ref o2)])) rfl rfl (hb hby djdk_33_method_12_code_84)
        have W207 : Wr h0 h207 o2 ((14 : Int32)).toNatClampNeg (.int (49 : Int32)) := W207
        have V207 : Arv Z h207 o2 k_o2 .byte (16 : Int32) [(.int e0_o2), (.int e1_o2), (.int e2_o2), (.int e3_o2), (.int e4_o2), (.int e5_o2), (.int e6_o2), (.int e7_o2), (.int e8_o2), (.int e9_o2), (.int e10_o2), (.int e11_o2), (.int e12_o2), (.int e13_o2), (.int (49 : Int32)), (.int e15_o2)] (.int (0 : Int32)) := Arv.set Ar207 q207 S207 N207_ H207 G207 (by decide) W207 14 rfl (Nat.le_of_ble_eq_true rfl)
        have N207 := Fr.snoc X207 N0 g_o2
        have Z208 : n0 ≤ h207.size := Nat.le_trans Z0 (Keep.of_wr W207).1
        have K208 : Keep h0 h207 [o2] := (Keep.refl h0 [o2]).wr W207 (Or.inl (by simp))
        refine Go.st (S' := T207.setTop (mkF m 85 A201 [])) st207 ?_
        refine Go.st (S' := T207.setTop (mkF m 86 A201 [(.int v196)])) (fun t k => XS.iloadN X207.here hx rfl (hb hby djdk_33_method_12_code_85) rfl k) ?_
        refine Go.st (S' := T207.setTop (mkF m 88 A201 [(.int (-9 : Int32)), (.int v196)])) (fun t k => XS.bipush X207.here hx rfl (hb hby djdk_33_method_12_code_86) k) ?_
        by_cases hc210 : (v196 < (-9 : Int32))
        · exfalso
          first
            | have rv196 := rng32 v196
              have wv196 := c_ineg p0
              rw [← hv196] at wv196
              have rp0 := rng32 p0
              have lIm100 : (-100 : Int32).toInt = -100 := by decide
              have lIm9 : (-9 : Int32).toInt = -9 := by decide
              have lI0 : (0 : Int32).toInt = 0 := by decide
              have lI1 : (1 : Int32).toInt = 1 := by decide
              have lI8 : (8 : Int32).toInt = 8 := by decide
              simp only [Int32.lt_iff_toInt_lt, Int64.lt_iff_toInt_lt, ← Int32.toInt_inj, ← Int64.toInt_inj] at hra_p0 hrb_p0 hc194 hc199 hc210
              omega
            | have rv196 := rng32 v196
              have wv196 := c_ineg p0
              rw [← hv196] at wv196
              have rv203 := rng32 v203
              have wv203 := c_ineg v196
              rw [← hv203] at wv203
              have rp0 := rng32 p0
              have lIm100 : (-100 : Int32).toInt = -100 := by decide
              have lIm9 : (-9 : Int32).toInt = -9 := by decide
              have lI0 : (0 : Int32).toInt = 0 := by decide
              have lI1 : (1 : Int32).toInt = 1 := by decide
              have lI8 : (8 : Int32).toInt = 8 := by decide
              simp only [Int32.lt_iff_toInt_lt, Int64.lt_iff_toInt_lt, ← Int32.toInt_inj, ← Int64.toInt_inj] at hra_p0 hrb_p0 hc194 hc199 hj205 hc210
              omega
        · refine Go.st (S' := T207.setTop (mkF m 104 A201 [])) (fun t k => XS.icmpYes X207.here hx rfl (pc0 := 88) (pc' := 104) rfl (hb hby djdk_33_method_12_code_88) rfl (flt hc210).2.1 (by decide) (by decide) k) ?_
          refine Go.st (S' := T207.setTop (mkF m 106 A201 [(.int (0 : Int32))])) (fun t k => XS.iload X207.here hx rfl (hb hby djdk_33_method_12_code_104) rfl k) ?_
          refine Go.st (S' := T207.setTop (mkF m 118 A201 [])) (fun t k => XS.ifYes X207.here hx rfl (pc0 := 106) (pc' := 118) rfl (hb hby djdk_33_method_12_code_106) rfl ((if0 _ _).trans (teq (by decide : ((0 : Int32) = (0 : Int32)))).1) (by decide) (by decide) k) ?_
          refine Go.st (S' := T207.setTop (mkF m 120 A201 [(.int (14 : Int32))])) (fun t k => XS.iload X207.here hx rfl (hb hby djdk_33_method_12_code_118) rfl k) ?_
          exact Go.ret X207 (v := some (.int (14 : Int32))) (fun h => by rw [Bd.returns] at h; cases h) Bd.notSynchronized (fun fs hr => retI X207 hx Bd.returns (hb hby djdk_33_method_12_code_120) hr) (by decide) (by decide) (by rw [e207]; exact ⟨(49 : Int32), (Or.inl rfl), rfl, N207, K208, V207⟩)
      · by_cases hj211 : v203 = (2 : Int32)
        · obtain ⟨cl212, Ar212, -, S212, N212_, H212, -⟩ := id V_s_Integer_DigitOnes
          have hin212 : ¬ (v203 < 0 ∨ cl212.slots.size ≤ (v203).toNatClampNeg) := by rw [hj211]; exact inb_of S212 ⟨by decide, by decide⟩
          have hat212 : cl212.slots[(v203).toNatClampNeg]? = some (.int (50 : Int32)) := Has.at H212 hin212 (by rw [hj211]; rfl)
          refine Go.st (S' := T202.setTop (mkF m 84 A201 [(.int (50 : Int32)), (.int (14 : Int32)), (.ref o2)])) (fun t k => X202.baloadBytes hx (j := v203) (v := (.int (50 : Int32))) (own_eh e202 Ar212.1) (State.isArrayOf_alike hZ.alike Ar212.2.1) Ar212.2.2 hin212 hat212 (g := (mkF m 83 A201 [(.int v203), (.ref s_Integer_DigitOnes), (.int (14 : Int32)), (.ref o2)])) rfl rfl (hb hby djdk_33_method_12_code_83) t k) ?_
          obtain ⟨cl213, Ar213, q213, S213, N213_, H213, G213⟩ := id V_o2
          have hin213 : ¬ ((14 : Int32) < 0 ∨ cl213.slots.size ≤ ((14 : Int32)).toNatClampNeg) := inb_of S213 ⟨by decide, by decide⟩
          obtain ⟨T213, h213, X213, e213, W213, st213⟩ := stB X202 hx hZ e202 Ar213 (j := (14 : Int32)) hin213 (g := (mkF m 84 A201 [(.int (50 : Int32)), (.int (14 : Int32)), (.ref o2)])) rfl rfl (hb hby djdk_33_method_12_code_84)
          have W213 : Wr h0 h213 o2 ((14 : Int32)).toNatClampNeg (.int (50 : Int32)) := W213
          have V213 : Arv Z h213 o2 k_o2 .byte (16 : Int32) [(.int e0_o2), (.int e1_o2), (.int e2_o2), (.int e3_o2), (.int e4_o2), (.int e5_o2), (.int e6_o2), (.int e7_o2), (.int e8_o2), (.int e9_o2), (.int e10_o2), (.int e11_o2), (.int e12_o2), (.int e13_o2), (.int (50 : Int32)), (.int e15_o2)] (.int (0 : Int32)) := Arv.set Ar213 q213 S213 N213_ H213 G213 (by decide) W213 14 rfl (Nat.le_of_ble_eq_true rfl)
          have N213 := Fr.snoc X213 N0 g_o2
          have Z214 : n0 ≤ h213.size := Nat.le_trans Z0 (Keep.of_wr W213).1
          have K214 : Keep h0 h213 [o2] := (Keep.refl h0 [o2]).wr W213 (Or.inl (by simp))
          refine Go.st (S' := T213.setTop (mkF m 85 A201 [])) st213 ?_
          refine Go.st (S' := T213.setTop (mkF m 86 A201 [(.int v196)])) (fun t k => XS.iloadN X213.here hx rfl (hb hby djdk_33_method_12_code_85) rfl k) ?_
          refine Go.st (S' := T213.setTop (mkF m 88 A201 [(.int (-9 : Int32)), (.int v196)])) (fun t k => XS.bipush X213.here hx rfl (hb hby djdk_33_method_12_code_86) k) ?_
          by_cases hc216 : (v196 < (-9 : Int32))
          · exfalso
            first
              | have rv196 := rng32 v196
                have wv196 := c_ineg p0
                rw [← hv196] at wv196
                have rp0 := rng32 p0
                have lIm100 : (-100 : Int32).toInt = -100 := by decide
                have lIm9 : (-9 : Int32).toInt = -9 := by decide
                have lI0 : (0 : Int32).toInt = 0 := by decide
                have lI1 : (1 : Int32).toInt = 1 := by decide
                have lI8 : (8 : Int32).toInt = 8 := by decide
                simp only [Int32.lt_iff_toInt_lt, Int64.lt_iff_toInt_lt, ← Int32.toInt_inj, ← Int64.toInt_inj] at hra_p0 hrb_p0 hc194 hc199 hc216
                omega
              | have rv196 := rng32 v196
                have wv196 := c_ineg p0
                rw [← hv196] at wv196
                have rv203 := rng32 v203
                have wv203 := c_ineg v196
                rw [← hv203] at wv203
                have rp0 := rng32 p0
                have lIm100 : (-100 : Int32).toInt = -100 := by decide
                have lIm9 : (-9 : Int32).toInt = -9 := by decide
                have lI0 : (0 : Int32).toInt = 0 := by decide
                have lI1 : (1 : Int32).toInt = 1 := by decide
                have lI2 : (2 : Int32).toInt = 2 := by decide
                have lI8 : (8 : Int32).toInt = 8 := by decide
                simp only [Int32.lt_iff_toInt_lt, Int64.lt_iff_toInt_lt, ← Int32.toInt_inj, ← Int64.toInt_inj] at hra_p0 hrb_p0 hc194 hc199 hj205 hj211 hc216
                omega
          · refine Go.st (S' := T213.setTop (mkF m 104 A201 [])) (fun t k => XS.icmpYes X213.here hx rfl (pc0 := 88) (pc' := 104) rfl (hb hby djdk_33_method_12_code_88) rfl (flt hc216).2.1 (by decide) (by decide) k) ?_
            refine Go.st (S' := T213.setTop (mkF m 106 A201 [(.int (0 : Int32))])) (fun t k => XS.iload X213.here hx rfl (hb hby djdk_33_method_12_code_104) rfl k) ?_
            refine Go.st (S' := T213.setTop (mkF m 118 A201 [])) (fun t k => XS.ifYes X213.here hx rfl (pc0 := 106) (pc' := 118) rfl (hb hby djdk_33_method_12_code_106) rfl ((if0 _ _).trans (teq (by decide : ((0 : Int32) = (0 : Int32)))).1) (by decide) (by decide) k) ?_
            refine Go.st (S' := T213.setTop (mkF m 120 A201 [(.int (14 : Int32))])) (fun t k => XS.iload X213.here hx rfl (hb hby djdk_33_method_12_code_118) rfl k) ?_
            exact Go.ret X213 (v := some (.int (14 : Int32))) (fun h => by rw [Bd.returns] at h; cases h) Bd.notSynchronized (fun fs hr => retI X213 hx Bd.returns (hb hby djdk_33_method_12_code_120) hr) (by decide) (by decide) (by rw [e213]; exact ⟨(50 : Int32), (Or.inr (Or.inl rfl)), rfl, N213, K214, V213⟩)
        · by_cases hj217 : v203 = (3 : Int32)
          · obtain ⟨cl218, Ar218, -, S218, N218_, H218, -⟩ := id V_s_Integer_DigitOnes
            have hin218 : ¬ (v203 < 0 ∨ cl218.slots.size ≤ (v203).toNatClampNeg) := by rw [hj217]; exact inb_of S218 ⟨by decide, by decide⟩
            have hat218 : cl218.slots[(v203).toNatClampNeg]? = some (.int (51 : Int32)) := Has.at H218 hin218 (by rw [hj217]; rfl)
            refine Go.st (S' := T202.setTop (mkF m 84 A201 [(.int (51 : Int32)), (.int (14 : Int32)), (.ref o2)])) (fun t k => X202.baloadBytes hx (j := v203) (v := (.int (51 : Int32))) (own_eh e202 Ar218.1) (State.isArrayOf_alike hZ.alike Ar218.2.1) Ar218.2.2 hin218 hat218 (g := (mkF m 83 A201 [(.int v203), (.ref s_Integer_DigitOnes), (.int (14 : Int32)), (.ref o2)])) rfl rfl (hb hby djdk_33_method_12_code_83) t k) ?_
            obtain ⟨cl219, Ar219, q219, S219, N219_, H219, G219⟩ := id V_o2
            have hin219 : ¬ ((14 : Int32) < 0 ∨ cl219.slots.size ≤ ((14 : Int32)).toNatClampNeg) := inb_of S219 ⟨by decide, by decide⟩
            obtain ⟨T219, h219, X219, e219, W219, st219⟩ := stB X202 hx hZ e202 Ar219 (j := (14 : Int32)) hin219 (g := (mkF m 84 A201 [(.int (51 : Int32)), (.int (14 : Int32)), (.ref o2)])) rfl rfl (hb hby djdk_33_method_12_code_84)
            have W219 : Wr h0 h219 o2 ((14 : Int32)).toNatClampNeg (.int (51 : Int32)) := W219
            have V219 : Arv Z h219 o2 k_o2 .byte (16 : Int32) [(.int e0_o2), (.int e1_o2), (.int e2_o2), (.int e3_o2), (.int e4_o2), (.int e5_o2), (.int e6_o2), (.int e7_o2), (.int e8_o2), (.int e9_o2), (.int e10_o2), (.int e11_o2), (.int e12_o2), (.int e13_o2), (.int (51 : Int32)), (.int e15_o2)] (.int (0 : Int32)) := Arv.set Ar219 q219 S219 N219_ H219 G219 (by decide) W219 14 rfl (Nat.le_of_ble_eq_true rfl)
            have N219 := Fr.snoc X219 N0 g_o2
            have Z220 : n0 ≤ h219.size := Nat.le_trans Z0 (Keep.of_wr W219).1
            have K220 : Keep h0 h219 [o2] := (Keep.refl h0 [o2]).wr W219 (Or.inl (by simp))
            refine Go.st (S' := T219.setTop (mkF m 85 A201 [])) st219 ?_
            refine Go.st (S' := T219.setTop (mkF m 86 A201 [(.int v196)])) (fun t k => XS.iloadN X219.here hx rfl (hb hby djdk_33_method_12_code_85) rfl k) ?_
            refine Go.st (S' := T219.setTop (mkF m 88 A201 [(.int (-9 : Int32)), (.int v196)])) (fun t k => XS.bipush X219.here hx rfl (hb hby djdk_33_method_12_code_86) k) ?_
            by_cases hc222 : (v196 < (-9 : Int32))
            · exfalso
              first
                | have rv196 := rng32 v196
                  have wv196 := c_ineg p0
                  rw [← hv196] at wv196
                  have rp0 := rng32 p0
                  have lIm100 : (-100 : Int32).toInt = -100 := by decide
                  have lIm9 : (-9 : Int32).toInt = -9 := by decide
                  have lI0 : (0 : Int32).toInt = 0 := by decide
                  have lI1 : (1 : Int32).toInt = 1 := by decide
                  have lI8 : (8 : Int32).toInt = 8 := by decide
                  simp only [Int32.lt_iff_toInt_lt, Int64.lt_iff_toInt_lt, ← Int32.toInt_inj, ← Int64.toInt_inj] at hra_p0 hrb_p0 hc194 hc199 hc222
                  omega
                | have rv196 := rng32 v196
                  have wv196 := c_ineg p0
                  rw [← hv196] at wv196
                  have rv203 := rng32 v203
                  have wv203 := c_ineg v196
                  rw [← hv203] at wv203
                  have rp0 := rng32 p0
                  have lIm100 : (-100 : Int32).toInt = -100 := by decide
                  have lIm9 : (-9 : Int32).toInt = -9 := by decide
                  have lI0 : (0 : Int32).toInt = 0 := by decide
                  have lI1 : (1 : Int32).toInt = 1 := by decide
                  have lI2 : (2 : Int32).toInt = 2 := by decide
                  have lI3 : (3 : Int32).toInt = 3 := by decide
                  have lI8 : (8 : Int32).toInt = 8 := by decide
                  simp only [Int32.lt_iff_toInt_lt, Int64.lt_iff_toInt_lt, ← Int32.toInt_inj, ← Int64.toInt_inj] at hra_p0 hrb_p0 hc194 hc199 hj205 hj211 hj217 hc222
                  omega
            · refine Go.st (S' := T219.setTop (mkF m 104 A201 [])) (fun t k => XS.icmpYes X219.here hx rfl (pc0 := 88) (pc' := 104) rfl (hb hby djdk_33_method_12_code_88) rfl (flt hc222).2.1 (by decide) (by decide) k) ?_
              refine Go.st (S' := T219.setTop (mkF m 106 A201 [(.int (0 : Int32))])) (fun t k => XS.iload X219.here hx rfl (hb hby djdk_33_method_12_code_104) rfl k) ?_
              refine Go.st (S' := T219.setTop (mkF m 118 A201 [])) (fun t k => XS.ifYes X219.here hx rfl (pc0 := 106) (pc' := 118) rfl (hb hby djdk_33_method_12_code_106) rfl ((if0 _ _).trans (teq (by decide : ((0 : Int32) = (0 : Int32)))).1) (by decide) (by decide) k) ?_
              refine Go.st (S' := T219.setTop (mkF m 120 A201 [(.int (14 : Int32))])) (fun t k => XS.iload X219.here hx rfl (hb hby djdk_33_method_12_code_118) rfl k) ?_
              exact Go.ret X219 (v := some (.int (14 : Int32))) (fun h => by rw [Bd.returns] at h; cases h) Bd.notSynchronized (fun fs hr => retI X219 hx Bd.returns (hb hby djdk_33_method_12_code_120) hr) (by decide) (by decide) (by rw [e219]; exact ⟨(51 : Int32), (Or.inr (Or.inr (Or.inl rfl))), rfl, N219, K220, V219⟩)
          · by_cases hj223 : v203 = (4 : Int32)
            · obtain ⟨cl224, Ar224, -, S224, N224_, H224, -⟩ := id V_s_Integer_DigitOnes
              have hin224 : ¬ (v203 < 0 ∨ cl224.slots.size ≤ (v203).toNatClampNeg) := by rw [hj223]; exact inb_of S224 ⟨by decide, by decide⟩
              have hat224 : cl224.slots[(v203).toNatClampNeg]? = some (.int (52 : Int32)) := Has.at H224 hin224 (by rw [hj223]; rfl)
              refine Go.st (S' := T202.setTop (mkF m 84 A201 [(.int (52 : Int32)), (.int (14 : Int32)), (.ref o2)])) (fun t k => X202.baloadBytes hx (j := v203) (v := (.int (52 : Int32))) (own_eh e202 Ar224.1) (State.isArrayOf_alike hZ.alike Ar224.2.1) Ar224.2.2 hin224 hat224 (g := (mkF m 83 A201 [(.int v203), (.ref s_Integer_DigitOnes), (.int (14 : Int32)), (.ref o2)])) rfl rfl (hb hby djdk_33_method_12_code_83) t k) ?_
              obtain ⟨cl225, Ar225, q225, S225, N225_, H225, G225⟩ := id V_o2
              have hin225 : ¬ ((14 : Int32) < 0 ∨ cl225.slots.size ≤ ((14 : Int32)).toNatClampNeg) := inb_of S225 ⟨by decide, by decide⟩
              obtain ⟨T225, h225, X225, e225, W225, st225⟩ := stB X202 hx hZ e202 Ar225 (j := (14 : Int32)) hin225 (g := (mkF m 84 A201 [(.int (52 : Int32)), (.int (14 : Int32)), (.ref o2)])) rfl rfl (hb hby djdk_33_method_12_code_84)
              have W225 : Wr h0 h225 o2 ((14 : Int32)).toNatClampNeg (.int (52 : Int32)) := W225
              have V225 : Arv Z h225 o2 k_o2 .byte (16 : Int32) [(.int e0_o2), (.int e1_o2), (.int e2_o2), (.int e3_o2), (.int e4_o2), (.int e5_o2), (.int e6_o2), (.int e7_o2), (.int e8_o2), (.int e9_o2), (.int e10_o2), (.int e11_o2), (.int e12_o2), (.int e13_o2), (.int (52 : Int32)), (.int e15_o2)] (.int (0 : Int32)) := Arv.set Ar225 q225 S225 N225_ H225 G225 (by decide) W225 14 rfl (Nat.le_of_ble_eq_true rfl)
              have N225 := Fr.snoc X225 N0 g_o2
              have Z226 : n0 ≤ h225.size := Nat.le_trans Z0 (Keep.of_wr W225).1
              have K226 : Keep h0 h225 [o2] := (Keep.refl h0 [o2]).wr W225 (Or.inl (by simp))
              refine Go.st (S' := T225.setTop (mkF m 85 A201 [])) st225 ?_
              refine Go.st (S' := T225.setTop (mkF m 86 A201 [(.int v196)])) (fun t k => XS.iloadN X225.here hx rfl (hb hby djdk_33_method_12_code_85) rfl k) ?_
              refine Go.st (S' := T225.setTop (mkF m 88 A201 [(.int (-9 : Int32)), (.int v196)])) (fun t k => XS.bipush X225.here hx rfl (hb hby djdk_33_method_12_code_86) k) ?_
              by_cases hc228 : (v196 < (-9 : Int32))
              · exfalso
                first
                  | have rv196 := rng32 v196
                    have wv196 := c_ineg p0
                    rw [← hv196] at wv196
                    have rp0 := rng32 p0
                    have lIm100 : (-100 : Int32).toInt = -100 := by decide
                    have lIm9 : (-9 : Int32).toInt = -9 := by decide
                    have lI0 : (0 : Int32).toInt = 0 := by decide
                    have lI1 : (1 : Int32).toInt = 1 := by decide
                    have lI8 : (8 : Int32).toInt = 8 := by decide
                    simp only [Int32.lt_iff_toInt_lt, Int64.lt_iff_toInt_lt, ← Int32.toInt_inj, ← Int64.toInt_inj] at hra_p0 hrb_p0 hc194 hc199 hc228
                    omega
                  | have rv196 := rng32 v196
                    have wv196 := c_ineg p0
                    rw [← hv196] at wv196
                    have rv203 := rng32 v203
                    have wv203 := c_ineg v196
                    rw [← hv203] at wv203
                    have rp0 := rng32 p0
                    have lIm100 : (-100 : Int32).toInt = -100 := by decide
                    have lIm9 : (-9 : Int32).toInt = -9 := by decide
                    have lI0 : (0 : Int32).toInt = 0 := by decide
                    have lI1 : (1 : Int32).toInt = 1 := by decide
                    have lI2 : (2 : Int32).toInt = 2 := by decide
                    have lI3 : (3 : Int32).toInt = 3 := by decide
                    have lI4 : (4 : Int32).toInt = 4 := by decide
                    have lI8 : (8 : Int32).toInt = 8 := by decide
                    simp only [Int32.lt_iff_toInt_lt, Int64.lt_iff_toInt_lt, ← Int32.toInt_inj, ← Int64.toInt_inj] at hra_p0 hrb_p0 hc194 hc199 hj205 hj211 hj217 hj223 hc228
                    omega
              · refine Go.st (S' := T225.setTop (mkF m 104 A201 [])) (fun t k => XS.icmpYes X225.here hx rfl (pc0 := 88) (pc' := 104) rfl (hb hby djdk_33_method_12_code_88) rfl (flt hc228).2.1 (by decide) (by decide) k) ?_
                refine Go.st (S' := T225.setTop (mkF m 106 A201 [(.int (0 : Int32))])) (fun t k => XS.iload X225.here hx rfl (hb hby djdk_33_method_12_code_104) rfl k) ?_
                refine Go.st (S' := T225.setTop (mkF m 118 A201 [])) (fun t k => XS.ifYes X225.here hx rfl (pc0 := 106) (pc' := 118) rfl (hb hby djdk_33_method_12_code_106) rfl ((if0 _ _).trans (teq (by decide : ((0 : Int32) = (0 : Int32)))).1) (by decide) (by decide) k) ?_
                refine Go.st (S' := T225.setTop (mkF m 120 A201 [(.int (14 : Int32))])) (fun t k => XS.iload X225.here hx rfl (hb hby djdk_33_method_12_code_118) rfl k) ?_
                exact Go.ret X225 (v := some (.int (14 : Int32))) (fun h => by rw [Bd.returns] at h; cases h) Bd.notSynchronized (fun fs hr => retI X225 hx Bd.returns (hb hby djdk_33_method_12_code_120) hr) (by decide) (by decide) (by rw [e225]; exact ⟨(52 : Int32), (Or.inr (Or.inr (Or.inr (Or.inl rfl)))), rfl, N225, K226, V225⟩)
            · by_cases hj229 : v203 = (5 : Int32)
              · obtain ⟨cl230, Ar230, -, S230, N230_, H230, -⟩ := id V_s_Integer_DigitOnes
                have hin230 : ¬ (v203 < 0 ∨ cl230.slots.size ≤ (v203).toNatClampNeg) := by rw [hj229]; exact inb_of S230 ⟨by decide, by decide⟩
                have hat230 : cl230.slots[(v203).toNatClampNeg]? = some (.int (53 : Int32)) := Has.at H230 hin230 (by rw [hj229]; rfl)
                refine Go.st (S' := T202.setTop (mkF m 84 A201 [(.int (53 : Int32)), (.int (14 : Int32)), (.ref o2)])) (fun t k => X202.baloadBytes hx (j := v203) (v := (.int (53 : Int32))) (own_eh e202 Ar230.1) (State.isArrayOf_alike hZ.alike Ar230.2.1) Ar230.2.2 hin230 hat230 (g := (mkF m 83 A201 [(.int v203), (.ref s_Integer_DigitOnes), (.int (14 : Int32)), (.ref o2)])) rfl rfl (hb hby djdk_33_method_12_code_83) t k) ?_
                obtain ⟨cl231, Ar231, q231, S231, N231_, H231, G231⟩ := id V_o2
                have hin231 : ¬ ((14 : Int32) < 0 ∨ cl231.slots.size ≤ ((14 : Int32)).toNatClampNeg) := inb_of S231 ⟨by decide, by decide⟩
                obtain ⟨T231, h231, X231, e231, W231, st231⟩ := stB X202 hx hZ e202 Ar231 (j := (14 : Int32)) hin231 (g := (mkF m 84 A201 [(.int (53 : Int32)), (.int (14 : Int32)), (.ref o2)])) rfl rfl (hb hby djdk_33_method_12_code_84)
                have W231 : Wr h0 h231 o2 ((14 : Int32)).toNatClampNeg (.int (53 : Int32)) := W231
                have V231 : Arv Z h231 o2 k_o2 .byte (16 : Int32) [(.int e0_o2), (.int e1_o2), (.int e2_o2), (.int e3_o2), (.int e4_o2), (.int e5_o2), (.int e6_o2), (.int e7_o2), (.int e8_o2), (.int e9_o2), (.int e10_o2), (.int e11_o2), (.int e12_o2), (.int e13_o2), (.int (53 : Int32)), (.int e15_o2)] (.int (0 : Int32)) := Arv.set Ar231 q231 S231 N231_ H231 G231 (by decide) W231 14 rfl (Nat.le_of_ble_eq_true rfl)
                have N231 := Fr.snoc X231 N0 g_o2
                have Z232 : n0 ≤ h231.size := Nat.le_trans Z0 (Keep.of_wr W231).1
                have K232 : Keep h0 h231 [o2] := (Keep.refl h0 [o2]).wr W231 (Or.inl (by simp))
                refine Go.st (S' := T231.setTop (mkF m 85 A201 [])) st231 ?_
                refine Go.st (S' := T231.setTop (mkF m 86 A201 [(.int v196)])) (fun t k => XS.iloadN X231.here hx rfl (hb hby djdk_33_method_12_code_85) rfl k) ?_
                refine Go.st (S' := T231.setTop (mkF m 88 A201 [(.int (-9 : Int32)), (.int v196)])) (fun t k => XS.bipush X231.here hx rfl (hb hby djdk_33_method_12_code_86) k) ?_
                by_cases hc234 : (v196 < (-9 : Int32))
                · exfalso
                  first
                    | have rv196 := rng32 v196
                      have wv196 := c_ineg p0
                      rw [← hv196] at wv196
                      have rp0 := rng32 p0
                      have lIm100 : (-100 : Int32).toInt = -100 := by decide
                      have lIm9 : (-9 : Int32).toInt = -9 := by decide
                      have lI0 : (0 : Int32).toInt = 0 := by decide
                      have lI1 : (1 : Int32).toInt = 1 := by decide
                      have lI8 : (8 : Int32).toInt = 8 := by decide
                      simp only [Int32.lt_iff_toInt_lt, Int64.lt_iff_toInt_lt, ← Int32.toInt_inj, ← Int64.toInt_inj] at hra_p0 hrb_p0 hc194 hc199 hc234
                      omega
                    | have rv196 := rng32 v196
                      have wv196 := c_ineg p0
                      rw [← hv196] at wv196
                      have rv203 := rng32 v203
                      have wv203 := c_ineg v196
                      rw [← hv203] at wv203
                      have rp0 := rng32 p0
                      have lIm100 : (-100 : Int32).toInt = -100 := by decide
                      have lIm9 : (-9 : Int32).toInt = -9 := by decide
                      have lI0 : (0 : Int32).toInt = 0 := by decide
                      have lI1 : (1 : Int32).toInt = 1 := by decide
                      have lI2 : (2 : Int32).toInt = 2 := by decide
                      have lI3 : (3 : Int32).toInt = 3 := by decide
                      have lI4 : (4 : Int32).toInt = 4 := by decide
                      have lI5 : (5 : Int32).toInt = 5 := by decide
                      have lI8 : (8 : Int32).toInt = 8 := by decide
                      simp only [Int32.lt_iff_toInt_lt, Int64.lt_iff_toInt_lt, ← Int32.toInt_inj, ← Int64.toInt_inj] at hra_p0 hrb_p0 hc194 hc199 hj205 hj211 hj217 hj223 hj229 hc234
                      omega
                · refine Go.st (S' := T231.setTop (mkF m 104 A201 [])) (fun t k => XS.icmpYes X231.here hx rfl (pc0 := 88) (pc' := 104) rfl (hb hby djdk_33_method_12_code_88) rfl (flt hc234).2.1 (by decide) (by decide) k) ?_
                  refine Go.st (S' := T231.setTop (mkF m 106 A201 [(.int (0 : Int32))])) (fun t k => XS.iload X231.here hx rfl (hb hby djdk_33_method_12_code_104) rfl k) ?_
                  refine Go.st (S' := T231.setTop (mkF m 118 A201 [])) (fun t k => XS.ifYes X231.here hx rfl (pc0 := 106) (pc' := 118) rfl (hb hby djdk_33_method_12_code_106) rfl ((if0 _ _).trans (teq (by decide : ((0 : Int32) = (0 : Int32)))).1) (by decide) (by decide) k) ?_
                  refine Go.st (S' := T231.setTop (mkF m 120 A201 [(.int (14 : Int32))])) (fun t k => XS.iload X231.here hx rfl (hb hby djdk_33_method_12_code_118) rfl k) ?_
                  exact Go.ret X231 (v := some (.int (14 : Int32))) (fun h => by rw [Bd.returns] at h; cases h) Bd.notSynchronized (fun fs hr => retI X231 hx Bd.returns (hb hby djdk_33_method_12_code_120) hr) (by decide) (by decide) (by rw [e231]; exact ⟨(53 : Int32), (Or.inr (Or.inr (Or.inr (Or.inr (Or.inl rfl))))), rfl, N231, K232, V231⟩)
              · by_cases hj235 : v203 = (6 : Int32)
                · obtain ⟨cl236, Ar236, -, S236, N236_, H236, -⟩ := id V_s_Integer_DigitOnes
                  have hin236 : ¬ (v203 < 0 ∨ cl236.slots.size ≤ (v203).toNatClampNeg) := by rw [hj235]; exact inb_of S236 ⟨by decide, by decide⟩
                  have hat236 : cl236.slots[(v203).toNatClampNeg]? = some (.int (54 : Int32)) := Has.at H236 hin236 (by rw [hj235]; rfl)
                  refine Go.st (S' := T202.setTop (mkF m 84 A201 [(.int (54 : Int32)), (.int (14 : Int32)), (.ref o2)])) (fun t k => X202.baloadBytes hx (j := v203) (v := (.int (54 : Int32))) (own_eh e202 Ar236.1) (State.isArrayOf_alike hZ.alike Ar236.2.1) Ar236.2.2 hin236 hat236 (g := (mkF m 83 A201 [(.int v203), (.ref s_Integer_DigitOnes), (.int (14 : Int32)), (.ref o2)])) rfl rfl (hb hby djdk_33_method_12_code_83) t k) ?_
                  obtain ⟨cl237, Ar237, q237, S237, N237_, H237, G237⟩ := id V_o2
                  have hin237 : ¬ ((14 : Int32) < 0 ∨ cl237.slots.size ≤ ((14 : Int32)).toNatClampNeg) := inb_of S237 ⟨by decide, by decide⟩
                  obtain ⟨T237, h237, X237, e237, W237, st237⟩ := stB X202 hx hZ e202 Ar237 (j := (14 : Int32)) hin237 (g := (mkF m 84 A201 [(.int (54 : Int32)), (.int (14 : Int32)), (.ref o2)])) rfl rfl (hb hby djdk_33_method_12_code_84)
                  have W237 : Wr h0 h237 o2 ((14 : Int32)).toNatClampNeg (.int (54 : Int32)) := W237
                  have V237 : Arv Z h237 o2 k_o2 .byte (16 : Int32) [(.int e0_o2), (.int e1_o2), (.int e2_o2), (.int e3_o2), (.int e4_o2), (.int e5_o2), (.int e6_o2), (.int e7_o2), (.int e8_o2), (.int e9_o2), (.int e10_o2), (.int e11_o2), (.int e12_o2), (.int e13_o2), (.int (54 : Int32)), (.int e15_o2)] (.int (0 : Int32)) := Arv.set Ar237 q237 S237 N237_ H237 G237 (by decide) W237 14 rfl (Nat.le_of_ble_eq_true rfl)
                  have N237 := Fr.snoc X237 N0 g_o2
                  have Z238 : n0 ≤ h237.size := Nat.le_trans Z0 (Keep.of_wr W237).1
                  have K238 : Keep h0 h237 [o2] := (Keep.refl h0 [o2]).wr W237 (Or.inl (by simp))
                  refine Go.st (S' := T237.setTop (mkF m 85 A201 [])) st237 ?_
                  refine Go.st (S' := T237.setTop (mkF m 86 A201 [(.int v196)])) (fun t k => XS.iloadN X237.here hx rfl (hb hby djdk_33_method_12_code_85) rfl k) ?_
                  refine Go.st (S' := T237.setTop (mkF m 88 A201 [(.int (-9 : Int32)), (.int v196)])) (fun t k => XS.bipush X237.here hx rfl (hb hby djdk_33_method_12_code_86) k) ?_
                  by_cases hc240 : (v196 < (-9 : Int32))
                  · exfalso
                    first
                      | have rv196 := rng32 v196
                        have wv196 := c_ineg p0
                        rw [← hv196] at wv196
                        have rp0 := rng32 p0
                        have lIm100 : (-100 : Int32).toInt = -100 := by decide
                        have lIm9 : (-9 : Int32).toInt = -9 := by decide
                        have lI0 : (0 : Int32).toInt = 0 := by decide
                        have lI1 : (1 : Int32).toInt = 1 := by decide
                        have lI8 : (8 : Int32).toInt = 8 := by decide
                        simp only [Int32.lt_iff_toInt_lt, Int64.lt_iff_toInt_lt, ← Int32.toInt_inj, ← Int64.toInt_inj] at hra_p0 hrb_p0 hc194 hc199 hc240
                        omega
                      | have rv196 := rng32 v196
                        have wv196 := c_ineg p0
                        rw [← hv196] at wv196
                        have rv203 := rng32 v203
                        have wv203 := c_ineg v196
                        rw [← hv203] at wv203
                        have rp0 := rng32 p0
                        have lIm100 : (-100 : Int32).toInt = -100 := by decide
                        have lIm9 : (-9 : Int32).toInt = -9 := by decide
                        have lI0 : (0 : Int32).toInt = 0 := by decide
                        have lI1 : (1 : Int32).toInt = 1 := by decide
                        have lI2 : (2 : Int32).toInt = 2 := by decide
                        have lI3 : (3 : Int32).toInt = 3 := by decide
                        have lI4 : (4 : Int32).toInt = 4 := by decide
                        have lI5 : (5 : Int32).toInt = 5 := by decide
                        have lI6 : (6 : Int32).toInt = 6 := by decide
                        have lI8 : (8 : Int32).toInt = 8 := by decide
                        simp only [Int32.lt_iff_toInt_lt, Int64.lt_iff_toInt_lt, ← Int32.toInt_inj, ← Int64.toInt_inj] at hra_p0 hrb_p0 hc194 hc199 hj205 hj211 hj217 hj223 hj229 hj235 hc240
                        omega
                  · refine Go.st (S' := T237.setTop (mkF m 104 A201 [])) (fun t k => XS.icmpYes X237.here hx rfl (pc0 := 88) (pc' := 104) rfl (hb hby djdk_33_method_12_code_88) rfl (flt hc240).2.1 (by decide) (by decide) k) ?_
                    refine Go.st (S' := T237.setTop (mkF m 106 A201 [(.int (0 : Int32))])) (fun t k => XS.iload X237.here hx rfl (hb hby djdk_33_method_12_code_104) rfl k) ?_
                    refine Go.st (S' := T237.setTop (mkF m 118 A201 [])) (fun t k => XS.ifYes X237.here hx rfl (pc0 := 106) (pc' := 118) rfl (hb hby djdk_33_method_12_code_106) rfl ((if0 _ _).trans (teq (by decide : ((0 : Int32) = (0 : Int32)))).1) (by decide) (by decide) k) ?_
                    refine Go.st (S' := T237.setTop (mkF m 120 A201 [(.int (14 : Int32))])) (fun t k => XS.iload X237.here hx rfl (hb hby djdk_33_method_12_code_118) rfl k) ?_
                    exact Go.ret X237 (v := some (.int (14 : Int32))) (fun h => by rw [Bd.returns] at h; cases h) Bd.notSynchronized (fun fs hr => retI X237 hx Bd.returns (hb hby djdk_33_method_12_code_120) hr) (by decide) (by decide) (by rw [e237]; exact ⟨(54 : Int32), (Or.inr (Or.inr (Or.inr (Or.inr (Or.inr (Or.inl rfl)))))), rfl, N237, K238, V237⟩)
                · by_cases hj241 : v203 = (7 : Int32)
                  · obtain ⟨cl242, Ar242, -, S242, N242_, H242, -⟩ := id V_s_Integer_DigitOnes
                    have hin242 : ¬ (v203 < 0 ∨ cl242.slots.size ≤ (v203).toNatClampNeg) := by rw [hj241]; exact inb_of S242 ⟨by decide, by decide⟩
                    have hat242 : cl242.slots[(v203).toNatClampNeg]? = some (.int (55 : Int32)) := Has.at H242 hin242 (by rw [hj241]; rfl)
                    refine Go.st (S' := T202.setTop (mkF m 84 A201 [(.int (55 : Int32)), (.int (14 : Int32)), (.ref o2)])) (fun t k => X202.baloadBytes hx (j := v203) (v := (.int (55 : Int32))) (own_eh e202 Ar242.1) (State.isArrayOf_alike hZ.alike Ar242.2.1) Ar242.2.2 hin242 hat242 (g := (mkF m 83 A201 [(.int v203), (.ref s_Integer_DigitOnes), (.int (14 : Int32)), (.ref o2)])) rfl rfl (hb hby djdk_33_method_12_code_83) t k) ?_
                    obtain ⟨cl243, Ar243, q243, S243, N243_, H243, G243⟩ := id V_o2
                    have hin243 : ¬ ((14 : Int32) < 0 ∨ cl243.slots.size ≤ ((14 : Int32)).toNatClampNeg) := inb_of S243 ⟨by decide, by decide⟩
                    obtain ⟨T243, h243, X243, e243, W243, st243⟩ := stB X202 hx hZ e202 Ar243 (j := (14 : Int32)) hin243 (g := (mkF m 84 A201 [(.int (55 : Int32)), (.int (14 : Int32)), (.ref o2)])) rfl rfl (hb hby djdk_33_method_12_code_84)
                    have W243 : Wr h0 h243 o2 ((14 : Int32)).toNatClampNeg (.int (55 : Int32)) := W243
                    have V243 : Arv Z h243 o2 k_o2 .byte (16 : Int32) [(.int e0_o2), (.int e1_o2), (.int e2_o2), (.int e3_o2), (.int e4_o2), (.int e5_o2), (.int e6_o2), (.int e7_o2), (.int e8_o2), (.int e9_o2), (.int e10_o2), (.int e11_o2), (.int e12_o2), (.int e13_o2), (.int (55 : Int32)), (.int e15_o2)] (.int (0 : Int32)) := Arv.set Ar243 q243 S243 N243_ H243 G243 (by decide) W243 14 rfl (Nat.le_of_ble_eq_true rfl)
                    have N243 := Fr.snoc X243 N0 g_o2
                    have Z244 : n0 ≤ h243.size := Nat.le_trans Z0 (Keep.of_wr W243).1
                    have K244 : Keep h0 h243 [o2] := (Keep.refl h0 [o2]).wr W243 (Or.inl (by simp))
                    refine Go.st (S' := T243.setTop (mkF m 85 A201 [])) st243 ?_
                    refine Go.st (S' := T243.setTop (mkF m 86 A201 [(.int v196)])) (fun t k => XS.iloadN X243.here hx rfl (hb hby djdk_33_method_12_code_85) rfl k) ?_
                    refine Go.st (S' := T243.setTop (mkF m 88 A201 [(.int (-9 : Int32)), (.int v196)])) (fun t k => XS.bipush X243.here hx rfl (hb hby djdk_33_method_12_code_86) k) ?_
                    by_cases hc246 : (v196 < (-9 : Int32))
                    · exfalso
                      first
                        | have rv196 := rng32 v196
                          have wv196 := c_ineg p0
                          rw [← hv196] at wv196
                          have rp0 := rng32 p0
                          have lIm100 : (-100 : Int32).toInt = -100 := by decide
                          have lIm9 : (-9 : Int32).toInt = -9 := by decide
                          have lI0 : (0 : Int32).toInt = 0 := by decide
                          have lI1 : (1 : Int32).toInt = 1 := by decide
                          have lI8 : (8 : Int32).toInt = 8 := by decide
                          simp only [Int32.lt_iff_toInt_lt, Int64.lt_iff_toInt_lt, ← Int32.toInt_inj, ← Int64.toInt_inj] at hra_p0 hrb_p0 hc194 hc199 hc246
                          omega
                        | have rv196 := rng32 v196
                          have wv196 := c_ineg p0
                          rw [← hv196] at wv196
                          have rv203 := rng32 v203
                          have wv203 := c_ineg v196
                          rw [← hv203] at wv203
                          have rp0 := rng32 p0
                          have lIm100 : (-100 : Int32).toInt = -100 := by decide
                          have lIm9 : (-9 : Int32).toInt = -9 := by decide
                          have lI0 : (0 : Int32).toInt = 0 := by decide
                          have lI1 : (1 : Int32).toInt = 1 := by decide
                          have lI2 : (2 : Int32).toInt = 2 := by decide
                          have lI3 : (3 : Int32).toInt = 3 := by decide
                          have lI4 : (4 : Int32).toInt = 4 := by decide
                          have lI5 : (5 : Int32).toInt = 5 := by decide
                          have lI6 : (6 : Int32).toInt = 6 := by decide
                          have lI7 : (7 : Int32).toInt = 7 := by decide
                          have lI8 : (8 : Int32).toInt = 8 := by decide
                          simp only [Int32.lt_iff_toInt_lt, Int64.lt_iff_toInt_lt, ← Int32.toInt_inj, ← Int64.toInt_inj] at hra_p0 hrb_p0 hc194 hc199 hj205 hj211 hj217 hj223 hj229 hj235 hj241 hc246
                          omega
                    · refine Go.st (S' := T243.setTop (mkF m 104 A201 [])) (fun t k => XS.icmpYes X243.here hx rfl (pc0 := 88) (pc' := 104) rfl (hb hby djdk_33_method_12_code_88) rfl (flt hc246).2.1 (by decide) (by decide) k) ?_
                      refine Go.st (S' := T243.setTop (mkF m 106 A201 [(.int (0 : Int32))])) (fun t k => XS.iload X243.here hx rfl (hb hby djdk_33_method_12_code_104) rfl k) ?_
                      refine Go.st (S' := T243.setTop (mkF m 118 A201 [])) (fun t k => XS.ifYes X243.here hx rfl (pc0 := 106) (pc' := 118) rfl (hb hby djdk_33_method_12_code_106) rfl ((if0 _ _).trans (teq (by decide : ((0 : Int32) = (0 : Int32)))).1) (by decide) (by decide) k) ?_
                      refine Go.st (S' := T243.setTop (mkF m 120 A201 [(.int (14 : Int32))])) (fun t k => XS.iload X243.here hx rfl (hb hby djdk_33_method_12_code_118) rfl k) ?_
                      exact Go.ret X243 (v := some (.int (14 : Int32))) (fun h => by rw [Bd.returns] at h; cases h) Bd.notSynchronized (fun fs hr => retI X243 hx Bd.returns (hb hby djdk_33_method_12_code_120) hr) (by decide) (by decide) (by rw [e243]; exact ⟨(55 : Int32), (Or.inr (Or.inr (Or.inr (Or.inr (Or.inr (Or.inr (Or.inl rfl))))))), rfl, N243, K244, V243⟩)
                  · have hj247 : v203 = (8 : Int32) := by
                      refine Decidable.byContradiction fun hc248 => ?_
                      first
                        | have rv196 := rng32 v196
                          have wv196 := c_ineg p0
                          rw [← hv196] at wv196
                          have rv203 := rng32 v203
                          have wv203 := c_ineg v196
                          rw [← hv203] at wv203
                          have rp0 := rng32 p0
                          have lIm100 : (-100 : Int32).toInt = -100 := by decide
                          have lI1 : (1 : Int32).toInt = 1 := by decide
                          have lI2 : (2 : Int32).toInt = 2 := by decide
                          have lI3 : (3 : Int32).toInt = 3 := by decide
                          have lI4 : (4 : Int32).toInt = 4 := by decide
                          have lI5 : (5 : Int32).toInt = 5 := by decide
                          have lI6 : (6 : Int32).toInt = 6 := by decide
                          have lI7 : (7 : Int32).toInt = 7 := by decide
                          have lI8 : (8 : Int32).toInt = 8 := by decide
                          simp only [Int32.lt_iff_toInt_lt, Int64.lt_iff_toInt_lt, ← Int32.toInt_inj, ← Int64.toInt_inj] at hc199 hj205 hj211 hj217 hj223 hj229 hj235 hj241 hc248
                          omega
                        | have rv196 := rng32 v196
                          have wv196 := c_ineg p0
                          rw [← hv196] at wv196
                          have rv203 := rng32 v203
                          have wv203 := c_ineg v196
                          rw [← hv203] at wv203
                          have rp0 := rng32 p0
                          have lIm100 : (-100 : Int32).toInt = -100 := by decide
                          have lI0 : (0 : Int32).toInt = 0 := by decide
                          have lI1 : (1 : Int32).toInt = 1 := by decide
                          have lI2 : (2 : Int32).toInt = 2 := by decide
                          have lI3 : (3 : Int32).toInt = 3 := by decide
                          have lI4 : (4 : Int32).toInt = 4 := by decide
                          have lI5 : (5 : Int32).toInt = 5 := by decide
                          have lI6 : (6 : Int32).toInt = 6 := by decide
                          have lI7 : (7 : Int32).toInt = 7 := by decide
                          have lI8 : (8 : Int32).toInt = 8 := by decide
                          simp only [Int32.lt_iff_toInt_lt, Int64.lt_iff_toInt_lt, ← Int32.toInt_inj, ← Int64.toInt_inj] at hra_p0 hrb_p0 hc194 hc199 hj205 hj211 hj217 hj223 hj229 hj235 hj241 hc248
                          omega
                    obtain ⟨cl249, Ar249, -, S249, N249_, H249, -⟩ := id V_s_Integer_DigitOnes
                    have hin249 : ¬ (v203 < 0 ∨ cl249.slots.size ≤ (v203).toNatClampNeg) := by rw [hj247]; exact inb_of S249 ⟨by decide, by decide⟩
                    have hat249 : cl249.slots[(v203).toNatClampNeg]? = some (.int (56 : Int32)) := Has.at H249 hin249 (by rw [hj247]; rfl)
                    refine Go.st (S' := T202.setTop (mkF m 84 A201 [(.int (56 : Int32)), (.int (14 : Int32)), (.ref o2)])) (fun t k => X202.baloadBytes hx (j := v203) (v := (.int (56 : Int32))) (own_eh e202 Ar249.1) (State.isArrayOf_alike hZ.alike Ar249.2.1) Ar249.2.2 hin249 hat249 (g := (mkF m 83 A201 [(.int v203), (.ref s_Integer_DigitOnes), (.int (14 : Int32)), (.ref o2)])) rfl rfl (hb hby djdk_33_method_12_code_83) t k) ?_
                    obtain ⟨cl250, Ar250, q250, S250, N250_, H250, G250⟩ := id V_o2
                    have hin250 : ¬ ((14 : Int32) < 0 ∨ cl250.slots.size ≤ ((14 : Int32)).toNatClampNeg) := inb_of S250 ⟨by decide, by decide⟩
                    obtain ⟨T250, h250, X250, e250, W250, st250⟩ := stB X202 hx hZ e202 Ar250 (j := (14 : Int32)) hin250 (g := (mkF m 84 A201 [(.int (56 : Int32)), (.int (14 : Int32)), (.ref o2)])) rfl rfl (hb hby djdk_33_method_12_code_84)
                    have W250 : Wr h0 h250 o2 ((14 : Int32)).toNatClampNeg (.int (56 : Int32)) := W250
                    have V250 : Arv Z h250 o2 k_o2 .byte (16 : Int32) [(.int e0_o2), (.int e1_o2), (.int e2_o2), (.int e3_o2), (.int e4_o2), (.int e5_o2), (.int e6_o2), (.int e7_o2), (.int e8_o2), (.int e9_o2), (.int e10_o2), (.int e11_o2), (.int e12_o2), (.int e13_o2), (.int (56 : Int32)), (.int e15_o2)] (.int (0 : Int32)) := Arv.set Ar250 q250 S250 N250_ H250 G250 (by decide) W250 14 rfl (Nat.le_of_ble_eq_true rfl)
                    have N250 := Fr.snoc X250 N0 g_o2
                    have Z251 : n0 ≤ h250.size := Nat.le_trans Z0 (Keep.of_wr W250).1
                    have K251 : Keep h0 h250 [o2] := (Keep.refl h0 [o2]).wr W250 (Or.inl (by simp))
                    refine Go.st (S' := T250.setTop (mkF m 85 A201 [])) st250 ?_
                    refine Go.st (S' := T250.setTop (mkF m 86 A201 [(.int v196)])) (fun t k => XS.iloadN X250.here hx rfl (hb hby djdk_33_method_12_code_85) rfl k) ?_
                    refine Go.st (S' := T250.setTop (mkF m 88 A201 [(.int (-9 : Int32)), (.int v196)])) (fun t k => XS.bipush X250.here hx rfl (hb hby djdk_33_method_12_code_86) k) ?_
                    by_cases hc253 : (v196 < (-9 : Int32))
                    · exfalso
                      first
                        | have rv196 := rng32 v196
                          have wv196 := c_ineg p0
                          rw [← hv196] at wv196
                          have rp0 := rng32 p0
                          have lIm100 : (-100 : Int32).toInt = -100 := by decide
                          have lIm9 : (-9 : Int32).toInt = -9 := by decide
                          have lI0 : (0 : Int32).toInt = 0 := by decide
                          have lI1 : (1 : Int32).toInt = 1 := by decide
                          have lI8 : (8 : Int32).toInt = 8 := by decide
                          simp only [Int32.lt_iff_toInt_lt, Int64.lt_iff_toInt_lt, ← Int32.toInt_inj, ← Int64.toInt_inj] at hra_p0 hrb_p0 hc194 hc199 hc253
                          omega
                        | have rv196 := rng32 v196
                          have wv196 := c_ineg p0
                          rw [← hv196] at wv196
                          have rv203 := rng32 v203
                          have wv203 := c_ineg v196
                          rw [← hv203] at wv203
                          have rp0 := rng32 p0
                          have lIm100 : (-100 : Int32).toInt = -100 := by decide
                          have lIm9 : (-9 : Int32).toInt = -9 := by decide
                          have lI0 : (0 : Int32).toInt = 0 := by decide
                          have lI1 : (1 : Int32).toInt = 1 := by decide
                          have lI2 : (2 : Int32).toInt = 2 := by decide
                          have lI3 : (3 : Int32).toInt = 3 := by decide
                          have lI4 : (4 : Int32).toInt = 4 := by decide
                          have lI5 : (5 : Int32).toInt = 5 := by decide
                          have lI6 : (6 : Int32).toInt = 6 := by decide
                          have lI7 : (7 : Int32).toInt = 7 := by decide
                          have lI8 : (8 : Int32).toInt = 8 := by decide
                          simp only [Int32.lt_iff_toInt_lt, Int64.lt_iff_toInt_lt, ← Int32.toInt_inj, ← Int64.toInt_inj] at hra_p0 hrb_p0 hc194 hc199 hj205 hj211 hj217 hj223 hj229 hj235 hj241 hj247 hc253
                          omega
                    · refine Go.st (S' := T250.setTop (mkF m 104 A201 [])) (fun t k => XS.icmpYes X250.here hx rfl (pc0 := 88) (pc' := 104) rfl (hb hby djdk_33_method_12_code_88) rfl (flt hc253).2.1 (by decide) (by decide) k) ?_
                      refine Go.st (S' := T250.setTop (mkF m 106 A201 [(.int (0 : Int32))])) (fun t k => XS.iload X250.here hx rfl (hb hby djdk_33_method_12_code_104) rfl k) ?_
                      refine Go.st (S' := T250.setTop (mkF m 118 A201 [])) (fun t k => XS.ifYes X250.here hx rfl (pc0 := 106) (pc' := 118) rfl (hb hby djdk_33_method_12_code_106) rfl ((if0 _ _).trans (teq (by decide : ((0 : Int32) = (0 : Int32)))).1) (by decide) (by decide) k) ?_
                      refine Go.st (S' := T250.setTop (mkF m 120 A201 [(.int (14 : Int32))])) (fun t k => XS.iload X250.here hx rfl (hb hby djdk_33_method_12_code_118) rfl k) ?_
                      exact Go.ret X250 (v := some (.int (14 : Int32))) (fun h => by rw [Bd.returns] at h; cases h) Bd.notSynchronized (fun fs hr => retI X250 hx Bd.returns (hb hby djdk_33_method_12_code_120) hr) (by decide) (by decide) (by rw [e250]; exact ⟨(56 : Int32), (Or.inr (Or.inr (Or.inr (Or.inr (Or.inr (Or.inr (Or.inr rfl))))))), rfl, N250, K251, V250⟩)
    · exfalso
      have rv196 := rng32 v196
      have wv196 := c_ineg p0
      rw [← hv196] at wv196
      have rp0 := rng32 p0
      have lIm100 : (-100 : Int32).toInt = -100 := by decide
      have lI0 : (0 : Int32).toInt = 0 := by decide
      have lI1 : (1 : Int32).toInt = 1 := by decide
      have lI8 : (8 : Int32).toInt = 8 := by decide
      simp only [Int32.lt_iff_toInt_lt, Int64.lt_iff_toInt_lt, ← Int32.toInt_inj, ← Int64.toInt_inj] at hra_p0 hrb_p0 hc194 hc199
      omega
theorem ef_16 (m : MethodId) (o0 : Addr) (p1 : Int32) : entryFrame m #[(.ref o0), (.int p1)] 4 = mkF m 0 #[.val (.ref o0), .val (.int p1), .unset, .unset] [] := by first | (simp [entryFrame, mkF, argsToLocals, Value.category, maxLocals]; done) | rfl
def Q16 (Z : State) (o0 : Addr) (p1 : Int32) (o_1 : Addr) (k_o_1 : ClassId) (e0_o_1 : Int32) (e1_o_1 : Int32) (e2_o_1 : Int32) (e3_o_1 : Int32) (e4_o_1 : Int32) (e5_o_1 : Int32) (e6_o_1 : Int32) (e7_o_1 : Int32) (e8_o_1 : Int32) (e9_o_1 : Int32) (e10_o_1 : Int32) (e11_o_1 : Int32) (e12_o_1 : Int32) (e13_o_1 : Int32) (e14_o_1 : Int32) (e15_o_1 : Int32) (s_String_COMPACT_STRINGS : Int32) (s_Integer_DigitOnes : Addr) (k_s_Integer_DigitOnes : ClassId) (h0 : Heap) (n0 : Nat) (v : Option Value) (h : Heap) (L : List Loc) : Prop := (∃ (r255 : Int32), v = some (.ref o0) ∧ Fr n0 L ∧ Keep h0 h [o_1, o0] ∧ Fld Z h o0 "java/lang/AbstractStringBuilder" "count" "I" (.int (15 : Int32)) ∧ Exa Z h o0 "java/lang/StringBuilder" ∧ Fld Z h o0 "java/lang/AbstractStringBuilder" "value" "[B" (.ref o_1) ∧ Arv Z h o_1 k_o_1 .byte (16 : Int32) [(.int e0_o_1), (.int e1_o_1), (.int e2_o_1), (.int e3_o_1), (.int e4_o_1), (.int e5_o_1), (.int e6_o_1), (.int e7_o_1), (.int e8_o_1), (.int e9_o_1), (.int e10_o_1), (.int e11_o_1), (.int e12_o_1), (.int e13_o_1), (.int r255), (.int e15_o_1)] (.int (0 : Int32)) ∧ Fld Z h o0 "java/lang/AbstractStringBuilder" "coder" "B" (.int (0 : Int32)))
set_option maxRecDepth 65536 in
set_option maxHeartbeats 40000000 in
theorem rm16 (l : Launch) (Z : State) (a0 : Array Value) (hw : ∀ d ∈ tables_1, d.before a0 Z = true) (ws : List Jvm.Cond) (o0 : Addr) (p1 : Int32) (o_1 : Addr) (k_o_1 : ClassId) (e0_o_1 : Int32) (e1_o_1 : Int32) (e2_o_1 : Int32) (e3_o_1 : Int32) (e4_o_1 : Int32) (e5_o_1 : Int32) (e6_o_1 : Int32) (e7_o_1 : Int32) (e8_o_1 : Int32) (e9_o_1 : Int32) (e10_o_1 : Int32) (e11_o_1 : Int32) (e12_o_1 : Int32) (e13_o_1 : Int32) (e14_o_1 : Int32) (e15_o_1 : Int32) (s_String_COMPACT_STRINGS : Int32) (s_Integer_DigitOnes : Addr) (k_s_Integer_DigitOnes : ClassId) (h0 : Heap) (n0 : Nat) (Z0 : n0 ≤ h0.size) (hra_p1 : (¬ (p1 < (1 : Int32)))) (hrb_p1 : (¬ ((8 : Int32) < p1))) (F_o0_count : Fld Z h0 o0 "java/lang/AbstractStringBuilder" "count" "I" (.int (14 : Int32))) (E_o0 : Exa Z h0 o0 "java/lang/StringBuilder") (F_o0_value : Fld Z h0 o0 "java/lang/AbstractStringBuilder" "value" "[B" (.ref o_1)) (V_o_1 : Arv Z h0 o_1 k_o_1 .byte (16 : Int32) [(.int e0_o_1), (.int e1_o_1), (.int e2_o_1), (.int e3_o_1), (.int e4_o_1), (.int e5_o_1), (.int e6_o_1), (.int e7_o_1), (.int e8_o_1), (.int e9_o_1), (.int e10_o_1), (.int e11_o_1), (.int e12_o_1), (.int e13_o_1), (.int e14_o_1), (.int e15_o_1)] (.int (0 : Int32))) (F_o0_coder : Fld Z h0 o0 "java/lang/AbstractStringBuilder" "coder" "B" (.int (0 : Int32))) (S_s_String_COMPACT_STRINGS : Sta Z h0 "java/lang/String" "COMPACT_STRINGS" "Z" (.int s_String_COMPACT_STRINGS)) (nz_s_String_COMPACT_STRINGS : s_String_COMPACT_STRINGS ≠ 0) (S_s_Integer_DigitOnes : Sta Z h0 "java/lang/Integer" "DigitOnes" "[B" (.ref s_Integer_DigitOnes)) (V_s_Integer_DigitOnes : Arv Z h0 s_Integer_DigitOnes k_s_Integer_DigitOnes .byte (100 : Int32) [(.int (48 : Int32)), (.int (49 : Int32)), (.int (50 : Int32)), (.int (51 : Int32)), (.int (52 : Int32)), (.int (53 : Int32)), (.int (54 : Int32)), (.int (55 : Int32)), (.int (56 : Int32)), (.int (57 : Int32)), (.int (48 : Int32)), (.int (49 : Int32)), (.int (50 : Int32)), (.int (51 : Int32)), (.int (52 : Int32)), (.int (53 : Int32)), (.int (54 : Int32)), (.int (55 : Int32)), (.int (56 : Int32)), (.int (57 : Int32)), (.int (48 : Int32)), (.int (49 : Int32)), (.int (50 : Int32)), (.int (51 : Int32)), (.int (52 : Int32)), (.int (53 : Int32)), (.int (54 : Int32)), (.int (55 : Int32)), (.int (56 : Int32)), (.int (57 : Int32)), (.int (48 : Int32)), (.int (49 : Int32)), (.int (50 : Int32)), (.int (51 : Int32)), (.int (52 : Int32)), (.int (53 : Int32)), (.int (54 : Int32)), (.int (55 : Int32)), (.int (56 : Int32)), (.int (57 : Int32)), (.int (48 : Int32)), (.int (49 : Int32)), (.int (50 : Int32)), (.int (51 : Int32)), (.int (52 : Int32)), (.int (53 : Int32)), (.int (54 : Int32)), (.int (55 : Int32)), (.int (56 : Int32)), (.int (57 : Int32)), (.int (48 : Int32)), (.int (49 : Int32)), (.int (50 : Int32)), (.int (51 : Int32)), (.int (52 : Int32)), (.int (53 : Int32)), (.int (54 : Int32)), (.int (55 : Int32)), (.int (56 : Int32)), (.int (57 : Int32)), (.int (48 : Int32)), (.int (49 : Int32)), (.int (50 : Int32)), (.int (51 : Int32)), (.int (52 : Int32)), (.int (53 : Int32)), (.int (54 : Int32)), (.int (55 : Int32)), (.int (56 : Int32)), (.int (57 : Int32)), (.int (48 : Int32)), (.int (49 : Int32)), (.int (50 : Int32)), (.int (51 : Int32)), (.int (52 : Int32)), (.int (53 : Int32)), (.int (54 : Int32)), (.int (55 : Int32)), (.int (56 : Int32)), (.int (57 : Int32)), (.int (48 : Int32)), (.int (49 : Int32)), (.int (50 : Int32)), (.int (51 : Int32)), (.int (52 : Int32)), (.int (53 : Int32)), (.int (54 : Int32)), (.int (55 : Int32)), (.int (56 : Int32)), (.int (57 : Int32)), (.int (48 : Int32)), (.int (49 : Int32)), (.int (50 : Int32)), (.int (51 : Int32)), (.int (52 : Int32)), (.int (53 : Int32)), (.int (54 : Int32)), (.int (55 : Int32)), (.int (56 : Int32)), (.int (57 : Int32))] (.int 0)) (g_o_1 : n0 ≤ o_1) (ne_o0_o_1 : o0 ≠ o_1) (g_o0 : n0 ≤ o0) :
    Con l Z (⟨"java/lang/AbstractStringBuilder", "append", "(I)Ljava/lang/AbstractStringBuilder;"⟩ : MethodName) jdk_68_method_32_code 4 (some (.object "java/lang/AbstractStringBuilder")) ws ({ frames := 1, cells := 0, slots := 0, locals := 18 } : Room) #[(.ref o0), (.int p1)] h0 0 0 (Q16 Z o0 p1 o_1 k_o_1 e0_o_1 e1_o_1 e2_o_1 e3_o_1 e4_o_1 e5_o_1 e6_o_1 e7_o_1 e8_o_1 e9_o_1 e10_o_1 e11_o_1 e12_o_1 e13_o_1 e14_o_1 e15_o_1 s_String_COMPACT_STRINGS s_Integer_DigitOnes k_s_Integer_DigitOnes h0 n0) := by
  refine MetFree.of_bodySF (plainFor_of_name pn_0) hisR ?_
  intro p e s m args below meth c s₁ Bd hml0 hP hK
  obtain ⟨rfl, hZ, hh⟩ := hP
  have hx := Bd.exec
  have hby := Bd.bytes
  have hml : c.maxLocals = 4 := hml0
  have hown : s.vm.findClass "java/lang/AbstractStringBuilder" = some m.cls := findClass_of_methodNamed Bd.named
  have hnm := (name_of_methodNamed Bd.named Bd.method).1
  have X0 : Stand p l e ({ frames := 1, cells := 0, slots := 0, locals := 18 } : Room) s m #[(.ref o0), (.int p1)] below meth c s₁ [] 0 0 := Stand.of_body Bd
  have e0 : s₁.heap = h0 := by rw [← hh, Bd.state]; rfl
  have N0 := Fr.nil n0
  refine Go.of ?_
  refine Go.st (S' := s₁.setTop (mkF m 0 #[.val (.ref o0), .val (.int p1), .unset, .unset] [])) (fun t k => castTop (ef_16 m o0 p1) k) ?_
  refine Go.st (S' := s₁.setTop (mkF m 1 #[.val (.ref o0), .val (.int p1), .unset, .unset] [(.ref o0)])) (fun t k => XS.aloadN X0.here hx rfl (hb hby djdk_68_method_32_code_0) rfl rfl k) ?_
  obtain ⟨T166, X166, e166, st166⟩ := getF X0 hx hZ hown (host := "") (Or.inl (hw _ (List.mem_of_getElem? (i := 57) rfl))) Via.refl e0 F_o0_count (g := (mkF m 1 #[.val (.ref o0), .val (.int p1), .unset, .unset] [(.ref o0)])) rfl rfl (hb hby djdk_68_method_32_code_1)
  refine Go.st (S' := T166.setTop (mkF m 4 #[.val (.ref o0), .val (.int p1), .unset, .unset] [(.int (14 : Int32))])) st166 ?_
  let A167 : Array Slot := #[.val (.ref o0), .val (.int p1), .val (.int (14 : Int32)), .unset]
  refine Go.st (S' := T166.setTop (mkF m 5 A167 [])) (fun t k => XS.istoreN X166.here hx rfl (hb hby djdk_68_method_32_code_4) rfl (l' := A167) rfl k) ?_
  refine Go.st (S' := T166.setTop (mkF m 6 A167 [(.int (14 : Int32))])) (fun t k => XS.iloadN X166.here hx rfl (hb hby djdk_68_method_32_code_5) rfl k) ?_
  refine Go.st (S' := T166.setTop (mkF m 7 A167 [(.int p1), (.int (14 : Int32))])) (fun t k => XS.iloadN X166.here hx rfl (hb hby djdk_68_method_32_code_6) rfl k) ?_
  obtain ⟨r176, T176, L176, X176, hQ176, st176⟩ := own_callS (W := 1) X166 hx hZ e166 hown (y := (⟨"java/lang/Integer", "stringSize", "(I)I"⟩ : MethodName)) (hw _ (List.mem_of_getElem? (i := 93) rfl)) (hw _ (List.mem_of_getElem? (i := 94) rfl)) (hw _ (List.mem_of_getElem? (i := 95) rfl)) (hw _ (List.mem_of_getElem? (i := 96) rfl)) (by decide) (rm12 l Z a0 hw [] p1 h0 n0 Z0 (hra_p1) (hrb_p1)) (by decide) (by decide) (by decide) (by decide) (g := (mkF m 7 A167 [(.int p1), (.int (14 : Int32))])) rfl (by rw [hml]; rfl) (argsL := [(.int p1)]) (rest := [(.int (14 : Int32))]) rfl (lenOf pd_9 rfl) rfl (by show 2 * 0 + _ ≤ _; exact Nat.le_of_eq rfl) (hb hby djdk_68_method_32_code_7)
  obtain ⟨rfl, N176, e176⟩ := hQ176
  have N176_ := Fr.app N0 N176
  refine Go.st (S' := T176.setTop (mkF m 10 A167 [(.int (1 : Int32)), (.int (14 : Int32))])) st176 ?_
  refine Go.op (F := fun z => T176.setTop (mkF m 11 A167 [(.int z)])) (x := ((14 : Int32) + (1 : Int32))) (fun t k => XS.iadd X176.here hx rfl (hb hby djdk_68_method_32_code_10) rfl k) ?_
  intro v177 hv177
  obtain rfl : (15 : Int32) = v177 := (hv177.trans (by decide)).symm
  let A178 : Array Slot := #[.val (.ref o0), .val (.int p1), .val (.int (14 : Int32)), .val (.int (15 : Int32))]
  refine Go.st (S' := T176.setTop (mkF m 12 A178 [])) (fun t k => XS.istoreN X176.here hx rfl (hb hby djdk_68_method_32_code_11) rfl (l' := A178) rfl k) ?_
  refine Go.st (S' := T176.setTop (mkF m 13 A178 [(.ref o0)])) (fun t k => XS.aloadN X176.here hx rfl (hb hby djdk_68_method_32_code_12) rfl rfl k) ?_
  refine Go.st (S' := T176.setTop (mkF m 14 A178 [(.int (15 : Int32)), (.ref o0)])) (fun t k => XS.iloadN X176.here hx rfl (hb hby djdk_68_method_32_code_13) rfl k) ?_
  obtain ⟨r186, T186, L186, X186, hQ186, st186⟩ := own_callV (W := 0) (a := o0) (C := "java/lang/StringBuilder") X176 hx hZ e176 hown (y := (⟨"java/lang/AbstractStringBuilder", "ensureCapacityInternal", "(I)V"⟩ : MethodName)) (z := (⟨"java/lang/AbstractStringBuilder", "ensureCapacityInternal", "(I)V"⟩ : MethodName)) (hw _ (List.mem_of_getElem? (i := 59) rfl)) (own_declares (hw _ (List.mem_of_getElem? (i := 60) rfl)) (hw _ (List.mem_of_getElem? (i := 63) rfl))) (notFace_of_selects (args := #[]) (mvT hZ (hw _ (List.mem_of_getElem? (i := 62) rfl)))) (hw _ (List.mem_of_getElem? (i := 62) rfl)) (hw _ (List.mem_of_getElem? (i := 60) rfl)) (hw _ (List.mem_of_getElem? (i := 16) rfl)) (hw _ (List.mem_of_getElem? (i := 63) rfl)) (by decide) (E_o0) (rm13 l Z a0 hw [] o0 o_1 k_o_1 e0_o_1 e1_o_1 e2_o_1 e3_o_1 e4_o_1 e5_o_1 e6_o_1 e7_o_1 e8_o_1 e9_o_1 e10_o_1 e11_o_1 e12_o_1 e13_o_1 e14_o_1 e15_o_1 h0 n0 Z0 (F_o0_value) (V_o_1) (F_o0_coder)) (by decide) (by decide) (by decide) (by decide) (g := (mkF m 14 A178 [(.int (15 : Int32)), (.ref o0)])) rfl (by rw [hml]; rfl) (argsL := [(.int (15 : Int32))]) (rest := []) rfl (lenOf pd_0 rfl) rfl (by show 2 * 0 + _ ≤ _; exact Nat.le_of_eq rfl) (hb hby djdk_68_method_32_code_14)
  obtain ⟨rfl, N186, e186⟩ := hQ186
  have N186_ := Fr.app N176_ N186
  refine Go.st (S' := T186.setTop (mkF m 17 A178 [])) st186 ?_
  refine Go.st (S' := T186.setTop (mkF m 18 A178 [(.ref o0)])) (fun t k => XS.aloadN X186.here hx rfl (hb hby djdk_68_method_32_code_17) rfl rfl k) ?_
  obtain ⟨r189, T189, L189, X189, hQ189, st189⟩ := own_callV (W := 0) (a := o0) (C := "java/lang/StringBuilder") X186 hx hZ e186 hown (y := (⟨"java/lang/AbstractStringBuilder", "isLatin1", "()Z"⟩ : MethodName)) (z := (⟨"java/lang/AbstractStringBuilder", "isLatin1", "()Z"⟩ : MethodName)) (hw _ (List.mem_of_getElem? (i := 97) rfl)) (hw _ (List.mem_of_getElem? (i := 98) rfl)) (notFace_of_selects (args := #[]) (mvT hZ (hw _ (List.mem_of_getElem? (i := 100) rfl)))) (hw _ (List.mem_of_getElem? (i := 100) rfl)) (hw _ (List.mem_of_getElem? (i := 99) rfl)) (hw _ (List.mem_of_getElem? (i := 16) rfl)) (hw _ (List.mem_of_getElem? (i := 101) rfl)) (by decide) (E_o0) (rm14 l Z a0 hw [] o0 s_String_COMPACT_STRINGS h0 n0 Z0 (S_s_String_COMPACT_STRINGS) (nz_s_String_COMPACT_STRINGS) (F_o0_coder)) (by decide) (by decide) (by decide) (by decide) (g := (mkF m 18 A178 [(.ref o0)])) rfl (by rw [hml]; rfl) (argsL := []) (rest := []) rfl (lenOf pd_10 rfl) rfl (by show 2 * 0 + _ ≤ _; exact Nat.le_of_eq rfl) (hb hby djdk_68_method_32_code_18)
  obtain ⟨rfl, N189, e189⟩ := hQ189
  have N189_ := Fr.app N186_ N189
  refine Go.st (S' := T189.setTop (mkF m 21 A178 [(.int (1 : Int32))])) st189 ?_
  refine Go.st (S' := T189.setTop (mkF m 24 A178 [])) (fun t k => XS.ifNo X189.here hx rfl (hb hby djdk_68_method_32_code_21) rfl ((if0 _ _).trans (feq (by decide : (¬ ((1 : Int32) = (0 : Int32))))).1) k) ?_
  refine Go.st (S' := T189.setTop (mkF m 25 A178 [(.int p1)])) (fun t k => XS.iloadN X189.here hx rfl (hb hby djdk_68_method_32_code_24) rfl k) ?_
  refine Go.st (S' := T189.setTop (mkF m 26 A178 [(.int (15 : Int32)), (.int p1)])) (fun t k => XS.iloadN X189.here hx rfl (hb hby djdk_68_method_32_code_25) rfl k) ?_
  refine Go.st (S' := T189.setTop (mkF m 27 A178 [(.ref o0), (.int (15 : Int32)), (.int p1)])) (fun t k => XS.aloadN X189.here hx rfl (hb hby djdk_68_method_32_code_26) rfl rfl k) ?_
  obtain ⟨T190, X190, e190, st190⟩ := getF X189 hx hZ hown (host := "") (Or.inl (hw _ (List.mem_of_getElem? (i := 24) rfl))) Via.refl e189 F_o0_value (g := (mkF m 27 A178 [(.ref o0), (.int (15 : Int32)), (.int p1)])) rfl rfl (hb hby djdk_68_method_32_code_27)
  refine Go.st (S' := T190.setTop (mkF m 30 A178 [(.ref o_1), (.int (15 : Int32)), (.int p1)])) st190 ?_
  obtain ⟨r254, T254, L254, X254, hQ254, st254⟩ := own_callS (W := 0) X190 hx hZ e190 hown (y := (⟨"java/lang/Integer", "getChars", "(II[B)I"⟩ : MethodName)) (hw _ (List.mem_of_getElem? (i := 102) rfl)) (hw _ (List.mem_of_getElem? (i := 103) rfl)) (hw _ (List.mem_of_getElem? (i := 95) rfl)) (hw _ (List.mem_of_getElem? (i := 104) rfl)) (by decide) (rm15 l Z a0 hw [] p1 o_1 s_Integer_DigitOnes k_s_Integer_DigitOnes k_o_1 e0_o_1 e1_o_1 e2_o_1 e3_o_1 e4_o_1 e5_o_1 e6_o_1 e7_o_1 e8_o_1 e9_o_1 e10_o_1 e11_o_1 e12_o_1 e13_o_1 e14_o_1 e15_o_1 h0 n0 Z0 (hra_p1) (hrb_p1) (S_s_Integer_DigitOnes) (V_s_Integer_DigitOnes) (V_o_1) (g_o_1)) (by decide) (by decide) (by decide) (by decide) (g := (mkF m 30 A178 [(.ref o_1), (.int (15 : Int32)), (.int p1)])) rfl (by rw [hml]; rfl) (argsL := [(.int p1), (.int (15 : Int32)), (.ref o_1)]) (rest := []) rfl (lenOf pd_11 rfl) rfl (by show 2 * 0 + _ ≤ _; exact Nat.le_of_eq rfl) (hb hby djdk_68_method_32_code_30)
  obtain ⟨r255, hc256, rfl, N254, K254_, f257⟩ := hQ254
  have N254_ := Fr.app N189_ N254
  have Z258 : n0 ≤ T254.heap.size := Nat.le_trans Z0 K254_.1
  have K258 : Keep h0 T254.heap [o_1, o0] := (Keep.refl h0 [o_1, o0]).trans K254_ (allS (Or.inl (by simp)) all0)
  refine Go.st (S' := T254.setTop (mkF m 33 A178 [(.int (14 : Int32))])) st254 ?_
  refine Go.st (S' := T254.setTop (mkF m 34 A178 [])) (fun t k => XS.pop X254.here hx rfl (hb hby djdk_68_method_32_code_33) rfl rfl k) ?_
  refine Go.st (S' := T254.setTop (mkF m 48 A178 [])) (fun t k => XS.goto X254.here hx rfl (pc0 := 34) (pc' := 48) rfl (hb hby djdk_68_method_32_code_34) (by decide) (by decide) k) ?_
  refine Go.st (S' := T254.setTop (mkF m 49 A178 [(.ref o0)])) (fun t k => XS.aloadN X254.here hx rfl (hb hby djdk_68_method_32_code_48) rfl rfl k) ?_
  refine Go.st (S' := T254.setTop (mkF m 50 A178 [(.int (15 : Int32)), (.ref o0)])) (fun t k => XS.iloadN X254.here hx rfl (hb hby djdk_68_method_32_code_49) rfl k) ?_
  have f259 := ((E_o0).keep K254_)
  have f260 := ((F_o0_count).keep K254_ (ninS ne_o0_o_1 nin0))
  obtain ⟨T261, h261, X261, e261, W261, st261⟩ := putF X254 hx hZ hown (host := "") (Or.inl (hw _ (List.mem_of_getElem? (i := 57) rfl))) Via.refl rfl f260 f259 (Or.inl (hw _ (List.mem_of_getElem? (i := 58) rfl))) (hw _ (List.mem_of_getElem? (i := 7) rfl)) (ty := .int) (by decide) rfl rfl (g := (mkF m 50 A178 [(.int (15 : Int32)), (.ref o0)])) rfl rfl (hb hby djdk_68_method_32_code_50)
  have Fw261 := (f260).same W261
  have N261 := Fr.snoc X261 N254_ g_o0
  have Z262 : n0 ≤ h261.size := Nat.le_trans Z258 (Keep.of_wr W261).1
  have K262 : Keep h0 h261 [o_1, o0] := K258.wr W261 (Or.inl (by simp))
  refine Go.st (S' := T261.setTop (mkF m 53 A178 [])) st261 ?_
  refine Go.st (S' := T261.setTop (mkF m 54 A178 [(.ref o0)])) (fun t k => XS.aloadN X261.here hx rfl (hb hby djdk_68_method_32_code_53) rfl rfl k) ?_
  have f263 := ((f259).wr W261)
  have f264 := ((((F_o0_value).keep K254_ (ninS ne_o0_o_1 nin0))).other W261 (Or.inr (slot_ne (Or.inl (hw _ (List.mem_of_getElem? (i := 25) rfl))) (Or.inl (hw _ (List.mem_of_getElem? (i := 58) rfl))) (by decide) (t := (.array .byte)) (t' := .int) (by decide) (by decide))))
  have f265 := ((f257).other W261 (Ne.symm ne_o0_o_1))
  have f266 := ((((F_o0_coder).keep K254_ (ninS ne_o0_o_1 nin0))).other W261 (Or.inr (slot_ne (Or.inl (hw _ (List.mem_of_getElem? (i := 27) rfl))) (Or.inl (hw _ (List.mem_of_getElem? (i := 58) rfl))) (by decide) (t := .byte) (t' := .int) (by decide) (by decide))))
  exact Go.ret X261 (v := some (.ref o0)) (fun h => by rw [Bd.returns] at h; cases h) Bd.notSynchronized (fun fs hr => retOut X261 hx Bd.returns rfl (Or.inr (Or.inr (Or.inr (Or.inr ⟨rfl, rfl, rfl⟩)))) (hb hby djdk_68_method_32_code_54) hr) (by decide) (by decide) (by rw [e261]; exact ⟨r255, rfl, N261, K262, Fw261, f263, f264, f265, f266⟩)
theorem ef_17 (m : MethodId) (o0 : Addr) (p1 : Int32) : entryFrame m #[(.ref o0), (.int p1)] 2 = mkF m 0 #[.val (.ref o0), .val (.int p1)] [] := by first | (simp [entryFrame, mkF, argsToLocals, Value.category, maxLocals]; done) | rfl
def Q17 (Z : State) (o0 : Addr) (p1 : Int32) (o_1 : Addr) (k_o_1 : ClassId) (e0_o_1 : Int32) (e1_o_1 : Int32) (e2_o_1 : Int32) (e3_o_1 : Int32) (e4_o_1 : Int32) (e5_o_1 : Int32) (e6_o_1 : Int32) (e7_o_1 : Int32) (e8_o_1 : Int32) (e9_o_1 : Int32) (e10_o_1 : Int32) (e11_o_1 : Int32) (e12_o_1 : Int32) (e13_o_1 : Int32) (e14_o_1 : Int32) (e15_o_1 : Int32) (s_String_COMPACT_STRINGS : Int32) (s_Integer_DigitOnes : Addr) (k_s_Integer_DigitOnes : ClassId) (h0 : Heap) (n0 : Nat) (v : Option Value) (h : Heap) (L : List Loc) : Prop := (∃ (r268 : Int32), v = some (.ref o0) ∧ Fr n0 L ∧ Keep h0 h [o0, o_1] ∧ Fld Z h o0 "java/lang/AbstractStringBuilder" "count" "I" (.int (15 : Int32)) ∧ Exa Z h o0 "java/lang/StringBuilder" ∧ Fld Z h o0 "java/lang/AbstractStringBuilder" "value" "[B" (.ref o_1) ∧ Arv Z h o_1 k_o_1 .byte (16 : Int32) [(.int e0_o_1), (.int e1_o_1), (.int e2_o_1), (.int e3_o_1), (.int e4_o_1), (.int e5_o_1), (.int e6_o_1), (.int e7_o_1), (.int e8_o_1), (.int e9_o_1), (.int e10_o_1), (.int e11_o_1), (.int e12_o_1), (.int e13_o_1), (.int r268), (.int e15_o_1)] (.int (0 : Int32)) ∧ Fld Z h o0 "java/lang/AbstractStringBuilder" "coder" "B" (.int (0 : Int32)) ∧ Exa Z h o_1 "[B")
set_option maxRecDepth 65536 in
set_option maxHeartbeats 40000000 in
theorem rm17 (l : Launch) (Z : State) (a0 : Array Value) (hw : ∀ d ∈ tables_1, d.before a0 Z = true) (ws : List Jvm.Cond) (o0 : Addr) (p1 : Int32) (o_1 : Addr) (k_o_1 : ClassId) (e0_o_1 : Int32) (e1_o_1 : Int32) (e2_o_1 : Int32) (e3_o_1 : Int32) (e4_o_1 : Int32) (e5_o_1 : Int32) (e6_o_1 : Int32) (e7_o_1 : Int32) (e8_o_1 : Int32) (e9_o_1 : Int32) (e10_o_1 : Int32) (e11_o_1 : Int32) (e12_o_1 : Int32) (e13_o_1 : Int32) (e14_o_1 : Int32) (e15_o_1 : Int32) (s_String_COMPACT_STRINGS : Int32) (s_Integer_DigitOnes : Addr) (k_s_Integer_DigitOnes : ClassId) (h0 : Heap) (n0 : Nat) (Z0 : n0 ≤ h0.size) (hra_p1 : (¬ (p1 < (1 : Int32)))) (hrb_p1 : (¬ ((8 : Int32) < p1))) (F_o0_count : Fld Z h0 o0 "java/lang/AbstractStringBuilder" "count" "I" (.int (14 : Int32))) (E_o0 : Exa Z h0 o0 "java/lang/StringBuilder") (F_o0_value : Fld Z h0 o0 "java/lang/AbstractStringBuilder" "value" "[B" (.ref o_1)) (V_o_1 : Arv Z h0 o_1 k_o_1 .byte (16 : Int32) [(.int e0_o_1), (.int e1_o_1), (.int e2_o_1), (.int e3_o_1), (.int e4_o_1), (.int e5_o_1), (.int e6_o_1), (.int e7_o_1), (.int e8_o_1), (.int e9_o_1), (.int e10_o_1), (.int e11_o_1), (.int e12_o_1), (.int e13_o_1), (.int e14_o_1), (.int e15_o_1)] (.int (0 : Int32))) (F_o0_coder : Fld Z h0 o0 "java/lang/AbstractStringBuilder" "coder" "B" (.int (0 : Int32))) (S_s_String_COMPACT_STRINGS : Sta Z h0 "java/lang/String" "COMPACT_STRINGS" "Z" (.int s_String_COMPACT_STRINGS)) (nz_s_String_COMPACT_STRINGS : s_String_COMPACT_STRINGS ≠ 0) (S_s_Integer_DigitOnes : Sta Z h0 "java/lang/Integer" "DigitOnes" "[B" (.ref s_Integer_DigitOnes)) (V_s_Integer_DigitOnes : Arv Z h0 s_Integer_DigitOnes k_s_Integer_DigitOnes .byte (100 : Int32) [(.int (48 : Int32)), (.int (49 : Int32)), (.int (50 : Int32)), (.int (51 : Int32)), (.int (52 : Int32)), (.int (53 : Int32)), (.int (54 : Int32)), (.int (55 : Int32)), (.int (56 : Int32)), (.int (57 : Int32)), (.int (48 : Int32)), (.int (49 : Int32)), (.int (50 : Int32)), (.int (51 : Int32)), (.int (52 : Int32)), (.int (53 : Int32)), (.int (54 : Int32)), (.int (55 : Int32)), (.int (56 : Int32)), (.int (57 : Int32)), (.int (48 : Int32)), (.int (49 : Int32)), (.int (50 : Int32)), (.int (51 : Int32)), (.int (52 : Int32)), (.int (53 : Int32)), (.int (54 : Int32)), (.int (55 : Int32)), (.int (56 : Int32)), (.int (57 : Int32)), (.int (48 : Int32)), (.int (49 : Int32)), (.int (50 : Int32)), (.int (51 : Int32)), (.int (52 : Int32)), (.int (53 : Int32)), (.int (54 : Int32)), (.int (55 : Int32)), (.int (56 : Int32)), (.int (57 : Int32)), (.int (48 : Int32)), (.int (49 : Int32)), (.int (50 : Int32)), (.int (51 : Int32)), (.int (52 : Int32)), (.int (53 : Int32)), (.int (54 : Int32)), (.int (55 : Int32)), (.int (56 : Int32)), (.int (57 : Int32)), (.int (48 : Int32)), (.int (49 : Int32)), (.int (50 : Int32)), (.int (51 : Int32)), (.int (52 : Int32)), (.int (53 : Int32)), (.int (54 : Int32)), (.int (55 : Int32)), (.int (56 : Int32)), (.int (57 : Int32)), (.int (48 : Int32)), (.int (49 : Int32)), (.int (50 : Int32)), (.int (51 : Int32)), (.int (52 : Int32)), (.int (53 : Int32)), (.int (54 : Int32)), (.int (55 : Int32)), (.int (56 : Int32)), (.int (57 : Int32)), (.int (48 : Int32)), (.int (49 : Int32)), (.int (50 : Int32)), (.int (51 : Int32)), (.int (52 : Int32)), (.int (53 : Int32)), (.int (54 : Int32)), (.int (55 : Int32)), (.int (56 : Int32)), (.int (57 : Int32)), (.int (48 : Int32)), (.int (49 : Int32)), (.int (50 : Int32)), (.int (51 : Int32)), (.int (52 : Int32)), (.int (53 : Int32)), (.int (54 : Int32)), (.int (55 : Int32)), (.int (56 : Int32)), (.int (57 : Int32)), (.int (48 : Int32)), (.int (49 : Int32)), (.int (50 : Int32)), (.int (51 : Int32)), (.int (52 : Int32)), (.int (53 : Int32)), (.int (54 : Int32)), (.int (55 : Int32)), (.int (56 : Int32)), (.int (57 : Int32))] (.int 0)) (g_o_1 : n0 ≤ o_1) (ne_o0_o_1 : o0 ≠ o_1) (g_o0 : n0 ≤ o0) (E_o_1 : Exa Z h0 o_1 "[B") :
    Con l Z (⟨"java/lang/StringBuilder", "append", "(I)Ljava/lang/StringBuilder;"⟩ : MethodName) jdk_67_method_15_code 2 (some (.object "java/lang/StringBuilder")) ws ({ frames := 2, cells := 0, slots := 0, locals := 33 } : Room) #[(.ref o0), (.int p1)] h0 0 0 (Q17 Z o0 p1 o_1 k_o_1 e0_o_1 e1_o_1 e2_o_1 e3_o_1 e4_o_1 e5_o_1 e6_o_1 e7_o_1 e8_o_1 e9_o_1 e10_o_1 e11_o_1 e12_o_1 e13_o_1 e14_o_1 e15_o_1 s_String_COMPACT_STRINGS s_Integer_DigitOnes k_s_Integer_DigitOnes h0 n0) := by
  refine MetFree.of_bodySF (plainFor_of_name pn_1) hisR ?_
  intro p e s m args below meth c s₁ Bd hml0 hP hK
  obtain ⟨rfl, hZ, hh⟩ := hP
  have hx := Bd.exec
  have hby := Bd.bytes
  have hml : c.maxLocals = 2 := hml0
  have hown : s.vm.findClass "java/lang/StringBuilder" = some m.cls := findClass_of_methodNamed Bd.named
  have hnm := (name_of_methodNamed Bd.named Bd.method).1
  have X0 : Stand p l e ({ frames := 2, cells := 0, slots := 0, locals := 33 } : Room) s m #[(.ref o0), (.int p1)] below meth c s₁ [] 0 0 := Stand.of_body Bd
  have e0 : s₁.heap = h0 := by rw [← hh, Bd.state]; rfl
  have N0 := Fr.nil n0
  refine Go.of ?_
  refine Go.st (S' := s₁.setTop (mkF m 0 #[.val (.ref o0), .val (.int p1)] [])) (fun t k => castTop (ef_17 m o0 p1) k) ?_
  refine Go.st (S' := s₁.setTop (mkF m 1 #[.val (.ref o0), .val (.int p1)] [(.ref o0)])) (fun t k => XS.aloadN X0.here hx rfl (hb hby djdk_67_method_15_code_0) rfl rfl k) ?_
  refine Go.st (S' := s₁.setTop (mkF m 2 #[.val (.ref o0), .val (.int p1)] [(.int p1), (.ref o0)])) (fun t k => XS.iloadN X0.here hx rfl (hb hby djdk_67_method_15_code_1) rfl k) ?_
  obtain ⟨r267, T267, L267, X267, hQ267, st267⟩ := own_callU (W := 0) (a := o0) X0 hx hZ e0 hown (y := (⟨"java/lang/AbstractStringBuilder", "append", "(I)Ljava/lang/AbstractStringBuilder;"⟩ : MethodName)) (by decide) (E_o0) (hw _ (List.mem_of_getElem? (i := 89) rfl)) (hw _ (List.mem_of_getElem? (i := 90) rfl)) (hw _ (List.mem_of_getElem? (i := 41) rfl)) (hw _ (List.mem_of_getElem? (i := 62) rfl)) rfl (hw _ (List.mem_of_getElem? (i := 16) rfl)) (hw _ (List.mem_of_getElem? (i := 92) rfl)) (by decide) (rm16 l Z a0 hw [] o0 p1 o_1 k_o_1 e0_o_1 e1_o_1 e2_o_1 e3_o_1 e4_o_1 e5_o_1 e6_o_1 e7_o_1 e8_o_1 e9_o_1 e10_o_1 e11_o_1 e12_o_1 e13_o_1 e14_o_1 e15_o_1 s_String_COMPACT_STRINGS s_Integer_DigitOnes k_s_Integer_DigitOnes h0 n0 Z0 (hra_p1) (hrb_p1) (F_o0_count) (E_o0) (F_o0_value) (V_o_1) (F_o0_coder) (S_s_String_COMPACT_STRINGS) (nz_s_String_COMPACT_STRINGS) (S_s_Integer_DigitOnes) (V_s_Integer_DigitOnes) (g_o_1) (ne_o0_o_1) (g_o0)) (by decide) (by decide) (by decide) (by decide) (g := (mkF m 2 #[.val (.ref o0), .val (.int p1)] [(.int p1), (.ref o0)])) rfl (by rw [hml]; rfl) (argsL := [(.int p1)]) (rest := []) rfl (lenOf pd_12 rfl) rfl (by show 2 * 0 + _ ≤ _; exact Nat.le_of_eq rfl) (hb hby djdk_67_method_15_code_2)
  obtain ⟨r268, rfl, N267, K267_, f269, f270, f271, f272, f273⟩ := hQ267
  have N267_ := Fr.app N0 N267
  have Z274 : n0 ≤ T267.heap.size := Nat.le_trans Z0 K267_.1
  have K274 : Keep h0 T267.heap [o0, o_1] := (Keep.refl h0 [o0, o_1]).trans K267_ (allS (Or.inl (by simp)) (allS (Or.inl (by simp)) all0))
  refine Go.st (S' := T267.setTop (mkF m 5 #[.val (.ref o0), .val (.int p1)] [(.ref o0)])) st267 ?_
  refine Go.st (S' := T267.setTop (mkF m 6 #[.val (.ref o0), .val (.int p1)] [])) (fun t k => XS.pop X267.here hx rfl (hb hby djdk_67_method_15_code_5) rfl rfl k) ?_
  refine Go.st (S' := T267.setTop (mkF m 7 #[.val (.ref o0), .val (.int p1)] [(.ref o0)])) (fun t k => XS.aloadN X267.here hx rfl (hb hby djdk_67_method_15_code_6) rfl rfl k) ?_
  have f275 := ((E_o_1).keep K267_)
  exact Go.ret X267 (v := some (.ref o0)) (fun h => by rw [Bd.returns] at h; cases h) Bd.notSynchronized (fun fs hr => retOut X267 hx Bd.returns rfl (Or.inr (Or.inr (Or.inr (Or.inr ⟨rfl, rfl, rfl⟩)))) (hb hby djdk_67_method_15_code_7) hr) (by decide) (by decide) (⟨r268, rfl, N267_, K274, f269, f270, f271, f272, f273, f275⟩)
theorem ef_18 (m : MethodId) (o0 : Addr) : entryFrame m #[(.ref o0)] 1 = mkF m 0 #[.val (.ref o0)] [] := by first | (simp [entryFrame, mkF, argsToLocals, Value.category, maxLocals]; done) | rfl
def Q18 (Z : State) (o0 : Addr) (o_1 : Addr) (h0 : Heap) (n0 : Nat) (v : Option Value) (h : Heap) (L : List Loc) : Prop := (v = some (.ref o_1) ∧ Fr n0 L ∧ h = h0)
set_option maxRecDepth 65536 in
set_option maxHeartbeats 40000000 in
theorem rm18 (l : Launch) (Z : State) (a0 : Array Value) (hw : ∀ d ∈ tables_1, d.before a0 Z = true) (ws : List Jvm.Cond) (o0 : Addr) (o_1 : Addr) (h0 : Heap) (n0 : Nat) (Z0 : n0 ≤ h0.size) (F_o0_value : Fld Z h0 o0 "java/lang/AbstractStringBuilder" "value" "[B" (.ref o_1)) :
    Con l Z (⟨"java/lang/AbstractStringBuilder", "getValue", "()[B"⟩ : MethodName) jdk_68_method_64_code 1 (some (.array .byte)) ws ({ frames := 0, cells := 0, slots := 0, locals := 0 } : Room) #[(.ref o0)] h0 0 0 (Q18 Z o0 o_1 h0 n0) := by
  refine MetFree.of_bodySF (plainFor_of_name pn_0) hisR ?_
  intro p e s m args below meth c s₁ Bd hml0 hP hK
  obtain ⟨rfl, hZ, hh⟩ := hP
  have hx := Bd.exec
  have hby := Bd.bytes
  have hml : c.maxLocals = 1 := hml0
  have hown : s.vm.findClass "java/lang/AbstractStringBuilder" = some m.cls := findClass_of_methodNamed Bd.named
  have hnm := (name_of_methodNamed Bd.named Bd.method).1
  have X0 : Stand p l e ({ frames := 0, cells := 0, slots := 0, locals := 0 } : Room) s m #[(.ref o0)] below meth c s₁ [] 0 0 := Stand.of_body Bd
  have e0 : s₁.heap = h0 := by rw [← hh, Bd.state]; rfl
  have N0 := Fr.nil n0
  refine Go.of ?_
  refine Go.st (S' := s₁.setTop (mkF m 0 #[.val (.ref o0)] [])) (fun t k => castTop (ef_18 m o0) k) ?_
  refine Go.st (S' := s₁.setTop (mkF m 1 #[.val (.ref o0)] [(.ref o0)])) (fun t k => XS.aloadN X0.here hx rfl (hb hby djdk_68_method_64_code_0) rfl rfl k) ?_
  obtain ⟨T293, X293, e293, st293⟩ := getF X0 hx hZ hown (host := "") (Or.inl (hw _ (List.mem_of_getElem? (i := 24) rfl))) Via.refl e0 F_o0_value (g := (mkF m 1 #[.val (.ref o0)] [(.ref o0)])) rfl rfl (hb hby djdk_68_method_64_code_1)
  refine Go.st (S' := T293.setTop (mkF m 4 #[.val (.ref o0)] [(.ref o_1)])) st293 ?_
  exact Go.ret X293 (v := some (.ref o_1)) (fun h => by rw [Bd.returns] at h; cases h) Bd.notSynchronized (fun fs hr => retOut X293 hx Bd.returns rfl (Or.inr (Or.inr (Or.inr (Or.inr ⟨rfl, rfl, rfl⟩)))) (hb hby djdk_68_method_64_code_4) hr) (by decide) (by decide) (⟨rfl, N0, (e293)⟩)
theorem ef_19 (m : MethodId) (o0 : Addr) : entryFrame m #[(.ref o0)] 1 = mkF m 0 #[.val (.ref o0)] [] := by first | (simp [entryFrame, mkF, argsToLocals, Value.category, maxLocals]; done) | rfl
def Q19 (Z : State) (o0 : Addr) (h0 : Heap) (n0 : Nat) (v : Option Value) (h : Heap) (L : List Loc) : Prop := (v = some (.int (15 : Int32)) ∧ Fr n0 L ∧ h = h0)
set_option maxRecDepth 65536 in
set_option maxHeartbeats 40000000 in
theorem rm19 (l : Launch) (Z : State) (a0 : Array Value) (hw : ∀ d ∈ tables_1, d.before a0 Z = true) (ws : List Jvm.Cond) (o0 : Addr) (h0 : Heap) (n0 : Nat) (Z0 : n0 ≤ h0.size) (F_o0_count : Fld Z h0 o0 "java/lang/AbstractStringBuilder" "count" "I" (.int (15 : Int32))) :
    Con l Z (⟨"java/lang/AbstractStringBuilder", "length", "()I"⟩ : MethodName) jdk_68_method_6_code 1 (some .int) ws ({ frames := 0, cells := 0, slots := 0, locals := 0 } : Room) #[(.ref o0)] h0 0 0 (Q19 Z o0 h0 n0) := by
  refine MetFree.of_bodySF (plainFor_of_name pn_0) hisR ?_
  intro p e s m args below meth c s₁ Bd hml0 hP hK
  obtain ⟨rfl, hZ, hh⟩ := hP
  have hx := Bd.exec
  have hby := Bd.bytes
  have hml : c.maxLocals = 1 := hml0
  have hown : s.vm.findClass "java/lang/AbstractStringBuilder" = some m.cls := findClass_of_methodNamed Bd.named
  have hnm := (name_of_methodNamed Bd.named Bd.method).1
  have X0 : Stand p l e ({ frames := 0, cells := 0, slots := 0, locals := 0 } : Room) s m #[(.ref o0)] below meth c s₁ [] 0 0 := Stand.of_body Bd
  have e0 : s₁.heap = h0 := by rw [← hh, Bd.state]; rfl
  have N0 := Fr.nil n0
  refine Go.of ?_
  refine Go.st (S' := s₁.setTop (mkF m 0 #[.val (.ref o0)] [])) (fun t k => castTop (ef_19 m o0) k) ?_
  refine Go.st (S' := s₁.setTop (mkF m 1 #[.val (.ref o0)] [(.ref o0)])) (fun t k => XS.aloadN X0.here hx rfl (hb hby djdk_68_method_6_code_0) rfl rfl k) ?_
  obtain ⟨T297, X297, e297, st297⟩ := getF X0 hx hZ hown (host := "") (Or.inl (hw _ (List.mem_of_getElem? (i := 57) rfl))) Via.refl e0 F_o0_count (g := (mkF m 1 #[.val (.ref o0)] [(.ref o0)])) rfl rfl (hb hby djdk_68_method_6_code_1)
  refine Go.st (S' := T297.setTop (mkF m 4 #[.val (.ref o0)] [(.int (15 : Int32))])) st297 ?_
  exact Go.ret X297 (v := some (.int (15 : Int32))) (fun h => by rw [Bd.returns] at h; cases h) Bd.notSynchronized (fun fs hr => retI X297 hx Bd.returns (hb hby djdk_68_method_6_code_4) hr) (by decide) (by decide) (⟨rfl, N0, (e297)⟩)
theorem ef_20 (m : MethodId) (o0 : Addr) : entryFrame m #[(.ref o0)] 1 = mkF m 0 #[.val (.ref o0)] [] := by first | (simp [entryFrame, mkF, argsToLocals, Value.category, maxLocals]; done) | rfl
def Q20 (Z : State) (o0 : Addr) (h0 : Heap) (n0 : Nat) (v : Option Value) (h : Heap) (L : List Loc) : Prop := (v = some (.int (15 : Int32)) ∧ Fr n0 L ∧ h = h0)
set_option maxRecDepth 65536 in
set_option maxHeartbeats 40000000 in
theorem rm20 (l : Launch) (Z : State) (a0 : Array Value) (hw : ∀ d ∈ tables_1, d.before a0 Z = true) (ws : List Jvm.Cond) (o0 : Addr) (h0 : Heap) (n0 : Nat) (Z0 : n0 ≤ h0.size) (F_o0_count : Fld Z h0 o0 "java/lang/AbstractStringBuilder" "count" "I" (.int (15 : Int32))) (E_o0 : Exa Z h0 o0 "java/lang/StringBuilder") :
    Con l Z (⟨"java/lang/StringBuilder", "length", "()I"⟩ : MethodName) jdk_67_method_93_code 1 (some .int) ws ({ frames := 1, cells := 0, slots := 0, locals := 12 } : Room) #[(.ref o0)] h0 0 0 (Q20 Z o0 h0 n0) := by
  refine MetFree.of_bodySF (plainFor_of_name pn_1) hisR ?_
  intro p e s m args below meth c s₁ Bd hml0 hP hK
  obtain ⟨rfl, hZ, hh⟩ := hP
  have hx := Bd.exec
  have hby := Bd.bytes
  have hml : c.maxLocals = 1 := hml0
  have hown : s.vm.findClass "java/lang/StringBuilder" = some m.cls := findClass_of_methodNamed Bd.named
  have hnm := (name_of_methodNamed Bd.named Bd.method).1
  have X0 : Stand p l e ({ frames := 1, cells := 0, slots := 0, locals := 12 } : Room) s m #[(.ref o0)] below meth c s₁ [] 0 0 := Stand.of_body Bd
  have e0 : s₁.heap = h0 := by rw [← hh, Bd.state]; rfl
  have N0 := Fr.nil n0
  refine Go.of ?_
  refine Go.st (S' := s₁.setTop (mkF m 0 #[.val (.ref o0)] [])) (fun t k => castTop (ef_20 m o0) k) ?_
  refine Go.st (S' := s₁.setTop (mkF m 1 #[.val (.ref o0)] [(.ref o0)])) (fun t k => XS.aloadN X0.here hx rfl (hb hby djdk_67_method_93_code_0) rfl rfl k) ?_
  obtain ⟨r298, T298, L298, X298, hQ298, st298⟩ := own_callU (W := 0) (a := o0) X0 hx hZ e0 hown (y := (⟨"java/lang/AbstractStringBuilder", "length", "()I"⟩ : MethodName)) (by decide) (E_o0) (hw _ (List.mem_of_getElem? (i := 131) rfl)) (hw _ (List.mem_of_getElem? (i := 127) rfl)) (hw _ (List.mem_of_getElem? (i := 41) rfl)) (hw _ (List.mem_of_getElem? (i := 62) rfl)) rfl (hw _ (List.mem_of_getElem? (i := 16) rfl)) (hw _ (List.mem_of_getElem? (i := 132) rfl)) (by decide) (rm19 l Z a0 hw [] o0 h0 n0 Z0 (F_o0_count)) (by decide) (by decide) (by decide) (by decide) (g := (mkF m 1 #[.val (.ref o0)] [(.ref o0)])) rfl (by rw [hml]; rfl) (argsL := []) (rest := []) rfl (lenOf pd_3 rfl) rfl (by show 2 * 0 + _ ≤ _; exact Nat.le_of_eq rfl) (hb hby djdk_67_method_93_code_1)
  obtain ⟨rfl, N298, e298⟩ := hQ298
  have N298_ := Fr.app N0 N298
  refine Go.st (S' := T298.setTop (mkF m 4 #[.val (.ref o0)] [(.int (15 : Int32))])) st298 ?_
  exact Go.ret X298 (v := some (.int (15 : Int32))) (fun h => by rw [Bd.returns] at h; cases h) Bd.notSynchronized (fun fs hr => retI X298 hx Bd.returns (hb hby djdk_67_method_93_code_4) hr) (by decide) (by decide) (⟨rfl, N298_, (e298)⟩)
theorem ef_21 (m : MethodId)  : entryFrame m #[(.int (0 : Int32)), (.int (15 : Int32))] 2 = mkF m 0 #[.val (.int (0 : Int32)), .val (.int (15 : Int32))] [] := by first | (simp [entryFrame, mkF, argsToLocals, Value.category, maxLocals]; done) | rfl
def Q21 (Z : State)  (h0 : Heap) (n0 : Nat) (v : Option Value) (h : Heap) (L : List Loc) : Prop := (v = none ∧ Fr n0 L ∧ h = h0)
set_option maxRecDepth 65536 in
set_option maxHeartbeats 40000000 in
theorem rm21 (l : Launch) (Z : State) (a0 : Array Value) (hw : ∀ d ∈ tables_1, d.before a0 Z = true) (ws : List Jvm.Cond)  (h0 : Heap) (n0 : Nat) (Z0 : n0 ≤ h0.size)  :
    Con l Z (⟨"java/util/Arrays", "checkLength", "(II)V"⟩ : MethodName) jdk_65_method_131_code 2 none ws ({ frames := 0, cells := 0, slots := 0, locals := 0 } : Room) #[(.int (0 : Int32)), (.int (15 : Int32))] h0 0 0 (Q21 Z  h0 n0) := by
  refine MetFree.of_bodySF (plainFor_of_name pn_4) hisR ?_
  intro p e s m args below meth c s₁ Bd hml0 hP hK
  obtain ⟨rfl, hZ, hh⟩ := hP
  have hx := Bd.exec
  have hby := Bd.bytes
  have hml : c.maxLocals = 2 := hml0
  have hown : s.vm.findClass "java/util/Arrays" = some m.cls := findClass_of_methodNamed Bd.named
  have hnm := (name_of_methodNamed Bd.named Bd.method).1
  have X0 : Stand p l e ({ frames := 0, cells := 0, slots := 0, locals := 0 } : Room) s m #[(.int (0 : Int32)), (.int (15 : Int32))] below meth c s₁ [] 0 0 := Stand.of_body Bd
  have e0 : s₁.heap = h0 := by rw [← hh, Bd.state]; rfl
  have N0 := Fr.nil n0
  refine Go.of ?_
  refine Go.st (S' := s₁.setTop (mkF m 0 #[.val (.int (0 : Int32)), .val (.int (15 : Int32))] [])) (fun t k => castTop (ef_21 m ) k) ?_
  refine Go.st (S' := s₁.setTop (mkF m 1 #[.val (.int (0 : Int32)), .val (.int (15 : Int32))] [(.int (15 : Int32))])) (fun t k => XS.iloadN X0.here hx rfl (hb hby djdk_65_method_131_code_0) rfl k) ?_
  refine Go.st (S' := s₁.setTop (mkF m 2 #[.val (.int (0 : Int32)), .val (.int (15 : Int32))] [(.int (0 : Int32)), (.int (15 : Int32))])) (fun t k => XS.iloadN X0.here hx rfl (hb hby djdk_65_method_131_code_1) rfl k) ?_
  refine Go.st (S' := s₁.setTop (mkF m 37 #[.val (.int (0 : Int32)), .val (.int (15 : Int32))] [])) (fun t k => XS.icmpYes X0.here hx rfl (pc0 := 2) (pc' := 37) rfl (hb hby djdk_65_method_131_code_2) rfl (flt (by decide : (¬ ((15 : Int32) < (0 : Int32))))).2.1 (by decide) (by decide) k) ?_
  exact Go.ret X0 (v := none) (fun _ => rfl) Bd.notSynchronized (fun fs hr => X0.returnOut hx Bd.returns (hb hby djdk_65_method_131_code_37) hr) (by decide) (by decide) (⟨rfl, N0, (e0)⟩)
theorem ef_22 (m : MethodId)  : entryFrame m #[(.int (16 : Int32)), (.int (15 : Int32))] 2 = mkF m 0 #[.val (.int (16 : Int32)), .val (.int (15 : Int32))] [] := by first | (simp [entryFrame, mkF, argsToLocals, Value.category, maxLocals]; done) | rfl
def Q22 (Z : State)  (h0 : Heap) (n0 : Nat) (v : Option Value) (h : Heap) (L : List Loc) : Prop := (v = some (.int (15 : Int32)) ∧ Fr n0 L ∧ h = h0)
set_option maxRecDepth 65536 in
set_option maxHeartbeats 40000000 in
theorem rm22 (l : Launch) (Z : State) (a0 : Array Value) (hw : ∀ d ∈ tables_1, d.before a0 Z = true) (ws : List Jvm.Cond)  (h0 : Heap) (n0 : Nat) (Z0 : n0 ≤ h0.size)  :
    Con l Z (⟨"java/lang/Math", "min", "(II)I"⟩ : MethodName) jdk_29_method_69_code 2 (some .int) ws ({ frames := 0, cells := 0, slots := 0, locals := 0 } : Room) #[(.int (16 : Int32)), (.int (15 : Int32))] h0 0 0 (Q22 Z  h0 n0) := by
  refine MetFree.of_bodySF (Jvm.Free.JP.mathPlain rfl (by decide +kernel)) hisR ?_
  intro p e s m args below meth c s₁ Bd hml0 hP hK
  obtain ⟨rfl, hZ, hh⟩ := hP
  have hx := Bd.exec
  have hby := Bd.bytes
  have hml : c.maxLocals = 2 := hml0
  have hown : s.vm.findClass "java/lang/Math" = some m.cls := findClass_of_methodNamed Bd.named
  have hnm := (name_of_methodNamed Bd.named Bd.method).1
  have X0 : Stand p l e ({ frames := 0, cells := 0, slots := 0, locals := 0 } : Room) s m #[(.int (16 : Int32)), (.int (15 : Int32))] below meth c s₁ [] 0 0 := Stand.of_body Bd
  have e0 : s₁.heap = h0 := by rw [← hh, Bd.state]; rfl
  have N0 := Fr.nil n0
  refine Go.of ?_
  refine Go.st (S' := s₁.setTop (mkF m 0 #[.val (.int (16 : Int32)), .val (.int (15 : Int32))] [])) (fun t k => castTop (ef_22 m ) k) ?_
  refine Go.st (S' := s₁.setTop (mkF m 1 #[.val (.int (16 : Int32)), .val (.int (15 : Int32))] [(.int (16 : Int32))])) (fun t k => XS.iloadN X0.here hx rfl (hb hby djdk_29_method_69_code_0) rfl k) ?_
  refine Go.st (S' := s₁.setTop (mkF m 2 #[.val (.int (16 : Int32)), .val (.int (15 : Int32))] [(.int (15 : Int32)), (.int (16 : Int32))])) (fun t k => XS.iloadN X0.here hx rfl (hb hby djdk_29_method_69_code_1) rfl k) ?_
  refine Go.st (S' := s₁.setTop (mkF m 9 #[.val (.int (16 : Int32)), .val (.int (15 : Int32))] [])) (fun t k => XS.icmpYes X0.here hx rfl (pc0 := 2) (pc' := 9) rfl (hb hby djdk_29_method_69_code_2) rfl (tlt (by decide : ((15 : Int32) < (16 : Int32)))).2.2.1 (by decide) (by decide) k) ?_
  refine Go.st (S' := s₁.setTop (mkF m 10 #[.val (.int (16 : Int32)), .val (.int (15 : Int32))] [(.int (15 : Int32))])) (fun t k => XS.iloadN X0.here hx rfl (hb hby djdk_29_method_69_code_9) rfl k) ?_
  exact Go.ret X0 (v := some (.int (15 : Int32))) (fun h => by rw [Bd.returns] at h; cases h) Bd.notSynchronized (fun fs hr => retI X0 hx Bd.returns (hb hby djdk_29_method_69_code_10) hr) (by decide) (by decide) (⟨rfl, N0, (e0)⟩)
theorem ef_23 (m : MethodId) (o0 : Addr) : entryFrame m #[(.ref o0), (.int (0 : Int32)), (.int (15 : Int32))] 5 = mkF m 0 #[.val (.ref o0), .val (.int (0 : Int32)), .val (.int (15 : Int32)), .unset, .unset] [] := by first | (simp [entryFrame, mkF, argsToLocals, Value.category, maxLocals]; done) | rfl
def Q23 (Z : State) (o0 : Addr) (k_o0 : ClassId) (e0_o0 : Int32) (e1_o0 : Int32) (e2_o0 : Int32) (e3_o0 : Int32) (e4_o0 : Int32) (e5_o0 : Int32) (e6_o0 : Int32) (e7_o0 : Int32) (e8_o0 : Int32) (e9_o0 : Int32) (e10_o0 : Int32) (e11_o0 : Int32) (e12_o0 : Int32) (e13_o0 : Int32) (e14_o0 : Int32) (e15_o0 : Int32) (h0 : Heap) (n0 : Nat) (v : Option Value) (h : Heap) (L : List Loc) : Prop := (∃ (b314 : Addr) (k314 : ClassId), v = some (.ref b314) ∧ Fr n0 L ∧ Keep h0 h [] ∧ h0.size ≤ b314 ∧ Arv Z h b314 k314 .byte (15 : Int32) [(.int e0_o0), (.int e1_o0), (.int e2_o0), (.int e3_o0), (.int e4_o0), (.int e5_o0), (.int e6_o0), (.int e7_o0), (.int e8_o0), (.int e9_o0), (.int e10_o0), (.int e11_o0), (.int e12_o0), (.int e13_o0), (.int e14_o0)] (.int (0 : Int32)) ∧ Exa Z h b314 "[B")
set_option maxRecDepth 65536 in
set_option maxHeartbeats 40000000 in
theorem rm23 (l : Launch) (Z : State) (a0 : Array Value) (hw : ∀ d ∈ tables_1, d.before a0 Z = true) (ws : List Jvm.Cond) (o0 : Addr) (k_o0 : ClassId) (e0_o0 : Int32) (e1_o0 : Int32) (e2_o0 : Int32) (e3_o0 : Int32) (e4_o0 : Int32) (e5_o0 : Int32) (e6_o0 : Int32) (e7_o0 : Int32) (e8_o0 : Int32) (e9_o0 : Int32) (e10_o0 : Int32) (e11_o0 : Int32) (e12_o0 : Int32) (e13_o0 : Int32) (e14_o0 : Int32) (e15_o0 : Int32) (h0 : Heap) (n0 : Nat) (Z0 : n0 ≤ h0.size) (V_o0 : Arv Z h0 o0 k_o0 .byte (16 : Int32) [(.int e0_o0), (.int e1_o0), (.int e2_o0), (.int e3_o0), (.int e4_o0), (.int e5_o0), (.int e6_o0), (.int e7_o0), (.int e8_o0), (.int e9_o0), (.int e10_o0), (.int e11_o0), (.int e12_o0), (.int e13_o0), (.int e14_o0), (.int e15_o0)] (.int (0 : Int32))) :
    Con l Z (⟨"java/util/Arrays", "copyOfRangeByte", "([BII)[B"⟩ : MethodName) jdk_65_method_133_code 5 (some (.array .byte)) ws ({ frames := 1, cells := 1, slots := 15, locals := 40 } : Room) #[(.ref o0), (.int (0 : Int32)), (.int (15 : Int32))] h0 1 15 (Q23 Z o0 k_o0 e0_o0 e1_o0 e2_o0 e3_o0 e4_o0 e5_o0 e6_o0 e7_o0 e8_o0 e9_o0 e10_o0 e11_o0 e12_o0 e13_o0 e14_o0 e15_o0 h0 n0) := by
  refine MetFree.of_bodySF (plainFor_of_name pn_4) hisR ?_
  intro p e s m args below meth c s₁ Bd hml0 hP hK
  obtain ⟨rfl, hZ, hh⟩ := hP
  have hx := Bd.exec
  have hby := Bd.bytes
  have hml : c.maxLocals = 5 := hml0
  have hown : s.vm.findClass "java/util/Arrays" = some m.cls := findClass_of_methodNamed Bd.named
  have hnm := (name_of_methodNamed Bd.named Bd.method).1
  have X0 : Stand p l e ({ frames := 1, cells := 1, slots := 15, locals := 40 } : Room) s m #[(.ref o0), (.int (0 : Int32)), (.int (15 : Int32))] below meth c s₁ [] 0 0 := Stand.of_body Bd
  have e0 : s₁.heap = h0 := by rw [← hh, Bd.state]; rfl
  have N0 := Fr.nil n0
  refine Go.of ?_
  refine Go.st (S' := s₁.setTop (mkF m 0 #[.val (.ref o0), .val (.int (0 : Int32)), .val (.int (15 : Int32)), .unset, .unset] [])) (fun t k => castTop (ef_23 m o0) k) ?_
  let A310 : Array Slot := #[.val (.ref o0), .val (.int (0 : Int32)), .val (.int (15 : Int32)), .unset, .unset]
  refine Go.st (S' := s₁.setTop (mkF m 1 A310 [(.int (0 : Int32))])) (fun t k => XS.iloadN X0.here hx rfl (hb hby djdk_65_method_133_code_0) rfl k) ?_
  refine Go.st (S' := s₁.setTop (mkF m 2 A310 [(.int (15 : Int32)), (.int (0 : Int32))])) (fun t k => XS.iloadN X0.here hx rfl (hb hby djdk_65_method_133_code_1) rfl k) ?_
  obtain ⟨r311, T311, L311, X311, hQ311, st311⟩ := own_callS (W := 0) X0 hx hZ e0 hown (y := (⟨"java/util/Arrays", "checkLength", "(II)V"⟩ : MethodName)) (hw _ (List.mem_of_getElem? (i := 141) rfl)) (hw _ (List.mem_of_getElem? (i := 142) rfl)) (hw _ (List.mem_of_getElem? (i := 136) rfl)) (hw _ (List.mem_of_getElem? (i := 143) rfl)) (by decide) (rm21 l Z a0 hw []  h0 n0 Z0 ) (by decide) (by decide) (by decide) (by decide) (g := (mkF m 2 A310 [(.int (15 : Int32)), (.int (0 : Int32))])) rfl (by rw [hml]; rfl) (argsL := [(.int (0 : Int32)), (.int (15 : Int32))]) (rest := []) rfl (lenOf pd_15 rfl) rfl (by show 2 * 0 + _ ≤ _; exact Nat.le_of_eq rfl) (hb hby djdk_65_method_133_code_2)
  obtain ⟨rfl, N311, e311⟩ := hQ311
  have N311_ := Fr.app N0 N311
  refine Go.st (S' := T311.setTop (mkF m 5 A310 [])) st311 ?_
  refine Go.st (S' := T311.setTop (mkF m 6 A310 [(.int (15 : Int32))])) (fun t k => XS.iloadN X311.here hx rfl (hb hby djdk_65_method_133_code_5) rfl k) ?_
  refine Go.st (S' := T311.setTop (mkF m 7 A310 [(.int (0 : Int32)), (.int (15 : Int32))])) (fun t k => XS.iloadN X311.here hx rfl (hb hby djdk_65_method_133_code_6) rfl k) ?_
  refine Go.op (F := fun z => T311.setTop (mkF m 8 A310 [(.int z)])) (x := ((15 : Int32) - (0 : Int32))) (fun t k => XS.isub X311.here hx rfl (hb hby djdk_65_method_133_code_7) rfl k) ?_
  intro v312 hv312
  obtain rfl : (15 : Int32) = v312 := (hv312.trans (by decide)).symm
  let A313 : Array Slot := #[.val (.ref o0), .val (.int (0 : Int32)), .val (.int (15 : Int32)), .val (.int (15 : Int32)), .unset]
  refine Go.st (S' := T311.setTop (mkF m 9 A313 [])) (fun t k => XS.istoreN X311.here hx rfl (hb hby djdk_65_method_133_code_8) rfl (l' := A313) rfl k) ?_
  refine Go.st (S' := T311.setTop (mkF m 10 A313 [(.int (15 : Int32))])) (fun t k => XS.iloadN X311.here hx rfl (hb hby djdk_65_method_133_code_9) rfl k) ?_
  obtain ⟨T314, h314, k314, X314, e314, E314, A314, B314, st314⟩ := newPE X311 hx hZ (hw _ (List.mem_of_getElem? (i := 23) rfl)) e311 (g := (mkF m 10 A313 [(.int (15 : Int32))])) rfl (hb hby djdk_65_method_133_code_10) rfl (by decide) (cap := 15) (by decide) (by decide) (by decide) (by decide) (ad := "[B") (by decide)
  obtain ⟨b314, gg314⟩ : ∃ z, z = h0.size := ⟨_, rfl⟩
  rw [← gg314] at A314 B314 st314
  have g_b314 : n0 ≤ b314 := Nat.le_trans Z0 (Nat.le_of_eq gg314.symm)
  have sz_b314 : h0.size ≤ b314 := Nat.le_trans (Keep.refl h0 []).1 (Nat.le_of_eq gg314.symm)
  have Z315 : n0 ≤ h314.size := Nat.le_trans Z0 E314.1
  have K315 : Keep h0 h314 [] := (Keep.refl h0 []).ext E314
  have V314 : Arv Z h314 b314 k314 .byte (15 : Int32) [(.int (0 : Int32)), (.int (0 : Int32)), (.int (0 : Int32)), (.int (0 : Int32)), (.int (0 : Int32)), (.int (0 : Int32)), (.int (0 : Int32)), (.int (0 : Int32)), (.int (0 : Int32)), (.int (0 : Int32)), (.int (0 : Int32)), (.int (0 : Int32)), (.int (0 : Int32)), (.int (0 : Int32)), (.int (0 : Int32))] (.int (0 : Int32)) := (Arv.new A314 (by decide)).pad (pad_rep [] (.int (0 : Int32)) 15)
  refine Go.st (S' := T314.setTop (mkF m 12 A313 [(.ref b314)])) st314 ?_
  let A316 : Array Slot := #[.val (.ref o0), .val (.int (0 : Int32)), .val (.int (15 : Int32)), .val (.int (15 : Int32)), .val (.ref b314)]
  refine Go.st (S' := T314.setTop (mkF m 14 A316 [])) (fun t k => XS.astore X314.here hx rfl (hb hby djdk_65_method_133_code_12) rfl rfl (l' := A316) rfl k) ?_
  refine Go.st (S' := T314.setTop (mkF m 15 A316 [(.ref o0)])) (fun t k => XS.aloadN X314.here hx rfl (hb hby djdk_65_method_133_code_14) rfl rfl k) ?_
  refine Go.st (S' := T314.setTop (mkF m 16 A316 [(.int (0 : Int32)), (.ref o0)])) (fun t k => XS.iloadN X314.here hx rfl (hb hby djdk_65_method_133_code_15) rfl k) ?_
  refine Go.st (S' := T314.setTop (mkF m 18 A316 [(.ref b314), (.int (0 : Int32)), (.ref o0)])) (fun t k => XS.aload X314.here hx rfl (hb hby djdk_65_method_133_code_16) rfl rfl k) ?_
  refine Go.st (S' := T314.setTop (mkF m 19 A316 [(.int (0 : Int32)), (.ref b314), (.int (0 : Int32)), (.ref o0)])) (fun t k => XS.iconst X314.here hx rfl (hb hby djdk_65_method_133_code_18) k) ?_
  refine Go.st (S' := T314.setTop (mkF m 20 A316 [(.ref o0), (.int (0 : Int32)), (.ref b314), (.int (0 : Int32)), (.ref o0)])) (fun t k => XS.aloadN X314.here hx rfl (hb hby djdk_65_method_133_code_19) rfl rfl k) ?_
  have f317 := ((V_o0).ext E314)
  obtain ⟨cl318, Ar318, -, S318, N318_, -, -⟩ := id f317
  refine Go.op (F := fun z => T314.setTop (mkF m 21 A316 [(.int z), (.int (0 : Int32)), (.ref b314), (.int (0 : Int32)), (.ref o0)])) (x := cl318.slots.size.toInt32) (fun t k => X314.arraylength hx (own_eh e314 Ar318.1) (State.isArrayOf_alike hZ.alike Ar318.2.1) (g := (mkF m 20 A316 [(.ref o0), (.int (0 : Int32)), (.ref b314), (.int (0 : Int32)), (.ref o0)])) rfl rfl (hb hby djdk_65_method_133_code_20) t k) ?_
  intro v319 hv319
  obtain rfl : (16 : Int32) = v319 := (hv319.trans (len_of S318 N318_)).symm
  refine Go.st (S' := T314.setTop (mkF m 22 A316 [(.int (0 : Int32)), (.int (16 : Int32)), (.int (0 : Int32)), (.ref b314), (.int (0 : Int32)), (.ref o0)])) (fun t k => XS.iloadN X314.here hx rfl (hb hby djdk_65_method_133_code_21) rfl k) ?_
  refine Go.op (F := fun z => T314.setTop (mkF m 23 A316 [(.int z), (.int (0 : Int32)), (.ref b314), (.int (0 : Int32)), (.ref o0)])) (x := ((16 : Int32) - (0 : Int32))) (fun t k => XS.isub X314.here hx rfl (hb hby djdk_65_method_133_code_22) rfl k) ?_
  intro v320 hv320
  obtain rfl : (16 : Int32) = v320 := (hv320.trans (by decide)).symm
  refine Go.st (S' := T314.setTop (mkF m 24 A316 [(.int (15 : Int32)), (.int (16 : Int32)), (.int (0 : Int32)), (.ref b314), (.int (0 : Int32)), (.ref o0)])) (fun t k => XS.iloadN X314.here hx rfl (hb hby djdk_65_method_133_code_23) rfl k) ?_
  obtain ⟨r321, T321, L321, X321, hQ321, st321⟩ := own_callS (W := 4) X314 hx hZ e314 hown (y := (⟨"java/lang/Math", "min", "(II)I"⟩ : MethodName)) (hw _ (List.mem_of_getElem? (i := 144) rfl)) (hw _ (List.mem_of_getElem? (i := 145) rfl)) (hw _ (List.mem_of_getElem? (i := 146) rfl)) (hw _ (List.mem_of_getElem? (i := 147) rfl)) (by decide) (rm22 l Z a0 hw []  h314 n0 Z315 ) (by decide) (by decide) (by decide) (by decide) (g := (mkF m 24 A316 [(.int (15 : Int32)), (.int (16 : Int32)), (.int (0 : Int32)), (.ref b314), (.int (0 : Int32)), (.ref o0)])) rfl (by rw [hml]; rfl) (argsL := [(.int (16 : Int32)), (.int (15 : Int32))]) (rest := [(.int (0 : Int32)), (.ref b314), (.int (0 : Int32)), (.ref o0)]) rfl (lenOf pd_16 rfl) rfl (by show 2 * 0 + _ ≤ _; exact Nat.le_of_eq rfl) (hb hby djdk_65_method_133_code_24)
  obtain ⟨rfl, N321, e321⟩ := hQ321
  have N321_ := Fr.app N311_ N321
  refine Go.st (S' := T321.setTop (mkF m 27 A316 [(.int (15 : Int32)), (.int (0 : Int32)), (.ref b314), (.int (0 : Int32)), (.ref o0)])) st321 ?_
  obtain ⟨T322, h322, L322, X322, e322, N322, K322_, V322, st322⟩ := cpA X321 hx hZ hown (hw _ (List.mem_of_getElem? (i := 148) rfl)) (hw _ (List.mem_of_getElem? (i := 83) rfl)) (hw _ (List.mem_of_getElem? (i := 81) rfl)) (hw _ (List.mem_of_getElem? (i := 82) rfl)) e321 (f317) (V314) (sp := (0 : Int32)) (dp := (0 : Int32)) (nn := (15 : Int32)) (us := [(.int e0_o0), (.int e1_o0), (.int e2_o0), (.int e3_o0), (.int e4_o0), (.int e5_o0), (.int e6_o0), (.int e7_o0), (.int e8_o0), (.int e9_o0), (.int e10_o0), (.int e11_o0), (.int e12_o0), (.int e13_o0), (.int e14_o0)]) (Or.inl ⟨rfl, rfl⟩) (by decide) (by decide) (by decide) (by decide) (by decide) rfl (Nat.le_of_ble_eq_true rfl) N321_ g_b314 (g := (mkF m 27 A316 [(.int (15 : Int32)), (.int (0 : Int32)), (.ref b314), (.int (0 : Int32)), (.ref o0)])) rfl (by rw [hml]; rfl) rfl (hb hby djdk_65_method_133_code_27) (by decide) (W := 0) (by show 2 * 0 + _ ≤ _; exact Nat.le_of_eq rfl) (by decide)
  have V322 : Arv Z h322 b314 k314 .byte (15 : Int32) [(.int e0_o0), (.int e1_o0), (.int e2_o0), (.int e3_o0), (.int e4_o0), (.int e5_o0), (.int e6_o0), (.int e7_o0), (.int e8_o0), (.int e9_o0), (.int e10_o0), (.int e11_o0), (.int e12_o0), (.int e13_o0), (.int e14_o0)] (.int (0 : Int32)) := V322
  have Z323 : n0 ≤ h322.size := Nat.le_trans Z315 K322_.1
  have K323 : Keep h0 h322 [] := K315.trans K322_ (allS (Or.inr sz_b314) all0)
  refine Go.st (S' := T322.setTop (mkF m 30 A316 [])) st322 ?_
  refine Go.st (S' := T322.setTop (mkF m 32 A316 [(.ref b314)])) (fun t k => XS.aload X322.here hx rfl (hb hby djdk_65_method_133_code_30) rfl rfl k) ?_
  have f324 := ((B314).keep K322_)
  exact Go.ret X322 (v := some (.ref b314)) (fun h => by rw [Bd.returns] at h; cases h) Bd.notSynchronized (fun fs hr => retOut X322 hx Bd.returns rfl (Or.inr (Or.inr (Or.inr (Or.inr ⟨rfl, rfl, rfl⟩)))) (hb hby djdk_65_method_133_code_32) hr) (by decide) (by decide) (by rw [e322]; exact ⟨b314, k314, rfl, N322, K323, sz_b314, V322, f324⟩)
theorem ef_24 (m : MethodId) (o0 : Addr) : entryFrame m #[(.ref o0), (.int (0 : Int32)), (.int (15 : Int32))] 3 = mkF m 0 #[.val (.ref o0), .val (.int (0 : Int32)), .val (.int (15 : Int32))] [] := by first | (simp [entryFrame, mkF, argsToLocals, Value.category, maxLocals]; done) | rfl
def Q24 (Z : State) (o0 : Addr) (k_o0 : ClassId) (e0_o0 : Int32) (e1_o0 : Int32) (e2_o0 : Int32) (e3_o0 : Int32) (e4_o0 : Int32) (e5_o0 : Int32) (e6_o0 : Int32) (e7_o0 : Int32) (e8_o0 : Int32) (e9_o0 : Int32) (e10_o0 : Int32) (e11_o0 : Int32) (e12_o0 : Int32) (e13_o0 : Int32) (e14_o0 : Int32) (e15_o0 : Int32) (h0 : Heap) (n0 : Nat) (v : Option Value) (h : Heap) (L : List Loc) : Prop := (∃ (b326 : Addr) (k327 : ClassId), v = some (.ref b326) ∧ Fr n0 L ∧ Keep h0 h [] ∧ h0.size ≤ b326 ∧ Arv Z h b326 k327 .byte (15 : Int32) [(.int e0_o0), (.int e1_o0), (.int e2_o0), (.int e3_o0), (.int e4_o0), (.int e5_o0), (.int e6_o0), (.int e7_o0), (.int e8_o0), (.int e9_o0), (.int e10_o0), (.int e11_o0), (.int e12_o0), (.int e13_o0), (.int e14_o0)] (.int (0 : Int32)) ∧ Exa Z h b326 "[B")
set_option maxRecDepth 65536 in
set_option maxHeartbeats 40000000 in
theorem rm24 (l : Launch) (Z : State) (a0 : Array Value) (hw : ∀ d ∈ tables_1, d.before a0 Z = true) (ws : List Jvm.Cond) (o0 : Addr) (k_o0 : ClassId) (e0_o0 : Int32) (e1_o0 : Int32) (e2_o0 : Int32) (e3_o0 : Int32) (e4_o0 : Int32) (e5_o0 : Int32) (e6_o0 : Int32) (e7_o0 : Int32) (e8_o0 : Int32) (e9_o0 : Int32) (e10_o0 : Int32) (e11_o0 : Int32) (e12_o0 : Int32) (e13_o0 : Int32) (e14_o0 : Int32) (e15_o0 : Int32) (h0 : Heap) (n0 : Nat) (Z0 : n0 ≤ h0.size) (V_o0 : Arv Z h0 o0 k_o0 .byte (16 : Int32) [(.int e0_o0), (.int e1_o0), (.int e2_o0), (.int e3_o0), (.int e4_o0), (.int e5_o0), (.int e6_o0), (.int e7_o0), (.int e8_o0), (.int e9_o0), (.int e10_o0), (.int e11_o0), (.int e12_o0), (.int e13_o0), (.int e14_o0), (.int e15_o0)] (.int (0 : Int32))) :
    Con l Z (⟨"java/util/Arrays", "copyOfRange", "([BII)[B"⟩ : MethodName) jdk_65_method_132_code 3 (some (.array .byte)) ws ({ frames := 2, cells := 1, slots := 15, locals := 56 } : Room) #[(.ref o0), (.int (0 : Int32)), (.int (15 : Int32))] h0 1 15 (Q24 Z o0 k_o0 e0_o0 e1_o0 e2_o0 e3_o0 e4_o0 e5_o0 e6_o0 e7_o0 e8_o0 e9_o0 e10_o0 e11_o0 e12_o0 e13_o0 e14_o0 e15_o0 h0 n0) := by
  refine MetFree.of_bodySF (plainFor_of_name pn_4) hisR ?_
  intro p e s m args below meth c s₁ Bd hml0 hP hK
  obtain ⟨rfl, hZ, hh⟩ := hP
  have hx := Bd.exec
  have hby := Bd.bytes
  have hml : c.maxLocals = 3 := hml0
  have hown : s.vm.findClass "java/util/Arrays" = some m.cls := findClass_of_methodNamed Bd.named
  have hnm := (name_of_methodNamed Bd.named Bd.method).1
  have X0 : Stand p l e ({ frames := 2, cells := 1, slots := 15, locals := 56 } : Room) s m #[(.ref o0), (.int (0 : Int32)), (.int (15 : Int32))] below meth c s₁ [] 0 0 := Stand.of_body Bd
  have e0 : s₁.heap = h0 := by rw [← hh, Bd.state]; rfl
  have N0 := Fr.nil n0
  refine Go.of ?_
  refine Go.st (S' := s₁.setTop (mkF m 0 #[.val (.ref o0), .val (.int (0 : Int32)), .val (.int (15 : Int32))] [])) (fun t k => castTop (ef_24 m o0) k) ?_
  let A305 : Array Slot := #[.val (.ref o0), .val (.int (0 : Int32)), .val (.int (15 : Int32))]
  refine Go.st (S' := s₁.setTop (mkF m 1 A305 [(.int (0 : Int32))])) (fun t k => XS.iloadN X0.here hx rfl (hb hby djdk_65_method_132_code_0) rfl k) ?_
  refine Go.st (S' := s₁.setTop (mkF m 4 A305 [])) (fun t k => XS.ifNo X0.here hx rfl (hb hby djdk_65_method_132_code_1) rfl ((if0 _ _).trans (teq (by decide : ((0 : Int32) = (0 : Int32)))).2) k) ?_
  refine Go.st (S' := s₁.setTop (mkF m 5 A305 [(.int (15 : Int32))])) (fun t k => XS.iloadN X0.here hx rfl (hb hby djdk_65_method_132_code_4) rfl k) ?_
  refine Go.st (S' := s₁.setTop (mkF m 6 A305 [(.ref o0), (.int (15 : Int32))])) (fun t k => XS.aloadN X0.here hx rfl (hb hby djdk_65_method_132_code_5) rfl rfl k) ?_
  obtain ⟨cl308, Ar308, -, S308, N308_, -, -⟩ := id V_o0
  refine Go.op (F := fun z => s₁.setTop (mkF m 7 A305 [(.int z), (.int (15 : Int32))])) (x := cl308.slots.size.toInt32) (fun t k => X0.arraylength hx (own_eh e0 Ar308.1) (State.isArrayOf_alike hZ.alike Ar308.2.1) (g := (mkF m 6 A305 [(.ref o0), (.int (15 : Int32))])) rfl rfl (hb hby djdk_65_method_132_code_6) t k) ?_
  intro v309 hv309
  obtain rfl : (16 : Int32) = v309 := (hv309.trans (len_of S308 N308_)).symm
  refine Go.st (S' := s₁.setTop (mkF m 10 A305 [])) (fun t k => XS.icmpNo X0.here hx rfl (hb hby djdk_65_method_132_code_7) rfl (feq (by decide : (¬ ((15 : Int32) = (16 : Int32))))).1 k) ?_
  refine Go.st (S' := s₁.setTop (mkF m 11 A305 [(.ref o0)])) (fun t k => XS.aloadN X0.here hx rfl (hb hby djdk_65_method_132_code_10) rfl rfl k) ?_
  refine Go.st (S' := s₁.setTop (mkF m 12 A305 [(.int (0 : Int32)), (.ref o0)])) (fun t k => XS.iloadN X0.here hx rfl (hb hby djdk_65_method_132_code_11) rfl k) ?_
  refine Go.st (S' := s₁.setTop (mkF m 13 A305 [(.int (15 : Int32)), (.int (0 : Int32)), (.ref o0)])) (fun t k => XS.iloadN X0.here hx rfl (hb hby djdk_65_method_132_code_12) rfl k) ?_
  obtain ⟨r325, T325, L325, X325, hQ325, st325⟩ := own_callS (W := 0) X0 hx hZ e0 hown (y := (⟨"java/util/Arrays", "copyOfRangeByte", "([BII)[B"⟩ : MethodName)) (hw _ (List.mem_of_getElem? (i := 138) rfl)) (hw _ (List.mem_of_getElem? (i := 139) rfl)) (hw _ (List.mem_of_getElem? (i := 136) rfl)) (hw _ (List.mem_of_getElem? (i := 140) rfl)) (by decide) (rm23 l Z a0 hw [] o0 k_o0 e0_o0 e1_o0 e2_o0 e3_o0 e4_o0 e5_o0 e6_o0 e7_o0 e8_o0 e9_o0 e10_o0 e11_o0 e12_o0 e13_o0 e14_o0 e15_o0 h0 n0 Z0 (V_o0)) (by decide) (by decide) (by decide) (by decide) (g := (mkF m 13 A305 [(.int (15 : Int32)), (.int (0 : Int32)), (.ref o0)])) rfl (by rw [hml]; rfl) (argsL := [(.ref o0), (.int (0 : Int32)), (.int (15 : Int32))]) (rest := []) rfl (lenOf pd_17 rfl) rfl (by show 2 * 0 + _ ≤ _; exact Nat.le_of_eq rfl) (hb hby djdk_65_method_132_code_13)
  obtain ⟨b326, k327, rfl, N325, K325_, sz_b326_, f328, f329⟩ := hQ325
  have N325_ := Fr.app N0 N325
  have g_b326 : n0 ≤ b326 := Nat.le_trans Z0 sz_b326_
  have sz_b326 : h0.size ≤ b326 := Nat.le_trans (Keep.refl h0 []).1 sz_b326_
  have Z330 : n0 ≤ T325.heap.size := Nat.le_trans Z0 K325_.1
  have K330 : Keep h0 T325.heap [] := (Keep.refl h0 []).trans K325_ all0
  refine Go.st (S' := T325.setTop (mkF m 16 A305 [(.ref b326)])) st325 ?_
  exact Go.ret X325 (v := some (.ref b326)) (fun h => by rw [Bd.returns] at h; cases h) Bd.notSynchronized (fun fs hr => retOut X325 hx Bd.returns rfl (Or.inr (Or.inr (Or.inr (Or.inr ⟨rfl, rfl, rfl⟩)))) (hb hby djdk_65_method_132_code_16) hr) (by decide) (by decide) (⟨b326, k327, rfl, N325_, K330, sz_b326, f328, f329⟩)
theorem ef_25 (m : MethodId) (o0 : Addr) (o1 : Addr) : entryFrame m #[(.ref o0), (.ref o1), .null] 5 = mkF m 0 #[.val (.ref o0), .val (.ref o1), .val .null, .unset, .unset] [] := by first | (simp [entryFrame, mkF, argsToLocals, Value.category, maxLocals]; done) | rfl
def Q25 (Z : State) (o0 : Addr) (o1 : Addr) (o_2 : Addr) (s_String_COMPACT_STRINGS : Int32) (u_o0_coder : Value) (k_o_2 : ClassId) (e0_o_2 : Int32) (e1_o_2 : Int32) (e2_o_2 : Int32) (e3_o_2 : Int32) (e4_o_2 : Int32) (e5_o_2 : Int32) (e6_o_2 : Int32) (e7_o_2 : Int32) (e8_o_2 : Int32) (e9_o_2 : Int32) (e10_o_2 : Int32) (e11_o_2 : Int32) (e12_o_2 : Int32) (e13_o_2 : Int32) (e14_o_2 : Int32) (e15_o_2 : Int32) (u_o0_value : Value) (h0 : Heap) (n0 : Nat) (v : Option Value) (h : Heap) (L : List Loc) : Prop := (∃ (b333 : Addr) (k334 : ClassId), v = none ∧ Fr n0 L ∧ Keep h0 h [o0] ∧ h0.size ≤ b333 ∧ Exa Z h o0 "java/lang/String" ∧ Fld Z h o0 "java/lang/String" "coder" "B" (.int (0 : Int32)) ∧ Arv Z h b333 k334 .byte (15 : Int32) [(.int e0_o_2), (.int e1_o_2), (.int e2_o_2), (.int e3_o_2), (.int e4_o_2), (.int e5_o_2), (.int e6_o_2), (.int e7_o_2), (.int e8_o_2), (.int e9_o_2), (.int e10_o_2), (.int e11_o_2), (.int e12_o_2), (.int e13_o_2), (.int e14_o_2)] (.int (0 : Int32)) ∧ Exa Z h b333 "[B" ∧ Fld Z h o0 "java/lang/String" "value" "[B" (.ref b333))
set_option maxRecDepth 65536 in
set_option maxHeartbeats 40000000 in
theorem rm25 (l : Launch) (Z : State) (a0 : Array Value) (hw : ∀ d ∈ tables_1, d.before a0 Z = true) (ws : List Jvm.Cond) (o0 : Addr) (o1 : Addr) (o_2 : Addr) (s_String_COMPACT_STRINGS : Int32) (u_o0_coder : Value) (k_o_2 : ClassId) (e0_o_2 : Int32) (e1_o_2 : Int32) (e2_o_2 : Int32) (e3_o_2 : Int32) (e4_o_2 : Int32) (e5_o_2 : Int32) (e6_o_2 : Int32) (e7_o_2 : Int32) (e8_o_2 : Int32) (e9_o_2 : Int32) (e10_o_2 : Int32) (e11_o_2 : Int32) (e12_o_2 : Int32) (e13_o_2 : Int32) (e14_o_2 : Int32) (e15_o_2 : Int32) (u_o0_value : Value) (h0 : Heap) (n0 : Nat) (Z0 : n0 ≤ h0.size) (E_o1 : Exa Z h0 o1 "java/lang/StringBuilder") (F_o1_value : Fld Z h0 o1 "java/lang/AbstractStringBuilder" "value" "[B" (.ref o_2)) (F_o1_count : Fld Z h0 o1 "java/lang/AbstractStringBuilder" "count" "I" (.int (15 : Int32))) (S_s_String_COMPACT_STRINGS : Sta Z h0 "java/lang/String" "COMPACT_STRINGS" "Z" (.int s_String_COMPACT_STRINGS)) (nz_s_String_COMPACT_STRINGS : s_String_COMPACT_STRINGS ≠ 0) (F_o1_coder : Fld Z h0 o1 "java/lang/AbstractStringBuilder" "coder" "B" (.int (0 : Int32))) (E_o0 : Exa Z h0 o0 "java/lang/String") (F_o0_coder : Fld Z h0 o0 "java/lang/String" "coder" "B" u_o0_coder) (g_o0 : n0 ≤ o0) (V_o_2 : Arv Z h0 o_2 k_o_2 .byte (16 : Int32) [(.int e0_o_2), (.int e1_o_2), (.int e2_o_2), (.int e3_o_2), (.int e4_o_2), (.int e5_o_2), (.int e6_o_2), (.int e7_o_2), (.int e8_o_2), (.int e9_o_2), (.int e10_o_2), (.int e11_o_2), (.int e12_o_2), (.int e13_o_2), (.int e14_o_2), (.int e15_o_2)] (.int (0 : Int32))) (ne_o_2_o0 : o_2 ≠ o0) (F_o0_value : Fld Z h0 o0 "java/lang/String" "value" "[B" u_o0_value) :
    Con l Z (⟨"java/lang/String", "<init>", "(Ljava/lang/AbstractStringBuilder;Ljava/lang/Void;)V"⟩ : MethodName) jdk_42_method_150_code 5 none ws ({ frames := 3, cells := 1, slots := 15, locals := 71 } : Room) #[(.ref o0), (.ref o1), .null] h0 1 15 (Q25 Z o0 o1 o_2 s_String_COMPACT_STRINGS u_o0_coder k_o_2 e0_o_2 e1_o_2 e2_o_2 e3_o_2 e4_o_2 e5_o_2 e6_o_2 e7_o_2 e8_o_2 e9_o_2 e10_o_2 e11_o_2 e12_o_2 e13_o_2 e14_o_2 e15_o_2 u_o0_value h0 n0) := by
  refine MetFree.of_bodySF (plainFor_of_name pn_2) hisR ?_
  intro p e s m args below meth c s₁ Bd hml0 hP hK
  obtain ⟨rfl, hZ, hh⟩ := hP
  have hx := Bd.exec
  have hby := Bd.bytes
  have hml : c.maxLocals = 5 := hml0
  have hown : s.vm.findClass "java/lang/String" = some m.cls := findClass_of_methodNamed Bd.named
  have hnm := (name_of_methodNamed Bd.named Bd.method).1
  have X0 : Stand p l e ({ frames := 3, cells := 1, slots := 15, locals := 71 } : Room) s m #[(.ref o0), (.ref o1), .null] below meth c s₁ [] 0 0 := Stand.of_body Bd
  have e0 : s₁.heap = h0 := by rw [← hh, Bd.state]; rfl
  have N0 := Fr.nil n0
  refine Go.of ?_
  refine Go.st (S' := s₁.setTop (mkF m 0 #[.val (.ref o0), .val (.ref o1), .val .null, .unset, .unset] [])) (fun t k => castTop (ef_25 m o0 o1) k) ?_
  refine Go.st (S' := s₁.setTop (mkF m 1 #[.val (.ref o0), .val (.ref o1), .val .null, .unset, .unset] [(.ref o0)])) (fun t k => XS.aloadN X0.here hx rfl (hb hby djdk_42_method_150_code_0) rfl rfl k) ?_
  obtain ⟨T290, X290, e290, st290⟩ := initO X0 hx hZ hown (hw _ (List.mem_of_getElem? (i := 119) rfl)) (hw _ (List.mem_of_getElem? (i := 19) rfl)) (hw _ (List.mem_of_getElem? (i := 20) rfl)) e0 (g := (mkF m 1 #[.val (.ref o0), .val (.ref o1), .val .null, .unset, .unset] [(.ref o0)])) rfl (by rw [hml]; rfl) rfl (hb hby djdk_42_method_150_code_1) (by decide) (W := 0) (by show 2 * 0 + _ ≤ _; exact Nat.le_of_eq rfl) (by decide)
  refine Go.st (S' := T290.setTop (mkF m 4 #[.val (.ref o0), .val (.ref o1), .val .null, .unset, .unset] [])) st290 ?_
  refine Go.st (S' := T290.setTop (mkF m 5 #[.val (.ref o0), .val (.ref o1), .val .null, .unset, .unset] [(.ref o1)])) (fun t k => XS.aloadN X290.here hx rfl (hb hby djdk_42_method_150_code_4) rfl rfl k) ?_
  obtain ⟨r294, T294, L294, X294, hQ294, st294⟩ := own_callV (W := 0) (a := o1) (C := "java/lang/StringBuilder") X290 hx hZ e290 hown (y := (⟨"java/lang/AbstractStringBuilder", "getValue", "()[B"⟩ : MethodName)) (z := (⟨"java/lang/AbstractStringBuilder", "getValue", "()[B"⟩ : MethodName)) (hw _ (List.mem_of_getElem? (i := 120) rfl)) (hw _ (List.mem_of_getElem? (i := 121) rfl)) (notFace_of_selects (args := #[]) (mvT hZ (hw _ (List.mem_of_getElem? (i := 123) rfl)))) (hw _ (List.mem_of_getElem? (i := 123) rfl)) (hw _ (List.mem_of_getElem? (i := 122) rfl)) (hw _ (List.mem_of_getElem? (i := 16) rfl)) (hw _ (List.mem_of_getElem? (i := 124) rfl)) (by decide) (E_o1) (rm18 l Z a0 hw [] o1 o_2 h0 n0 Z0 (F_o1_value)) (by decide) (by decide) (by decide) (by decide) (g := (mkF m 5 #[.val (.ref o0), .val (.ref o1), .val .null, .unset, .unset] [(.ref o1)])) rfl (by rw [hml]; rfl) (argsL := []) (rest := []) rfl (lenOf pd_14 rfl) rfl (by show 2 * 0 + _ ≤ _; exact Nat.le_of_eq rfl) (hb hby djdk_42_method_150_code_5)
  obtain ⟨rfl, N294, e294⟩ := hQ294
  have N294_ := Fr.app N0 N294
  refine Go.st (S' := T294.setTop (mkF m 8 #[.val (.ref o0), .val (.ref o1), .val .null, .unset, .unset] [(.ref o_2)])) st294 ?_
  let A295 : Array Slot := #[.val (.ref o0), .val (.ref o1), .val .null, .val (.ref o_2), .unset]
  refine Go.st (S' := T294.setTop (mkF m 9 A295 [])) (fun t k => XS.astoreN X294.here hx rfl (hb hby djdk_42_method_150_code_8) rfl rfl (l' := A295) rfl k) ?_
  refine Go.st (S' := T294.setTop (mkF m 10 A295 [(.ref o1)])) (fun t k => XS.aloadN X294.here hx rfl (hb hby djdk_42_method_150_code_9) rfl rfl k) ?_
  obtain ⟨r299, T299, L299, X299, hQ299, st299⟩ := own_callV (W := 0) (a := o1) (C := "java/lang/StringBuilder") X294 hx hZ e294 hown (y := (⟨"java/lang/AbstractStringBuilder", "length", "()I"⟩ : MethodName)) (z := (⟨"java/lang/StringBuilder", "length", "()I"⟩ : MethodName)) (hw _ (List.mem_of_getElem? (i := 125) rfl)) (hw _ (List.mem_of_getElem? (i := 126) rfl)) (own_notface (args := #[]) (y' := (⟨"java/lang/AbstractStringBuilder", "ensureCapacityInternal", "(I)V"⟩ : MethodName)) rfl (mvT hZ (hw _ (List.mem_of_getElem? (i := 62) rfl)))) (hw _ (List.mem_of_getElem? (i := 128) rfl)) (hw _ (List.mem_of_getElem? (i := 129) rfl)) (hw _ (List.mem_of_getElem? (i := 8) rfl)) (hw _ (List.mem_of_getElem? (i := 130) rfl)) (by decide) (E_o1) (rm20 l Z a0 hw [] o1 h0 n0 Z0 (F_o1_count) (E_o1)) (by decide) (by decide) (by decide) (by decide) (g := (mkF m 10 A295 [(.ref o1)])) rfl (by rw [hml]; rfl) (argsL := []) (rest := []) rfl (lenOf pd_3 rfl) rfl (by show 2 * 0 + _ ≤ _; exact Nat.le_of_eq rfl) (hb hby djdk_42_method_150_code_10)
  obtain ⟨rfl, N299, e299⟩ := hQ299
  have N299_ := Fr.app N294_ N299
  refine Go.st (S' := T299.setTop (mkF m 13 A295 [(.int (15 : Int32))])) st299 ?_
  let A300 : Array Slot := #[.val (.ref o0), .val (.ref o1), .val .null, .val (.ref o_2), .val (.int (15 : Int32))]
  refine Go.st (S' := T299.setTop (mkF m 15 A300 [])) (fun t k => XS.istore X299.here hx rfl (hb hby djdk_42_method_150_code_13) rfl (l' := A300) rfl k) ?_
  refine Go.st (S' := T299.setTop (mkF m 16 A300 [(.ref o1)])) (fun t k => XS.aloadN X299.here hx rfl (hb hby djdk_42_method_150_code_15) rfl rfl k) ?_
  obtain ⟨r302, T302, L302, X302, hQ302, st302⟩ := own_callV (W := 0) (a := o1) (C := "java/lang/StringBuilder") X299 hx hZ e299 hown (y := (⟨"java/lang/AbstractStringBuilder", "isLatin1", "()Z"⟩ : MethodName)) (z := (⟨"java/lang/AbstractStringBuilder", "isLatin1", "()Z"⟩ : MethodName)) (hw _ (List.mem_of_getElem? (i := 133) rfl)) (hw _ (List.mem_of_getElem? (i := 98) rfl)) (notFace_of_selects (args := #[]) (mvT hZ (hw _ (List.mem_of_getElem? (i := 100) rfl)))) (hw _ (List.mem_of_getElem? (i := 100) rfl)) (hw _ (List.mem_of_getElem? (i := 99) rfl)) (hw _ (List.mem_of_getElem? (i := 16) rfl)) (hw _ (List.mem_of_getElem? (i := 101) rfl)) (by decide) (E_o1) (rm14 l Z a0 hw [] o1 s_String_COMPACT_STRINGS h0 n0 Z0 (S_s_String_COMPACT_STRINGS) (nz_s_String_COMPACT_STRINGS) (F_o1_coder)) (by decide) (by decide) (by decide) (by decide) (g := (mkF m 16 A300 [(.ref o1)])) rfl (by rw [hml]; rfl) (argsL := []) (rest := []) rfl (lenOf pd_10 rfl) rfl (by show 2 * 0 + _ ≤ _; exact Nat.le_of_eq rfl) (hb hby djdk_42_method_150_code_16)
  obtain ⟨rfl, N302, e302⟩ := hQ302
  have N302_ := Fr.app N299_ N302
  refine Go.st (S' := T302.setTop (mkF m 19 A300 [(.int (1 : Int32))])) st302 ?_
  refine Go.st (S' := T302.setTop (mkF m 22 A300 [])) (fun t k => XS.ifNo X302.here hx rfl (hb hby djdk_42_method_150_code_19) rfl ((if0 _ _).trans (feq (by decide : (¬ ((1 : Int32) = (0 : Int32))))).1) k) ?_
  refine Go.st (S' := T302.setTop (mkF m 23 A300 [(.ref o0)])) (fun t k => XS.aloadN X302.here hx rfl (hb hby djdk_42_method_150_code_22) rfl rfl k) ?_
  refine Go.st (S' := T302.setTop (mkF m 24 A300 [(.int (0 : Int32)), (.ref o0)])) (fun t k => XS.iconst X302.here hx rfl (hb hby djdk_42_method_150_code_23) k) ?_
  obtain ⟨T303, h303, X303, e303, W303, st303⟩ := putF X302 hx hZ hown (host := "") (Or.inl (hw _ (List.mem_of_getElem? (i := 56) rfl))) Via.refl e302 F_o0_coder E_o0 (Or.inr ⟨(hw _ (List.mem_of_getElem? (i := 31) rfl)), rfl, hnm⟩) (hw _ (List.mem_of_getElem? (i := 29) rfl)) (ty := .byte) (by decide) rfl (by decide) (g := (mkF m 24 A300 [(.int (0 : Int32)), (.ref o0)])) rfl rfl (hb hby djdk_42_method_150_code_24)
  have Fw303 := (F_o0_coder).same W303
  have N303 := Fr.snoc X303 N302_ g_o0
  have Z304 : n0 ≤ h303.size := Nat.le_trans Z0 (Keep.of_wr W303).1
  have K304 : Keep h0 h303 [o0] := (Keep.refl h0 [o0]).wr W303 (Or.inl (by simp))
  refine Go.st (S' := T303.setTop (mkF m 27 A300 [])) st303 ?_
  refine Go.st (S' := T303.setTop (mkF m 28 A300 [(.ref o0)])) (fun t k => XS.aloadN X303.here hx rfl (hb hby djdk_42_method_150_code_27) rfl rfl k) ?_
  refine Go.st (S' := T303.setTop (mkF m 29 A300 [(.ref o_2), (.ref o0)])) (fun t k => XS.aloadN X303.here hx rfl (hb hby djdk_42_method_150_code_28) rfl rfl k) ?_
  refine Go.st (S' := T303.setTop (mkF m 30 A300 [(.int (0 : Int32)), (.ref o_2), (.ref o0)])) (fun t k => XS.iconst X303.here hx rfl (hb hby djdk_42_method_150_code_29) k) ?_
  refine Go.st (S' := T303.setTop (mkF m 32 A300 [(.int (15 : Int32)), (.int (0 : Int32)), (.ref o_2), (.ref o0)])) (fun t k => XS.iload X303.here hx rfl (hb hby djdk_42_method_150_code_30) rfl k) ?_
  have f331 := ((V_o_2).other W303 ne_o_2_o0)
  obtain ⟨r332, T332, L332, X332, hQ332, st332⟩ := own_callS (W := 1) X303 hx hZ e303 hown (y := (⟨"java/util/Arrays", "copyOfRange", "([BII)[B"⟩ : MethodName)) (hw _ (List.mem_of_getElem? (i := 134) rfl)) (hw _ (List.mem_of_getElem? (i := 135) rfl)) (hw _ (List.mem_of_getElem? (i := 136) rfl)) (hw _ (List.mem_of_getElem? (i := 137) rfl)) (by decide) (rm24 l Z a0 hw [] o_2 k_o_2 e0_o_2 e1_o_2 e2_o_2 e3_o_2 e4_o_2 e5_o_2 e6_o_2 e7_o_2 e8_o_2 e9_o_2 e10_o_2 e11_o_2 e12_o_2 e13_o_2 e14_o_2 e15_o_2 h303 n0 Z304 (f331)) (by decide) (by decide) (by decide) (by decide) (g := (mkF m 32 A300 [(.int (15 : Int32)), (.int (0 : Int32)), (.ref o_2), (.ref o0)])) rfl (by rw [hml]; rfl) (argsL := [(.ref o_2), (.int (0 : Int32)), (.int (15 : Int32))]) (rest := [(.ref o0)]) rfl (lenOf pd_17 rfl) rfl (by show 2 * 0 + _ ≤ _; exact Nat.le_of_eq rfl) (hb hby djdk_42_method_150_code_32)
  obtain ⟨b333, k334, rfl, N332, K332_, sz_b333_, f335, f336⟩ := hQ332
  have N332_ := Fr.app N303 N332
  have g_b333 : n0 ≤ b333 := Nat.le_trans Z304 sz_b333_
  have sz_b333 : h0.size ≤ b333 := Nat.le_trans K304.1 sz_b333_
  have Z337 : n0 ≤ T332.heap.size := Nat.le_trans Z304 K332_.1
  have K337 : Keep h0 T332.heap [o0] := K304.trans K332_ all0
  refine Go.st (S' := T332.setTop (mkF m 35 A300 [(.ref b333), (.ref o0)])) st332 ?_
  have f338 := ((((E_o0).wr W303)).keep K332_)
  have f339 := ((((F_o0_value).other W303 (Or.inr (slot_ne (Or.inr (hw _ (List.mem_of_getElem? (i := 30) rfl))) (Or.inr (hw _ (List.mem_of_getElem? (i := 31) rfl))) (by decide) (t := (.array .byte)) (t' := .byte) (by decide) (by decide))))).keep K332_ nin0)
  obtain ⟨T340, h340, X340, e340, W340, st340⟩ := putF X332 hx hZ hown (host := "") (Or.inl (hw _ (List.mem_of_getElem? (i := 49) rfl))) Via.refl rfl f339 f338 (Or.inr ⟨(hw _ (List.mem_of_getElem? (i := 30) rfl)), rfl, hnm⟩) (hw _ (List.mem_of_getElem? (i := 29) rfl)) (ty := (.array .byte)) (by decide) rfl rfl (g := (mkF m 35 A300 [(.ref b333), (.ref o0)])) rfl rfl (hb hby djdk_42_method_150_code_35)
  have Fw340 := (f339).same W340
  have N340 := Fr.snoc X340 N332_ g_o0
  have Z341 : n0 ≤ h340.size := Nat.le_trans Z337 (Keep.of_wr W340).1
  have K341 : Keep h0 h340 [o0] := K337.wr W340 (Or.inl (by simp))
  refine Go.st (S' := T340.setTop (mkF m 38 A300 [])) st340 ?_
  refine Go.st (S' := T340.setTop (mkF m 97 A300 [])) (fun t k => XS.goto X340.here hx rfl (pc0 := 38) (pc' := 97) rfl (hb hby djdk_42_method_150_code_38) (by decide) (by decide) k) ?_
  have f342 := ((f338).wr W340)
  have f343 := ((((Fw303).keep K332_ nin0)).other W340 (Or.inr (slot_ne (Or.inr (hw _ (List.mem_of_getElem? (i := 31) rfl))) (Or.inr (hw _ (List.mem_of_getElem? (i := 30) rfl))) (by decide) (t := .byte) (t' := (.array .byte)) (by decide) (by decide))))
  have f344 := ((f335).other W340 (Ne.symm (Nat.ne_of_lt (Nat.lt_of_lt_of_le (E_o0).lt sz_b333))))
  have f345 := ((f336).wr W340)
  exact Go.ret X340 (v := none) (fun _ => rfl) Bd.notSynchronized (fun fs hr => X340.returnOut hx Bd.returns (hb hby djdk_42_method_150_code_97) hr) (by decide) (by decide) (by rw [e340]; exact ⟨b333, k334, rfl, N340, K341, sz_b333, f342, f343, f344, f345, Fw340⟩)
theorem ef_26 (m : MethodId) (o0 : Addr) (o1 : Addr) : entryFrame m #[(.ref o0), (.ref o1)] 2 = mkF m 0 #[.val (.ref o0), .val (.ref o1)] [] := by first | (simp [entryFrame, mkF, argsToLocals, Value.category, maxLocals]; done) | rfl
def Q26 (Z : State) (o0 : Addr) (o1 : Addr) (o_2 : Addr) (k_o_2 : ClassId) (e0_o_2 : Int32) (e1_o_2 : Int32) (e2_o_2 : Int32) (e3_o_2 : Int32) (e4_o_2 : Int32) (e5_o_2 : Int32) (e6_o_2 : Int32) (e7_o_2 : Int32) (e8_o_2 : Int32) (e9_o_2 : Int32) (e10_o_2 : Int32) (e11_o_2 : Int32) (e12_o_2 : Int32) (e13_o_2 : Int32) (e14_o_2 : Int32) (e15_o_2 : Int32) (s_String_COMPACT_STRINGS : Int32) (h0 : Heap) (n0 : Nat) (v : Option Value) (h : Heap) (L : List Loc) : Prop := (∃ (b347 : Addr) (k348 : ClassId), v = none ∧ Fr n0 L ∧ Keep h0 h [o0] ∧ h0.size ≤ b347 ∧ Exa Z h o0 "java/lang/String" ∧ Fld Z h o0 "java/lang/String" "coder" "B" (.int (0 : Int32)) ∧ Fld Z h o0 "java/lang/String" "value" "[B" (.ref b347) ∧ Arv Z h b347 k348 .byte (15 : Int32) [(.int e0_o_2), (.int e1_o_2), (.int e2_o_2), (.int e3_o_2), (.int e4_o_2), (.int e5_o_2), (.int e6_o_2), (.int e7_o_2), (.int e8_o_2), (.int e9_o_2), (.int e10_o_2), (.int e11_o_2), (.int e12_o_2), (.int e13_o_2), (.int e14_o_2)] (.int (0 : Int32)) ∧ Exa Z h b347 "[B")
set_option maxRecDepth 65536 in
set_option maxHeartbeats 40000000 in
theorem rm26 (l : Launch) (Z : State) (a0 : Array Value) (hw : ∀ d ∈ tables_1, d.before a0 Z = true) (ws : List Jvm.Cond) (o0 : Addr) (o1 : Addr) (o_2 : Addr) (k_o_2 : ClassId) (e0_o_2 : Int32) (e1_o_2 : Int32) (e2_o_2 : Int32) (e3_o_2 : Int32) (e4_o_2 : Int32) (e5_o_2 : Int32) (e6_o_2 : Int32) (e7_o_2 : Int32) (e8_o_2 : Int32) (e9_o_2 : Int32) (e10_o_2 : Int32) (e11_o_2 : Int32) (e12_o_2 : Int32) (e13_o_2 : Int32) (e14_o_2 : Int32) (e15_o_2 : Int32) (s_String_COMPACT_STRINGS : Int32) (h0 : Heap) (n0 : Nat) (Z0 : n0 ≤ h0.size) (E_o1 : Exa Z h0 o1 "java/lang/StringBuilder") (F_o1_value : Fld Z h0 o1 "java/lang/AbstractStringBuilder" "value" "[B" (.ref o_2)) (F_o1_count : Fld Z h0 o1 "java/lang/AbstractStringBuilder" "count" "I" (.int (15 : Int32))) (F_o1_coder : Fld Z h0 o1 "java/lang/AbstractStringBuilder" "coder" "B" (.int (0 : Int32))) (E_o0 : Exa Z h0 o0 "java/lang/String") (F_o0_coder : Fld Z h0 o0 "java/lang/String" "coder" "B" (.int (0 : Int32))) (V_o_2 : Arv Z h0 o_2 k_o_2 .byte (16 : Int32) [(.int e0_o_2), (.int e1_o_2), (.int e2_o_2), (.int e3_o_2), (.int e4_o_2), (.int e5_o_2), (.int e6_o_2), (.int e7_o_2), (.int e8_o_2), (.int e9_o_2), (.int e10_o_2), (.int e11_o_2), (.int e12_o_2), (.int e13_o_2), (.int e14_o_2), (.int e15_o_2)] (.int (0 : Int32))) (F_o0_value : Fld Z h0 o0 "java/lang/String" "value" "[B" .null) (S_s_String_COMPACT_STRINGS : Sta Z h0 "java/lang/String" "COMPACT_STRINGS" "Z" (.int s_String_COMPACT_STRINGS)) (nz_s_String_COMPACT_STRINGS : s_String_COMPACT_STRINGS ≠ 0) (g_o0 : n0 ≤ o0) (ne_o_2_o0 : o_2 ≠ o0) :
    Con l Z (⟨"java/lang/String", "<init>", "(Ljava/lang/StringBuilder;)V"⟩ : MethodName) jdk_42_method_53_code 2 none ws ({ frames := 4, cells := 1, slots := 15, locals := 87 } : Room) #[(.ref o0), (.ref o1)] h0 1 15 (Q26 Z o0 o1 o_2 k_o_2 e0_o_2 e1_o_2 e2_o_2 e3_o_2 e4_o_2 e5_o_2 e6_o_2 e7_o_2 e8_o_2 e9_o_2 e10_o_2 e11_o_2 e12_o_2 e13_o_2 e14_o_2 e15_o_2 s_String_COMPACT_STRINGS h0 n0) := by
  refine MetFree.of_bodySF (plainFor_of_name pn_2) hisR ?_
  intro p e s m args below meth c s₁ Bd hml0 hP hK
  obtain ⟨rfl, hZ, hh⟩ := hP
  have hx := Bd.exec
  have hby := Bd.bytes
  have hml : c.maxLocals = 2 := hml0
  have hown : s.vm.findClass "java/lang/String" = some m.cls := findClass_of_methodNamed Bd.named
  have hnm := (name_of_methodNamed Bd.named Bd.method).1
  have X0 : Stand p l e ({ frames := 4, cells := 1, slots := 15, locals := 87 } : Room) s m #[(.ref o0), (.ref o1)] below meth c s₁ [] 0 0 := Stand.of_body Bd
  have e0 : s₁.heap = h0 := by rw [← hh, Bd.state]; rfl
  have N0 := Fr.nil n0
  refine Go.of ?_
  refine Go.st (S' := s₁.setTop (mkF m 0 #[.val (.ref o0), .val (.ref o1)] [])) (fun t k => castTop (ef_26 m o0 o1) k) ?_
  refine Go.st (S' := s₁.setTop (mkF m 1 #[.val (.ref o0), .val (.ref o1)] [(.ref o0)])) (fun t k => XS.aloadN X0.here hx rfl (hb hby djdk_42_method_53_code_0) rfl rfl k) ?_
  refine Go.st (S' := s₁.setTop (mkF m 2 #[.val (.ref o0), .val (.ref o1)] [(.ref o1), (.ref o0)])) (fun t k => XS.aloadN X0.here hx rfl (hb hby djdk_42_method_53_code_1) rfl rfl k) ?_
  refine Go.st (S' := s₁.setTop (mkF m 3 #[.val (.ref o0), .val (.ref o1)] [.null, (.ref o1), (.ref o0)])) (fun t k => XS.aconstNull X0.here hx rfl (hb hby djdk_42_method_53_code_2) k) ?_
  obtain ⟨r346, T346, L346, X346, hQ346, st346⟩ := own_callI (W := 0) (a := o0) X0 hx hZ e0 hown (y := (⟨"java/lang/String", "<init>", "(Ljava/lang/AbstractStringBuilder;Ljava/lang/Void;)V"⟩ : MethodName)) rfl (hw _ (List.mem_of_getElem? (i := 116) rfl)) (hw _ (List.mem_of_getElem? (i := 117) rfl)) (hw _ (List.mem_of_getElem? (i := 22) rfl)) (hw _ (List.mem_of_getElem? (i := 118) rfl)) (by decide) (rm25 l Z a0 hw [] o0 o1 o_2 s_String_COMPACT_STRINGS ((.int (0 : Int32))) k_o_2 e0_o_2 e1_o_2 e2_o_2 e3_o_2 e4_o_2 e5_o_2 e6_o_2 e7_o_2 e8_o_2 e9_o_2 e10_o_2 e11_o_2 e12_o_2 e13_o_2 e14_o_2 e15_o_2 (.null) h0 n0 Z0 (E_o1) (F_o1_value) (F_o1_count) (S_s_String_COMPACT_STRINGS) (nz_s_String_COMPACT_STRINGS) (F_o1_coder) (E_o0) (F_o0_coder) (g_o0) (V_o_2) (ne_o_2_o0) (F_o0_value)) (by decide) (by decide) (by decide) (by decide) (g := (mkF m 3 #[.val (.ref o0), .val (.ref o1)] [.null, (.ref o1), (.ref o0)])) rfl (by rw [hml]; rfl) (argsL := [(.ref o1), .null]) (rest := []) rfl (lenOf pd_18 rfl) rfl (by show 2 * 0 + _ ≤ _; exact Nat.le_of_eq rfl) (hb hby djdk_42_method_53_code_3)
  obtain ⟨b347, k348, rfl, N346, K346_, sz_b347_, f349, f350, f351, f352, f353⟩ := hQ346
  have N346_ := Fr.app N0 N346
  have g_b347 : n0 ≤ b347 := Nat.le_trans Z0 sz_b347_
  have sz_b347 : h0.size ≤ b347 := Nat.le_trans (Keep.refl h0 [o0]).1 sz_b347_
  have Z354 : n0 ≤ T346.heap.size := Nat.le_trans Z0 K346_.1
  have K354 : Keep h0 T346.heap [o0] := (Keep.refl h0 [o0]).trans K346_ (allS (Or.inl (by simp)) all0)
  refine Go.st (S' := T346.setTop (mkF m 6 #[.val (.ref o0), .val (.ref o1)] [])) st346 ?_
  exact Go.ret X346 (v := none) (fun _ => rfl) Bd.notSynchronized (fun fs hr => X346.returnOut hx Bd.returns (hb hby djdk_42_method_53_code_6) hr) (by decide) (by decide) (⟨b347, k348, rfl, N346_, K354, sz_b347, f349, f350, f353, f351, f352⟩)
theorem ef_27 (m : MethodId) (o0 : Addr) : entryFrame m #[(.ref o0)] 1 = mkF m 0 #[.val (.ref o0)] [] := by first | (simp [entryFrame, mkF, argsToLocals, Value.category, maxLocals]; done) | rfl
def Q27 (Z : State) (o0 : Addr) (o_1 : Addr) (k_o_1 : ClassId) (e0_o_1 : Int32) (e1_o_1 : Int32) (e2_o_1 : Int32) (e3_o_1 : Int32) (e4_o_1 : Int32) (e5_o_1 : Int32) (e6_o_1 : Int32) (e7_o_1 : Int32) (e8_o_1 : Int32) (e9_o_1 : Int32) (e10_o_1 : Int32) (e11_o_1 : Int32) (e12_o_1 : Int32) (e13_o_1 : Int32) (e14_o_1 : Int32) (e15_o_1 : Int32) (s_String_COMPACT_STRINGS : Int32) (h0 : Heap) (n0 : Nat) (v : Option Value) (h : Heap) (L : List Loc) : Prop := (∃ (b288 : Addr) (b362 : Addr) (k363 : ClassId), v = some (.ref b288) ∧ Fr n0 L ∧ Keep h0 h [] ∧ h0.size ≤ b288 ∧ h0.size ≤ b362 ∧ Exa Z h b288 "java/lang/String" ∧ Fld Z h b288 "java/lang/String" "value" "[B" (.ref b362) ∧ Fld Z h b288 "java/lang/String" "coder" "B" (.int (0 : Int32)) ∧ Arv Z h b362 k363 .byte (15 : Int32) [(.int e0_o_1), (.int e1_o_1), (.int e2_o_1), (.int e3_o_1), (.int e4_o_1), (.int e5_o_1), (.int e6_o_1), (.int e7_o_1), (.int e8_o_1), (.int e9_o_1), (.int e10_o_1), (.int e11_o_1), (.int e12_o_1), (.int e13_o_1), (.int e14_o_1)] (.int (0 : Int32)) ∧ Exa Z h b362 "[B" ∧ b288 < b362)
set_option maxRecDepth 65536 in
set_option maxHeartbeats 40000000 in
theorem rm27 (l : Launch) (Z : State) (a0 : Array Value) (hw : ∀ d ∈ tables_1, d.before a0 Z = true) (ws : List Jvm.Cond) (o0 : Addr) (o_1 : Addr) (k_o_1 : ClassId) (e0_o_1 : Int32) (e1_o_1 : Int32) (e2_o_1 : Int32) (e3_o_1 : Int32) (e4_o_1 : Int32) (e5_o_1 : Int32) (e6_o_1 : Int32) (e7_o_1 : Int32) (e8_o_1 : Int32) (e9_o_1 : Int32) (e10_o_1 : Int32) (e11_o_1 : Int32) (e12_o_1 : Int32) (e13_o_1 : Int32) (e14_o_1 : Int32) (e15_o_1 : Int32) (s_String_COMPACT_STRINGS : Int32) (h0 : Heap) (n0 : Nat) (Z0 : n0 ≤ h0.size) (E_o0 : Exa Z h0 o0 "java/lang/StringBuilder") (F_o0_value : Fld Z h0 o0 "java/lang/AbstractStringBuilder" "value" "[B" (.ref o_1)) (F_o0_count : Fld Z h0 o0 "java/lang/AbstractStringBuilder" "count" "I" (.int (15 : Int32))) (F_o0_coder : Fld Z h0 o0 "java/lang/AbstractStringBuilder" "coder" "B" (.int (0 : Int32))) (V_o_1 : Arv Z h0 o_1 k_o_1 .byte (16 : Int32) [(.int e0_o_1), (.int e1_o_1), (.int e2_o_1), (.int e3_o_1), (.int e4_o_1), (.int e5_o_1), (.int e6_o_1), (.int e7_o_1), (.int e8_o_1), (.int e9_o_1), (.int e10_o_1), (.int e11_o_1), (.int e12_o_1), (.int e13_o_1), (.int e14_o_1), (.int e15_o_1)] (.int (0 : Int32))) (S_s_String_COMPACT_STRINGS : Sta Z h0 "java/lang/String" "COMPACT_STRINGS" "Z" (.int s_String_COMPACT_STRINGS)) (nz_s_String_COMPACT_STRINGS : s_String_COMPACT_STRINGS ≠ 0) :
    Con l Z (⟨"java/lang/StringBuilder", "toString", "()Ljava/lang/String;"⟩ : MethodName) jdk_67_method_42_code 1 (some (.object "java/lang/String")) ws ({ frames := 5, cells := 2, slots := 19, locals := 101 } : Room) #[(.ref o0)] h0 2 19 (Q27 Z o0 o_1 k_o_1 e0_o_1 e1_o_1 e2_o_1 e3_o_1 e4_o_1 e5_o_1 e6_o_1 e7_o_1 e8_o_1 e9_o_1 e10_o_1 e11_o_1 e12_o_1 e13_o_1 e14_o_1 e15_o_1 s_String_COMPACT_STRINGS h0 n0) := by
  refine MetFree.of_bodySF (plainFor_of_name pn_1) hisR ?_
  intro p e s m args below meth c s₁ Bd hml0 hP hK
  obtain ⟨rfl, hZ, hh⟩ := hP
  have hx := Bd.exec
  have hby := Bd.bytes
  have hml : c.maxLocals = 1 := hml0
  have hown : s.vm.findClass "java/lang/StringBuilder" = some m.cls := findClass_of_methodNamed Bd.named
  have hnm := (name_of_methodNamed Bd.named Bd.method).1
  have X0 : Stand p l e ({ frames := 5, cells := 2, slots := 19, locals := 101 } : Room) s m #[(.ref o0)] below meth c s₁ [] 0 0 := Stand.of_body Bd
  have e0 : s₁.heap = h0 := by rw [← hh, Bd.state]; rfl
  have N0 := Fr.nil n0
  refine Go.of ?_
  refine Go.st (S' := s₁.setTop (mkF m 0 #[.val (.ref o0)] [])) (fun t k => castTop (ef_27 m o0) k) ?_
  obtain ⟨T288, h288, X288, e288, E288, A288, D288, -, st288⟩ := newO X0 hx hZ hown (hw _ (List.mem_of_getElem? (i := 111) rfl)) (hw _ (List.mem_of_getElem? (i := 29) rfl)) (hw _ (List.mem_of_getElem? (i := 22) rfl)) e0 (g := (mkF m 0 #[.val (.ref o0)] [])) rfl (hb hby djdk_67_method_42_code_0) (by decide) (by decide)
  obtain ⟨b288, gg288⟩ : ∃ z, z = h0.size := ⟨_, rfl⟩
  rw [← gg288] at A288 D288 st288
  have g_b288 : n0 ≤ b288 := Nat.le_trans Z0 (Nat.le_of_eq gg288.symm)
  have sz_b288 : h0.size ≤ b288 := Nat.le_trans (Keep.refl h0 []).1 (Nat.le_of_eq gg288.symm)
  have Z289 : n0 ≤ h288.size := Nat.le_trans Z0 E288.1
  have K289 : Keep h0 h288 [] := (Keep.refl h0 []).ext E288
  have Fb288_value : Fld Z h288 b288 "java/lang/String" "value" "[B" .null := D288 (Or.inr (hw _ (List.mem_of_getElem? (i := 30) rfl))) (ty := (.array .byte)) (by decide)
  have Fb288_coder : Fld Z h288 b288 "java/lang/String" "coder" "B" (.int (0 : Int32)) := D288 (Or.inr (hw _ (List.mem_of_getElem? (i := 31) rfl))) (ty := .byte) (by decide)
  refine Go.st (S' := T288.setTop (mkF m 3 #[.val (.ref o0)] [(.ref b288)])) st288 ?_
  refine Go.st (S' := T288.setTop (mkF m 4 #[.val (.ref o0)] [(.ref b288), (.ref b288)])) (fun t k => XS.dup X288.here hx rfl (hb hby djdk_67_method_42_code_3) rfl rfl k) ?_
  refine Go.st (S' := T288.setTop (mkF m 5 #[.val (.ref o0)] [(.ref o0), (.ref b288), (.ref b288)])) (fun t k => XS.aloadN X288.here hx rfl (hb hby djdk_67_method_42_code_4) rfl rfl k) ?_
  have f355 := ((E_o0).ext E288)
  have f356 := ((F_o0_value).ext E288)
  have f357 := ((F_o0_count).ext E288)
  have f358 := ((F_o0_coder).ext E288)
  have f359 := ((V_o_1).ext E288)
  have f360 := (Sta.ext E288 (S_s_String_COMPACT_STRINGS))
  obtain ⟨r361, T361, L361, X361, hQ361, st361⟩ := own_callI (W := 1) (a := b288) X288 hx hZ e288 hown (y := (⟨"java/lang/String", "<init>", "(Ljava/lang/StringBuilder;)V"⟩ : MethodName)) rfl (hw _ (List.mem_of_getElem? (i := 112) rfl)) (hw _ (List.mem_of_getElem? (i := 113) rfl)) (hw _ (List.mem_of_getElem? (i := 22) rfl)) (hw _ (List.mem_of_getElem? (i := 115) rfl)) (by decide) (rm26 l Z a0 hw [] b288 o0 o_1 k_o_1 e0_o_1 e1_o_1 e2_o_1 e3_o_1 e4_o_1 e5_o_1 e6_o_1 e7_o_1 e8_o_1 e9_o_1 e10_o_1 e11_o_1 e12_o_1 e13_o_1 e14_o_1 e15_o_1 s_String_COMPACT_STRINGS h288 n0 Z289 (f355) (f356) (f357) (f358) (A288) (Fb288_coder) (f359) (Fb288_value) (f360) (nz_s_String_COMPACT_STRINGS) (g_b288) ((Nat.ne_of_lt (Nat.lt_of_lt_of_le (V_o_1).lt sz_b288)))) (by decide) (by decide) (by decide) (by decide) (g := (mkF m 5 #[.val (.ref o0)] [(.ref o0), (.ref b288), (.ref b288)])) rfl (by rw [hml]; rfl) (argsL := [(.ref o0)]) (rest := [(.ref b288)]) rfl (lenOf pd_19 rfl) rfl (by show 2 * 0 + _ ≤ _; exact Nat.le_of_eq rfl) (hb hby djdk_67_method_42_code_5)
  obtain ⟨b362, k363, rfl, N361, K361_, sz_b362_, f364, f365, f366, f367, f368⟩ := hQ361
  have N361_ := Fr.app N0 N361
  have g_b362 : n0 ≤ b362 := Nat.le_trans Z289 sz_b362_
  have sz_b362 : h0.size ≤ b362 := Nat.le_trans K289.1 sz_b362_
  have lt_b288_b362 : b288 < b362 := Nat.lt_of_lt_of_le (A288).lt sz_b362_
  have Z369 : n0 ≤ T361.heap.size := Nat.le_trans Z289 K361_.1
  have K369 : Keep h0 T361.heap [] := K289.trans K361_ (allS (Or.inr sz_b288) all0)
  refine Go.st (S' := T361.setTop (mkF m 8 #[.val (.ref o0)] [(.ref b288)])) st361 ?_
  exact Go.ret X361 (v := some (.ref b288)) (fun h => by rw [Bd.returns] at h; cases h) Bd.notSynchronized (fun fs hr => retOut X361 hx Bd.returns rfl (Or.inr (Or.inr (Or.inr (Or.inr ⟨rfl, rfl, rfl⟩)))) (hb hby djdk_67_method_42_code_8) hr) (by decide) (by decide) (⟨b288, b362, k363, rfl, N361_, K369, sz_b288, sz_b362, f364, f366, f365, f367, f368, lt_b288_b362⟩)
theorem ef_28 (m : MethodId) (o0 : Addr) (x_d1 : UInt64) : entryFrame m #[(.ref o0), (.double x_d1)] 3 = mkF m 0 #[.val (.ref o0), .val (.double x_d1), .second] [] := by first | (simp [entryFrame, mkF, argsToLocals, Value.category, maxLocals]; done) | rfl
def Q28 (Z : State) (o0 : Addr) (d1 : Int64) (u_o0_isPresent : Value) (u_o0_value : Value) (h0 : Heap) (n0 : Nat) (v : Option Value) (h : Heap) (L : List Loc) : Prop := (v = none ∧ Fr n0 L ∧ Keep h0 h [o0] ∧ Exa Z h o0 "java/util/OptionalDouble" ∧ Fld Z h o0 "java/util/OptionalDouble" "isPresent" "Z" (.int (1 : Int32)) ∧ Fld Z h o0 "java/util/OptionalDouble" "value" "D" (.double (FP.l2d d1)))
set_option maxRecDepth 65536 in
set_option maxHeartbeats 40000000 in
theorem rm28 (l : Launch) (Z : State) (a0 : Array Value) (hw : ∀ d ∈ tables_1, d.before a0 Z = true) (ws : List Jvm.Cond) (o0 : Addr) (d1 : Int64) (u_o0_isPresent : Value) (u_o0_value : Value) (h0 : Heap) (n0 : Nat) (Z0 : n0 ≤ h0.size) (E_o0 : Exa Z h0 o0 "java/util/OptionalDouble") (F_o0_isPresent : Fld Z h0 o0 "java/util/OptionalDouble" "isPresent" "Z" u_o0_isPresent) (g_o0 : n0 ≤ o0) (F_o0_value : Fld Z h0 o0 "java/util/OptionalDouble" "value" "D" u_o0_value) :
    Con l Z (⟨"java/util/OptionalDouble", "<init>", "(D)V"⟩ : MethodName) jdk_2648_method_3_code 3 none ws ({ frames := 1, cells := 0, slots := 0, locals := 12 } : Room) #[(.ref o0), (.double (FP.l2d d1))] h0 0 0 (Q28 Z o0 d1 u_o0_isPresent u_o0_value h0 n0) := by
  refine MetFree.of_bodySF (plainFor_of_name pn_5) hisR ?_
  intro p e s m args below meth c s₁ Bd hml0 hP hK
  obtain ⟨rfl, hZ, hh⟩ := hP
  have hx := Bd.exec
  have hby := Bd.bytes
  have hml : c.maxLocals = 3 := hml0
  have hown : s.vm.findClass "java/util/OptionalDouble" = some m.cls := findClass_of_methodNamed Bd.named
  have hnm := (name_of_methodNamed Bd.named Bd.method).1
  have X0 : Stand p l e ({ frames := 1, cells := 0, slots := 0, locals := 12 } : Room) s m #[(.ref o0), (.double (FP.l2d d1))] below meth c s₁ [] 0 0 := Stand.of_body Bd
  have e0 : s₁.heap = h0 := by rw [← hh, Bd.state]; rfl
  have N0 := Fr.nil n0
  refine Go.of ?_
  refine Go.st (S' := s₁.setTop (mkF m 0 #[.val (.ref o0), .val (.double (FP.l2d d1)), .second] [])) (fun t k => castTop (ef_28 m o0 (FP.l2d d1)) k) ?_
  refine Go.st (S' := s₁.setTop (mkF m 1 #[.val (.ref o0), .val (.double (FP.l2d d1)), .second] [(.ref o0)])) (fun t k => XS.aloadN X0.here hx rfl (hb hby djdk_2648_method_3_code_0) rfl rfl k) ?_
  obtain ⟨T388, X388, e388, st388⟩ := initO X0 hx hZ hown (hw _ (List.mem_of_getElem? (i := 167) rfl)) (hw _ (List.mem_of_getElem? (i := 19) rfl)) (hw _ (List.mem_of_getElem? (i := 20) rfl)) e0 (g := (mkF m 1 #[.val (.ref o0), .val (.double (FP.l2d d1)), .second] [(.ref o0)])) rfl (by rw [hml]; rfl) rfl (hb hby djdk_2648_method_3_code_1) (by decide) (W := 0) (by show 2 * 0 + _ ≤ _; exact Nat.le_of_eq rfl) (by decide)
  refine Go.st (S' := T388.setTop (mkF m 4 #[.val (.ref o0), .val (.double (FP.l2d d1)), .second] [])) st388 ?_
  refine Go.st (S' := T388.setTop (mkF m 5 #[.val (.ref o0), .val (.double (FP.l2d d1)), .second] [(.ref o0)])) (fun t k => XS.aloadN X388.here hx rfl (hb hby djdk_2648_method_3_code_4) rfl rfl k) ?_
  refine Go.st (S' := T388.setTop (mkF m 6 #[.val (.ref o0), .val (.double (FP.l2d d1)), .second] [(.int (1 : Int32)), (.ref o0)])) (fun t k => XS.iconst X388.here hx rfl (hb hby djdk_2648_method_3_code_5) k) ?_
  obtain ⟨T389, h389, X389, e389, W389, st389⟩ := putF X388 hx hZ hown (host := "") (Or.inl (hw _ (List.mem_of_getElem? (i := 168) rfl))) Via.refl e388 F_o0_isPresent E_o0 (Or.inr ⟨(hw _ (List.mem_of_getElem? (i := 169) rfl)), rfl, hnm⟩) (hw _ (List.mem_of_getElem? (i := 162) rfl)) (ty := .boolean) (by decide) rfl (by decide) (g := (mkF m 6 #[.val (.ref o0), .val (.double (FP.l2d d1)), .second] [(.int (1 : Int32)), (.ref o0)])) rfl rfl (hb hby djdk_2648_method_3_code_6)
  have Fw389 := (F_o0_isPresent).same W389
  have N389 := Fr.snoc X389 N0 g_o0
  have Z390 : n0 ≤ h389.size := Nat.le_trans Z0 (Keep.of_wr W389).1
  have K390 : Keep h0 h389 [o0] := (Keep.refl h0 [o0]).wr W389 (Or.inl (by simp))
  refine Go.st (S' := T389.setTop (mkF m 9 #[.val (.ref o0), .val (.double (FP.l2d d1)), .second] [])) st389 ?_
  refine Go.st (S' := T389.setTop (mkF m 10 #[.val (.ref o0), .val (.double (FP.l2d d1)), .second] [(.ref o0)])) (fun t k => XS.aloadN X389.here hx rfl (hb hby djdk_2648_method_3_code_9) rfl rfl k) ?_
  refine Go.st (S' := T389.setTop (mkF m 11 #[.val (.ref o0), .val (.double (FP.l2d d1)), .second] [(.double (FP.l2d d1)), (.ref o0)])) (fun t k => XS.dloadN X389.here hx rfl (hb hby djdk_2648_method_3_code_10) rfl k) ?_
  have f391 := ((E_o0).wr W389)
  have f392 := ((F_o0_value).other W389 (Or.inr (slot_ne (Or.inr (hw _ (List.mem_of_getElem? (i := 171) rfl))) (Or.inr (hw _ (List.mem_of_getElem? (i := 169) rfl))) (by decide) (t := .double) (t' := .boolean) (by decide) (by decide))))
  obtain ⟨T393, h393, X393, e393, W393, st393⟩ := putF X389 hx hZ hown (host := "") (Or.inl (hw _ (List.mem_of_getElem? (i := 170) rfl))) Via.refl e389 f392 f391 (Or.inr ⟨(hw _ (List.mem_of_getElem? (i := 171) rfl)), rfl, hnm⟩) (hw _ (List.mem_of_getElem? (i := 162) rfl)) (ty := .double) (by decide) rfl rfl (g := (mkF m 11 #[.val (.ref o0), .val (.double (FP.l2d d1)), .second] [(.double (FP.l2d d1)), (.ref o0)])) rfl rfl (hb hby djdk_2648_method_3_code_11)
  have Fw393 := (f392).same W393
  have N393 := Fr.snoc X393 N389 g_o0
  have Z394 : n0 ≤ h393.size := Nat.le_trans Z390 (Keep.of_wr W393).1
  have K394 : Keep h0 h393 [o0] := K390.wr W393 (Or.inl (by simp))
  refine Go.st (S' := T393.setTop (mkF m 14 #[.val (.ref o0), .val (.double (FP.l2d d1)), .second] [])) st393 ?_
  have f395 := ((f391).wr W393)
  have f396 := ((Fw389).other W393 (Or.inr (slot_ne (Or.inr (hw _ (List.mem_of_getElem? (i := 169) rfl))) (Or.inr (hw _ (List.mem_of_getElem? (i := 171) rfl))) (by decide) (t := .boolean) (t' := .double) (by decide) (by decide))))
  exact Go.ret X393 (v := none) (fun _ => rfl) Bd.notSynchronized (fun fs hr => X393.returnOut hx Bd.returns (hb hby djdk_2648_method_3_code_14) hr) (by decide) (by decide) (by rw [e393]; exact ⟨rfl, N393, K394, f395, f396, Fw393⟩)
theorem ef_29 (m : MethodId) (x_d0 : UInt64) : entryFrame m #[(.double x_d0)] 2 = mkF m 0 #[.val (.double x_d0), .second] [] := by first | (simp [entryFrame, mkF, argsToLocals, Value.category, maxLocals]; done) | rfl
def Q29 (Z : State) (d0 : Int64) (h0 : Heap) (n0 : Nat) (v : Option Value) (h : Heap) (L : List Loc) : Prop := (∃ (b386 : Addr), v = some (.ref b386) ∧ Fr n0 L ∧ Keep h0 h [] ∧ h0.size ≤ b386 ∧ Exa Z h b386 "java/util/OptionalDouble" ∧ Fld Z h b386 "java/util/OptionalDouble" "isPresent" "Z" (.int (1 : Int32)) ∧ Fld Z h b386 "java/util/OptionalDouble" "value" "D" (.double (FP.l2d d0)))
set_option maxRecDepth 65536 in
set_option maxHeartbeats 40000000 in
theorem rm29 (l : Launch) (Z : State) (a0 : Array Value) (hw : ∀ d ∈ tables_1, d.before a0 Z = true) (ws : List Jvm.Cond) (d0 : Int64) (h0 : Heap) (n0 : Nat) (Z0 : n0 ≤ h0.size)  :
    Con l Z (⟨"java/util/OptionalDouble", "of", "(D)Ljava/util/OptionalDouble;"⟩ : MethodName) jdk_2648_method_4_code 2 (some (.object "java/util/OptionalDouble")) ws ({ frames := 2, cells := 1, slots := 2, locals := 27 } : Room) #[(.double (FP.l2d d0))] h0 1 2 (Q29 Z d0 h0 n0) := by
  refine MetFree.of_bodySF (plainFor_of_name pn_5) hisR ?_
  intro p e s m args below meth c s₁ Bd hml0 hP hK
  obtain ⟨rfl, hZ, hh⟩ := hP
  have hx := Bd.exec
  have hby := Bd.bytes
  have hml : c.maxLocals = 2 := hml0
  have hown : s.vm.findClass "java/util/OptionalDouble" = some m.cls := findClass_of_methodNamed Bd.named
  have hnm := (name_of_methodNamed Bd.named Bd.method).1
  have X0 : Stand p l e ({ frames := 2, cells := 1, slots := 2, locals := 27 } : Room) s m #[(.double (FP.l2d d0))] below meth c s₁ [] 0 0 := Stand.of_body Bd
  have e0 : s₁.heap = h0 := by rw [← hh, Bd.state]; rfl
  have N0 := Fr.nil n0
  refine Go.of ?_
  refine Go.st (S' := s₁.setTop (mkF m 0 #[.val (.double (FP.l2d d0)), .second] [])) (fun t k => castTop (ef_29 m (FP.l2d d0)) k) ?_
  obtain ⟨T386, h386, X386, e386, E386, A386, D386, -, st386⟩ := newO X0 hx hZ hown (hw _ (List.mem_of_getElem? (i := 161) rfl)) (hw _ (List.mem_of_getElem? (i := 162) rfl)) (hw _ (List.mem_of_getElem? (i := 159) rfl)) e0 (g := (mkF m 0 #[.val (.double (FP.l2d d0)), .second] [])) rfl (hb hby djdk_2648_method_4_code_0) (by decide) (by decide)
  obtain ⟨b386, gg386⟩ : ∃ z, z = h0.size := ⟨_, rfl⟩
  rw [← gg386] at A386 D386 st386
  have g_b386 : n0 ≤ b386 := Nat.le_trans Z0 (Nat.le_of_eq gg386.symm)
  have sz_b386 : h0.size ≤ b386 := Nat.le_trans (Keep.refl h0 []).1 (Nat.le_of_eq gg386.symm)
  have Z387 : n0 ≤ h386.size := Nat.le_trans Z0 E386.1
  have K387 : Keep h0 h386 [] := (Keep.refl h0 []).ext E386
  have Fb386_isPresent : Fld Z h386 b386 "java/util/OptionalDouble" "isPresent" "Z" (.int (0 : Int32)) := D386 (Or.inr (hw _ (List.mem_of_getElem? (i := 169) rfl))) (ty := .boolean) (by decide)
  have Fb386_value : Fld Z h386 b386 "java/util/OptionalDouble" "value" "D" (.double (0 : UInt64)) := D386 (Or.inr (hw _ (List.mem_of_getElem? (i := 171) rfl))) (ty := .double) (by decide)
  refine Go.st (S' := T386.setTop (mkF m 3 #[.val (.double (FP.l2d d0)), .second] [(.ref b386)])) st386 ?_
  refine Go.st (S' := T386.setTop (mkF m 4 #[.val (.double (FP.l2d d0)), .second] [(.ref b386), (.ref b386)])) (fun t k => XS.dup X386.here hx rfl (hb hby djdk_2648_method_4_code_3) rfl rfl k) ?_
  refine Go.st (S' := T386.setTop (mkF m 5 #[.val (.double (FP.l2d d0)), .second] [(.double (FP.l2d d0)), (.ref b386), (.ref b386)])) (fun t k => XS.dloadN X386.here hx rfl (hb hby djdk_2648_method_4_code_4) rfl k) ?_
  obtain ⟨r397, T397, L397, X397, hQ397, st397⟩ := own_callI (W := 1) (a := b386) X386 hx hZ e386 hown (y := (⟨"java/util/OptionalDouble", "<init>", "(D)V"⟩ : MethodName)) rfl (hw _ (List.mem_of_getElem? (i := 163) rfl)) (hw _ (List.mem_of_getElem? (i := 164) rfl)) (hw _ (List.mem_of_getElem? (i := 159) rfl)) (hw _ (List.mem_of_getElem? (i := 166) rfl)) (by decide) (rm28 l Z a0 hw [] b386 d0 ((.int (0 : Int32))) ((.double (0 : UInt64))) h386 n0 Z387 (A386) (Fb386_isPresent) (g_b386) (Fb386_value)) (by decide) (by decide) (by decide) (by decide) (g := (mkF m 5 #[.val (.double (FP.l2d d0)), .second] [(.double (FP.l2d d0)), (.ref b386), (.ref b386)])) rfl (by rw [hml]; rfl) (argsL := [(.double (FP.l2d d0))]) (rest := [(.ref b386)]) rfl (lenOf pd_21 rfl) rfl (by show 2 * 0 + _ ≤ _; exact Nat.le_of_eq rfl) (hb hby djdk_2648_method_4_code_5)
  obtain ⟨rfl, N397, K397_, f398, f399, f400⟩ := hQ397
  have N397_ := Fr.app N0 N397
  have Z401 : n0 ≤ T397.heap.size := Nat.le_trans Z387 K397_.1
  have K401 : Keep h0 T397.heap [] := K387.trans K397_ (allS (Or.inr sz_b386) all0)
  refine Go.st (S' := T397.setTop (mkF m 8 #[.val (.double (FP.l2d d0)), .second] [(.ref b386)])) st397 ?_
  exact Go.ret X397 (v := some (.ref b386)) (fun h => by rw [Bd.returns] at h; cases h) Bd.notSynchronized (fun fs hr => retOut X397 hx Bd.returns rfl (Or.inr (Or.inr (Or.inr (Or.inr ⟨rfl, rfl, rfl⟩)))) (hb hby djdk_2648_method_4_code_8) hr) (by decide) (by decide) (⟨b386, rfl, N397_, K401, sz_b386, f398, f399, f400⟩)
theorem ef_30 (m : MethodId) (o0 : Addr) (p1 : Int32) : entryFrame m #[(.ref o0), (.int p1)] 2 = mkF m 0 #[.val (.ref o0), .val (.int p1)] [] := by first | (simp [entryFrame, mkF, argsToLocals, Value.category, maxLocals]; done) | rfl
def Q30 (Z : State) (o0 : Addr) (p1 : Int32) (u_o0_length : Value) (h0 : Heap) (n0 : Nat) (v : Option Value) (h : Heap) (L : List Loc) : Prop := (v = none ∧ Fr n0 L ∧ Keep h0 h [o0] ∧ Exa Z h o0 "com/example/tuneless/tuneless/space/BitStringSpace" ∧ Fld Z h o0 "com/example/tuneless/tuneless/space/BitStringSpace" "length" "I" (.int p1))
set_option maxRecDepth 65536 in
set_option maxHeartbeats 40000000 in
theorem rm30 (l : Launch) (Z : State) (a0 : Array Value) (hw : ∀ d ∈ tables_1, d.before a0 Z = true) (ws : List Jvm.Cond) (o0 : Addr) (p1 : Int32) (u_o0_length : Value) (h0 : Heap) (n0 : Nat) (Z0 : n0 ≤ h0.size) (E_o0 : Exa Z h0 o0 "com/example/tuneless/tuneless/space/BitStringSpace") (F_o0_length : Fld Z h0 o0 "com/example/tuneless/tuneless/space/BitStringSpace" "length" "I" u_o0_length) (g_o0 : n0 ≤ o0) :
    Con l Z (⟨"com/example/tuneless/tuneless/space/BitStringSpace", "<init>", "(I)V"⟩ : MethodName) prog_69_method_1_code 2 none ws ({ frames := 1, cells := 0, slots := 0, locals := 12 } : Room) #[(.ref o0), (.int p1)] h0 0 0 (Q30 Z o0 p1 u_o0_length h0 n0) := by
  refine MetFree.of_bodySF (plainFor_of_name pn_6) hisR ?_
  intro p e s m args below meth c s₁ Bd hml0 hP hK
  obtain ⟨rfl, hZ, hh⟩ := hP
  have hx := Bd.exec
  have hby := Bd.bytes
  have hml : c.maxLocals = 2 := hml0
  have hown : s.vm.findClass "com/example/tuneless/tuneless/space/BitStringSpace" = some m.cls := findClass_of_methodNamed Bd.named
  have hnm := (name_of_methodNamed Bd.named Bd.method).1
  have X0 : Stand p l e ({ frames := 1, cells := 0, slots := 0, locals := 12 } : Room) s m #[(.ref o0), (.int p1)] below meth c s₁ [] 0 0 := Stand.of_body Bd
  have e0 : s₁.heap = h0 := by rw [← hh, Bd.state]; rfl
  have N0 := Fr.nil n0
  refine Go.of ?_
  refine Go.st (S' := s₁.setTop (mkF m 0 #[.val (.ref o0), .val (.int p1)] [])) (fun t k => castTop (ef_30 m o0 p1) k) ?_
  refine Go.st (S' := s₁.setTop (mkF m 1 #[.val (.ref o0), .val (.int p1)] [(.ref o0)])) (fun t k => XS.aloadN X0.here hx rfl (hb hby dprog_69_method_1_code_0) rfl rfl k) ?_
  obtain ⟨T420, X420, e420, st420⟩ := initO X0 hx hZ hown (hw _ (List.mem_of_getElem? (i := 187) rfl)) (hw _ (List.mem_of_getElem? (i := 19) rfl)) (hw _ (List.mem_of_getElem? (i := 20) rfl)) e0 (g := (mkF m 1 #[.val (.ref o0), .val (.int p1)] [(.ref o0)])) rfl (by rw [hml]; rfl) rfl (hb hby dprog_69_method_1_code_1) (by decide) (W := 0) (by show 2 * 0 + _ ≤ _; exact Nat.le_of_eq rfl) (by decide)
  refine Go.st (S' := T420.setTop (mkF m 4 #[.val (.ref o0), .val (.int p1)] [])) st420 ?_
  refine Go.st (S' := T420.setTop (mkF m 5 #[.val (.ref o0), .val (.int p1)] [(.ref o0)])) (fun t k => XS.aloadN X420.here hx rfl (hb hby dprog_69_method_1_code_4) rfl rfl k) ?_
  refine Go.st (S' := T420.setTop (mkF m 6 #[.val (.ref o0), .val (.int p1)] [(.int p1), (.ref o0)])) (fun t k => XS.iloadN X420.here hx rfl (hb hby dprog_69_method_1_code_5) rfl k) ?_
  obtain ⟨T421, h421, X421, e421, W421, st421⟩ := putF X420 hx hZ hown (host := "") (Or.inl (hw _ (List.mem_of_getElem? (i := 188) rfl))) Via.refl e420 F_o0_length E_o0 (Or.inr ⟨(hw _ (List.mem_of_getElem? (i := 189) rfl)), rfl, hnm⟩) (hw _ (List.mem_of_getElem? (i := 183) rfl)) (ty := .int) (by decide) rfl rfl (g := (mkF m 6 #[.val (.ref o0), .val (.int p1)] [(.int p1), (.ref o0)])) rfl rfl (hb hby dprog_69_method_1_code_6)
  have Fw421 := (F_o0_length).same W421
  have N421 := Fr.snoc X421 N0 g_o0
  have Z422 : n0 ≤ h421.size := Nat.le_trans Z0 (Keep.of_wr W421).1
  have K422 : Keep h0 h421 [o0] := (Keep.refl h0 [o0]).wr W421 (Or.inl (by simp))
  refine Go.st (S' := T421.setTop (mkF m 9 #[.val (.ref o0), .val (.int p1)] [])) st421 ?_
  have f423 := ((E_o0).wr W421)
  exact Go.ret X421 (v := none) (fun _ => rfl) Bd.notSynchronized (fun fs hr => X421.returnOut hx Bd.returns (hb hby dprog_69_method_1_code_9) hr) (by decide) (by decide) (by rw [e421]; exact ⟨rfl, N421, K422, f423, Fw421⟩)
theorem ef_31 (m : MethodId) (p0 : Int32) : entryFrame m #[(.int p0)] 1 = mkF m 0 #[.val (.int p0)] [] := by first | (simp [entryFrame, mkF, argsToLocals, Value.category, maxLocals]; done) | rfl
def Q31 (Z : State) (p0 : Int32) (h0 : Heap) (n0 : Nat) (v : Option Value) (h : Heap) (L : List Loc) : Prop := (∃ (b418 : Addr), v = some (.ref b418) ∧ Fr n0 L ∧ Keep h0 h [] ∧ h0.size ≤ b418 ∧ Exa Z h b418 "com/example/tuneless/tuneless/space/BitStringSpace" ∧ Fld Z h b418 "com/example/tuneless/tuneless/space/BitStringSpace" "length" "I" (.int p0))
set_option maxRecDepth 65536 in
set_option maxHeartbeats 40000000 in
theorem rm31 (l : Launch) (Z : State) (a0 : Array Value) (hw : ∀ d ∈ tables_1, d.before a0 Z = true) (ws : List Jvm.Cond) (p0 : Int32) (h0 : Heap) (n0 : Nat) (Z0 : n0 ≤ h0.size) (hra_p0 : (¬ (p0 < (1 : Int32)))) (hrb_p0 : (¬ ((8 : Int32) < p0))) :
    Con l Z (⟨"com/example/tuneless/tuneless/space/BitStringSpace", "of", "(I)Lcom/example/tuneless/tuneless/space/BitStringSpace;"⟩ : MethodName) prog_69_method_2_code 1 (some (.object "com/example/tuneless/tuneless/space/BitStringSpace")) ws ({ frames := 2, cells := 1, slots := 1, locals := 26 } : Room) #[(.int p0)] h0 1 1 (Q31 Z p0 h0 n0) := by
  refine MetFree.of_bodySF (plainFor_of_name pn_6) hisR ?_
  intro p e s m args below meth c s₁ Bd hml0 hP hK
  obtain ⟨rfl, hZ, hh⟩ := hP
  have hx := Bd.exec
  have hby := Bd.bytes
  have hml : c.maxLocals = 1 := hml0
  have hown : s.vm.findClass "com/example/tuneless/tuneless/space/BitStringSpace" = some m.cls := findClass_of_methodNamed Bd.named
  have hnm := (name_of_methodNamed Bd.named Bd.method).1
  have X0 : Stand p l e ({ frames := 2, cells := 1, slots := 1, locals := 26 } : Room) s m #[(.int p0)] below meth c s₁ [] 0 0 := Stand.of_body Bd
  have e0 : s₁.heap = h0 := by rw [← hh, Bd.state]; rfl
  have N0 := Fr.nil n0
  refine Go.of ?_
  refine Go.st (S' := s₁.setTop (mkF m 0 #[.val (.int p0)] [])) (fun t k => castTop (ef_31 m p0) k) ?_
  refine Go.st (S' := s₁.setTop (mkF m 1 #[.val (.int p0)] [(.int p0)])) (fun t k => XS.iloadN X0.here hx rfl (hb hby dprog_69_method_2_code_0) rfl k) ?_
  refine Go.st (S' := s₁.setTop (mkF m 2 #[.val (.int p0)] [(.int (1 : Int32)), (.int p0)])) (fun t k => XS.iconst X0.here hx rfl (hb hby dprog_69_method_2_code_1) k) ?_
  refine Go.st (S' := s₁.setTop (mkF m 5 #[.val (.int p0)] [])) (fun t k => XS.icmpNo X0.here hx rfl (hb hby dprog_69_method_2_code_2) rfl (flt hra_p0).1 k) ?_
  refine Go.st (S' := s₁.setTop (mkF m 6 #[.val (.int p0)] [(.int p0)])) (fun t k => XS.iloadN X0.here hx rfl (hb hby dprog_69_method_2_code_5) rfl k) ?_
  refine Go.st (S' := s₁.setTop (mkF m 9 #[.val (.int p0)] [(.int (4096 : Int32)), (.int p0)])) (fun t k => XS.sipush X0.here hx rfl (hb hby dprog_69_method_2_code_6) k) ?_
  by_cases hc417 : ((4096 : Int32) < p0)
  · exfalso
    have rp0 := rng32 p0
    have lI1 : (1 : Int32).toInt = 1 := by decide
    have lI8 : (8 : Int32).toInt = 8 := by decide
    have lI4096 : (4096 : Int32).toInt = 4096 := by decide
    simp only [Int32.lt_iff_toInt_lt, Int64.lt_iff_toInt_lt, ← Int32.toInt_inj, ← Int64.toInt_inj] at hra_p0 hrb_p0 hc417
    omega
  · refine Go.st (S' := s₁.setTop (mkF m 39 #[.val (.int p0)] [])) (fun t k => XS.icmpYes X0.here hx rfl (pc0 := 9) (pc' := 39) rfl (hb hby dprog_69_method_2_code_9) rfl (flt hc417).2.2.2 (by decide) (by decide) k) ?_
    obtain ⟨T418, h418, X418, e418, E418, A418, D418, -, st418⟩ := newO X0 hx hZ hown (hw _ (List.mem_of_getElem? (i := 182) rfl)) (hw _ (List.mem_of_getElem? (i := 183) rfl)) (hw _ (List.mem_of_getElem? (i := 180) rfl)) e0 (g := (mkF m 39 #[.val (.int p0)] [])) rfl (hb hby dprog_69_method_2_code_39) (by decide) (by decide)
    obtain ⟨b418, gg418⟩ : ∃ z, z = h0.size := ⟨_, rfl⟩
    rw [← gg418] at A418 D418 st418
    have g_b418 : n0 ≤ b418 := Nat.le_trans Z0 (Nat.le_of_eq gg418.symm)
    have sz_b418 : h0.size ≤ b418 := Nat.le_trans (Keep.refl h0 []).1 (Nat.le_of_eq gg418.symm)
    have Z419 : n0 ≤ h418.size := Nat.le_trans Z0 E418.1
    have K419 : Keep h0 h418 [] := (Keep.refl h0 []).ext E418
    have Fb418_length : Fld Z h418 b418 "com/example/tuneless/tuneless/space/BitStringSpace" "length" "I" (.int (0 : Int32)) := D418 (Or.inr (hw _ (List.mem_of_getElem? (i := 189) rfl))) (ty := .int) (by decide)
    refine Go.st (S' := T418.setTop (mkF m 42 #[.val (.int p0)] [(.ref b418)])) st418 ?_
    refine Go.st (S' := T418.setTop (mkF m 43 #[.val (.int p0)] [(.ref b418), (.ref b418)])) (fun t k => XS.dup X418.here hx rfl (hb hby dprog_69_method_2_code_42) rfl rfl k) ?_
    refine Go.st (S' := T418.setTop (mkF m 44 #[.val (.int p0)] [(.int p0), (.ref b418), (.ref b418)])) (fun t k => XS.iloadN X418.here hx rfl (hb hby dprog_69_method_2_code_43) rfl k) ?_
    obtain ⟨r424, T424, L424, X424, hQ424, st424⟩ := own_callI (W := 1) (a := b418) X418 hx hZ e418 hown (y := (⟨"com/example/tuneless/tuneless/space/BitStringSpace", "<init>", "(I)V"⟩ : MethodName)) rfl (hw _ (List.mem_of_getElem? (i := 184) rfl)) (hw _ (List.mem_of_getElem? (i := 185) rfl)) (hw _ (List.mem_of_getElem? (i := 180) rfl)) (hw _ (List.mem_of_getElem? (i := 186) rfl)) (by decide) (rm30 l Z a0 hw [] b418 p0 ((.int (0 : Int32))) h418 n0 Z419 (A418) (Fb418_length) (g_b418)) (by decide) (by decide) (by decide) (by decide) (g := (mkF m 44 #[.val (.int p0)] [(.int p0), (.ref b418), (.ref b418)])) rfl (by rw [hml]; rfl) (argsL := [(.int p0)]) (rest := [(.ref b418)]) rfl (lenOf pd_0 rfl) rfl (by show 2 * 0 + _ ≤ _; exact Nat.le_of_eq rfl) (hb hby dprog_69_method_2_code_44)
    obtain ⟨rfl, N424, K424_, f425, f426⟩ := hQ424
    have N424_ := Fr.app N0 N424
    have Z427 : n0 ≤ T424.heap.size := Nat.le_trans Z419 K424_.1
    have K427 : Keep h0 T424.heap [] := K419.trans K424_ (allS (Or.inr sz_b418) all0)
    refine Go.st (S' := T424.setTop (mkF m 47 #[.val (.int p0)] [(.ref b418)])) st424 ?_
    exact Go.ret X424 (v := some (.ref b418)) (fun h => by rw [Bd.returns] at h; cases h) Bd.notSynchronized (fun fs hr => retOut X424 hx Bd.returns rfl (Or.inr (Or.inr (Or.inr (Or.inr ⟨rfl, rfl, rfl⟩)))) (hb hby dprog_69_method_2_code_47) hr) (by decide) (by decide) (⟨b418, rfl, N424_, K427, sz_b418, f425, f426⟩)
theorem ef_32 (m : MethodId) (o0 : Addr) (o1 : Addr) (p2 : Int32) (s_Direction_MAXIMIZE : Addr) (o4 : Addr) : entryFrame m #[(.ref o0), (.ref o1), (.int p2), (.ref s_Direction_MAXIMIZE), (.ref o4)] 5 = mkF m 0 #[.val (.ref o0), .val (.ref o1), .val (.int p2), .val (.ref s_Direction_MAXIMIZE), .val (.ref o4)] [] := by first | (simp [entryFrame, mkF, argsToLocals, Value.category, maxLocals]; done) | rfl
def Q32 (Z : State) (o0 : Addr) (o1 : Addr) (p2 : Int32) (s_Direction_MAXIMIZE : Addr) (o4 : Addr) (u_o0_description : Value) (u_o0_space : Value) (u_o0_direction : Value) (u_o0_optimum : Value) (h0 : Heap) (n0 : Nat) (v : Option Value) (h : Heap) (L : List Loc) : Prop := (∃ (b429 : Addr), v = none ∧ Fr n0 L ∧ Keep h0 h [o0] ∧ h0.size ≤ b429 ∧ Exa Z h o0 "com/example/tuneless/tuneless/problem/OneMax" ∧ Fld Z h o0 "com/example/tuneless/tuneless/problem/Landscape" "description" "Ljava/lang/String;" (.ref o1) ∧ Exa Z h b429 "com/example/tuneless/tuneless/space/BitStringSpace" ∧ Fld Z h b429 "com/example/tuneless/tuneless/space/BitStringSpace" "length" "I" (.int p2) ∧ Fld Z h o0 "com/example/tuneless/tuneless/problem/Landscape" "space" "Lcom/example/tuneless/tuneless/space/BitStringSpace;" (.ref b429) ∧ Fld Z h o0 "com/example/tuneless/tuneless/problem/Landscape" "direction" "Lcom/example/tuneless/tuneless/space/Direction;" (.ref s_Direction_MAXIMIZE) ∧ Fld Z h o0 "com/example/tuneless/tuneless/problem/Landscape" "optimum" "Ljava/util/OptionalDouble;" (.ref o4))
set_option maxRecDepth 65536 in
set_option maxHeartbeats 40000000 in
theorem rm32 (l : Launch) (Z : State) (a0 : Array Value) (hw : ∀ d ∈ tables_1, d.before a0 Z = true) (ws : List Jvm.Cond) (o0 : Addr) (o1 : Addr) (p2 : Int32) (s_Direction_MAXIMIZE : Addr) (o4 : Addr) (u_o0_description : Value) (u_o0_space : Value) (u_o0_direction : Value) (u_o0_optimum : Value) (h0 : Heap) (n0 : Nat) (Z0 : n0 ≤ h0.size) (hra_p2 : (¬ (p2 < (1 : Int32)))) (hrb_p2 : (¬ ((8 : Int32) < p2))) (E_o0 : Exa Z h0 o0 "com/example/tuneless/tuneless/problem/OneMax") (F_o0_description : Fld Z h0 o0 "com/example/tuneless/tuneless/problem/Landscape" "description" "Ljava/lang/String;" u_o0_description) (g_o0 : n0 ≤ o0) (F_o0_space : Fld Z h0 o0 "com/example/tuneless/tuneless/problem/Landscape" "space" "Lcom/example/tuneless/tuneless/space/BitStringSpace;" u_o0_space) (F_o0_direction : Fld Z h0 o0 "com/example/tuneless/tuneless/problem/Landscape" "direction" "Lcom/example/tuneless/tuneless/space/Direction;" u_o0_direction) (F_o0_optimum : Fld Z h0 o0 "com/example/tuneless/tuneless/problem/Landscape" "optimum" "Ljava/util/OptionalDouble;" u_o0_optimum) :
    Con l Z (⟨"com/example/tuneless/tuneless/problem/Landscape", "<init>", "(Ljava/lang/String;ILcom/example/tuneless/tuneless/space/Direction;Ljava/util/OptionalDouble;)V"⟩ : MethodName) prog_58_method_2_code 5 none ws ({ frames := 3, cells := 1, slots := 1, locals := 39 } : Room) #[(.ref o0), (.ref o1), (.int p2), (.ref s_Direction_MAXIMIZE), (.ref o4)] h0 1 1 (Q32 Z o0 o1 p2 s_Direction_MAXIMIZE o4 u_o0_description u_o0_space u_o0_direction u_o0_optimum h0 n0) := by
  refine MetFree.of_bodySF (plainFor_of_name pn_7) hisR ?_
  intro p e s m args below meth c s₁ Bd hml0 hP hK
  obtain ⟨rfl, hZ, hh⟩ := hP
  have hx := Bd.exec
  have hby := Bd.bytes
  have hml : c.maxLocals = 5 := hml0
  have hown : s.vm.findClass "com/example/tuneless/tuneless/problem/Landscape" = some m.cls := findClass_of_methodNamed Bd.named
  have hnm := (name_of_methodNamed Bd.named Bd.method).1
  have X0 : Stand p l e ({ frames := 3, cells := 1, slots := 1, locals := 39 } : Room) s m #[(.ref o0), (.ref o1), (.int p2), (.ref s_Direction_MAXIMIZE), (.ref o4)] below meth c s₁ [] 0 0 := Stand.of_body Bd
  have e0 : s₁.heap = h0 := by rw [← hh, Bd.state]; rfl
  have N0 := Fr.nil n0
  refine Go.of ?_
  refine Go.st (S' := s₁.setTop (mkF m 0 #[.val (.ref o0), .val (.ref o1), .val (.int p2), .val (.ref s_Direction_MAXIMIZE), .val (.ref o4)] [])) (fun t k => castTop (ef_32 m o0 o1 p2 s_Direction_MAXIMIZE o4) k) ?_
  let A408 : Array Slot := #[.val (.ref o0), .val (.ref o1), .val (.int p2), .val (.ref s_Direction_MAXIMIZE), .val (.ref o4)]
  refine Go.st (S' := s₁.setTop (mkF m 1 A408 [(.ref o0)])) (fun t k => XS.aloadN X0.here hx rfl (hb hby dprog_58_method_2_code_0) rfl rfl k) ?_
  obtain ⟨T409, X409, e409, st409⟩ := initO X0 hx hZ hown (hw _ (List.mem_of_getElem? (i := 175) rfl)) (hw _ (List.mem_of_getElem? (i := 19) rfl)) (hw _ (List.mem_of_getElem? (i := 20) rfl)) e0 (g := (mkF m 1 A408 [(.ref o0)])) rfl (by rw [hml]; rfl) rfl (hb hby dprog_58_method_2_code_1) (by decide) (W := 0) (by show 2 * 0 + _ ≤ _; exact Nat.le_of_eq rfl) (by decide)
  refine Go.st (S' := T409.setTop (mkF m 4 A408 [])) st409 ?_
  refine Go.st (S' := T409.setTop (mkF m 5 A408 [(.ref o0)])) (fun t k => XS.aloadN X409.here hx rfl (hb hby dprog_58_method_2_code_4) rfl rfl k) ?_
  refine Go.st (S' := T409.setTop (mkF m 6 A408 [(.ref o1), (.ref o0)])) (fun t k => XS.aloadN X409.here hx rfl (hb hby dprog_58_method_2_code_5) rfl rfl k) ?_
  obtain ⟨T414, h414, X414, e414, W414, st414⟩ := putF X409 hx hZ hown (host := "") (Or.inl (hw _ (List.mem_of_getElem? (i := 176) rfl))) Via.refl e409 F_o0_description E_o0 (Or.inr ⟨(hw _ (List.mem_of_getElem? (i := 177) rfl)), rfl, hnm⟩) (hw _ (List.mem_of_getElem? (i := 1) rfl)) (ty := (.object "java/lang/String")) (by decide) rfl rfl (g := (mkF m 6 A408 [(.ref o1), (.ref o0)])) rfl rfl (hb hby dprog_58_method_2_code_6)
  have Fw414 := (F_o0_description).same W414
  have N414 := Fr.snoc X414 N0 g_o0
  have Z415 : n0 ≤ h414.size := Nat.le_trans Z0 (Keep.of_wr W414).1
  have K415 : Keep h0 h414 [o0] := (Keep.refl h0 [o0]).wr W414 (Or.inl (by simp))
  refine Go.st (S' := T414.setTop (mkF m 9 A408 [])) st414 ?_
  refine Go.st (S' := T414.setTop (mkF m 10 A408 [(.ref o0)])) (fun t k => XS.aloadN X414.here hx rfl (hb hby dprog_58_method_2_code_9) rfl rfl k) ?_
  refine Go.st (S' := T414.setTop (mkF m 11 A408 [(.int p2), (.ref o0)])) (fun t k => XS.iloadN X414.here hx rfl (hb hby dprog_58_method_2_code_10) rfl k) ?_
  obtain ⟨r428, T428, L428, X428, hQ428, st428⟩ := own_callS (W := 1) X414 hx hZ e414 hown (y := (⟨"com/example/tuneless/tuneless/space/BitStringSpace", "of", "(I)Lcom/example/tuneless/tuneless/space/BitStringSpace;"⟩ : MethodName)) (hw _ (List.mem_of_getElem? (i := 178) rfl)) (hw _ (List.mem_of_getElem? (i := 179) rfl)) (hw _ (List.mem_of_getElem? (i := 180) rfl)) (hw _ (List.mem_of_getElem? (i := 181) rfl)) (by decide) (rm31 l Z a0 hw [] p2 h414 n0 Z415 (hra_p2) (hrb_p2)) (by decide) (by decide) (by decide) (by decide) (g := (mkF m 11 A408 [(.int p2), (.ref o0)])) rfl (by rw [hml]; rfl) (argsL := [(.int p2)]) (rest := [(.ref o0)]) rfl (lenOf pd_23 rfl) rfl (by show 2 * 0 + _ ≤ _; exact Nat.le_of_eq rfl) (hb hby dprog_58_method_2_code_11)
  obtain ⟨b429, rfl, N428, K428_, sz_b429_, f430, f431⟩ := hQ428
  have N428_ := Fr.app N414 N428
  have g_b429 : n0 ≤ b429 := Nat.le_trans Z415 sz_b429_
  have sz_b429 : h0.size ≤ b429 := Nat.le_trans K415.1 sz_b429_
  have Z432 : n0 ≤ T428.heap.size := Nat.le_trans Z415 K428_.1
  have K432 : Keep h0 T428.heap [o0] := K415.trans K428_ all0
  refine Go.st (S' := T428.setTop (mkF m 14 A408 [(.ref b429), (.ref o0)])) st428 ?_
  have f433 := ((((E_o0).wr W414)).keep K428_)
  have f436 := ((((F_o0_space).other W414 (Or.inr (slot_ne (Or.inr (hw _ (List.mem_of_getElem? (i := 191) rfl))) (Or.inr (hw _ (List.mem_of_getElem? (i := 177) rfl))) (by decide) (t := (.object "com/example/tuneless/tuneless/space/BitStringSpace")) (t' := (.object "java/lang/String")) (by decide) (by decide))))).keep K428_ nin0)
  obtain ⟨T437, h437, X437, e437, W437, st437⟩ := putF X428 hx hZ hown (host := "") (Or.inl (hw _ (List.mem_of_getElem? (i := 190) rfl))) Via.refl rfl f436 f433 (Or.inr ⟨(hw _ (List.mem_of_getElem? (i := 191) rfl)), rfl, hnm⟩) (hw _ (List.mem_of_getElem? (i := 1) rfl)) (ty := (.object "com/example/tuneless/tuneless/space/BitStringSpace")) (by decide) rfl rfl (g := (mkF m 14 A408 [(.ref b429), (.ref o0)])) rfl rfl (hb hby dprog_58_method_2_code_14)
  have Fw437 := (f436).same W437
  have N437 := Fr.snoc X437 N428_ g_o0
  have Z438 : n0 ≤ h437.size := Nat.le_trans Z432 (Keep.of_wr W437).1
  have K438 : Keep h0 h437 [o0] := K432.wr W437 (Or.inl (by simp))
  refine Go.st (S' := T437.setTop (mkF m 17 A408 [])) st437 ?_
  refine Go.st (S' := T437.setTop (mkF m 18 A408 [(.ref o0)])) (fun t k => XS.aloadN X437.here hx rfl (hb hby dprog_58_method_2_code_17) rfl rfl k) ?_
  refine Go.st (S' := T437.setTop (mkF m 19 A408 [(.ref s_Direction_MAXIMIZE), (.ref o0)])) (fun t k => XS.aloadN X437.here hx rfl (hb hby dprog_58_method_2_code_18) rfl rfl k) ?_
  have f439 := ((f433).wr W437)
  have f442 := ((((((F_o0_direction).other W414 (Or.inr (slot_ne (Or.inr (hw _ (List.mem_of_getElem? (i := 193) rfl))) (Or.inr (hw _ (List.mem_of_getElem? (i := 177) rfl))) (by decide) (t := (.object "com/example/tuneless/tuneless/space/Direction")) (t' := (.object "java/lang/String")) (by decide) (by decide))))).keep K428_ nin0)).other W437 (Or.inr (slot_ne (Or.inr (hw _ (List.mem_of_getElem? (i := 193) rfl))) (Or.inr (hw _ (List.mem_of_getElem? (i := 191) rfl))) (by decide) (t := (.object "com/example/tuneless/tuneless/space/Direction")) (t' := (.object "com/example/tuneless/tuneless/space/BitStringSpace")) (by decide) (by decide))))
  obtain ⟨T443, h443, X443, e443, W443, st443⟩ := putF X437 hx hZ hown (host := "") (Or.inl (hw _ (List.mem_of_getElem? (i := 192) rfl))) Via.refl e437 f442 f439 (Or.inr ⟨(hw _ (List.mem_of_getElem? (i := 193) rfl)), rfl, hnm⟩) (hw _ (List.mem_of_getElem? (i := 1) rfl)) (ty := (.object "com/example/tuneless/tuneless/space/Direction")) (by decide) rfl rfl (g := (mkF m 19 A408 [(.ref s_Direction_MAXIMIZE), (.ref o0)])) rfl rfl (hb hby dprog_58_method_2_code_19)
  have Fw443 := (f442).same W443
  have N443 := Fr.snoc X443 N437 g_o0
  have Z444 : n0 ≤ h443.size := Nat.le_trans Z438 (Keep.of_wr W443).1
  have K444 : Keep h0 h443 [o0] := K438.wr W443 (Or.inl (by simp))
  refine Go.st (S' := T443.setTop (mkF m 22 A408 [])) st443 ?_
  refine Go.st (S' := T443.setTop (mkF m 23 A408 [(.ref o0)])) (fun t k => XS.aloadN X443.here hx rfl (hb hby dprog_58_method_2_code_22) rfl rfl k) ?_
  refine Go.st (S' := T443.setTop (mkF m 25 A408 [(.ref o4), (.ref o0)])) (fun t k => XS.aload X443.here hx rfl (hb hby dprog_58_method_2_code_23) rfl rfl k) ?_
  have f445 := ((f439).wr W443)
  have f448 := ((((((((F_o0_optimum).other W414 (Or.inr (slot_ne (Or.inr (hw _ (List.mem_of_getElem? (i := 195) rfl))) (Or.inr (hw _ (List.mem_of_getElem? (i := 177) rfl))) (by decide) (t := (.object "java/util/OptionalDouble")) (t' := (.object "java/lang/String")) (by decide) (by decide))))).keep K428_ nin0)).other W437 (Or.inr (slot_ne (Or.inr (hw _ (List.mem_of_getElem? (i := 195) rfl))) (Or.inr (hw _ (List.mem_of_getElem? (i := 191) rfl))) (by decide) (t := (.object "java/util/OptionalDouble")) (t' := (.object "com/example/tuneless/tuneless/space/BitStringSpace")) (by decide) (by decide))))).other W443 (Or.inr (slot_ne (Or.inr (hw _ (List.mem_of_getElem? (i := 195) rfl))) (Or.inr (hw _ (List.mem_of_getElem? (i := 193) rfl))) (by decide) (t := (.object "java/util/OptionalDouble")) (t' := (.object "com/example/tuneless/tuneless/space/Direction")) (by decide) (by decide))))
  obtain ⟨T449, h449, X449, e449, W449, st449⟩ := putF X443 hx hZ hown (host := "") (Or.inl (hw _ (List.mem_of_getElem? (i := 194) rfl))) Via.refl e443 f448 f445 (Or.inr ⟨(hw _ (List.mem_of_getElem? (i := 195) rfl)), rfl, hnm⟩) (hw _ (List.mem_of_getElem? (i := 1) rfl)) (ty := (.object "java/util/OptionalDouble")) (by decide) rfl rfl (g := (mkF m 25 A408 [(.ref o4), (.ref o0)])) rfl rfl (hb hby dprog_58_method_2_code_25)
  have Fw449 := (f448).same W449
  have N449 := Fr.snoc X449 N443 g_o0
  have Z450 : n0 ≤ h449.size := Nat.le_trans Z444 (Keep.of_wr W449).1
  have K450 : Keep h0 h449 [o0] := K444.wr W449 (Or.inl (by simp))
  refine Go.st (S' := T449.setTop (mkF m 28 A408 [])) st449 ?_
  have f451 := ((f445).wr W449)
  have f452 := ((((((((Fw414).keep K428_ nin0)).other W437 (Or.inr (slot_ne (Or.inr (hw _ (List.mem_of_getElem? (i := 177) rfl))) (Or.inr (hw _ (List.mem_of_getElem? (i := 191) rfl))) (by decide) (t := (.object "java/lang/String")) (t' := (.object "com/example/tuneless/tuneless/space/BitStringSpace")) (by decide) (by decide))))).other W443 (Or.inr (slot_ne (Or.inr (hw _ (List.mem_of_getElem? (i := 177) rfl))) (Or.inr (hw _ (List.mem_of_getElem? (i := 193) rfl))) (by decide) (t := (.object "java/lang/String")) (t' := (.object "com/example/tuneless/tuneless/space/Direction")) (by decide) (by decide))))).other W449 (Or.inr (slot_ne (Or.inr (hw _ (List.mem_of_getElem? (i := 177) rfl))) (Or.inr (hw _ (List.mem_of_getElem? (i := 195) rfl))) (by decide) (t := (.object "java/lang/String")) (t' := (.object "java/util/OptionalDouble")) (by decide) (by decide))))
  have f453 := ((((((f430).wr W437)).wr W443)).wr W449)
  have f454 := ((((((f431).other W437 (Or.inl (Ne.symm (Nat.ne_of_lt (Nat.lt_of_lt_of_le (E_o0).lt sz_b429)))))).other W443 (Or.inl (Ne.symm (Nat.ne_of_lt (Nat.lt_of_lt_of_le (E_o0).lt sz_b429)))))).other W449 (Or.inl (Ne.symm (Nat.ne_of_lt (Nat.lt_of_lt_of_le (E_o0).lt sz_b429)))))
  have f455 := ((((Fw437).other W443 (Or.inr (slot_ne (Or.inr (hw _ (List.mem_of_getElem? (i := 191) rfl))) (Or.inr (hw _ (List.mem_of_getElem? (i := 193) rfl))) (by decide) (t := (.object "com/example/tuneless/tuneless/space/BitStringSpace")) (t' := (.object "com/example/tuneless/tuneless/space/Direction")) (by decide) (by decide))))).other W449 (Or.inr (slot_ne (Or.inr (hw _ (List.mem_of_getElem? (i := 191) rfl))) (Or.inr (hw _ (List.mem_of_getElem? (i := 195) rfl))) (by decide) (t := (.object "com/example/tuneless/tuneless/space/BitStringSpace")) (t' := (.object "java/util/OptionalDouble")) (by decide) (by decide))))
  have f456 := ((Fw443).other W449 (Or.inr (slot_ne (Or.inr (hw _ (List.mem_of_getElem? (i := 193) rfl))) (Or.inr (hw _ (List.mem_of_getElem? (i := 195) rfl))) (by decide) (t := (.object "com/example/tuneless/tuneless/space/Direction")) (t' := (.object "java/util/OptionalDouble")) (by decide) (by decide))))
  exact Go.ret X449 (v := none) (fun _ => rfl) Bd.notSynchronized (fun fs hr => X449.returnOut hx Bd.returns (hb hby dprog_58_method_2_code_28) hr) (by decide) (by decide) (by rw [e449]; exact ⟨b429, rfl, N449, K450, sz_b429, f451, f452, f453, f454, f455, f456, Fw449⟩)
theorem ef_33 (m : MethodId) (o0 : Addr) (o1 : Addr) (p2 : Int32) (s_Direction_MAXIMIZE : Addr) (x_d4 : UInt64) : entryFrame m #[(.ref o0), (.ref o1), (.int p2), (.ref s_Direction_MAXIMIZE), (.double x_d4)] 6 = mkF m 0 #[.val (.ref o0), .val (.ref o1), .val (.int p2), .val (.ref s_Direction_MAXIMIZE), .val (.double x_d4), .second] [] := by first | (simp [entryFrame, mkF, argsToLocals, Value.category, maxLocals]; done) | rfl
def Q33 (Z : State) (o0 : Addr) (o1 : Addr) (p2 : Int32) (s_Direction_MAXIMIZE : Addr) (d4 : Int64) (h0 : Heap) (n0 : Nat) (v : Option Value) (h : Heap) (L : List Loc) : Prop := (∃ (b403 : Addr) (b463 : Addr), v = none ∧ Fr n0 L ∧ Keep h0 h [o0] ∧ h0.size ≤ b403 ∧ h0.size ≤ b463 ∧ Exa Z h b403 "java/util/OptionalDouble" ∧ Fld Z h b403 "java/util/OptionalDouble" "isPresent" "Z" (.int (1 : Int32)) ∧ Fld Z h b403 "java/util/OptionalDouble" "value" "D" (.double (FP.l2d d4)) ∧ Exa Z h o0 "com/example/tuneless/tuneless/problem/OneMax" ∧ Fld Z h o0 "com/example/tuneless/tuneless/problem/Landscape" "description" "Ljava/lang/String;" (.ref o1) ∧ Fld Z h o0 "com/example/tuneless/tuneless/problem/Landscape" "space" "Lcom/example/tuneless/tuneless/space/BitStringSpace;" (.ref b463) ∧ Fld Z h o0 "com/example/tuneless/tuneless/problem/Landscape" "direction" "Lcom/example/tuneless/tuneless/space/Direction;" (.ref s_Direction_MAXIMIZE) ∧ Fld Z h o0 "com/example/tuneless/tuneless/problem/Landscape" "optimum" "Ljava/util/OptionalDouble;" (.ref b403) ∧ Exa Z h b463 "com/example/tuneless/tuneless/space/BitStringSpace" ∧ Fld Z h b463 "com/example/tuneless/tuneless/space/BitStringSpace" "length" "I" (.int p2) ∧ b403 < b463)
set_option maxRecDepth 65536 in
set_option maxHeartbeats 40000000 in
theorem rm33 (l : Launch) (Z : State) (a0 : Array Value) (hw : ∀ d ∈ tables_1, d.before a0 Z = true) (ws : List Jvm.Cond) (o0 : Addr) (o1 : Addr) (p2 : Int32) (s_Direction_MAXIMIZE : Addr) (d4 : Int64) (h0 : Heap) (n0 : Nat) (Z0 : n0 ≤ h0.size) (hra_p2 : (¬ (p2 < (1 : Int32)))) (hrb_p2 : (¬ ((8 : Int32) < p2))) (E_o0 : Exa Z h0 o0 "com/example/tuneless/tuneless/problem/OneMax") (F_o0_description : Fld Z h0 o0 "com/example/tuneless/tuneless/problem/Landscape" "description" "Ljava/lang/String;" .null) (F_o0_space : Fld Z h0 o0 "com/example/tuneless/tuneless/problem/Landscape" "space" "Lcom/example/tuneless/tuneless/space/BitStringSpace;" .null) (F_o0_direction : Fld Z h0 o0 "com/example/tuneless/tuneless/problem/Landscape" "direction" "Lcom/example/tuneless/tuneless/space/Direction;" .null) (F_o0_optimum : Fld Z h0 o0 "com/example/tuneless/tuneless/problem/Landscape" "optimum" "Ljava/util/OptionalDouble;" .null) (g_o0 : n0 ≤ o0) :
    Con l Z (⟨"com/example/tuneless/tuneless/problem/Landscape", "<init>", "(Ljava/lang/String;ILcom/example/tuneless/tuneless/space/Direction;D)V"⟩ : MethodName) prog_58_method_1_code 6 none ws ({ frames := 4, cells := 2, slots := 3, locals := 55 } : Room) #[(.ref o0), (.ref o1), (.int p2), (.ref s_Direction_MAXIMIZE), (.double (FP.l2d d4))] h0 2 3 (Q33 Z o0 o1 p2 s_Direction_MAXIMIZE d4 h0 n0) := by
  refine MetFree.of_bodySF (plainFor_of_name pn_7) hisR ?_
  intro p e s m args below meth c s₁ Bd hml0 hP hK
  obtain ⟨rfl, hZ, hh⟩ := hP
  have hx := Bd.exec
  have hby := Bd.bytes
  have hml : c.maxLocals = 6 := hml0
  have hown : s.vm.findClass "com/example/tuneless/tuneless/problem/Landscape" = some m.cls := findClass_of_methodNamed Bd.named
  have hnm := (name_of_methodNamed Bd.named Bd.method).1
  have X0 : Stand p l e ({ frames := 4, cells := 2, slots := 3, locals := 55 } : Room) s m #[(.ref o0), (.ref o1), (.int p2), (.ref s_Direction_MAXIMIZE), (.double (FP.l2d d4))] below meth c s₁ [] 0 0 := Stand.of_body Bd
  have e0 : s₁.heap = h0 := by rw [← hh, Bd.state]; rfl
  have N0 := Fr.nil n0
  refine Go.of ?_
  refine Go.st (S' := s₁.setTop (mkF m 0 #[.val (.ref o0), .val (.ref o1), .val (.int p2), .val (.ref s_Direction_MAXIMIZE), .val (.double (FP.l2d d4)), .second] [])) (fun t k => castTop (ef_33 m o0 o1 p2 s_Direction_MAXIMIZE (FP.l2d d4)) k) ?_
  let A385 : Array Slot := #[.val (.ref o0), .val (.ref o1), .val (.int p2), .val (.ref s_Direction_MAXIMIZE), .val (.double (FP.l2d d4)), .second]
  refine Go.st (S' := s₁.setTop (mkF m 1 A385 [(.ref o0)])) (fun t k => XS.aloadN X0.here hx rfl (hb hby dprog_58_method_1_code_0) rfl rfl k) ?_
  refine Go.st (S' := s₁.setTop (mkF m 2 A385 [(.ref o1), (.ref o0)])) (fun t k => XS.aloadN X0.here hx rfl (hb hby dprog_58_method_1_code_1) rfl rfl k) ?_
  refine Go.st (S' := s₁.setTop (mkF m 3 A385 [(.int p2), (.ref o1), (.ref o0)])) (fun t k => XS.iloadN X0.here hx rfl (hb hby dprog_58_method_1_code_2) rfl k) ?_
  refine Go.st (S' := s₁.setTop (mkF m 4 A385 [(.ref s_Direction_MAXIMIZE), (.int p2), (.ref o1), (.ref o0)])) (fun t k => XS.aloadN X0.here hx rfl (hb hby dprog_58_method_1_code_3) rfl rfl k) ?_
  refine Go.st (S' := s₁.setTop (mkF m 6 A385 [(.double (FP.l2d d4)), (.ref s_Direction_MAXIMIZE), (.int p2), (.ref o1), (.ref o0)])) (fun t k => XS.dload X0.here hx rfl (hb hby dprog_58_method_1_code_4) rfl k) ?_
  obtain ⟨r402, T402, L402, X402, hQ402, st402⟩ := own_callS (W := 4) X0 hx hZ e0 hown (y := (⟨"java/util/OptionalDouble", "of", "(D)Ljava/util/OptionalDouble;"⟩ : MethodName)) (hw _ (List.mem_of_getElem? (i := 157) rfl)) (hw _ (List.mem_of_getElem? (i := 158) rfl)) (hw _ (List.mem_of_getElem? (i := 159) rfl)) (hw _ (List.mem_of_getElem? (i := 160) rfl)) (by decide) (rm29 l Z a0 hw [] d4 h0 n0 Z0 ) (by decide) (by decide) (by decide) (by decide) (g := (mkF m 6 A385 [(.double (FP.l2d d4)), (.ref s_Direction_MAXIMIZE), (.int p2), (.ref o1), (.ref o0)])) rfl (by rw [hml]; rfl) (argsL := [(.double (FP.l2d d4))]) (rest := [(.ref s_Direction_MAXIMIZE), (.int p2), (.ref o1), (.ref o0)]) rfl (lenOf pd_22 rfl) rfl (by show 2 * 0 + _ ≤ _; exact Nat.le_of_eq rfl) (hb hby dprog_58_method_1_code_6)
  obtain ⟨b403, rfl, N402, K402_, sz_b403_, f404, f405, f406⟩ := hQ402
  have N402_ := Fr.app N0 N402
  have g_b403 : n0 ≤ b403 := Nat.le_trans Z0 sz_b403_
  have sz_b403 : h0.size ≤ b403 := Nat.le_trans (Keep.refl h0 [o0]).1 sz_b403_
  have Z407 : n0 ≤ T402.heap.size := Nat.le_trans Z0 K402_.1
  have K407 : Keep h0 T402.heap [o0] := (Keep.refl h0 [o0]).trans K402_ all0
  refine Go.st (S' := T402.setTop (mkF m 9 A385 [(.ref b403), (.ref s_Direction_MAXIMIZE), (.int p2), (.ref o1), (.ref o0)])) st402 ?_
  have f457 := ((E_o0).keep K402_)
  have f458 := ((F_o0_description).keep K402_ nin0)
  have f459 := ((F_o0_space).keep K402_ nin0)
  have f460 := ((F_o0_direction).keep K402_ nin0)
  have f461 := ((F_o0_optimum).keep K402_ nin0)
  obtain ⟨r462, T462, L462, X462, hQ462, st462⟩ := own_callI (W := 0) (a := o0) X402 hx hZ rfl hown (y := (⟨"com/example/tuneless/tuneless/problem/Landscape", "<init>", "(Ljava/lang/String;ILcom/example/tuneless/tuneless/space/Direction;Ljava/util/OptionalDouble;)V"⟩ : MethodName)) rfl (hw _ (List.mem_of_getElem? (i := 172) rfl)) (hw _ (List.mem_of_getElem? (i := 173) rfl)) (hw _ (List.mem_of_getElem? (i := 155) rfl)) (hw _ (List.mem_of_getElem? (i := 174) rfl)) (by decide) (rm32 l Z a0 hw [] o0 o1 p2 s_Direction_MAXIMIZE b403 (.null) (.null) (.null) (.null) T402.heap n0 Z407 (hra_p2) (hrb_p2) (f457) (f458) (g_o0) (f459) (f460) (f461)) (by decide) (by decide) (by decide) (by decide) (g := (mkF m 9 A385 [(.ref b403), (.ref s_Direction_MAXIMIZE), (.int p2), (.ref o1), (.ref o0)])) rfl (by rw [hml]; rfl) (argsL := [(.ref o1), (.int p2), (.ref s_Direction_MAXIMIZE), (.ref b403)]) (rest := []) rfl (lenOf pd_24 rfl) rfl (by show 2 * 0 + _ ≤ _; exact Nat.le_of_eq rfl) (hb hby dprog_58_method_1_code_9)
  obtain ⟨b463, rfl, N462, K462_, sz_b463_, f464, f465, f466, f467, f468, f469, f470⟩ := hQ462
  have N462_ := Fr.app N402_ N462
  have g_b463 : n0 ≤ b463 := Nat.le_trans Z407 sz_b463_
  have sz_b463 : h0.size ≤ b463 := Nat.le_trans K407.1 sz_b463_
  have lt_b403_b463 : b403 < b463 := Nat.lt_of_lt_of_le (f404).lt sz_b463_
  have Z471 : n0 ≤ T462.heap.size := Nat.le_trans Z407 K462_.1
  have K471 : Keep h0 T462.heap [o0] := K407.trans K462_ (allS (Or.inl (by simp)) all0)
  refine Go.st (S' := T462.setTop (mkF m 12 A385 [])) st462 ?_
  have f472 := ((f404).keep K462_)
  have f473 := ((f405).keep K462_ (ninS (Ne.symm (Nat.ne_of_lt (Nat.lt_of_lt_of_le (E_o0).lt sz_b403))) nin0))
  have f474 := ((f406).keep K462_ (ninS (Ne.symm (Nat.ne_of_lt (Nat.lt_of_lt_of_le (E_o0).lt sz_b403))) nin0))
  exact Go.ret X462 (v := none) (fun _ => rfl) Bd.notSynchronized (fun fs hr => X462.returnOut hx Bd.returns (hb hby dprog_58_method_1_code_12) hr) (by decide) (by decide) (⟨b403, b463, rfl, N462_, K471, sz_b403, sz_b463, f472, f473, f474, f464, f465, f468, f469, f470, f466, f467, lt_b403_b463⟩)
theorem ef_34 (m : MethodId) (o0 : Addr) (p1 : Int32) : entryFrame m #[(.ref o0), (.int p1)] 2 = mkF m 0 #[.val (.ref o0), .val (.int p1)] [] := by first | (simp [entryFrame, mkF, argsToLocals, Value.category, maxLocals]; done) | rfl
def Q34 (Z : State) (o0 : Addr) (p1 : Int32) (s_String_COMPACT_STRINGS : Int32) (s_Integer_DigitOnes : Addr) (k_s_Integer_DigitOnes : ClassId) (s_Direction_MAXIMIZE : Addr) (h0 : Heap) (n0 : Nat) (v : Option Value) (h : Heap) (L : List Loc) : Prop := (∃ (r280 : Int32) (v384 : Int64) (b72 : Addr) (b76 : Addr) (b372 : Addr) (b373 : Addr) (b481 : Addr) (b482 : Addr) (k77 : ClassId) (k374 : ClassId), v384 = p1.toInt64 ∧ v = none ∧ Fr n0 L ∧ Keep h0 h [o0] ∧ h0.size ≤ b72 ∧ h0.size ≤ b76 ∧ h0.size ≤ b372 ∧ h0.size ≤ b373 ∧ h0.size ≤ b481 ∧ h0.size ≤ b482 ∧ Exa Z h b72 "java/lang/StringBuilder" ∧ Fld Z h b72 "java/lang/AbstractStringBuilder" "value" "[B" (.ref b76) ∧ Fld Z h b72 "java/lang/AbstractStringBuilder" "coder" "B" (.int (0 : Int32)) ∧ Fld Z h b72 "java/lang/AbstractStringBuilder" "count" "I" (.int (15 : Int32)) ∧ Arv Z h b76 k77 .byte (16 : Int32) [(.int (111 : Int32)), (.int (110 : Int32)), (.int (101 : Int32)), (.int (109 : Int32)), (.int (97 : Int32)), (.int (120 : Int32)), (.int (32 : Int32)), (.int (108 : Int32)), (.int (101 : Int32)), (.int (110 : Int32)), (.int (103 : Int32)), (.int (116 : Int32)), (.int (104 : Int32)), (.int (61 : Int32)), (.int r280), (.int (0 : Int32))] (.int (0 : Int32)) ∧ Exa Z h b76 "[B" ∧ Exa Z h b372 "java/lang/String" ∧ Fld Z h b372 "java/lang/String" "value" "[B" (.ref b373) ∧ Fld Z h b372 "java/lang/String" "coder" "B" (.int (0 : Int32)) ∧ Arv Z h b373 k374 .byte (15 : Int32) [(.int (111 : Int32)), (.int (110 : Int32)), (.int (101 : Int32)), (.int (109 : Int32)), (.int (97 : Int32)), (.int (120 : Int32)), (.int (32 : Int32)), (.int (108 : Int32)), (.int (101 : Int32)), (.int (110 : Int32)), (.int (103 : Int32)), (.int (116 : Int32)), (.int (104 : Int32)), (.int (61 : Int32)), (.int r280)] (.int (0 : Int32)) ∧ Exa Z h b373 "[B" ∧ Exa Z h o0 "com/example/tuneless/tuneless/problem/OneMax" ∧ Fld Z h o0 "com/example/tuneless/tuneless/problem/Landscape" "description" "Ljava/lang/String;" (.ref b372) ∧ Fld Z h o0 "com/example/tuneless/tuneless/problem/Landscape" "space" "Lcom/example/tuneless/tuneless/space/BitStringSpace;" (.ref b482) ∧ Fld Z h o0 "com/example/tuneless/tuneless/problem/Landscape" "direction" "Lcom/example/tuneless/tuneless/space/Direction;" (.ref s_Direction_MAXIMIZE) ∧ Fld Z h o0 "com/example/tuneless/tuneless/problem/Landscape" "optimum" "Ljava/util/OptionalDouble;" (.ref b481) ∧ Exa Z h b481 "java/util/OptionalDouble" ∧ Fld Z h b481 "java/util/OptionalDouble" "isPresent" "Z" (.int (1 : Int32)) ∧ Fld Z h b481 "java/util/OptionalDouble" "value" "D" (.double (FP.l2d v384)) ∧ Exa Z h b482 "com/example/tuneless/tuneless/space/BitStringSpace" ∧ Fld Z h b482 "com/example/tuneless/tuneless/space/BitStringSpace" "length" "I" (.int p1) ∧ b72 < b76 ∧ b72 < b372 ∧ b72 < b373 ∧ b72 < b481 ∧ b72 < b482 ∧ b76 < b372 ∧ b76 < b373 ∧ b76 < b481 ∧ b76 < b482 ∧ b372 < b373 ∧ b372 < b481 ∧ b372 < b482 ∧ b373 < b481 ∧ b373 < b482 ∧ b481 < b482)
set_option maxRecDepth 65536 in
set_option maxHeartbeats 40000000 in
theorem rm34 (l : Launch) (Z : State) (a0 : Array Value) (hw : ∀ d ∈ tables_1, d.before a0 Z = true) (ws : List Jvm.Cond) (o0 : Addr) (p1 : Int32) (s_String_COMPACT_STRINGS : Int32) (s_Integer_DigitOnes : Addr) (k_s_Integer_DigitOnes : ClassId) (s_Direction_MAXIMIZE : Addr) (h0 : Heap) (n0 : Nat) (Z0 : n0 ≤ h0.size) (hra_p1 : (¬ (p1 < (1 : Int32)))) (hrb_p1 : (¬ ((8 : Int32) < p1))) (S_s_String_COMPACT_STRINGS : Sta Z h0 "java/lang/String" "COMPACT_STRINGS" "Z" (.int s_String_COMPACT_STRINGS)) (nz_s_String_COMPACT_STRINGS : s_String_COMPACT_STRINGS ≠ 0) (keepZ : ∀ (b : Addr) (cl : Cell), Z.heap[b]? = some cl → h0[b]? = some cl) (held_7 : Jvm.Lit.constHeld Z "com/example/tuneless/tuneless/problem/OneMax" 7) (hcw : Jvm.Lit.compactW.before a0 Z = true) (S_s_Integer_DigitOnes : Sta Z h0 "java/lang/Integer" "DigitOnes" "[B" (.ref s_Integer_DigitOnes)) (V_s_Integer_DigitOnes : Arv Z h0 s_Integer_DigitOnes k_s_Integer_DigitOnes .byte (100 : Int32) [(.int (48 : Int32)), (.int (49 : Int32)), (.int (50 : Int32)), (.int (51 : Int32)), (.int (52 : Int32)), (.int (53 : Int32)), (.int (54 : Int32)), (.int (55 : Int32)), (.int (56 : Int32)), (.int (57 : Int32)), (.int (48 : Int32)), (.int (49 : Int32)), (.int (50 : Int32)), (.int (51 : Int32)), (.int (52 : Int32)), (.int (53 : Int32)), (.int (54 : Int32)), (.int (55 : Int32)), (.int (56 : Int32)), (.int (57 : Int32)), (.int (48 : Int32)), (.int (49 : Int32)), (.int (50 : Int32)), (.int (51 : Int32)), (.int (52 : Int32)), (.int (53 : Int32)), (.int (54 : Int32)), (.int (55 : Int32)), (.int (56 : Int32)), (.int (57 : Int32)), (.int (48 : Int32)), (.int (49 : Int32)), (.int (50 : Int32)), (.int (51 : Int32)), (.int (52 : Int32)), (.int (53 : Int32)), (.int (54 : Int32)), (.int (55 : Int32)), (.int (56 : Int32)), (.int (57 : Int32)), (.int (48 : Int32)), (.int (49 : Int32)), (.int (50 : Int32)), (.int (51 : Int32)), (.int (52 : Int32)), (.int (53 : Int32)), (.int (54 : Int32)), (.int (55 : Int32)), (.int (56 : Int32)), (.int (57 : Int32)), (.int (48 : Int32)), (.int (49 : Int32)), (.int (50 : Int32)), (.int (51 : Int32)), (.int (52 : Int32)), (.int (53 : Int32)), (.int (54 : Int32)), (.int (55 : Int32)), (.int (56 : Int32)), (.int (57 : Int32)), (.int (48 : Int32)), (.int (49 : Int32)), (.int (50 : Int32)), (.int (51 : Int32)), (.int (52 : Int32)), (.int (53 : Int32)), (.int (54 : Int32)), (.int (55 : Int32)), (.int (56 : Int32)), (.int (57 : Int32)), (.int (48 : Int32)), (.int (49 : Int32)), (.int (50 : Int32)), (.int (51 : Int32)), (.int (52 : Int32)), (.int (53 : Int32)), (.int (54 : Int32)), (.int (55 : Int32)), (.int (56 : Int32)), (.int (57 : Int32)), (.int (48 : Int32)), (.int (49 : Int32)), (.int (50 : Int32)), (.int (51 : Int32)), (.int (52 : Int32)), (.int (53 : Int32)), (.int (54 : Int32)), (.int (55 : Int32)), (.int (56 : Int32)), (.int (57 : Int32)), (.int (48 : Int32)), (.int (49 : Int32)), (.int (50 : Int32)), (.int (51 : Int32)), (.int (52 : Int32)), (.int (53 : Int32)), (.int (54 : Int32)), (.int (55 : Int32)), (.int (56 : Int32)), (.int (57 : Int32))] (.int 0)) (S_s_Direction_MAXIMIZE : Sta Z h0 "com/example/tuneless/tuneless/space/Direction" "MAXIMIZE" "Lcom/example/tuneless/tuneless/space/Direction;" (.ref s_Direction_MAXIMIZE)) (E_o0 : Exa Z h0 o0 "com/example/tuneless/tuneless/problem/OneMax") (F_o0_description : Fld Z h0 o0 "com/example/tuneless/tuneless/problem/Landscape" "description" "Ljava/lang/String;" .null) (F_o0_space : Fld Z h0 o0 "com/example/tuneless/tuneless/problem/Landscape" "space" "Lcom/example/tuneless/tuneless/space/BitStringSpace;" .null) (F_o0_direction : Fld Z h0 o0 "com/example/tuneless/tuneless/problem/Landscape" "direction" "Lcom/example/tuneless/tuneless/space/Direction;" .null) (F_o0_optimum : Fld Z h0 o0 "com/example/tuneless/tuneless/problem/Landscape" "optimum" "Ljava/util/OptionalDouble;" .null) (g_o0 : n0 ≤ o0) :
    ConW l Z (⟨"com/example/tuneless/tuneless/problem/OneMax", "<init>", "(I)V"⟩ : MethodName) prog_62_method_1_code 2 none ws ({ frames := 6, cells := 8, slots := 102, locals := 114 } : Room) #[(.ref o0), (.int p1)] h0 8 102 (Q34 Z o0 p1 s_String_COMPACT_STRINGS s_Integer_DigitOnes k_s_Integer_DigitOnes s_Direction_MAXIMIZE h0 n0) := by
  refine MetFree.of_bodySF (plainFor_of_name pn_8) hisR ?_
  intro p e s m args below meth c s₁ Bd hml0 hP hK
  obtain ⟨rfl, hZH, hh⟩ := hP
  have hZ := hZH.wide
  have hx := Bd.exec
  have hby := Bd.bytes
  have hml : c.maxLocals = 2 := hml0
  have hown : s.vm.findClass "com/example/tuneless/tuneless/problem/OneMax" = some m.cls := findClass_of_methodNamed Bd.named
  have hnm := (name_of_methodNamed Bd.named Bd.method).1
  have X0 : Stand p l e ({ frames := 6, cells := 8, slots := 102, locals := 114 } : Room) s m #[(.ref o0), (.int p1)] below meth c s₁ [] 0 0 := Stand.of_body Bd
  have e0 : s₁.heap = h0 := by rw [← hh, Bd.state]; rfl
  have N0 := Fr.nil n0
  refine Go.of ?_
  refine Go.st (S' := s₁.setTop (mkF m 0 #[.val (.ref o0), .val (.int p1)] [])) (fun t k => castTop (ef_34 m o0 p1) k) ?_
  refine Go.st (S' := s₁.setTop (mkF m 1 #[.val (.ref o0), .val (.int p1)] [(.ref o0)])) (fun t k => XS.aloadN X0.here hx rfl (hb hby dprog_62_method_1_code_0) rfl rfl k) ?_
  obtain ⟨T72, h72, X72, e72, E72, A72, D72, -, st72⟩ := newO X0 hx hZ hown (hw _ (List.mem_of_getElem? (i := 6) rfl)) (hw _ (List.mem_of_getElem? (i := 7) rfl)) (hw _ (List.mem_of_getElem? (i := 8) rfl)) e0 (g := (mkF m 1 #[.val (.ref o0), .val (.int p1)] [(.ref o0)])) rfl (hb hby dprog_62_method_1_code_1) (by decide) (by decide)
  obtain ⟨b72, gg72⟩ : ∃ z, z = h0.size := ⟨_, rfl⟩
  rw [← gg72] at A72 D72 st72
  have g_b72 : h0.size ≤ b72 := Nat.le_trans (Nat.le_refl h0.size) (Nat.le_of_eq gg72.symm)
  have sz_b72 : h0.size ≤ b72 := Nat.le_trans (Keep.refl h0 [o0]).1 (Nat.le_of_eq gg72.symm)
  have Z73 : h0.size ≤ h72.size := Nat.le_trans (Nat.le_refl h0.size) E72.1
  have K73 : Keep h0 h72 [o0] := (Keep.refl h0 [o0]).ext E72
  have Fb72_value : Fld Z h72 b72 "java/lang/AbstractStringBuilder" "value" "[B" .null := D72 (Or.inl (hw _ (List.mem_of_getElem? (i := 25) rfl))) (ty := (.array .byte)) (by decide)
  have Fb72_coder : Fld Z h72 b72 "java/lang/AbstractStringBuilder" "coder" "B" (.int (0 : Int32)) := D72 (Or.inl (hw _ (List.mem_of_getElem? (i := 27) rfl))) (ty := .byte) (by decide)
  have Fb72_count : Fld Z h72 b72 "java/lang/AbstractStringBuilder" "count" "I" (.int (0 : Int32)) := D72 (Or.inl (hw _ (List.mem_of_getElem? (i := 58) rfl))) (ty := .int) (by decide)
  refine Go.st (S' := T72.setTop (mkF m 4 #[.val (.ref o0), .val (.int p1)] [(.ref b72), (.ref o0)])) st72 ?_
  refine Go.st (S' := T72.setTop (mkF m 5 #[.val (.ref o0), .val (.int p1)] [(.ref b72), (.ref b72), (.ref o0)])) (fun t k => XS.dup X72.here hx rfl (hb hby dprog_62_method_1_code_4) rfl rfl k) ?_
  have f74 := (Sta.ext E72 (S_s_String_COMPACT_STRINGS))
  obtain ⟨r75, T75, L75, X75, hQ75, st75⟩ := own_callI (W := 2) (a := b72) X72 hx hZ e72 hown (y := (⟨"java/lang/StringBuilder", "<init>", "()V"⟩ : MethodName)) rfl (hw _ (List.mem_of_getElem? (i := 9) rfl)) (hw _ (List.mem_of_getElem? (i := 10) rfl)) (hw _ (List.mem_of_getElem? (i := 8) rfl)) (hw _ (List.mem_of_getElem? (i := 11) rfl)) (by decide) (rm3 l Z a0 hw [] b72 s_String_COMPACT_STRINGS h72 h0.size Z73 (A72) (Fb72_value) (Fb72_coder) (Fb72_count) (f74) (nz_s_String_COMPACT_STRINGS) (g_b72)) (by decide) (by decide) (by decide) (by decide) (g := (mkF m 5 #[.val (.ref o0), .val (.int p1)] [(.ref b72), (.ref b72), (.ref o0)])) rfl (by rw [hml]; rfl) (argsL := []) (rest := [(.ref b72), (.ref o0)]) rfl (lenOf pd_1 rfl) rfl (by show 2 * 0 + _ ≤ _; exact Nat.le_of_eq rfl) (hb hby dprog_62_method_1_code_5)
  obtain ⟨b76, k77, rfl, N75, K75_, sz_b76_, f78, f79, f80, f81, f82, f83⟩ := hQ75
  have N75_ := Fr.app (Fr.nil h0.size) N75
  have g_b76 : h0.size ≤ b76 := Nat.le_trans Z73 sz_b76_
  have sz_b76 : h0.size ≤ b76 := Nat.le_trans K73.1 sz_b76_
  have lt_b72_b76 : b72 < b76 := Nat.lt_of_lt_of_le (A72).lt sz_b76_
  have Z84 : h0.size ≤ T75.heap.size := Nat.le_trans Z73 K75_.1
  have K84 : Keep h0 T75.heap [o0] := K73.trans K75_ (allS (Or.inr sz_b72) all0)
  refine Go.st (S' := T75.setTop (mkF m 8 #[.val (.ref o0), .val (.int p1)] [(.ref b72), (.ref o0)])) st75 ?_
  have NL85 := own_fr_le N75_ Z0
  have ZL85 := Nat.le_trans Z0 Z84
  have g_b72 := Nat.le_trans Z0 g_b72
  have g_b76 := Nat.le_trans Z0 g_b76
  obtain ⟨a86, T86, h86, kk86, b86, k86, X86, e86, E86, hS86, hk86, hZ, hown, Ex86, Fc86, Fv86, V86, la86, lb86, I86, Li86, st86⟩ := ldcSVL (vm0 := s.vm) X75 hx hZ hown (hw _ (List.mem_of_getElem? (i := 28) rfl)) (own_wS hw) rfl (own_since trivial) (Nat.zero_le _) (by rw [hh]; exact N75_) (fun b cl z => by rw [hh]; exact keepZ b cl z) (own_ib hZH) (by simp) held_7 hcw (vs := [(.int (111 : Int32)), (.int (110 : Int32)), (.int (101 : Int32)), (.int (109 : Int32)), (.int (97 : Int32)), (.int (120 : Int32)), (.int (32 : Int32)), (.int (108 : Int32)), (.int (101 : Int32)), (.int (110 : Int32)), (.int (103 : Int32)), (.int (116 : Int32)), (.int (104 : Int32)), (.int (61 : Int32))]) (z := 14) (by decide) (by decide) rfl (g := (mkF m 8 #[.val (.ref o0), .val (.int p1)] [(.ref b72), (.ref o0)])) rfl (hb hby dprog_62_method_1_code_8) (n := 56) (by decide) (by decide) (by decide) (by decide)
  have Z87 : n0 ≤ h86.size := Nat.le_trans ZL85 E86.1
  have K87 : Keep h0 h86 [o0] := K84.ext E86
  refine Go.st (S' := T86.setTop (mkF m 10 #[.val (.ref o0), .val (.int p1)] [(.ref a86), (.ref b72), (.ref o0)])) st86 ?_
  have f88 := ((f78).ext E86)
  have f152 := ((f81).ext E86)
  have f153 := ((f79).ext E86)
  have f154 := ((f82).ext E86)
  have f155 := ((f80).ext E86)
  have f156 := (Sta.ext E86 ((own_sta_keep (f74) K75_ (allS (own_exa_plain A72) all0))))
  have f157 := ((f83).ext E86)
  obtain ⟨r158, T158, L158, X158, hQ158, st158⟩ := own_callV (W := 1) (a := b72) (C := "java/lang/StringBuilder") X86 hx hZ e86 hown (y := (⟨"java/lang/StringBuilder", "append", "(Ljava/lang/String;)Ljava/lang/StringBuilder;"⟩ : MethodName)) (z := (⟨"java/lang/StringBuilder", "append", "(Ljava/lang/String;)Ljava/lang/StringBuilder;"⟩ : MethodName)) (hw _ (List.mem_of_getElem? (i := 34) rfl)) (hw _ (List.mem_of_getElem? (i := 35) rfl)) (notFace_of_selects (args := #[]) (mvT hZ (hw _ (List.mem_of_getElem? (i := 37) rfl)))) (hw _ (List.mem_of_getElem? (i := 37) rfl)) (hw _ (List.mem_of_getElem? (i := 36) rfl)) (hw _ (List.mem_of_getElem? (i := 8) rfl)) (hw _ (List.mem_of_getElem? (i := 38) rfl)) (by decide) (f88) (rm11 l Z a0 hw [] b72 a86 b86 k86 (111 : Int32) (110 : Int32) (101 : Int32) (109 : Int32) (97 : Int32) (120 : Int32) (32 : Int32) (108 : Int32) (101 : Int32) (110 : Int32) (103 : Int32) (116 : Int32) (104 : Int32) (61 : Int32) b76 k77 (0 : Int32) (0 : Int32) (0 : Int32) (0 : Int32) (0 : Int32) (0 : Int32) (0 : Int32) (0 : Int32) (0 : Int32) (0 : Int32) (0 : Int32) (0 : Int32) (0 : Int32) (0 : Int32) (0 : Int32) (0 : Int32) s_String_COMPACT_STRINGS h86 n0 Z87 (Ex86) (Fv86) (V86) (Fc86) (f152) (f88) (f153) (f154) (f155) (f156) (nz_s_String_COMPACT_STRINGS) (g_b76) ((Nat.ne_of_lt lt_b72_b76)) (g_b72) (f157)) (by decide) (by decide) (by decide) (by decide) (g := (mkF m 10 #[.val (.ref o0), .val (.int p1)] [(.ref a86), (.ref b72), (.ref o0)])) rfl (by rw [hml]; rfl) (argsL := [(.ref a86)]) (rest := [(.ref o0)]) rfl (lenOf pd_8 rfl) rfl (by show 2 * 0 + _ ≤ _; exact Nat.le_of_eq rfl) (hb hby dprog_62_method_1_code_10)
  obtain ⟨rfl, N158, K158_, f159, f160, f161, f162, f163, f164⟩ := hQ158
  have N158_ := Fr.app NL85 N158
  have Z165 : n0 ≤ T158.heap.size := Nat.le_trans Z87 K158_.1
  have K165 : Keep h0 T158.heap [o0] := K87.trans K158_ (allS (Or.inr sz_b72) (allS (Or.inr sz_b76) all0))
  have hk165 : _ ≤ T158.heap.size := Nat.le_trans hk86 K158_.1
  refine Go.st (S' := T158.setTop (mkF m 13 #[.val (.ref o0), .val (.int p1)] [(.ref b72), (.ref o0)])) st158 ?_
  refine Go.st (S' := T158.setTop (mkF m 14 #[.val (.ref o0), .val (.int p1)] [(.int p1), (.ref b72), (.ref o0)])) (fun t k => XS.iloadN X158.here hx rfl (hb hby dprog_62_method_1_code_13) rfl k) ?_
  have f276 := (own_sta_keep (f156) K158_ (allS (own_exa_plain f88) (allS (own_exa_plain f157) all0)))
  have f277 := (own_sta_keep ((Sta.ext E86 ((own_sta_keep ((Sta.ext E72 (S_s_Integer_DigitOnes))) K75_ (allS (own_exa_plain A72) all0))))) K158_ (allS (own_exa_plain f88) (allS (own_exa_plain f157) all0)))
  have f278 := ((((((((V_s_Integer_DigitOnes).ext E72)).keep K75_ (ninS (Nat.ne_of_lt (Nat.lt_of_lt_of_le (V_s_Integer_DigitOnes).lt sz_b72)) nin0))).ext E86)).keep K158_ (ninS (Nat.ne_of_lt (Nat.lt_of_lt_of_le (V_s_Integer_DigitOnes).lt sz_b72)) (ninS (Nat.ne_of_lt (Nat.lt_of_lt_of_le (V_s_Integer_DigitOnes).lt sz_b76)) nin0)))
  obtain ⟨r279, T279, L279, X279, hQ279, st279⟩ := own_callV (W := 1) (a := b72) (C := "java/lang/StringBuilder") X158 hx hZ rfl hown (y := (⟨"java/lang/StringBuilder", "append", "(I)Ljava/lang/StringBuilder;"⟩ : MethodName)) (z := (⟨"java/lang/StringBuilder", "append", "(I)Ljava/lang/StringBuilder;"⟩ : MethodName)) (hw _ (List.mem_of_getElem? (i := 84) rfl)) (hw _ (List.mem_of_getElem? (i := 85) rfl)) (notFace_of_selects (args := #[]) (mvT hZ (hw _ (List.mem_of_getElem? (i := 87) rfl)))) (hw _ (List.mem_of_getElem? (i := 87) rfl)) (hw _ (List.mem_of_getElem? (i := 86) rfl)) (hw _ (List.mem_of_getElem? (i := 8) rfl)) (hw _ (List.mem_of_getElem? (i := 88) rfl)) (by decide) (f160) (rm17 l Z a0 hw [] b72 p1 b76 k77 (111 : Int32) (110 : Int32) (101 : Int32) (109 : Int32) (97 : Int32) (120 : Int32) (32 : Int32) (108 : Int32) (101 : Int32) (110 : Int32) (103 : Int32) (116 : Int32) (104 : Int32) (61 : Int32) (0 : Int32) (0 : Int32) s_String_COMPACT_STRINGS s_Integer_DigitOnes k_s_Integer_DigitOnes T158.heap n0 Z165 (hra_p1) (hrb_p1) (f159) (f160) (f161) (f162) (f163) (f276) (nz_s_String_COMPACT_STRINGS) (f277) (f278) (g_b76) ((Nat.ne_of_lt lt_b72_b76)) (g_b72) (f164)) (by decide) (by decide) (by decide) (by decide) (g := (mkF m 14 #[.val (.ref o0), .val (.int p1)] [(.int p1), (.ref b72), (.ref o0)])) rfl (by rw [hml]; rfl) (argsL := [(.int p1)]) (rest := [(.ref o0)]) rfl (lenOf pd_13 rfl) rfl (by show 2 * 0 + _ ≤ _; exact Nat.le_of_eq rfl) (hb hby dprog_62_method_1_code_14)
  obtain ⟨r280, rfl, N279, K279_, f281, f282, f283, f284, f285, f286⟩ := hQ279
  have N279_ := Fr.app N158_ N279
  have Z287 : n0 ≤ T279.heap.size := Nat.le_trans Z165 K279_.1
  have K287 : Keep h0 T279.heap [o0] := K165.trans K279_ (allS (Or.inr sz_b72) (allS (Or.inr sz_b76) all0))
  have hk287 : _ ≤ T279.heap.size := Nat.le_trans hk165 K279_.1
  refine Go.st (S' := T279.setTop (mkF m 17 #[.val (.ref o0), .val (.int p1)] [(.ref b72), (.ref o0)])) st279 ?_
  have f370 := (own_sta_keep (f276) K279_ (allS (own_exa_plain f160) (allS (own_exa_plain f164) all0)))
  obtain ⟨r371, T371, L371, X371, hQ371, st371⟩ := own_callV (W := 1) (a := b72) (C := "java/lang/StringBuilder") X279 hx hZ rfl hown (y := (⟨"java/lang/StringBuilder", "toString", "()Ljava/lang/String;"⟩ : MethodName)) (z := (⟨"java/lang/StringBuilder", "toString", "()Ljava/lang/String;"⟩ : MethodName)) (hw _ (List.mem_of_getElem? (i := 106) rfl)) (hw _ (List.mem_of_getElem? (i := 107) rfl)) (notFace_of_selects (args := #[]) (mvT hZ (hw _ (List.mem_of_getElem? (i := 109) rfl)))) (hw _ (List.mem_of_getElem? (i := 109) rfl)) (hw _ (List.mem_of_getElem? (i := 108) rfl)) (hw _ (List.mem_of_getElem? (i := 8) rfl)) (hw _ (List.mem_of_getElem? (i := 110) rfl)) (by decide) (f282) (rm27 l Z a0 hw [] b72 b76 k77 (111 : Int32) (110 : Int32) (101 : Int32) (109 : Int32) (97 : Int32) (120 : Int32) (32 : Int32) (108 : Int32) (101 : Int32) (110 : Int32) (103 : Int32) (116 : Int32) (104 : Int32) (61 : Int32) r280 (0 : Int32) s_String_COMPACT_STRINGS T279.heap n0 Z287 (f282) (f283) (f281) (f285) (f284) (f370) (nz_s_String_COMPACT_STRINGS)) (by decide) (by decide) (by decide) (by decide) (g := (mkF m 17 #[.val (.ref o0), .val (.int p1)] [(.ref b72), (.ref o0)])) rfl (by rw [hml]; rfl) (argsL := []) (rest := [(.ref o0)]) rfl (lenOf pd_20 rfl) rfl (by show 2 * 0 + _ ≤ _; exact Nat.le_of_eq rfl) (hb hby dprog_62_method_1_code_17)
  obtain ⟨b372, b373, k374, rfl, N371, K371_, sz_b372_, sz_b373_, f375, f376, f377, f378, f379, hlt380⟩ := hQ371
  have N371_ := Fr.app N279_ N371
  have g_b372 : n0 ≤ b372 := Nat.le_trans Z287 sz_b372_
  have sz_b372 : h0.size ≤ b372 := Nat.le_trans K287.1 sz_b372_
  have lt_b72_b372 : b72 < b372 := Nat.lt_of_lt_of_le (f282).lt sz_b372_
  have lt_b76_b372 : b76 < b372 := Nat.lt_of_lt_of_le (f286).lt sz_b372_
  have g_b373 : n0 ≤ b373 := Nat.le_trans Z287 sz_b373_
  have sz_b373 : h0.size ≤ b373 := Nat.le_trans K287.1 sz_b373_
  have lt_b72_b373 : b72 < b373 := Nat.lt_of_lt_of_le (f282).lt sz_b373_
  have lt_b76_b373 : b76 < b373 := Nat.lt_of_lt_of_le (f286).lt sz_b373_
  have Z381 : n0 ≤ T371.heap.size := Nat.le_trans Z287 K371_.1
  have K381 : Keep h0 T371.heap [o0] := K287.trans K371_ all0
  have hk381 : _ ≤ T371.heap.size := Nat.le_trans hk287 K371_.1
  refine Go.st (S' := T371.setTop (mkF m 20 #[.val (.ref o0), .val (.int p1)] [(.ref b372), (.ref o0)])) st371 ?_
  refine Go.st (S' := T371.setTop (mkF m 21 #[.val (.ref o0), .val (.int p1)] [(.int p1), (.ref b372), (.ref o0)])) (fun t k => XS.iloadN X371.here hx rfl (hb hby dprog_62_method_1_code_20) rfl k) ?_
  have f382 := (own_sta_keep ((own_sta_keep ((own_sta_keep ((Sta.ext E86 ((own_sta_keep ((Sta.ext E72 (S_s_Direction_MAXIMIZE))) K75_ (allS (own_exa_plain A72) all0))))) K158_ (allS (own_exa_plain f88) (allS (own_exa_plain f157) all0)))) K279_ (allS (own_exa_plain f160) (allS (own_exa_plain f164) all0)))) K371_ all0)
  obtain ⟨T383, X383, e383, st383⟩ := getS X371 hx hZ hown (hw _ (List.mem_of_getElem? (i := 149) rfl)) Via.refl rfl f382 (host := "") (g := (mkF m 21 #[.val (.ref o0), .val (.int p1)] [(.int p1), (.ref b372), (.ref o0)])) rfl (hb hby dprog_62_method_1_code_21)
  refine Go.st (S' := T383.setTop (mkF m 24 #[.val (.ref o0), .val (.int p1)] [(.ref s_Direction_MAXIMIZE), (.int p1), (.ref b372), (.ref o0)])) st383 ?_
  refine Go.st (S' := T383.setTop (mkF m 25 #[.val (.ref o0), .val (.int p1)] [(.int p1), (.ref s_Direction_MAXIMIZE), (.int p1), (.ref b372), (.ref o0)])) (fun t k => XS.iloadN X383.here hx rfl (hb hby dprog_62_method_1_code_24) rfl k) ?_
  obtain ⟨v384, hv384⟩ : ∃ z, z = p1.toInt64 := ⟨_, rfl⟩
  refine Go.st (S' := T383.setTop (mkF m 26 #[.val (.ref o0), .val (.int p1)] [(.double (FP.l2d v384)), (.ref s_Direction_MAXIMIZE), (.int p1), (.ref b372), (.ref o0)])) (fun t k => XS.i2dS X383.here hx rfl (hb hby dprog_62_method_1_code_25) rfl ((i2d_w _).trans (by rw [hv384])) k) ?_
  have f475 := ((((((((((((E_o0).ext E72)).keep K75_)).ext E86)).keep K158_)).keep K279_)).keep K371_)
  have f476 := ((((((((((((F_o0_description).ext E72)).keep K75_ (ninS (Nat.ne_of_lt (Nat.lt_of_lt_of_le (E_o0).lt sz_b72)) nin0))).ext E86)).keep K158_ (ninS (Nat.ne_of_lt (Nat.lt_of_lt_of_le (E_o0).lt sz_b72)) (ninS (Nat.ne_of_lt (Nat.lt_of_lt_of_le (E_o0).lt sz_b76)) nin0)))).keep K279_ (ninS (Nat.ne_of_lt (Nat.lt_of_lt_of_le (E_o0).lt sz_b72)) (ninS (Nat.ne_of_lt (Nat.lt_of_lt_of_le (E_o0).lt sz_b76)) nin0)))).keep K371_ nin0)
  have f477 := ((((((((((((F_o0_space).ext E72)).keep K75_ (ninS (Nat.ne_of_lt (Nat.lt_of_lt_of_le (E_o0).lt sz_b72)) nin0))).ext E86)).keep K158_ (ninS (Nat.ne_of_lt (Nat.lt_of_lt_of_le (E_o0).lt sz_b72)) (ninS (Nat.ne_of_lt (Nat.lt_of_lt_of_le (E_o0).lt sz_b76)) nin0)))).keep K279_ (ninS (Nat.ne_of_lt (Nat.lt_of_lt_of_le (E_o0).lt sz_b72)) (ninS (Nat.ne_of_lt (Nat.lt_of_lt_of_le (E_o0).lt sz_b76)) nin0)))).keep K371_ nin0)
  have f478 := ((((((((((((F_o0_direction).ext E72)).keep K75_ (ninS (Nat.ne_of_lt (Nat.lt_of_lt_of_le (E_o0).lt sz_b72)) nin0))).ext E86)).keep K158_ (ninS (Nat.ne_of_lt (Nat.lt_of_lt_of_le (E_o0).lt sz_b72)) (ninS (Nat.ne_of_lt (Nat.lt_of_lt_of_le (E_o0).lt sz_b76)) nin0)))).keep K279_ (ninS (Nat.ne_of_lt (Nat.lt_of_lt_of_le (E_o0).lt sz_b72)) (ninS (Nat.ne_of_lt (Nat.lt_of_lt_of_le (E_o0).lt sz_b76)) nin0)))).keep K371_ nin0)
  have f479 := ((((((((((((F_o0_optimum).ext E72)).keep K75_ (ninS (Nat.ne_of_lt (Nat.lt_of_lt_of_le (E_o0).lt sz_b72)) nin0))).ext E86)).keep K158_ (ninS (Nat.ne_of_lt (Nat.lt_of_lt_of_le (E_o0).lt sz_b72)) (ninS (Nat.ne_of_lt (Nat.lt_of_lt_of_le (E_o0).lt sz_b76)) nin0)))).keep K279_ (ninS (Nat.ne_of_lt (Nat.lt_of_lt_of_le (E_o0).lt sz_b72)) (ninS (Nat.ne_of_lt (Nat.lt_of_lt_of_le (E_o0).lt sz_b76)) nin0)))).keep K371_ nin0)
  obtain ⟨r480, T480, L480, X480, hQ480, st480⟩ := own_callI (W := 0) (a := o0) X383 hx hZ e383 hown (y := (⟨"com/example/tuneless/tuneless/problem/Landscape", "<init>", "(Ljava/lang/String;ILcom/example/tuneless/tuneless/space/Direction;D)V"⟩ : MethodName)) rfl (hw _ (List.mem_of_getElem? (i := 152) rfl)) (hw _ (List.mem_of_getElem? (i := 153) rfl)) (hw _ (List.mem_of_getElem? (i := 155) rfl)) (hw _ (List.mem_of_getElem? (i := 156) rfl)) (by decide) (rm33 l Z a0 hw [] o0 b372 p1 s_Direction_MAXIMIZE v384 T371.heap n0 Z381 (hra_p1) (hrb_p1) (f475) (f476) (f477) (f478) (f479) (g_o0)) (by decide) (by decide) (by decide) (by decide) (g := (mkF m 26 #[.val (.ref o0), .val (.int p1)] [(.double (FP.l2d v384)), (.ref s_Direction_MAXIMIZE), (.int p1), (.ref b372), (.ref o0)])) rfl (by rw [hml]; rfl) (argsL := [(.ref b372), (.int p1), (.ref s_Direction_MAXIMIZE), (.double (FP.l2d v384))]) (rest := []) rfl (lenOf pd_25 rfl) rfl (by show 2 * 0 + _ ≤ _; exact Nat.le_of_eq rfl) (hb hby dprog_62_method_1_code_26)
  obtain ⟨b481, b482, rfl, N480, K480_, sz_b481_, sz_b482_, f483, f484, f485, f486, f487, f488, f489, f490, f491, f492, hlt493⟩ := hQ480
  have N480_ := Fr.app N371_ N480
  have g_b481 : n0 ≤ b481 := Nat.le_trans Z381 sz_b481_
  have sz_b481 : h0.size ≤ b481 := Nat.le_trans K381.1 sz_b481_
  have f494 := ((f282).keep K371_)
  have lt_b72_b481 : b72 < b481 := Nat.lt_of_lt_of_le (f494).lt sz_b481_
  have f495 := ((f286).keep K371_)
  have lt_b76_b481 : b76 < b481 := Nat.lt_of_lt_of_le (f495).lt sz_b481_
  have lt_b372_b481 : b372 < b481 := Nat.lt_of_lt_of_le (f375).lt sz_b481_
  have lt_b373_b481 : b373 < b481 := Nat.lt_of_lt_of_le (f379).lt sz_b481_
  have g_b482 : n0 ≤ b482 := Nat.le_trans Z381 sz_b482_
  have sz_b482 : h0.size ≤ b482 := Nat.le_trans K381.1 sz_b482_
  have lt_b72_b482 : b72 < b482 := Nat.lt_of_lt_of_le (f494).lt sz_b482_
  have lt_b76_b482 : b76 < b482 := Nat.lt_of_lt_of_le (f495).lt sz_b482_
  have lt_b372_b482 : b372 < b482 := Nat.lt_of_lt_of_le (f375).lt sz_b482_
  have lt_b373_b482 : b373 < b482 := Nat.lt_of_lt_of_le (f379).lt sz_b482_
  have Z496 : n0 ≤ T480.heap.size := Nat.le_trans Z381 K480_.1
  have K496 : Keep h0 T480.heap [o0] := K381.trans K480_ (allS (Or.inl (by simp)) all0)
  have hk496 : _ ≤ T480.heap.size := Nat.le_trans hk381 K480_.1
  refine Go.st (S' := T480.setTop (mkF m 29 #[.val (.ref o0), .val (.int p1)] [])) st480 ?_
  have f497 := ((f494).keep K480_)
  have f498 := ((((f283).keep K371_ nin0)).keep K480_ (ninS (Ne.symm (Nat.ne_of_lt (Nat.lt_of_lt_of_le (E_o0).lt sz_b72))) nin0))
  have f499 := ((((f285).keep K371_ nin0)).keep K480_ (ninS (Ne.symm (Nat.ne_of_lt (Nat.lt_of_lt_of_le (E_o0).lt sz_b72))) nin0))
  have f500 := ((((f281).keep K371_ nin0)).keep K480_ (ninS (Ne.symm (Nat.ne_of_lt (Nat.lt_of_lt_of_le (E_o0).lt sz_b72))) nin0))
  have f501 := ((((f284).keep K371_ nin0)).keep K480_ (ninS (Ne.symm (Nat.ne_of_lt (Nat.lt_of_lt_of_le (E_o0).lt sz_b76))) nin0))
  have f502 := ((f495).keep K480_)
  have f503 := ((f375).keep K480_)
  have f504 := ((f376).keep K480_ (ninS (Ne.symm (Nat.ne_of_lt (Nat.lt_of_lt_of_le (E_o0).lt sz_b372))) nin0))
  have f505 := ((f377).keep K480_ (ninS (Ne.symm (Nat.ne_of_lt (Nat.lt_of_lt_of_le (E_o0).lt sz_b372))) nin0))
  have f506 := ((f378).keep K480_ (ninS (Ne.symm (Nat.ne_of_lt (Nat.lt_of_lt_of_le (E_o0).lt sz_b373))) nin0))
  have f507 := ((f379).keep K480_)
  exact Go.retW X480 hS86 hk496 (v := none) (fun _ => rfl) Bd.notSynchronized (fun fs hr => X480.returnOut hx Bd.returns (hb hby dprog_62_method_1_code_29) hr) (by decide) (by decide) (⟨r280, v384, b72, b76, b372, b373, b481, b482, k77, k374, hv384, rfl, N480_, K496, sz_b72, sz_b76, sz_b372, sz_b373, sz_b481, sz_b482, f497, f498, f499, f500, f501, f502, f503, f504, f505, f506, f507, f486, f487, f488, f489, f490, f483, f484, f485, f491, f492, lt_b72_b76, lt_b72_b372, lt_b72_b373, lt_b72_b481, lt_b72_b482, lt_b76_b372, lt_b76_b373, lt_b76_b481, lt_b76_b482, hlt380, lt_b372_b481, lt_b372_b482, lt_b373_b481, lt_b373_b482, hlt493⟩)
theorem ef_35 (m : MethodId) (o0 : Addr) (p2 : Int32) : entryFrame m #[(.ref o0), (.int (0 : Int32)), (.int p2)] 3 = mkF m 0 #[.val (.ref o0), .val (.int (0 : Int32)), .val (.int p2)] [] := by first | (simp [entryFrame, mkF, argsToLocals, Value.category, maxLocals]; done) | rfl
def Q35 (Z : State) (o0 : Addr) (p2 : Int32) (k_o0 : ClassId) (z_o0 : Int32) (e0_o0 : Int32) (e1_o0 : Int32) (e2_o0 : Int32) (e3_o0 : Int32) (e4_o0 : Int32) (e5_o0 : Int32) (e6_o0 : Int32) (e7_o0 : Int32) (h0 : Heap) (n0 : Nat) (v : Option Value) (h : Heap) (L : List Loc) : Prop := (∃ (r575 : Int32) (v571 : Int32) (v572 : Int32) (v578 : Int32), v571 = ((p2.toUInt32 >>> ((0 : Int32) &&& 31).toUInt32).toInt32) ∧ v572 = (v571 &&& (1 : Int32)) ∧ v578 = (r575 &&& (1 : Int32)) ∧ ((0 : Int32) < z_o0) ∧ (((v572 = (0 : Int32)) ∧ (r575 = (0 : Int32))) ∨ ((¬ (v572 = (0 : Int32))) ∧ (r575 = (1 : Int32)))) ∧ v = none ∧ Fr n0 L ∧ Keep h0 h [o0] ∧ Arv Z h o0 k_o0 .boolean z_o0 [(.int v578), (.int e1_o0), (.int e2_o0), (.int e3_o0), (.int e4_o0), (.int e5_o0), (.int e6_o0), (.int e7_o0)] (.int (0 : Int32)) ∧ Exa Z h o0 "[Z")
set_option maxRecDepth 65536 in
set_option maxHeartbeats 40000000 in
theorem rm35 (l : Launch) (Z : State) (a0 : Array Value) (hw : ∀ d ∈ tables_1, d.before a0 Z = true) (ws : List Jvm.Cond) (o0 : Addr) (p2 : Int32) (k_o0 : ClassId) (z_o0 : Int32) (e0_o0 : Int32) (e1_o0 : Int32) (e2_o0 : Int32) (e3_o0 : Int32) (e4_o0 : Int32) (e5_o0 : Int32) (e6_o0 : Int32) (e7_o0 : Int32) (h0 : Heap) (n0 : Nat) (Z0 : n0 ≤ h0.size) (hra_z_o0 : (¬ (z_o0 < (1 : Int32)))) (hrb_z_o0 : (¬ ((8 : Int32) < z_o0))) (V_o0 : Arv Z h0 o0 k_o0 .boolean z_o0 [(.int e0_o0), (.int e1_o0), (.int e2_o0), (.int e3_o0), (.int e4_o0), (.int e5_o0), (.int e6_o0), (.int e7_o0)] (.int (0 : Int32))) (g_o0 : n0 ≤ o0) (E_o0 : Exa Z h0 o0 "[Z") :
    Con l Z (⟨"com/example/tuneless/tuneless/problem/OneMaxEvaluatePinLaw", "put", "([ZII)V"⟩ : MethodName) method_2_code 3 none ws ({ frames := 0, cells := 0, slots := 0, locals := 0 } : Room) #[(.ref o0), (.int (0 : Int32)), (.int p2)] h0 0 0 (Q35 Z o0 p2 k_o0 z_o0 e0_o0 e1_o0 e2_o0 e3_o0 e4_o0 e5_o0 e6_o0 e7_o0 h0 n0) := by
  refine MetFree.of_bodySF (plainFor_of_name pn_9) hisR ?_
  intro p e s m args below meth c s₁ Bd hml0 hP hK
  obtain ⟨rfl, hZ, hh⟩ := hP
  have hx := Bd.exec
  have hby := Bd.bytes
  have hml : c.maxLocals = 3 := hml0
  have hown : s.vm.findClass "com/example/tuneless/tuneless/problem/OneMaxEvaluatePinLaw" = some m.cls := findClass_of_methodNamed Bd.named
  have hnm := (name_of_methodNamed Bd.named Bd.method).1
  have X0 : Stand p l e ({ frames := 0, cells := 0, slots := 0, locals := 0 } : Room) s m #[(.ref o0), (.int (0 : Int32)), (.int p2)] below meth c s₁ [] 0 0 := Stand.of_body Bd
  have e0 : s₁.heap = h0 := by rw [← hh, Bd.state]; rfl
  have N0 := Fr.nil n0
  refine Go.of ?_
  refine Go.st (S' := s₁.setTop (mkF m 0 #[.val (.ref o0), .val (.int (0 : Int32)), .val (.int p2)] [])) (fun t k => castTop (ef_35 m o0 p2) k) ?_
  refine Go.st (S' := s₁.setTop (mkF m 1 #[.val (.ref o0), .val (.int (0 : Int32)), .val (.int p2)] [(.int (0 : Int32))])) (fun t k => XS.iloadN X0.here hx rfl (hb hby dmethod_2_code_0) rfl k) ?_
  refine Go.st (S' := s₁.setTop (mkF m 2 #[.val (.ref o0), .val (.int (0 : Int32)), .val (.int p2)] [(.ref o0), (.int (0 : Int32))])) (fun t k => XS.aloadN X0.here hx rfl (hb hby dmethod_2_code_1) rfl rfl k) ?_
  obtain ⟨cl568, Ar568, -, S568, N568_, -, -⟩ := id V_o0
  refine Go.op (F := fun z => s₁.setTop (mkF m 3 #[.val (.ref o0), .val (.int (0 : Int32)), .val (.int p2)] [(.int z), (.int (0 : Int32))])) (x := cl568.slots.size.toInt32) (fun t k => X0.arraylength hx (own_eh e0 Ar568.1) (State.isArrayOf_alike hZ.alike Ar568.2.1) (g := (mkF m 2 #[.val (.ref o0), .val (.int (0 : Int32)), .val (.int p2)] [(.ref o0), (.int (0 : Int32))])) rfl rfl (hb hby dmethod_2_code_2) t k) ?_
  intro v569 hv569
  obtain rfl : z_o0 = v569 := (hv569.trans (len_of S568 N568_)).symm
  by_cases hc570 : ((0 : Int32) < z_o0)
  · refine Go.st (S' := s₁.setTop (mkF m 6 #[.val (.ref o0), .val (.int (0 : Int32)), .val (.int p2)] [])) (fun t k => XS.icmpNo X0.here hx rfl (hb hby dmethod_2_code_3) rfl (tlt hc570).2.1 k) ?_
    refine Go.st (S' := s₁.setTop (mkF m 7 #[.val (.ref o0), .val (.int (0 : Int32)), .val (.int p2)] [(.ref o0)])) (fun t k => XS.aloadN X0.here hx rfl (hb hby dmethod_2_code_6) rfl rfl k) ?_
    refine Go.st (S' := s₁.setTop (mkF m 8 #[.val (.ref o0), .val (.int (0 : Int32)), .val (.int p2)] [(.int (0 : Int32)), (.ref o0)])) (fun t k => XS.iloadN X0.here hx rfl (hb hby dmethod_2_code_7) rfl k) ?_
    refine Go.st (S' := s₁.setTop (mkF m 9 #[.val (.ref o0), .val (.int (0 : Int32)), .val (.int p2)] [(.int p2), (.int (0 : Int32)), (.ref o0)])) (fun t k => XS.iloadN X0.here hx rfl (hb hby dmethod_2_code_8) rfl k) ?_
    refine Go.st (S' := s₁.setTop (mkF m 10 #[.val (.ref o0), .val (.int (0 : Int32)), .val (.int p2)] [(.int (0 : Int32)), (.int p2), (.int (0 : Int32)), (.ref o0)])) (fun t k => XS.iloadN X0.here hx rfl (hb hby dmethod_2_code_9) rfl k) ?_
    refine Go.op (F := fun z => s₁.setTop (mkF m 11 #[.val (.ref o0), .val (.int (0 : Int32)), .val (.int p2)] [(.int z), (.int (0 : Int32)), (.ref o0)])) (x := ((p2.toUInt32 >>> ((0 : Int32) &&& 31).toUInt32).toInt32)) (fun t k => XS.iushr X0.here hx rfl (hb hby dmethod_2_code_10) rfl k) ?_
    intro v571 hv571
    refine Go.st (S' := s₁.setTop (mkF m 12 #[.val (.ref o0), .val (.int (0 : Int32)), .val (.int p2)] [(.int (1 : Int32)), (.int v571), (.int (0 : Int32)), (.ref o0)])) (fun t k => XS.iconst X0.here hx rfl (hb hby dmethod_2_code_11) k) ?_
    refine Go.op (F := fun z => s₁.setTop (mkF m 13 #[.val (.ref o0), .val (.int (0 : Int32)), .val (.int p2)] [(.int z), (.int (0 : Int32)), (.ref o0)])) (x := (v571 &&& (1 : Int32))) (fun t k => XS.iand X0.here hx rfl (hb hby dmethod_2_code_12) rfl k) ?_
    intro v572 hv572
    refine Go.join (α := Int32) (fun r => (((v572 = (0 : Int32)) ∧ (r = (0 : Int32))) ∨ ((¬ (v572 = (0 : Int32))) ∧ (r = (1 : Int32))))) (fun r => s₁.setTop (mkF m 21 #[.val (.ref o0), .val (.int (0 : Int32)), .val (.int p2)] [(.int r), (.int (0 : Int32)), (.ref o0)])) ?_ ?_
    · intro r575 hc576
      obtain ⟨cl577, Ar577, q577, S577, N577_, H577, G577⟩ := id V_o0
      have hin577 : ¬ ((0 : Int32) < 0 ∨ cl577.slots.size ≤ ((0 : Int32)).toNatClampNeg) := inb_of S577 ⟨by decide, hc570⟩
      obtain ⟨v578, hv578⟩ : ∃ z, z = (r575 &&& (1 : Int32)) := ⟨_, rfl⟩
      obtain ⟨T577, h577, X577, e577, W577, st577⟩ := stZ X0 hx hZ e0 Ar577 (j := (0 : Int32)) hin577 (g := (mkF m 21 #[.val (.ref o0), .val (.int (0 : Int32)), .val (.int p2)] [(.int r575), (.int (0 : Int32)), (.ref o0)])) rfl rfl (hb hby dmethod_2_code_21)
      have W577 : Wr h0 h577 o0 ((0 : Int32)).toNatClampNeg (.int v578) := by rw [hv578]; exact W577
      have V577 : Arv Z h577 o0 k_o0 .boolean z_o0 [(.int v578), (.int e1_o0), (.int e2_o0), (.int e3_o0), (.int e4_o0), (.int e5_o0), (.int e6_o0), (.int e7_o0)] (.int (0 : Int32)) := Arv.set Ar577 q577 S577 N577_ H577 G577 (by rw [hv578]; exact fits_nar_bool _) W577 0 rfl (Nat.le_of_ble_eq_true rfl)
      have N577 := Fr.snoc X577 N0 g_o0
      have Z579 : n0 ≤ h577.size := Nat.le_trans Z0 (Keep.of_wr W577).1
      have K579 : Keep h0 h577 [o0] := (Keep.refl h0 [o0]).wr W577 (Or.inl (by simp))
      refine Go.st (S' := T577.setTop (mkF m 22 #[.val (.ref o0), .val (.int (0 : Int32)), .val (.int p2)] [])) st577 ?_
      have f580 := ((E_o0).wr W577)
      exact Go.ret X577 (v := none) (fun _ => rfl) Bd.notSynchronized (fun fs hr => X577.returnOut hx Bd.returns (hb hby dmethod_2_code_22) hr) (by decide) (by decide) (by rw [e577]; exact ⟨r575, v571, v572, v578, hv571, hv572, hv578, hc570, hc576, rfl, N577, K579, V577, f580⟩)
    · intro J581
      by_cases hc582 : (v572 = (0 : Int32))
      · refine Go.st (S' := s₁.setTop (mkF m 20 #[.val (.ref o0), .val (.int (0 : Int32)), .val (.int p2)] [(.int (0 : Int32)), (.ref o0)])) (fun t k => XS.ifYes X0.here hx rfl (pc0 := 13) (pc' := 20) rfl (hb hby dmethod_2_code_13) rfl ((if0 _ _).trans (teq hc582).1) (by decide) (by decide) k) ?_
        refine Go.st (S' := s₁.setTop (mkF m 21 #[.val (.ref o0), .val (.int (0 : Int32)), .val (.int p2)] [(.int (0 : Int32)), (.int (0 : Int32)), (.ref o0)])) (fun t k => XS.iconst X0.here hx rfl (hb hby dmethod_2_code_20) k) ?_
        exact J581 ((0 : Int32)) (Or.inl ⟨hc582, rfl⟩)
      · refine Go.st (S' := s₁.setTop (mkF m 16 #[.val (.ref o0), .val (.int (0 : Int32)), .val (.int p2)] [(.int (0 : Int32)), (.ref o0)])) (fun t k => XS.ifNo X0.here hx rfl (hb hby dmethod_2_code_13) rfl ((if0 _ _).trans (feq hc582).1) k) ?_
        refine Go.st (S' := s₁.setTop (mkF m 17 #[.val (.ref o0), .val (.int (0 : Int32)), .val (.int p2)] [(.int (1 : Int32)), (.int (0 : Int32)), (.ref o0)])) (fun t k => XS.iconst X0.here hx rfl (hb hby dmethod_2_code_16) k) ?_
        refine Go.st (S' := s₁.setTop (mkF m 21 #[.val (.ref o0), .val (.int (0 : Int32)), .val (.int p2)] [(.int (1 : Int32)), (.int (0 : Int32)), (.ref o0)])) (fun t k => XS.goto X0.here hx rfl (pc0 := 17) (pc' := 21) rfl (hb hby dmethod_2_code_17) (by decide) (by decide) k) ?_
        exact J581 ((1 : Int32)) (Or.inr ⟨hc582, rfl⟩)
  · exfalso
    have rz_o0 := rng32 z_o0
    have lI0 : (0 : Int32).toInt = 0 := by decide
    have lI1 : (1 : Int32).toInt = 1 := by decide
    have lI8 : (8 : Int32).toInt = 8 := by decide
    simp only [Int32.lt_iff_toInt_lt, Int64.lt_iff_toInt_lt, ← Int32.toInt_inj, ← Int64.toInt_inj] at hra_z_o0 hrb_z_o0 hc570
    omega
theorem ef_36 (m : MethodId) (o0 : Addr) (p2 : Int32) : entryFrame m #[(.ref o0), (.int (1 : Int32)), (.int p2)] 3 = mkF m 0 #[.val (.ref o0), .val (.int (1 : Int32)), .val (.int p2)] [] := by first | (simp [entryFrame, mkF, argsToLocals, Value.category, maxLocals]; done) | rfl
def Q36 (Z : State) (o0 : Addr) (p2 : Int32) (k_o0 : ClassId) (z_o0 : Int32) (e0_o0 : Int32) (e1_o0 : Int32) (e2_o0 : Int32) (e3_o0 : Int32) (e4_o0 : Int32) (e5_o0 : Int32) (e6_o0 : Int32) (e7_o0 : Int32) (h0 : Heap) (n0 : Nat) (v : Option Value) (h : Heap) (L : List Loc) : Prop := (∃ (r600 : Int32) (fv36_0_1 : Int32) (v596 : Int32) (v597 : Int32) (v603 : Int32), v596 = ((p2.toUInt32 >>> ((1 : Int32) &&& 31).toUInt32).toInt32) ∧ v597 = (v596 &&& (1 : Int32)) ∧ v603 = (r600 &&& (1 : Int32)) ∧ ((((1 : Int32) < z_o0) ∧ (((v597 = (0 : Int32)) ∧ (r600 = (0 : Int32))) ∨ ((¬ (v597 = (0 : Int32))) ∧ (r600 = (1 : Int32)))) ∧ (fv36_0_1 = v603)) ∨ ((¬ ((1 : Int32) < z_o0)) ∧ (fv36_0_1 = e1_o0))) ∧ v = none ∧ Fr n0 L ∧ Keep h0 h [o0] ∧ Arv Z h o0 k_o0 .boolean z_o0 [(.int e0_o0), (.int fv36_0_1), (.int e2_o0), (.int e3_o0), (.int e4_o0), (.int e5_o0), (.int e6_o0), (.int e7_o0)] (.int (0 : Int32)) ∧ Exa Z h o0 "[Z")
set_option maxRecDepth 65536 in
set_option maxHeartbeats 40000000 in
theorem rm36 (l : Launch) (Z : State) (a0 : Array Value) (hw : ∀ d ∈ tables_1, d.before a0 Z = true) (ws : List Jvm.Cond) (o0 : Addr) (p2 : Int32) (k_o0 : ClassId) (z_o0 : Int32) (e0_o0 : Int32) (e1_o0 : Int32) (e2_o0 : Int32) (e3_o0 : Int32) (e4_o0 : Int32) (e5_o0 : Int32) (e6_o0 : Int32) (e7_o0 : Int32) (h0 : Heap) (n0 : Nat) (Z0 : n0 ≤ h0.size) (hra_z_o0 : (¬ (z_o0 < (1 : Int32)))) (hrb_z_o0 : (¬ ((8 : Int32) < z_o0))) (V_o0 : Arv Z h0 o0 k_o0 .boolean z_o0 [(.int e0_o0), (.int e1_o0), (.int e2_o0), (.int e3_o0), (.int e4_o0), (.int e5_o0), (.int e6_o0), (.int e7_o0)] (.int (0 : Int32))) (g_o0 : n0 ≤ o0) (E_o0 : Exa Z h0 o0 "[Z") :
    Con l Z (⟨"com/example/tuneless/tuneless/problem/OneMaxEvaluatePinLaw", "put", "([ZII)V"⟩ : MethodName) method_2_code 3 none ws ({ frames := 0, cells := 0, slots := 0, locals := 0 } : Room) #[(.ref o0), (.int (1 : Int32)), (.int p2)] h0 0 0 (Q36 Z o0 p2 k_o0 z_o0 e0_o0 e1_o0 e2_o0 e3_o0 e4_o0 e5_o0 e6_o0 e7_o0 h0 n0) := by
  refine MetFree.of_bodySF (plainFor_of_name pn_9) hisR ?_
  intro p e s m args below meth c s₁ Bd hml0 hP hK
  obtain ⟨rfl, hZ, hh⟩ := hP
  have hx := Bd.exec
  have hby := Bd.bytes
  have hml : c.maxLocals = 3 := hml0
  have hown : s.vm.findClass "com/example/tuneless/tuneless/problem/OneMaxEvaluatePinLaw" = some m.cls := findClass_of_methodNamed Bd.named
  have hnm := (name_of_methodNamed Bd.named Bd.method).1
  have X0 : Stand p l e ({ frames := 0, cells := 0, slots := 0, locals := 0 } : Room) s m #[(.ref o0), (.int (1 : Int32)), (.int p2)] below meth c s₁ [] 0 0 := Stand.of_body Bd
  have e0 : s₁.heap = h0 := by rw [← hh, Bd.state]; rfl
  have N0 := Fr.nil n0
  refine Go.of ?_
  refine Go.st (S' := s₁.setTop (mkF m 0 #[.val (.ref o0), .val (.int (1 : Int32)), .val (.int p2)] [])) (fun t k => castTop (ef_36 m o0 p2) k) ?_
  refine Go.st (S' := s₁.setTop (mkF m 1 #[.val (.ref o0), .val (.int (1 : Int32)), .val (.int p2)] [(.int (1 : Int32))])) (fun t k => XS.iloadN X0.here hx rfl (hb hby dmethod_2_code_0) rfl k) ?_
  refine Go.st (S' := s₁.setTop (mkF m 2 #[.val (.ref o0), .val (.int (1 : Int32)), .val (.int p2)] [(.ref o0), (.int (1 : Int32))])) (fun t k => XS.aloadN X0.here hx rfl (hb hby dmethod_2_code_1) rfl rfl k) ?_
  obtain ⟨cl593, Ar593, -, S593, N593_, -, -⟩ := id V_o0
  refine Go.op (F := fun z => s₁.setTop (mkF m 3 #[.val (.ref o0), .val (.int (1 : Int32)), .val (.int p2)] [(.int z), (.int (1 : Int32))])) (x := cl593.slots.size.toInt32) (fun t k => X0.arraylength hx (own_eh e0 Ar593.1) (State.isArrayOf_alike hZ.alike Ar593.2.1) (g := (mkF m 2 #[.val (.ref o0), .val (.int (1 : Int32)), .val (.int p2)] [(.ref o0), (.int (1 : Int32))])) rfl rfl (hb hby dmethod_2_code_2) t k) ?_
  intro v594 hv594
  obtain rfl : z_o0 = v594 := (hv594.trans (len_of S593 N593_)).symm
  by_cases hc595 : ((1 : Int32) < z_o0)
  · refine Go.st (S' := s₁.setTop (mkF m 6 #[.val (.ref o0), .val (.int (1 : Int32)), .val (.int p2)] [])) (fun t k => XS.icmpNo X0.here hx rfl (hb hby dmethod_2_code_3) rfl (tlt hc595).2.1 k) ?_
    refine Go.st (S' := s₁.setTop (mkF m 7 #[.val (.ref o0), .val (.int (1 : Int32)), .val (.int p2)] [(.ref o0)])) (fun t k => XS.aloadN X0.here hx rfl (hb hby dmethod_2_code_6) rfl rfl k) ?_
    refine Go.st (S' := s₁.setTop (mkF m 8 #[.val (.ref o0), .val (.int (1 : Int32)), .val (.int p2)] [(.int (1 : Int32)), (.ref o0)])) (fun t k => XS.iloadN X0.here hx rfl (hb hby dmethod_2_code_7) rfl k) ?_
    refine Go.st (S' := s₁.setTop (mkF m 9 #[.val (.ref o0), .val (.int (1 : Int32)), .val (.int p2)] [(.int p2), (.int (1 : Int32)), (.ref o0)])) (fun t k => XS.iloadN X0.here hx rfl (hb hby dmethod_2_code_8) rfl k) ?_
    refine Go.st (S' := s₁.setTop (mkF m 10 #[.val (.ref o0), .val (.int (1 : Int32)), .val (.int p2)] [(.int (1 : Int32)), (.int p2), (.int (1 : Int32)), (.ref o0)])) (fun t k => XS.iloadN X0.here hx rfl (hb hby dmethod_2_code_9) rfl k) ?_
    refine Go.op (F := fun z => s₁.setTop (mkF m 11 #[.val (.ref o0), .val (.int (1 : Int32)), .val (.int p2)] [(.int z), (.int (1 : Int32)), (.ref o0)])) (x := ((p2.toUInt32 >>> ((1 : Int32) &&& 31).toUInt32).toInt32)) (fun t k => XS.iushr X0.here hx rfl (hb hby dmethod_2_code_10) rfl k) ?_
    intro v596 hv596
    refine Go.st (S' := s₁.setTop (mkF m 12 #[.val (.ref o0), .val (.int (1 : Int32)), .val (.int p2)] [(.int (1 : Int32)), (.int v596), (.int (1 : Int32)), (.ref o0)])) (fun t k => XS.iconst X0.here hx rfl (hb hby dmethod_2_code_11) k) ?_
    refine Go.op (F := fun z => s₁.setTop (mkF m 13 #[.val (.ref o0), .val (.int (1 : Int32)), .val (.int p2)] [(.int z), (.int (1 : Int32)), (.ref o0)])) (x := (v596 &&& (1 : Int32))) (fun t k => XS.iand X0.here hx rfl (hb hby dmethod_2_code_12) rfl k) ?_
    intro v597 hv597
    refine Go.join (α := Int32) (fun r => (((v597 = (0 : Int32)) ∧ (r = (0 : Int32))) ∨ ((¬ (v597 = (0 : Int32))) ∧ (r = (1 : Int32))))) (fun r => s₁.setTop (mkF m 21 #[.val (.ref o0), .val (.int (1 : Int32)), .val (.int p2)] [(.int r), (.int (1 : Int32)), (.ref o0)])) ?_ ?_
    · intro r600 hc601
      obtain ⟨cl602, Ar602, q602, S602, N602_, H602, G602⟩ := id V_o0
      have hin602 : ¬ ((1 : Int32) < 0 ∨ cl602.slots.size ≤ ((1 : Int32)).toNatClampNeg) := inb_of S602 ⟨by decide, hc595⟩
      obtain ⟨v603, hv603⟩ : ∃ z, z = (r600 &&& (1 : Int32)) := ⟨_, rfl⟩
      obtain ⟨T602, h602, X602, e602, W602, st602⟩ := stZ X0 hx hZ e0 Ar602 (j := (1 : Int32)) hin602 (g := (mkF m 21 #[.val (.ref o0), .val (.int (1 : Int32)), .val (.int p2)] [(.int r600), (.int (1 : Int32)), (.ref o0)])) rfl rfl (hb hby dmethod_2_code_21)
      have W602 : Wr h0 h602 o0 ((1 : Int32)).toNatClampNeg (.int v603) := by rw [hv603]; exact W602
      have V602 : Arv Z h602 o0 k_o0 .boolean z_o0 [(.int e0_o0), (.int v603), (.int e2_o0), (.int e3_o0), (.int e4_o0), (.int e5_o0), (.int e6_o0), (.int e7_o0)] (.int (0 : Int32)) := Arv.set Ar602 q602 S602 N602_ H602 G602 (by rw [hv603]; exact fits_nar_bool _) W602 1 rfl (Nat.le_of_ble_eq_true rfl)
      have N602 := Fr.snoc X602 N0 g_o0
      have Z604 : n0 ≤ h602.size := Nat.le_trans Z0 (Keep.of_wr W602).1
      have K604 : Keep h0 h602 [o0] := (Keep.refl h0 [o0]).wr W602 (Or.inl (by simp))
      refine Go.st (S' := T602.setTop (mkF m 22 #[.val (.ref o0), .val (.int (1 : Int32)), .val (.int p2)] [])) st602 ?_
      have f605 := ((E_o0).wr W602)
      exact Go.ret X602 (v := none) (fun _ => rfl) Bd.notSynchronized (fun fs hr => X602.returnOut hx Bd.returns (hb hby dmethod_2_code_22) hr) (by decide) (by decide) (by rw [e602]; exact ⟨r600, v603, v596, v597, v603, hv596, hv597, hv603, (Or.inl ⟨hc595, hc601, rfl⟩), rfl, N602, K604, V602, f605⟩)
    · intro J606
      by_cases hc607 : (v597 = (0 : Int32))
      · refine Go.st (S' := s₁.setTop (mkF m 20 #[.val (.ref o0), .val (.int (1 : Int32)), .val (.int p2)] [(.int (1 : Int32)), (.ref o0)])) (fun t k => XS.ifYes X0.here hx rfl (pc0 := 13) (pc' := 20) rfl (hb hby dmethod_2_code_13) rfl ((if0 _ _).trans (teq hc607).1) (by decide) (by decide) k) ?_
        refine Go.st (S' := s₁.setTop (mkF m 21 #[.val (.ref o0), .val (.int (1 : Int32)), .val (.int p2)] [(.int (0 : Int32)), (.int (1 : Int32)), (.ref o0)])) (fun t k => XS.iconst X0.here hx rfl (hb hby dmethod_2_code_20) k) ?_
        exact J606 ((0 : Int32)) (Or.inl ⟨hc607, rfl⟩)
      · refine Go.st (S' := s₁.setTop (mkF m 16 #[.val (.ref o0), .val (.int (1 : Int32)), .val (.int p2)] [(.int (1 : Int32)), (.ref o0)])) (fun t k => XS.ifNo X0.here hx rfl (hb hby dmethod_2_code_13) rfl ((if0 _ _).trans (feq hc607).1) k) ?_
        refine Go.st (S' := s₁.setTop (mkF m 17 #[.val (.ref o0), .val (.int (1 : Int32)), .val (.int p2)] [(.int (1 : Int32)), (.int (1 : Int32)), (.ref o0)])) (fun t k => XS.iconst X0.here hx rfl (hb hby dmethod_2_code_16) k) ?_
        refine Go.st (S' := s₁.setTop (mkF m 21 #[.val (.ref o0), .val (.int (1 : Int32)), .val (.int p2)] [(.int (1 : Int32)), (.int (1 : Int32)), (.ref o0)])) (fun t k => XS.goto X0.here hx rfl (pc0 := 17) (pc' := 21) rfl (hb hby dmethod_2_code_17) (by decide) (by decide) k) ?_
        exact J606 ((1 : Int32)) (Or.inr ⟨hc607, rfl⟩)
  · refine Go.st (S' := s₁.setTop (mkF m 22 #[.val (.ref o0), .val (.int (1 : Int32)), .val (.int p2)] [])) (fun t k => XS.icmpYes X0.here hx rfl (pc0 := 3) (pc' := 22) rfl (hb hby dmethod_2_code_3) rfl (flt hc595).2.1 (by decide) (by decide) k) ?_
    exact Go.ret X0 (v := none) (fun _ => rfl) Bd.notSynchronized (fun fs hr => X0.returnOut hx Bd.returns (hb hby dmethod_2_code_22) hr) (by decide) (by decide) (by rw [e0]; exact ⟨(0 : Int32), e1_o0, _, _, _, rfl, rfl, rfl, (Or.inr ⟨hc595, rfl⟩), rfl, N0, (Keep.refl h0 [o0]), V_o0, E_o0⟩)
theorem ef_37 (m : MethodId) (o0 : Addr) (p2 : Int32) : entryFrame m #[(.ref o0), (.int (2 : Int32)), (.int p2)] 3 = mkF m 0 #[.val (.ref o0), .val (.int (2 : Int32)), .val (.int p2)] [] := by first | (simp [entryFrame, mkF, argsToLocals, Value.category, maxLocals]; done) | rfl
def Q37 (Z : State) (o0 : Addr) (p2 : Int32) (k_o0 : ClassId) (z_o0 : Int32) (e0_o0 : Int32) (e1_o0 : Int32) (e2_o0 : Int32) (e3_o0 : Int32) (e4_o0 : Int32) (e5_o0 : Int32) (e6_o0 : Int32) (e7_o0 : Int32) (h0 : Heap) (n0 : Nat) (v : Option Value) (h : Heap) (L : List Loc) : Prop := (∃ (r625 : Int32) (fv37_0_2 : Int32) (v621 : Int32) (v622 : Int32) (v628 : Int32), v621 = ((p2.toUInt32 >>> ((2 : Int32) &&& 31).toUInt32).toInt32) ∧ v622 = (v621 &&& (1 : Int32)) ∧ v628 = (r625 &&& (1 : Int32)) ∧ ((((2 : Int32) < z_o0) ∧ (((v622 = (0 : Int32)) ∧ (r625 = (0 : Int32))) ∨ ((¬ (v622 = (0 : Int32))) ∧ (r625 = (1 : Int32)))) ∧ (fv37_0_2 = v628)) ∨ ((¬ ((2 : Int32) < z_o0)) ∧ (fv37_0_2 = e2_o0))) ∧ v = none ∧ Fr n0 L ∧ Keep h0 h [o0] ∧ Arv Z h o0 k_o0 .boolean z_o0 [(.int e0_o0), (.int e1_o0), (.int fv37_0_2), (.int e3_o0), (.int e4_o0), (.int e5_o0), (.int e6_o0), (.int e7_o0)] (.int (0 : Int32)) ∧ Exa Z h o0 "[Z")
set_option maxRecDepth 65536 in
set_option maxHeartbeats 40000000 in
theorem rm37 (l : Launch) (Z : State) (a0 : Array Value) (hw : ∀ d ∈ tables_1, d.before a0 Z = true) (ws : List Jvm.Cond) (o0 : Addr) (p2 : Int32) (k_o0 : ClassId) (z_o0 : Int32) (e0_o0 : Int32) (e1_o0 : Int32) (e2_o0 : Int32) (e3_o0 : Int32) (e4_o0 : Int32) (e5_o0 : Int32) (e6_o0 : Int32) (e7_o0 : Int32) (h0 : Heap) (n0 : Nat) (Z0 : n0 ≤ h0.size) (hra_z_o0 : (¬ (z_o0 < (1 : Int32)))) (hrb_z_o0 : (¬ ((8 : Int32) < z_o0))) (V_o0 : Arv Z h0 o0 k_o0 .boolean z_o0 [(.int e0_o0), (.int e1_o0), (.int e2_o0), (.int e3_o0), (.int e4_o0), (.int e5_o0), (.int e6_o0), (.int e7_o0)] (.int (0 : Int32))) (g_o0 : n0 ≤ o0) (E_o0 : Exa Z h0 o0 "[Z") :
    Con l Z (⟨"com/example/tuneless/tuneless/problem/OneMaxEvaluatePinLaw", "put", "([ZII)V"⟩ : MethodName) method_2_code 3 none ws ({ frames := 0, cells := 0, slots := 0, locals := 0 } : Room) #[(.ref o0), (.int (2 : Int32)), (.int p2)] h0 0 0 (Q37 Z o0 p2 k_o0 z_o0 e0_o0 e1_o0 e2_o0 e3_o0 e4_o0 e5_o0 e6_o0 e7_o0 h0 n0) := by
  refine MetFree.of_bodySF (plainFor_of_name pn_9) hisR ?_
  intro p e s m args below meth c s₁ Bd hml0 hP hK
  obtain ⟨rfl, hZ, hh⟩ := hP
  have hx := Bd.exec
  have hby := Bd.bytes
  have hml : c.maxLocals = 3 := hml0
  have hown : s.vm.findClass "com/example/tuneless/tuneless/problem/OneMaxEvaluatePinLaw" = some m.cls := findClass_of_methodNamed Bd.named
  have hnm := (name_of_methodNamed Bd.named Bd.method).1
  have X0 : Stand p l e ({ frames := 0, cells := 0, slots := 0, locals := 0 } : Room) s m #[(.ref o0), (.int (2 : Int32)), (.int p2)] below meth c s₁ [] 0 0 := Stand.of_body Bd
  have e0 : s₁.heap = h0 := by rw [← hh, Bd.state]; rfl
  have N0 := Fr.nil n0
  refine Go.of ?_
  refine Go.st (S' := s₁.setTop (mkF m 0 #[.val (.ref o0), .val (.int (2 : Int32)), .val (.int p2)] [])) (fun t k => castTop (ef_37 m o0 p2) k) ?_
  refine Go.st (S' := s₁.setTop (mkF m 1 #[.val (.ref o0), .val (.int (2 : Int32)), .val (.int p2)] [(.int (2 : Int32))])) (fun t k => XS.iloadN X0.here hx rfl (hb hby dmethod_2_code_0) rfl k) ?_
  refine Go.st (S' := s₁.setTop (mkF m 2 #[.val (.ref o0), .val (.int (2 : Int32)), .val (.int p2)] [(.ref o0), (.int (2 : Int32))])) (fun t k => XS.aloadN X0.here hx rfl (hb hby dmethod_2_code_1) rfl rfl k) ?_
  obtain ⟨cl618, Ar618, -, S618, N618_, -, -⟩ := id V_o0
  refine Go.op (F := fun z => s₁.setTop (mkF m 3 #[.val (.ref o0), .val (.int (2 : Int32)), .val (.int p2)] [(.int z), (.int (2 : Int32))])) (x := cl618.slots.size.toInt32) (fun t k => X0.arraylength hx (own_eh e0 Ar618.1) (State.isArrayOf_alike hZ.alike Ar618.2.1) (g := (mkF m 2 #[.val (.ref o0), .val (.int (2 : Int32)), .val (.int p2)] [(.ref o0), (.int (2 : Int32))])) rfl rfl (hb hby dmethod_2_code_2) t k) ?_
  intro v619 hv619
  obtain rfl : z_o0 = v619 := (hv619.trans (len_of S618 N618_)).symm
  by_cases hc620 : ((2 : Int32) < z_o0)
  · refine Go.st (S' := s₁.setTop (mkF m 6 #[.val (.ref o0), .val (.int (2 : Int32)), .val (.int p2)] [])) (fun t k => XS.icmpNo X0.here hx rfl (hb hby dmethod_2_code_3) rfl (tlt hc620).2.1 k) ?_
    refine Go.st (S' := s₁.setTop (mkF m 7 #[.val (.ref o0), .val (.int (2 : Int32)), .val (.int p2)] [(.ref o0)])) (fun t k => XS.aloadN X0.here hx rfl (hb hby dmethod_2_code_6) rfl rfl k) ?_
    refine Go.st (S' := s₁.setTop (mkF m 8 #[.val (.ref o0), .val (.int (2 : Int32)), .val (.int p2)] [(.int (2 : Int32)), (.ref o0)])) (fun t k => XS.iloadN X0.here hx rfl (hb hby dmethod_2_code_7) rfl k) ?_
    refine Go.st (S' := s₁.setTop (mkF m 9 #[.val (.ref o0), .val (.int (2 : Int32)), .val (.int p2)] [(.int p2), (.int (2 : Int32)), (.ref o0)])) (fun t k => XS.iloadN X0.here hx rfl (hb hby dmethod_2_code_8) rfl k) ?_
    refine Go.st (S' := s₁.setTop (mkF m 10 #[.val (.ref o0), .val (.int (2 : Int32)), .val (.int p2)] [(.int (2 : Int32)), (.int p2), (.int (2 : Int32)), (.ref o0)])) (fun t k => XS.iloadN X0.here hx rfl (hb hby dmethod_2_code_9) rfl k) ?_
    refine Go.op (F := fun z => s₁.setTop (mkF m 11 #[.val (.ref o0), .val (.int (2 : Int32)), .val (.int p2)] [(.int z), (.int (2 : Int32)), (.ref o0)])) (x := ((p2.toUInt32 >>> ((2 : Int32) &&& 31).toUInt32).toInt32)) (fun t k => XS.iushr X0.here hx rfl (hb hby dmethod_2_code_10) rfl k) ?_
    intro v621 hv621
    refine Go.st (S' := s₁.setTop (mkF m 12 #[.val (.ref o0), .val (.int (2 : Int32)), .val (.int p2)] [(.int (1 : Int32)), (.int v621), (.int (2 : Int32)), (.ref o0)])) (fun t k => XS.iconst X0.here hx rfl (hb hby dmethod_2_code_11) k) ?_
    refine Go.op (F := fun z => s₁.setTop (mkF m 13 #[.val (.ref o0), .val (.int (2 : Int32)), .val (.int p2)] [(.int z), (.int (2 : Int32)), (.ref o0)])) (x := (v621 &&& (1 : Int32))) (fun t k => XS.iand X0.here hx rfl (hb hby dmethod_2_code_12) rfl k) ?_
    intro v622 hv622
    refine Go.join (α := Int32) (fun r => (((v622 = (0 : Int32)) ∧ (r = (0 : Int32))) ∨ ((¬ (v622 = (0 : Int32))) ∧ (r = (1 : Int32))))) (fun r => s₁.setTop (mkF m 21 #[.val (.ref o0), .val (.int (2 : Int32)), .val (.int p2)] [(.int r), (.int (2 : Int32)), (.ref o0)])) ?_ ?_
    · intro r625 hc626
      obtain ⟨cl627, Ar627, q627, S627, N627_, H627, G627⟩ := id V_o0
      have hin627 : ¬ ((2 : Int32) < 0 ∨ cl627.slots.size ≤ ((2 : Int32)).toNatClampNeg) := inb_of S627 ⟨by decide, hc620⟩
      obtain ⟨v628, hv628⟩ : ∃ z, z = (r625 &&& (1 : Int32)) := ⟨_, rfl⟩
      obtain ⟨T627, h627, X627, e627, W627, st627⟩ := stZ X0 hx hZ e0 Ar627 (j := (2 : Int32)) hin627 (g := (mkF m 21 #[.val (.ref o0), .val (.int (2 : Int32)), .val (.int p2)] [(.int r625), (.int (2 : Int32)), (.ref o0)])) rfl rfl (hb hby dmethod_2_code_21)
      have W627 : Wr h0 h627 o0 ((2 : Int32)).toNatClampNeg (.int v628) := by rw [hv628]; exact W627
      have V627 : Arv Z h627 o0 k_o0 .boolean z_o0 [(.int e0_o0), (.int e1_o0), (.int v628), (.int e3_o0), (.int e4_o0), (.int e5_o0), (.int e6_o0), (.int e7_o0)] (.int (0 : Int32)) := Arv.set Ar627 q627 S627 N627_ H627 G627 (by rw [hv628]; exact fits_nar_bool _) W627 2 rfl (Nat.le_of_ble_eq_true rfl)
      have N627 := Fr.snoc X627 N0 g_o0
      have Z629 : n0 ≤ h627.size := Nat.le_trans Z0 (Keep.of_wr W627).1
      have K629 : Keep h0 h627 [o0] := (Keep.refl h0 [o0]).wr W627 (Or.inl (by simp))
      refine Go.st (S' := T627.setTop (mkF m 22 #[.val (.ref o0), .val (.int (2 : Int32)), .val (.int p2)] [])) st627 ?_
      have f630 := ((E_o0).wr W627)
      exact Go.ret X627 (v := none) (fun _ => rfl) Bd.notSynchronized (fun fs hr => X627.returnOut hx Bd.returns (hb hby dmethod_2_code_22) hr) (by decide) (by decide) (by rw [e627]; exact ⟨r625, v628, v621, v622, v628, hv621, hv622, hv628, (Or.inl ⟨hc620, hc626, rfl⟩), rfl, N627, K629, V627, f630⟩)
    · intro J631
      by_cases hc632 : (v622 = (0 : Int32))
      · refine Go.st (S' := s₁.setTop (mkF m 20 #[.val (.ref o0), .val (.int (2 : Int32)), .val (.int p2)] [(.int (2 : Int32)), (.ref o0)])) (fun t k => XS.ifYes X0.here hx rfl (pc0 := 13) (pc' := 20) rfl (hb hby dmethod_2_code_13) rfl ((if0 _ _).trans (teq hc632).1) (by decide) (by decide) k) ?_
        refine Go.st (S' := s₁.setTop (mkF m 21 #[.val (.ref o0), .val (.int (2 : Int32)), .val (.int p2)] [(.int (0 : Int32)), (.int (2 : Int32)), (.ref o0)])) (fun t k => XS.iconst X0.here hx rfl (hb hby dmethod_2_code_20) k) ?_
        exact J631 ((0 : Int32)) (Or.inl ⟨hc632, rfl⟩)
      · refine Go.st (S' := s₁.setTop (mkF m 16 #[.val (.ref o0), .val (.int (2 : Int32)), .val (.int p2)] [(.int (2 : Int32)), (.ref o0)])) (fun t k => XS.ifNo X0.here hx rfl (hb hby dmethod_2_code_13) rfl ((if0 _ _).trans (feq hc632).1) k) ?_
        refine Go.st (S' := s₁.setTop (mkF m 17 #[.val (.ref o0), .val (.int (2 : Int32)), .val (.int p2)] [(.int (1 : Int32)), (.int (2 : Int32)), (.ref o0)])) (fun t k => XS.iconst X0.here hx rfl (hb hby dmethod_2_code_16) k) ?_
        refine Go.st (S' := s₁.setTop (mkF m 21 #[.val (.ref o0), .val (.int (2 : Int32)), .val (.int p2)] [(.int (1 : Int32)), (.int (2 : Int32)), (.ref o0)])) (fun t k => XS.goto X0.here hx rfl (pc0 := 17) (pc' := 21) rfl (hb hby dmethod_2_code_17) (by decide) (by decide) k) ?_
        exact J631 ((1 : Int32)) (Or.inr ⟨hc632, rfl⟩)
  · refine Go.st (S' := s₁.setTop (mkF m 22 #[.val (.ref o0), .val (.int (2 : Int32)), .val (.int p2)] [])) (fun t k => XS.icmpYes X0.here hx rfl (pc0 := 3) (pc' := 22) rfl (hb hby dmethod_2_code_3) rfl (flt hc620).2.1 (by decide) (by decide) k) ?_
    exact Go.ret X0 (v := none) (fun _ => rfl) Bd.notSynchronized (fun fs hr => X0.returnOut hx Bd.returns (hb hby dmethod_2_code_22) hr) (by decide) (by decide) (by rw [e0]; exact ⟨(0 : Int32), e2_o0, _, _, _, rfl, rfl, rfl, (Or.inr ⟨hc620, rfl⟩), rfl, N0, (Keep.refl h0 [o0]), V_o0, E_o0⟩)
theorem ef_38 (m : MethodId) (o0 : Addr) (p2 : Int32) : entryFrame m #[(.ref o0), (.int (3 : Int32)), (.int p2)] 3 = mkF m 0 #[.val (.ref o0), .val (.int (3 : Int32)), .val (.int p2)] [] := by first | (simp [entryFrame, mkF, argsToLocals, Value.category, maxLocals]; done) | rfl
def Q38 (Z : State) (o0 : Addr) (p2 : Int32) (k_o0 : ClassId) (z_o0 : Int32) (e0_o0 : Int32) (e1_o0 : Int32) (e2_o0 : Int32) (e3_o0 : Int32) (e4_o0 : Int32) (e5_o0 : Int32) (e6_o0 : Int32) (e7_o0 : Int32) (h0 : Heap) (n0 : Nat) (v : Option Value) (h : Heap) (L : List Loc) : Prop := (∃ (r650 : Int32) (fv38_0_3 : Int32) (v646 : Int32) (v647 : Int32) (v653 : Int32), v646 = ((p2.toUInt32 >>> ((3 : Int32) &&& 31).toUInt32).toInt32) ∧ v647 = (v646 &&& (1 : Int32)) ∧ v653 = (r650 &&& (1 : Int32)) ∧ ((((3 : Int32) < z_o0) ∧ (((v647 = (0 : Int32)) ∧ (r650 = (0 : Int32))) ∨ ((¬ (v647 = (0 : Int32))) ∧ (r650 = (1 : Int32)))) ∧ (fv38_0_3 = v653)) ∨ ((¬ ((3 : Int32) < z_o0)) ∧ (fv38_0_3 = e3_o0))) ∧ v = none ∧ Fr n0 L ∧ Keep h0 h [o0] ∧ Arv Z h o0 k_o0 .boolean z_o0 [(.int e0_o0), (.int e1_o0), (.int e2_o0), (.int fv38_0_3), (.int e4_o0), (.int e5_o0), (.int e6_o0), (.int e7_o0)] (.int (0 : Int32)) ∧ Exa Z h o0 "[Z")
set_option maxRecDepth 65536 in
set_option maxHeartbeats 40000000 in
theorem rm38 (l : Launch) (Z : State) (a0 : Array Value) (hw : ∀ d ∈ tables_1, d.before a0 Z = true) (ws : List Jvm.Cond) (o0 : Addr) (p2 : Int32) (k_o0 : ClassId) (z_o0 : Int32) (e0_o0 : Int32) (e1_o0 : Int32) (e2_o0 : Int32) (e3_o0 : Int32) (e4_o0 : Int32) (e5_o0 : Int32) (e6_o0 : Int32) (e7_o0 : Int32) (h0 : Heap) (n0 : Nat) (Z0 : n0 ≤ h0.size) (hra_z_o0 : (¬ (z_o0 < (1 : Int32)))) (hrb_z_o0 : (¬ ((8 : Int32) < z_o0))) (V_o0 : Arv Z h0 o0 k_o0 .boolean z_o0 [(.int e0_o0), (.int e1_o0), (.int e2_o0), (.int e3_o0), (.int e4_o0), (.int e5_o0), (.int e6_o0), (.int e7_o0)] (.int (0 : Int32))) (g_o0 : n0 ≤ o0) (E_o0 : Exa Z h0 o0 "[Z") :
    Con l Z (⟨"com/example/tuneless/tuneless/problem/OneMaxEvaluatePinLaw", "put", "([ZII)V"⟩ : MethodName) method_2_code 3 none ws ({ frames := 0, cells := 0, slots := 0, locals := 0 } : Room) #[(.ref o0), (.int (3 : Int32)), (.int p2)] h0 0 0 (Q38 Z o0 p2 k_o0 z_o0 e0_o0 e1_o0 e2_o0 e3_o0 e4_o0 e5_o0 e6_o0 e7_o0 h0 n0) := by
  refine MetFree.of_bodySF (plainFor_of_name pn_9) hisR ?_
  intro p e s m args below meth c s₁ Bd hml0 hP hK
  obtain ⟨rfl, hZ, hh⟩ := hP
  have hx := Bd.exec
  have hby := Bd.bytes
  have hml : c.maxLocals = 3 := hml0
  have hown : s.vm.findClass "com/example/tuneless/tuneless/problem/OneMaxEvaluatePinLaw" = some m.cls := findClass_of_methodNamed Bd.named
  have hnm := (name_of_methodNamed Bd.named Bd.method).1
  have X0 : Stand p l e ({ frames := 0, cells := 0, slots := 0, locals := 0 } : Room) s m #[(.ref o0), (.int (3 : Int32)), (.int p2)] below meth c s₁ [] 0 0 := Stand.of_body Bd
  have e0 : s₁.heap = h0 := by rw [← hh, Bd.state]; rfl
  have N0 := Fr.nil n0
  refine Go.of ?_
  refine Go.st (S' := s₁.setTop (mkF m 0 #[.val (.ref o0), .val (.int (3 : Int32)), .val (.int p2)] [])) (fun t k => castTop (ef_38 m o0 p2) k) ?_
  refine Go.st (S' := s₁.setTop (mkF m 1 #[.val (.ref o0), .val (.int (3 : Int32)), .val (.int p2)] [(.int (3 : Int32))])) (fun t k => XS.iloadN X0.here hx rfl (hb hby dmethod_2_code_0) rfl k) ?_
  refine Go.st (S' := s₁.setTop (mkF m 2 #[.val (.ref o0), .val (.int (3 : Int32)), .val (.int p2)] [(.ref o0), (.int (3 : Int32))])) (fun t k => XS.aloadN X0.here hx rfl (hb hby dmethod_2_code_1) rfl rfl k) ?_
  obtain ⟨cl643, Ar643, -, S643, N643_, -, -⟩ := id V_o0
  refine Go.op (F := fun z => s₁.setTop (mkF m 3 #[.val (.ref o0), .val (.int (3 : Int32)), .val (.int p2)] [(.int z), (.int (3 : Int32))])) (x := cl643.slots.size.toInt32) (fun t k => X0.arraylength hx (own_eh e0 Ar643.1) (State.isArrayOf_alike hZ.alike Ar643.2.1) (g := (mkF m 2 #[.val (.ref o0), .val (.int (3 : Int32)), .val (.int p2)] [(.ref o0), (.int (3 : Int32))])) rfl rfl (hb hby dmethod_2_code_2) t k) ?_
  intro v644 hv644
  obtain rfl : z_o0 = v644 := (hv644.trans (len_of S643 N643_)).symm
  by_cases hc645 : ((3 : Int32) < z_o0)
  · refine Go.st (S' := s₁.setTop (mkF m 6 #[.val (.ref o0), .val (.int (3 : Int32)), .val (.int p2)] [])) (fun t k => XS.icmpNo X0.here hx rfl (hb hby dmethod_2_code_3) rfl (tlt hc645).2.1 k) ?_
    refine Go.st (S' := s₁.setTop (mkF m 7 #[.val (.ref o0), .val (.int (3 : Int32)), .val (.int p2)] [(.ref o0)])) (fun t k => XS.aloadN X0.here hx rfl (hb hby dmethod_2_code_6) rfl rfl k) ?_
    refine Go.st (S' := s₁.setTop (mkF m 8 #[.val (.ref o0), .val (.int (3 : Int32)), .val (.int p2)] [(.int (3 : Int32)), (.ref o0)])) (fun t k => XS.iloadN X0.here hx rfl (hb hby dmethod_2_code_7) rfl k) ?_
    refine Go.st (S' := s₁.setTop (mkF m 9 #[.val (.ref o0), .val (.int (3 : Int32)), .val (.int p2)] [(.int p2), (.int (3 : Int32)), (.ref o0)])) (fun t k => XS.iloadN X0.here hx rfl (hb hby dmethod_2_code_8) rfl k) ?_
    refine Go.st (S' := s₁.setTop (mkF m 10 #[.val (.ref o0), .val (.int (3 : Int32)), .val (.int p2)] [(.int (3 : Int32)), (.int p2), (.int (3 : Int32)), (.ref o0)])) (fun t k => XS.iloadN X0.here hx rfl (hb hby dmethod_2_code_9) rfl k) ?_
    refine Go.op (F := fun z => s₁.setTop (mkF m 11 #[.val (.ref o0), .val (.int (3 : Int32)), .val (.int p2)] [(.int z), (.int (3 : Int32)), (.ref o0)])) (x := ((p2.toUInt32 >>> ((3 : Int32) &&& 31).toUInt32).toInt32)) (fun t k => XS.iushr X0.here hx rfl (hb hby dmethod_2_code_10) rfl k) ?_
    intro v646 hv646
    refine Go.st (S' := s₁.setTop (mkF m 12 #[.val (.ref o0), .val (.int (3 : Int32)), .val (.int p2)] [(.int (1 : Int32)), (.int v646), (.int (3 : Int32)), (.ref o0)])) (fun t k => XS.iconst X0.here hx rfl (hb hby dmethod_2_code_11) k) ?_
    refine Go.op (F := fun z => s₁.setTop (mkF m 13 #[.val (.ref o0), .val (.int (3 : Int32)), .val (.int p2)] [(.int z), (.int (3 : Int32)), (.ref o0)])) (x := (v646 &&& (1 : Int32))) (fun t k => XS.iand X0.here hx rfl (hb hby dmethod_2_code_12) rfl k) ?_
    intro v647 hv647
    refine Go.join (α := Int32) (fun r => (((v647 = (0 : Int32)) ∧ (r = (0 : Int32))) ∨ ((¬ (v647 = (0 : Int32))) ∧ (r = (1 : Int32))))) (fun r => s₁.setTop (mkF m 21 #[.val (.ref o0), .val (.int (3 : Int32)), .val (.int p2)] [(.int r), (.int (3 : Int32)), (.ref o0)])) ?_ ?_
    · intro r650 hc651
      obtain ⟨cl652, Ar652, q652, S652, N652_, H652, G652⟩ := id V_o0
      have hin652 : ¬ ((3 : Int32) < 0 ∨ cl652.slots.size ≤ ((3 : Int32)).toNatClampNeg) := inb_of S652 ⟨by decide, hc645⟩
      obtain ⟨v653, hv653⟩ : ∃ z, z = (r650 &&& (1 : Int32)) := ⟨_, rfl⟩
      obtain ⟨T652, h652, X652, e652, W652, st652⟩ := stZ X0 hx hZ e0 Ar652 (j := (3 : Int32)) hin652 (g := (mkF m 21 #[.val (.ref o0), .val (.int (3 : Int32)), .val (.int p2)] [(.int r650), (.int (3 : Int32)), (.ref o0)])) rfl rfl (hb hby dmethod_2_code_21)
      have W652 : Wr h0 h652 o0 ((3 : Int32)).toNatClampNeg (.int v653) := by rw [hv653]; exact W652
      have V652 : Arv Z h652 o0 k_o0 .boolean z_o0 [(.int e0_o0), (.int e1_o0), (.int e2_o0), (.int v653), (.int e4_o0), (.int e5_o0), (.int e6_o0), (.int e7_o0)] (.int (0 : Int32)) := Arv.set Ar652 q652 S652 N652_ H652 G652 (by rw [hv653]; exact fits_nar_bool _) W652 3 rfl (Nat.le_of_ble_eq_true rfl)
      have N652 := Fr.snoc X652 N0 g_o0
      have Z654 : n0 ≤ h652.size := Nat.le_trans Z0 (Keep.of_wr W652).1
      have K654 : Keep h0 h652 [o0] := (Keep.refl h0 [o0]).wr W652 (Or.inl (by simp))
      refine Go.st (S' := T652.setTop (mkF m 22 #[.val (.ref o0), .val (.int (3 : Int32)), .val (.int p2)] [])) st652 ?_
      have f655 := ((E_o0).wr W652)
      exact Go.ret X652 (v := none) (fun _ => rfl) Bd.notSynchronized (fun fs hr => X652.returnOut hx Bd.returns (hb hby dmethod_2_code_22) hr) (by decide) (by decide) (by rw [e652]; exact ⟨r650, v653, v646, v647, v653, hv646, hv647, hv653, (Or.inl ⟨hc645, hc651, rfl⟩), rfl, N652, K654, V652, f655⟩)
    · intro J656
      by_cases hc657 : (v647 = (0 : Int32))
      · refine Go.st (S' := s₁.setTop (mkF m 20 #[.val (.ref o0), .val (.int (3 : Int32)), .val (.int p2)] [(.int (3 : Int32)), (.ref o0)])) (fun t k => XS.ifYes X0.here hx rfl (pc0 := 13) (pc' := 20) rfl (hb hby dmethod_2_code_13) rfl ((if0 _ _).trans (teq hc657).1) (by decide) (by decide) k) ?_
        refine Go.st (S' := s₁.setTop (mkF m 21 #[.val (.ref o0), .val (.int (3 : Int32)), .val (.int p2)] [(.int (0 : Int32)), (.int (3 : Int32)), (.ref o0)])) (fun t k => XS.iconst X0.here hx rfl (hb hby dmethod_2_code_20) k) ?_
        exact J656 ((0 : Int32)) (Or.inl ⟨hc657, rfl⟩)
      · refine Go.st (S' := s₁.setTop (mkF m 16 #[.val (.ref o0), .val (.int (3 : Int32)), .val (.int p2)] [(.int (3 : Int32)), (.ref o0)])) (fun t k => XS.ifNo X0.here hx rfl (hb hby dmethod_2_code_13) rfl ((if0 _ _).trans (feq hc657).1) k) ?_
        refine Go.st (S' := s₁.setTop (mkF m 17 #[.val (.ref o0), .val (.int (3 : Int32)), .val (.int p2)] [(.int (1 : Int32)), (.int (3 : Int32)), (.ref o0)])) (fun t k => XS.iconst X0.here hx rfl (hb hby dmethod_2_code_16) k) ?_
        refine Go.st (S' := s₁.setTop (mkF m 21 #[.val (.ref o0), .val (.int (3 : Int32)), .val (.int p2)] [(.int (1 : Int32)), (.int (3 : Int32)), (.ref o0)])) (fun t k => XS.goto X0.here hx rfl (pc0 := 17) (pc' := 21) rfl (hb hby dmethod_2_code_17) (by decide) (by decide) k) ?_
        exact J656 ((1 : Int32)) (Or.inr ⟨hc657, rfl⟩)
  · refine Go.st (S' := s₁.setTop (mkF m 22 #[.val (.ref o0), .val (.int (3 : Int32)), .val (.int p2)] [])) (fun t k => XS.icmpYes X0.here hx rfl (pc0 := 3) (pc' := 22) rfl (hb hby dmethod_2_code_3) rfl (flt hc645).2.1 (by decide) (by decide) k) ?_
    exact Go.ret X0 (v := none) (fun _ => rfl) Bd.notSynchronized (fun fs hr => X0.returnOut hx Bd.returns (hb hby dmethod_2_code_22) hr) (by decide) (by decide) (by rw [e0]; exact ⟨(0 : Int32), e3_o0, _, _, _, rfl, rfl, rfl, (Or.inr ⟨hc645, rfl⟩), rfl, N0, (Keep.refl h0 [o0]), V_o0, E_o0⟩)
theorem ef_39 (m : MethodId) (o0 : Addr) (p2 : Int32) : entryFrame m #[(.ref o0), (.int (4 : Int32)), (.int p2)] 3 = mkF m 0 #[.val (.ref o0), .val (.int (4 : Int32)), .val (.int p2)] [] := by first | (simp [entryFrame, mkF, argsToLocals, Value.category, maxLocals]; done) | rfl
def Q39 (Z : State) (o0 : Addr) (p2 : Int32) (k_o0 : ClassId) (z_o0 : Int32) (e0_o0 : Int32) (e1_o0 : Int32) (e2_o0 : Int32) (e3_o0 : Int32) (e4_o0 : Int32) (e5_o0 : Int32) (e6_o0 : Int32) (e7_o0 : Int32) (h0 : Heap) (n0 : Nat) (v : Option Value) (h : Heap) (L : List Loc) : Prop := (∃ (r675 : Int32) (fv39_0_4 : Int32) (v671 : Int32) (v672 : Int32) (v678 : Int32), v671 = ((p2.toUInt32 >>> ((4 : Int32) &&& 31).toUInt32).toInt32) ∧ v672 = (v671 &&& (1 : Int32)) ∧ v678 = (r675 &&& (1 : Int32)) ∧ ((((4 : Int32) < z_o0) ∧ (((v672 = (0 : Int32)) ∧ (r675 = (0 : Int32))) ∨ ((¬ (v672 = (0 : Int32))) ∧ (r675 = (1 : Int32)))) ∧ (fv39_0_4 = v678)) ∨ ((¬ ((4 : Int32) < z_o0)) ∧ (fv39_0_4 = e4_o0))) ∧ v = none ∧ Fr n0 L ∧ Keep h0 h [o0] ∧ Arv Z h o0 k_o0 .boolean z_o0 [(.int e0_o0), (.int e1_o0), (.int e2_o0), (.int e3_o0), (.int fv39_0_4), (.int e5_o0), (.int e6_o0), (.int e7_o0)] (.int (0 : Int32)) ∧ Exa Z h o0 "[Z")
set_option maxRecDepth 65536 in
set_option maxHeartbeats 40000000 in
theorem rm39 (l : Launch) (Z : State) (a0 : Array Value) (hw : ∀ d ∈ tables_1, d.before a0 Z = true) (ws : List Jvm.Cond) (o0 : Addr) (p2 : Int32) (k_o0 : ClassId) (z_o0 : Int32) (e0_o0 : Int32) (e1_o0 : Int32) (e2_o0 : Int32) (e3_o0 : Int32) (e4_o0 : Int32) (e5_o0 : Int32) (e6_o0 : Int32) (e7_o0 : Int32) (h0 : Heap) (n0 : Nat) (Z0 : n0 ≤ h0.size) (hra_z_o0 : (¬ (z_o0 < (1 : Int32)))) (hrb_z_o0 : (¬ ((8 : Int32) < z_o0))) (V_o0 : Arv Z h0 o0 k_o0 .boolean z_o0 [(.int e0_o0), (.int e1_o0), (.int e2_o0), (.int e3_o0), (.int e4_o0), (.int e5_o0), (.int e6_o0), (.int e7_o0)] (.int (0 : Int32))) (g_o0 : n0 ≤ o0) (E_o0 : Exa Z h0 o0 "[Z") :
    Con l Z (⟨"com/example/tuneless/tuneless/problem/OneMaxEvaluatePinLaw", "put", "([ZII)V"⟩ : MethodName) method_2_code 3 none ws ({ frames := 0, cells := 0, slots := 0, locals := 0 } : Room) #[(.ref o0), (.int (4 : Int32)), (.int p2)] h0 0 0 (Q39 Z o0 p2 k_o0 z_o0 e0_o0 e1_o0 e2_o0 e3_o0 e4_o0 e5_o0 e6_o0 e7_o0 h0 n0) := by
  refine MetFree.of_bodySF (plainFor_of_name pn_9) hisR ?_
  intro p e s m args below meth c s₁ Bd hml0 hP hK
  obtain ⟨rfl, hZ, hh⟩ := hP
  have hx := Bd.exec
  have hby := Bd.bytes
  have hml : c.maxLocals = 3 := hml0
  have hown : s.vm.findClass "com/example/tuneless/tuneless/problem/OneMaxEvaluatePinLaw" = some m.cls := findClass_of_methodNamed Bd.named
  have hnm := (name_of_methodNamed Bd.named Bd.method).1
  have X0 : Stand p l e ({ frames := 0, cells := 0, slots := 0, locals := 0 } : Room) s m #[(.ref o0), (.int (4 : Int32)), (.int p2)] below meth c s₁ [] 0 0 := Stand.of_body Bd
  have e0 : s₁.heap = h0 := by rw [← hh, Bd.state]; rfl
  have N0 := Fr.nil n0
  refine Go.of ?_
  refine Go.st (S' := s₁.setTop (mkF m 0 #[.val (.ref o0), .val (.int (4 : Int32)), .val (.int p2)] [])) (fun t k => castTop (ef_39 m o0 p2) k) ?_
  refine Go.st (S' := s₁.setTop (mkF m 1 #[.val (.ref o0), .val (.int (4 : Int32)), .val (.int p2)] [(.int (4 : Int32))])) (fun t k => XS.iloadN X0.here hx rfl (hb hby dmethod_2_code_0) rfl k) ?_
  refine Go.st (S' := s₁.setTop (mkF m 2 #[.val (.ref o0), .val (.int (4 : Int32)), .val (.int p2)] [(.ref o0), (.int (4 : Int32))])) (fun t k => XS.aloadN X0.here hx rfl (hb hby dmethod_2_code_1) rfl rfl k) ?_
  obtain ⟨cl668, Ar668, -, S668, N668_, -, -⟩ := id V_o0
  refine Go.op (F := fun z => s₁.setTop (mkF m 3 #[.val (.ref o0), .val (.int (4 : Int32)), .val (.int p2)] [(.int z), (.int (4 : Int32))])) (x := cl668.slots.size.toInt32) (fun t k => X0.arraylength hx (own_eh e0 Ar668.1) (State.isArrayOf_alike hZ.alike Ar668.2.1) (g := (mkF m 2 #[.val (.ref o0), .val (.int (4 : Int32)), .val (.int p2)] [(.ref o0), (.int (4 : Int32))])) rfl rfl (hb hby dmethod_2_code_2) t k) ?_
  intro v669 hv669
  obtain rfl : z_o0 = v669 := (hv669.trans (len_of S668 N668_)).symm
  by_cases hc670 : ((4 : Int32) < z_o0)
  · refine Go.st (S' := s₁.setTop (mkF m 6 #[.val (.ref o0), .val (.int (4 : Int32)), .val (.int p2)] [])) (fun t k => XS.icmpNo X0.here hx rfl (hb hby dmethod_2_code_3) rfl (tlt hc670).2.1 k) ?_
    refine Go.st (S' := s₁.setTop (mkF m 7 #[.val (.ref o0), .val (.int (4 : Int32)), .val (.int p2)] [(.ref o0)])) (fun t k => XS.aloadN X0.here hx rfl (hb hby dmethod_2_code_6) rfl rfl k) ?_
    refine Go.st (S' := s₁.setTop (mkF m 8 #[.val (.ref o0), .val (.int (4 : Int32)), .val (.int p2)] [(.int (4 : Int32)), (.ref o0)])) (fun t k => XS.iloadN X0.here hx rfl (hb hby dmethod_2_code_7) rfl k) ?_
    refine Go.st (S' := s₁.setTop (mkF m 9 #[.val (.ref o0), .val (.int (4 : Int32)), .val (.int p2)] [(.int p2), (.int (4 : Int32)), (.ref o0)])) (fun t k => XS.iloadN X0.here hx rfl (hb hby dmethod_2_code_8) rfl k) ?_
    refine Go.st (S' := s₁.setTop (mkF m 10 #[.val (.ref o0), .val (.int (4 : Int32)), .val (.int p2)] [(.int (4 : Int32)), (.int p2), (.int (4 : Int32)), (.ref o0)])) (fun t k => XS.iloadN X0.here hx rfl (hb hby dmethod_2_code_9) rfl k) ?_
    refine Go.op (F := fun z => s₁.setTop (mkF m 11 #[.val (.ref o0), .val (.int (4 : Int32)), .val (.int p2)] [(.int z), (.int (4 : Int32)), (.ref o0)])) (x := ((p2.toUInt32 >>> ((4 : Int32) &&& 31).toUInt32).toInt32)) (fun t k => XS.iushr X0.here hx rfl (hb hby dmethod_2_code_10) rfl k) ?_
    intro v671 hv671
    refine Go.st (S' := s₁.setTop (mkF m 12 #[.val (.ref o0), .val (.int (4 : Int32)), .val (.int p2)] [(.int (1 : Int32)), (.int v671), (.int (4 : Int32)), (.ref o0)])) (fun t k => XS.iconst X0.here hx rfl (hb hby dmethod_2_code_11) k) ?_
    refine Go.op (F := fun z => s₁.setTop (mkF m 13 #[.val (.ref o0), .val (.int (4 : Int32)), .val (.int p2)] [(.int z), (.int (4 : Int32)), (.ref o0)])) (x := (v671 &&& (1 : Int32))) (fun t k => XS.iand X0.here hx rfl (hb hby dmethod_2_code_12) rfl k) ?_
    intro v672 hv672
    refine Go.join (α := Int32) (fun r => (((v672 = (0 : Int32)) ∧ (r = (0 : Int32))) ∨ ((¬ (v672 = (0 : Int32))) ∧ (r = (1 : Int32))))) (fun r => s₁.setTop (mkF m 21 #[.val (.ref o0), .val (.int (4 : Int32)), .val (.int p2)] [(.int r), (.int (4 : Int32)), (.ref o0)])) ?_ ?_
    · intro r675 hc676
      obtain ⟨cl677, Ar677, q677, S677, N677_, H677, G677⟩ := id V_o0
      have hin677 : ¬ ((4 : Int32) < 0 ∨ cl677.slots.size ≤ ((4 : Int32)).toNatClampNeg) := inb_of S677 ⟨by decide, hc670⟩
      obtain ⟨v678, hv678⟩ : ∃ z, z = (r675 &&& (1 : Int32)) := ⟨_, rfl⟩
      obtain ⟨T677, h677, X677, e677, W677, st677⟩ := stZ X0 hx hZ e0 Ar677 (j := (4 : Int32)) hin677 (g := (mkF m 21 #[.val (.ref o0), .val (.int (4 : Int32)), .val (.int p2)] [(.int r675), (.int (4 : Int32)), (.ref o0)])) rfl rfl (hb hby dmethod_2_code_21)
      have W677 : Wr h0 h677 o0 ((4 : Int32)).toNatClampNeg (.int v678) := by rw [hv678]; exact W677
      have V677 : Arv Z h677 o0 k_o0 .boolean z_o0 [(.int e0_o0), (.int e1_o0), (.int e2_o0), (.int e3_o0), (.int v678), (.int e5_o0), (.int e6_o0), (.int e7_o0)] (.int (0 : Int32)) := Arv.set Ar677 q677 S677 N677_ H677 G677 (by rw [hv678]; exact fits_nar_bool _) W677 4 rfl (Nat.le_of_ble_eq_true rfl)
      have N677 := Fr.snoc X677 N0 g_o0
      have Z679 : n0 ≤ h677.size := Nat.le_trans Z0 (Keep.of_wr W677).1
      have K679 : Keep h0 h677 [o0] := (Keep.refl h0 [o0]).wr W677 (Or.inl (by simp))
      refine Go.st (S' := T677.setTop (mkF m 22 #[.val (.ref o0), .val (.int (4 : Int32)), .val (.int p2)] [])) st677 ?_
      have f680 := ((E_o0).wr W677)
      exact Go.ret X677 (v := none) (fun _ => rfl) Bd.notSynchronized (fun fs hr => X677.returnOut hx Bd.returns (hb hby dmethod_2_code_22) hr) (by decide) (by decide) (by rw [e677]; exact ⟨r675, v678, v671, v672, v678, hv671, hv672, hv678, (Or.inl ⟨hc670, hc676, rfl⟩), rfl, N677, K679, V677, f680⟩)
    · intro J681
      by_cases hc682 : (v672 = (0 : Int32))
      · refine Go.st (S' := s₁.setTop (mkF m 20 #[.val (.ref o0), .val (.int (4 : Int32)), .val (.int p2)] [(.int (4 : Int32)), (.ref o0)])) (fun t k => XS.ifYes X0.here hx rfl (pc0 := 13) (pc' := 20) rfl (hb hby dmethod_2_code_13) rfl ((if0 _ _).trans (teq hc682).1) (by decide) (by decide) k) ?_
        refine Go.st (S' := s₁.setTop (mkF m 21 #[.val (.ref o0), .val (.int (4 : Int32)), .val (.int p2)] [(.int (0 : Int32)), (.int (4 : Int32)), (.ref o0)])) (fun t k => XS.iconst X0.here hx rfl (hb hby dmethod_2_code_20) k) ?_
        exact J681 ((0 : Int32)) (Or.inl ⟨hc682, rfl⟩)
      · refine Go.st (S' := s₁.setTop (mkF m 16 #[.val (.ref o0), .val (.int (4 : Int32)), .val (.int p2)] [(.int (4 : Int32)), (.ref o0)])) (fun t k => XS.ifNo X0.here hx rfl (hb hby dmethod_2_code_13) rfl ((if0 _ _).trans (feq hc682).1) k) ?_
        refine Go.st (S' := s₁.setTop (mkF m 17 #[.val (.ref o0), .val (.int (4 : Int32)), .val (.int p2)] [(.int (1 : Int32)), (.int (4 : Int32)), (.ref o0)])) (fun t k => XS.iconst X0.here hx rfl (hb hby dmethod_2_code_16) k) ?_
        refine Go.st (S' := s₁.setTop (mkF m 21 #[.val (.ref o0), .val (.int (4 : Int32)), .val (.int p2)] [(.int (1 : Int32)), (.int (4 : Int32)), (.ref o0)])) (fun t k => XS.goto X0.here hx rfl (pc0 := 17) (pc' := 21) rfl (hb hby dmethod_2_code_17) (by decide) (by decide) k) ?_
        exact J681 ((1 : Int32)) (Or.inr ⟨hc682, rfl⟩)
  · refine Go.st (S' := s₁.setTop (mkF m 22 #[.val (.ref o0), .val (.int (4 : Int32)), .val (.int p2)] [])) (fun t k => XS.icmpYes X0.here hx rfl (pc0 := 3) (pc' := 22) rfl (hb hby dmethod_2_code_3) rfl (flt hc670).2.1 (by decide) (by decide) k) ?_
    exact Go.ret X0 (v := none) (fun _ => rfl) Bd.notSynchronized (fun fs hr => X0.returnOut hx Bd.returns (hb hby dmethod_2_code_22) hr) (by decide) (by decide) (by rw [e0]; exact ⟨(0 : Int32), e4_o0, _, _, _, rfl, rfl, rfl, (Or.inr ⟨hc670, rfl⟩), rfl, N0, (Keep.refl h0 [o0]), V_o0, E_o0⟩)
theorem ef_40 (m : MethodId) (o0 : Addr) (p2 : Int32) : entryFrame m #[(.ref o0), (.int (5 : Int32)), (.int p2)] 3 = mkF m 0 #[.val (.ref o0), .val (.int (5 : Int32)), .val (.int p2)] [] := by first | (simp [entryFrame, mkF, argsToLocals, Value.category, maxLocals]; done) | rfl
def Q40 (Z : State) (o0 : Addr) (p2 : Int32) (k_o0 : ClassId) (z_o0 : Int32) (e0_o0 : Int32) (e1_o0 : Int32) (e2_o0 : Int32) (e3_o0 : Int32) (e4_o0 : Int32) (e5_o0 : Int32) (e6_o0 : Int32) (e7_o0 : Int32) (h0 : Heap) (n0 : Nat) (v : Option Value) (h : Heap) (L : List Loc) : Prop := (∃ (r700 : Int32) (fv40_0_5 : Int32) (v696 : Int32) (v697 : Int32) (v703 : Int32), v696 = ((p2.toUInt32 >>> ((5 : Int32) &&& 31).toUInt32).toInt32) ∧ v697 = (v696 &&& (1 : Int32)) ∧ v703 = (r700 &&& (1 : Int32)) ∧ ((((5 : Int32) < z_o0) ∧ (((v697 = (0 : Int32)) ∧ (r700 = (0 : Int32))) ∨ ((¬ (v697 = (0 : Int32))) ∧ (r700 = (1 : Int32)))) ∧ (fv40_0_5 = v703)) ∨ ((¬ ((5 : Int32) < z_o0)) ∧ (fv40_0_5 = e5_o0))) ∧ v = none ∧ Fr n0 L ∧ Keep h0 h [o0] ∧ Arv Z h o0 k_o0 .boolean z_o0 [(.int e0_o0), (.int e1_o0), (.int e2_o0), (.int e3_o0), (.int e4_o0), (.int fv40_0_5), (.int e6_o0), (.int e7_o0)] (.int (0 : Int32)) ∧ Exa Z h o0 "[Z")
set_option maxRecDepth 65536 in
set_option maxHeartbeats 40000000 in
theorem rm40 (l : Launch) (Z : State) (a0 : Array Value) (hw : ∀ d ∈ tables_1, d.before a0 Z = true) (ws : List Jvm.Cond) (o0 : Addr) (p2 : Int32) (k_o0 : ClassId) (z_o0 : Int32) (e0_o0 : Int32) (e1_o0 : Int32) (e2_o0 : Int32) (e3_o0 : Int32) (e4_o0 : Int32) (e5_o0 : Int32) (e6_o0 : Int32) (e7_o0 : Int32) (h0 : Heap) (n0 : Nat) (Z0 : n0 ≤ h0.size) (hra_z_o0 : (¬ (z_o0 < (1 : Int32)))) (hrb_z_o0 : (¬ ((8 : Int32) < z_o0))) (V_o0 : Arv Z h0 o0 k_o0 .boolean z_o0 [(.int e0_o0), (.int e1_o0), (.int e2_o0), (.int e3_o0), (.int e4_o0), (.int e5_o0), (.int e6_o0), (.int e7_o0)] (.int (0 : Int32))) (g_o0 : n0 ≤ o0) (E_o0 : Exa Z h0 o0 "[Z") :
    Con l Z (⟨"com/example/tuneless/tuneless/problem/OneMaxEvaluatePinLaw", "put", "([ZII)V"⟩ : MethodName) method_2_code 3 none ws ({ frames := 0, cells := 0, slots := 0, locals := 0 } : Room) #[(.ref o0), (.int (5 : Int32)), (.int p2)] h0 0 0 (Q40 Z o0 p2 k_o0 z_o0 e0_o0 e1_o0 e2_o0 e3_o0 e4_o0 e5_o0 e6_o0 e7_o0 h0 n0) := by
  refine MetFree.of_bodySF (plainFor_of_name pn_9) hisR ?_
  intro p e s m args below meth c s₁ Bd hml0 hP hK
  obtain ⟨rfl, hZ, hh⟩ := hP
  have hx := Bd.exec
  have hby := Bd.bytes
  have hml : c.maxLocals = 3 := hml0
  have hown : s.vm.findClass "com/example/tuneless/tuneless/problem/OneMaxEvaluatePinLaw" = some m.cls := findClass_of_methodNamed Bd.named
  have hnm := (name_of_methodNamed Bd.named Bd.method).1
  have X0 : Stand p l e ({ frames := 0, cells := 0, slots := 0, locals := 0 } : Room) s m #[(.ref o0), (.int (5 : Int32)), (.int p2)] below meth c s₁ [] 0 0 := Stand.of_body Bd
  have e0 : s₁.heap = h0 := by rw [← hh, Bd.state]; rfl
  have N0 := Fr.nil n0
  refine Go.of ?_
  refine Go.st (S' := s₁.setTop (mkF m 0 #[.val (.ref o0), .val (.int (5 : Int32)), .val (.int p2)] [])) (fun t k => castTop (ef_40 m o0 p2) k) ?_
  refine Go.st (S' := s₁.setTop (mkF m 1 #[.val (.ref o0), .val (.int (5 : Int32)), .val (.int p2)] [(.int (5 : Int32))])) (fun t k => XS.iloadN X0.here hx rfl (hb hby dmethod_2_code_0) rfl k) ?_
  refine Go.st (S' := s₁.setTop (mkF m 2 #[.val (.ref o0), .val (.int (5 : Int32)), .val (.int p2)] [(.ref o0), (.int (5 : Int32))])) (fun t k => XS.aloadN X0.here hx rfl (hb hby dmethod_2_code_1) rfl rfl k) ?_
  obtain ⟨cl693, Ar693, -, S693, N693_, -, -⟩ := id V_o0
  refine Go.op (F := fun z => s₁.setTop (mkF m 3 #[.val (.ref o0), .val (.int (5 : Int32)), .val (.int p2)] [(.int z), (.int (5 : Int32))])) (x := cl693.slots.size.toInt32) (fun t k => X0.arraylength hx (own_eh e0 Ar693.1) (State.isArrayOf_alike hZ.alike Ar693.2.1) (g := (mkF m 2 #[.val (.ref o0), .val (.int (5 : Int32)), .val (.int p2)] [(.ref o0), (.int (5 : Int32))])) rfl rfl (hb hby dmethod_2_code_2) t k) ?_
  intro v694 hv694
  obtain rfl : z_o0 = v694 := (hv694.trans (len_of S693 N693_)).symm
  by_cases hc695 : ((5 : Int32) < z_o0)
  · refine Go.st (S' := s₁.setTop (mkF m 6 #[.val (.ref o0), .val (.int (5 : Int32)), .val (.int p2)] [])) (fun t k => XS.icmpNo X0.here hx rfl (hb hby dmethod_2_code_3) rfl (tlt hc695).2.1 k) ?_
    refine Go.st (S' := s₁.setTop (mkF m 7 #[.val (.ref o0), .val (.int (5 : Int32)), .val (.int p2)] [(.ref o0)])) (fun t k => XS.aloadN X0.here hx rfl (hb hby dmethod_2_code_6) rfl rfl k) ?_
    refine Go.st (S' := s₁.setTop (mkF m 8 #[.val (.ref o0), .val (.int (5 : Int32)), .val (.int p2)] [(.int (5 : Int32)), (.ref o0)])) (fun t k => XS.iloadN X0.here hx rfl (hb hby dmethod_2_code_7) rfl k) ?_
    refine Go.st (S' := s₁.setTop (mkF m 9 #[.val (.ref o0), .val (.int (5 : Int32)), .val (.int p2)] [(.int p2), (.int (5 : Int32)), (.ref o0)])) (fun t k => XS.iloadN X0.here hx rfl (hb hby dmethod_2_code_8) rfl k) ?_
    refine Go.st (S' := s₁.setTop (mkF m 10 #[.val (.ref o0), .val (.int (5 : Int32)), .val (.int p2)] [(.int (5 : Int32)), (.int p2), (.int (5 : Int32)), (.ref o0)])) (fun t k => XS.iloadN X0.here hx rfl (hb hby dmethod_2_code_9) rfl k) ?_
    refine Go.op (F := fun z => s₁.setTop (mkF m 11 #[.val (.ref o0), .val (.int (5 : Int32)), .val (.int p2)] [(.int z), (.int (5 : Int32)), (.ref o0)])) (x := ((p2.toUInt32 >>> ((5 : Int32) &&& 31).toUInt32).toInt32)) (fun t k => XS.iushr X0.here hx rfl (hb hby dmethod_2_code_10) rfl k) ?_
    intro v696 hv696
    refine Go.st (S' := s₁.setTop (mkF m 12 #[.val (.ref o0), .val (.int (5 : Int32)), .val (.int p2)] [(.int (1 : Int32)), (.int v696), (.int (5 : Int32)), (.ref o0)])) (fun t k => XS.iconst X0.here hx rfl (hb hby dmethod_2_code_11) k) ?_
    refine Go.op (F := fun z => s₁.setTop (mkF m 13 #[.val (.ref o0), .val (.int (5 : Int32)), .val (.int p2)] [(.int z), (.int (5 : Int32)), (.ref o0)])) (x := (v696 &&& (1 : Int32))) (fun t k => XS.iand X0.here hx rfl (hb hby dmethod_2_code_12) rfl k) ?_
    intro v697 hv697
    refine Go.join (α := Int32) (fun r => (((v697 = (0 : Int32)) ∧ (r = (0 : Int32))) ∨ ((¬ (v697 = (0 : Int32))) ∧ (r = (1 : Int32))))) (fun r => s₁.setTop (mkF m 21 #[.val (.ref o0), .val (.int (5 : Int32)), .val (.int p2)] [(.int r), (.int (5 : Int32)), (.ref o0)])) ?_ ?_
    · intro r700 hc701
      obtain ⟨cl702, Ar702, q702, S702, N702_, H702, G702⟩ := id V_o0
      have hin702 : ¬ ((5 : Int32) < 0 ∨ cl702.slots.size ≤ ((5 : Int32)).toNatClampNeg) := inb_of S702 ⟨by decide, hc695⟩
      obtain ⟨v703, hv703⟩ : ∃ z, z = (r700 &&& (1 : Int32)) := ⟨_, rfl⟩
      obtain ⟨T702, h702, X702, e702, W702, st702⟩ := stZ X0 hx hZ e0 Ar702 (j := (5 : Int32)) hin702 (g := (mkF m 21 #[.val (.ref o0), .val (.int (5 : Int32)), .val (.int p2)] [(.int r700), (.int (5 : Int32)), (.ref o0)])) rfl rfl (hb hby dmethod_2_code_21)
      have W702 : Wr h0 h702 o0 ((5 : Int32)).toNatClampNeg (.int v703) := by rw [hv703]; exact W702
      have V702 : Arv Z h702 o0 k_o0 .boolean z_o0 [(.int e0_o0), (.int e1_o0), (.int e2_o0), (.int e3_o0), (.int e4_o0), (.int v703), (.int e6_o0), (.int e7_o0)] (.int (0 : Int32)) := Arv.set Ar702 q702 S702 N702_ H702 G702 (by rw [hv703]; exact fits_nar_bool _) W702 5 rfl (Nat.le_of_ble_eq_true rfl)
      have N702 := Fr.snoc X702 N0 g_o0
      have Z704 : n0 ≤ h702.size := Nat.le_trans Z0 (Keep.of_wr W702).1
      have K704 : Keep h0 h702 [o0] := (Keep.refl h0 [o0]).wr W702 (Or.inl (by simp))
      refine Go.st (S' := T702.setTop (mkF m 22 #[.val (.ref o0), .val (.int (5 : Int32)), .val (.int p2)] [])) st702 ?_
      have f705 := ((E_o0).wr W702)
      exact Go.ret X702 (v := none) (fun _ => rfl) Bd.notSynchronized (fun fs hr => X702.returnOut hx Bd.returns (hb hby dmethod_2_code_22) hr) (by decide) (by decide) (by rw [e702]; exact ⟨r700, v703, v696, v697, v703, hv696, hv697, hv703, (Or.inl ⟨hc695, hc701, rfl⟩), rfl, N702, K704, V702, f705⟩)
    · intro J706
      by_cases hc707 : (v697 = (0 : Int32))
      · refine Go.st (S' := s₁.setTop (mkF m 20 #[.val (.ref o0), .val (.int (5 : Int32)), .val (.int p2)] [(.int (5 : Int32)), (.ref o0)])) (fun t k => XS.ifYes X0.here hx rfl (pc0 := 13) (pc' := 20) rfl (hb hby dmethod_2_code_13) rfl ((if0 _ _).trans (teq hc707).1) (by decide) (by decide) k) ?_
        refine Go.st (S' := s₁.setTop (mkF m 21 #[.val (.ref o0), .val (.int (5 : Int32)), .val (.int p2)] [(.int (0 : Int32)), (.int (5 : Int32)), (.ref o0)])) (fun t k => XS.iconst X0.here hx rfl (hb hby dmethod_2_code_20) k) ?_
        exact J706 ((0 : Int32)) (Or.inl ⟨hc707, rfl⟩)
      · refine Go.st (S' := s₁.setTop (mkF m 16 #[.val (.ref o0), .val (.int (5 : Int32)), .val (.int p2)] [(.int (5 : Int32)), (.ref o0)])) (fun t k => XS.ifNo X0.here hx rfl (hb hby dmethod_2_code_13) rfl ((if0 _ _).trans (feq hc707).1) k) ?_
        refine Go.st (S' := s₁.setTop (mkF m 17 #[.val (.ref o0), .val (.int (5 : Int32)), .val (.int p2)] [(.int (1 : Int32)), (.int (5 : Int32)), (.ref o0)])) (fun t k => XS.iconst X0.here hx rfl (hb hby dmethod_2_code_16) k) ?_
        refine Go.st (S' := s₁.setTop (mkF m 21 #[.val (.ref o0), .val (.int (5 : Int32)), .val (.int p2)] [(.int (1 : Int32)), (.int (5 : Int32)), (.ref o0)])) (fun t k => XS.goto X0.here hx rfl (pc0 := 17) (pc' := 21) rfl (hb hby dmethod_2_code_17) (by decide) (by decide) k) ?_
        exact J706 ((1 : Int32)) (Or.inr ⟨hc707, rfl⟩)
  · refine Go.st (S' := s₁.setTop (mkF m 22 #[.val (.ref o0), .val (.int (5 : Int32)), .val (.int p2)] [])) (fun t k => XS.icmpYes X0.here hx rfl (pc0 := 3) (pc' := 22) rfl (hb hby dmethod_2_code_3) rfl (flt hc695).2.1 (by decide) (by decide) k) ?_
    exact Go.ret X0 (v := none) (fun _ => rfl) Bd.notSynchronized (fun fs hr => X0.returnOut hx Bd.returns (hb hby dmethod_2_code_22) hr) (by decide) (by decide) (by rw [e0]; exact ⟨(0 : Int32), e5_o0, _, _, _, rfl, rfl, rfl, (Or.inr ⟨hc695, rfl⟩), rfl, N0, (Keep.refl h0 [o0]), V_o0, E_o0⟩)
theorem ef_41 (m : MethodId) (o0 : Addr) (p2 : Int32) : entryFrame m #[(.ref o0), (.int (6 : Int32)), (.int p2)] 3 = mkF m 0 #[.val (.ref o0), .val (.int (6 : Int32)), .val (.int p2)] [] := by first | (simp [entryFrame, mkF, argsToLocals, Value.category, maxLocals]; done) | rfl
def Q41 (Z : State) (o0 : Addr) (p2 : Int32) (k_o0 : ClassId) (z_o0 : Int32) (e0_o0 : Int32) (e1_o0 : Int32) (e2_o0 : Int32) (e3_o0 : Int32) (e4_o0 : Int32) (e5_o0 : Int32) (e6_o0 : Int32) (e7_o0 : Int32) (h0 : Heap) (n0 : Nat) (v : Option Value) (h : Heap) (L : List Loc) : Prop := (∃ (r725 : Int32) (fv41_0_6 : Int32) (v721 : Int32) (v722 : Int32) (v728 : Int32), v721 = ((p2.toUInt32 >>> ((6 : Int32) &&& 31).toUInt32).toInt32) ∧ v722 = (v721 &&& (1 : Int32)) ∧ v728 = (r725 &&& (1 : Int32)) ∧ ((((6 : Int32) < z_o0) ∧ (((v722 = (0 : Int32)) ∧ (r725 = (0 : Int32))) ∨ ((¬ (v722 = (0 : Int32))) ∧ (r725 = (1 : Int32)))) ∧ (fv41_0_6 = v728)) ∨ ((¬ ((6 : Int32) < z_o0)) ∧ (fv41_0_6 = e6_o0))) ∧ v = none ∧ Fr n0 L ∧ Keep h0 h [o0] ∧ Arv Z h o0 k_o0 .boolean z_o0 [(.int e0_o0), (.int e1_o0), (.int e2_o0), (.int e3_o0), (.int e4_o0), (.int e5_o0), (.int fv41_0_6), (.int e7_o0)] (.int (0 : Int32)) ∧ Exa Z h o0 "[Z")
set_option maxRecDepth 65536 in
set_option maxHeartbeats 40000000 in
theorem rm41 (l : Launch) (Z : State) (a0 : Array Value) (hw : ∀ d ∈ tables_1, d.before a0 Z = true) (ws : List Jvm.Cond) (o0 : Addr) (p2 : Int32) (k_o0 : ClassId) (z_o0 : Int32) (e0_o0 : Int32) (e1_o0 : Int32) (e2_o0 : Int32) (e3_o0 : Int32) (e4_o0 : Int32) (e5_o0 : Int32) (e6_o0 : Int32) (e7_o0 : Int32) (h0 : Heap) (n0 : Nat) (Z0 : n0 ≤ h0.size) (hra_z_o0 : (¬ (z_o0 < (1 : Int32)))) (hrb_z_o0 : (¬ ((8 : Int32) < z_o0))) (V_o0 : Arv Z h0 o0 k_o0 .boolean z_o0 [(.int e0_o0), (.int e1_o0), (.int e2_o0), (.int e3_o0), (.int e4_o0), (.int e5_o0), (.int e6_o0), (.int e7_o0)] (.int (0 : Int32))) (g_o0 : n0 ≤ o0) (E_o0 : Exa Z h0 o0 "[Z") :
    Con l Z (⟨"com/example/tuneless/tuneless/problem/OneMaxEvaluatePinLaw", "put", "([ZII)V"⟩ : MethodName) method_2_code 3 none ws ({ frames := 0, cells := 0, slots := 0, locals := 0 } : Room) #[(.ref o0), (.int (6 : Int32)), (.int p2)] h0 0 0 (Q41 Z o0 p2 k_o0 z_o0 e0_o0 e1_o0 e2_o0 e3_o0 e4_o0 e5_o0 e6_o0 e7_o0 h0 n0) := by
  refine MetFree.of_bodySF (plainFor_of_name pn_9) hisR ?_
  intro p e s m args below meth c s₁ Bd hml0 hP hK
  obtain ⟨rfl, hZ, hh⟩ := hP
  have hx := Bd.exec
  have hby := Bd.bytes
  have hml : c.maxLocals = 3 := hml0
  have hown : s.vm.findClass "com/example/tuneless/tuneless/problem/OneMaxEvaluatePinLaw" = some m.cls := findClass_of_methodNamed Bd.named
  have hnm := (name_of_methodNamed Bd.named Bd.method).1
  have X0 : Stand p l e ({ frames := 0, cells := 0, slots := 0, locals := 0 } : Room) s m #[(.ref o0), (.int (6 : Int32)), (.int p2)] below meth c s₁ [] 0 0 := Stand.of_body Bd
  have e0 : s₁.heap = h0 := by rw [← hh, Bd.state]; rfl
  have N0 := Fr.nil n0
  refine Go.of ?_
  refine Go.st (S' := s₁.setTop (mkF m 0 #[.val (.ref o0), .val (.int (6 : Int32)), .val (.int p2)] [])) (fun t k => castTop (ef_41 m o0 p2) k) ?_
  refine Go.st (S' := s₁.setTop (mkF m 1 #[.val (.ref o0), .val (.int (6 : Int32)), .val (.int p2)] [(.int (6 : Int32))])) (fun t k => XS.iloadN X0.here hx rfl (hb hby dmethod_2_code_0) rfl k) ?_
  refine Go.st (S' := s₁.setTop (mkF m 2 #[.val (.ref o0), .val (.int (6 : Int32)), .val (.int p2)] [(.ref o0), (.int (6 : Int32))])) (fun t k => XS.aloadN X0.here hx rfl (hb hby dmethod_2_code_1) rfl rfl k) ?_
  obtain ⟨cl718, Ar718, -, S718, N718_, -, -⟩ := id V_o0
  refine Go.op (F := fun z => s₁.setTop (mkF m 3 #[.val (.ref o0), .val (.int (6 : Int32)), .val (.int p2)] [(.int z), (.int (6 : Int32))])) (x := cl718.slots.size.toInt32) (fun t k => X0.arraylength hx (own_eh e0 Ar718.1) (State.isArrayOf_alike hZ.alike Ar718.2.1) (g := (mkF m 2 #[.val (.ref o0), .val (.int (6 : Int32)), .val (.int p2)] [(.ref o0), (.int (6 : Int32))])) rfl rfl (hb hby dmethod_2_code_2) t k) ?_
  intro v719 hv719
  obtain rfl : z_o0 = v719 := (hv719.trans (len_of S718 N718_)).symm
  by_cases hc720 : ((6 : Int32) < z_o0)
  · refine Go.st (S' := s₁.setTop (mkF m 6 #[.val (.ref o0), .val (.int (6 : Int32)), .val (.int p2)] [])) (fun t k => XS.icmpNo X0.here hx rfl (hb hby dmethod_2_code_3) rfl (tlt hc720).2.1 k) ?_
    refine Go.st (S' := s₁.setTop (mkF m 7 #[.val (.ref o0), .val (.int (6 : Int32)), .val (.int p2)] [(.ref o0)])) (fun t k => XS.aloadN X0.here hx rfl (hb hby dmethod_2_code_6) rfl rfl k) ?_
    refine Go.st (S' := s₁.setTop (mkF m 8 #[.val (.ref o0), .val (.int (6 : Int32)), .val (.int p2)] [(.int (6 : Int32)), (.ref o0)])) (fun t k => XS.iloadN X0.here hx rfl (hb hby dmethod_2_code_7) rfl k) ?_
    refine Go.st (S' := s₁.setTop (mkF m 9 #[.val (.ref o0), .val (.int (6 : Int32)), .val (.int p2)] [(.int p2), (.int (6 : Int32)), (.ref o0)])) (fun t k => XS.iloadN X0.here hx rfl (hb hby dmethod_2_code_8) rfl k) ?_
    refine Go.st (S' := s₁.setTop (mkF m 10 #[.val (.ref o0), .val (.int (6 : Int32)), .val (.int p2)] [(.int (6 : Int32)), (.int p2), (.int (6 : Int32)), (.ref o0)])) (fun t k => XS.iloadN X0.here hx rfl (hb hby dmethod_2_code_9) rfl k) ?_
    refine Go.op (F := fun z => s₁.setTop (mkF m 11 #[.val (.ref o0), .val (.int (6 : Int32)), .val (.int p2)] [(.int z), (.int (6 : Int32)), (.ref o0)])) (x := ((p2.toUInt32 >>> ((6 : Int32) &&& 31).toUInt32).toInt32)) (fun t k => XS.iushr X0.here hx rfl (hb hby dmethod_2_code_10) rfl k) ?_
    intro v721 hv721
    refine Go.st (S' := s₁.setTop (mkF m 12 #[.val (.ref o0), .val (.int (6 : Int32)), .val (.int p2)] [(.int (1 : Int32)), (.int v721), (.int (6 : Int32)), (.ref o0)])) (fun t k => XS.iconst X0.here hx rfl (hb hby dmethod_2_code_11) k) ?_
    refine Go.op (F := fun z => s₁.setTop (mkF m 13 #[.val (.ref o0), .val (.int (6 : Int32)), .val (.int p2)] [(.int z), (.int (6 : Int32)), (.ref o0)])) (x := (v721 &&& (1 : Int32))) (fun t k => XS.iand X0.here hx rfl (hb hby dmethod_2_code_12) rfl k) ?_
    intro v722 hv722
    refine Go.join (α := Int32) (fun r => (((v722 = (0 : Int32)) ∧ (r = (0 : Int32))) ∨ ((¬ (v722 = (0 : Int32))) ∧ (r = (1 : Int32))))) (fun r => s₁.setTop (mkF m 21 #[.val (.ref o0), .val (.int (6 : Int32)), .val (.int p2)] [(.int r), (.int (6 : Int32)), (.ref o0)])) ?_ ?_
    · intro r725 hc726
      obtain ⟨cl727, Ar727, q727, S727, N727_, H727, G727⟩ := id V_o0
      have hin727 : ¬ ((6 : Int32) < 0 ∨ cl727.slots.size ≤ ((6 : Int32)).toNatClampNeg) := inb_of S727 ⟨by decide, hc720⟩
      obtain ⟨v728, hv728⟩ : ∃ z, z = (r725 &&& (1 : Int32)) := ⟨_, rfl⟩
      obtain ⟨T727, h727, X727, e727, W727, st727⟩ := stZ X0 hx hZ e0 Ar727 (j := (6 : Int32)) hin727 (g := (mkF m 21 #[.val (.ref o0), .val (.int (6 : Int32)), .val (.int p2)] [(.int r725), (.int (6 : Int32)), (.ref o0)])) rfl rfl (hb hby dmethod_2_code_21)
      have W727 : Wr h0 h727 o0 ((6 : Int32)).toNatClampNeg (.int v728) := by rw [hv728]; exact W727
      have V727 : Arv Z h727 o0 k_o0 .boolean z_o0 [(.int e0_o0), (.int e1_o0), (.int e2_o0), (.int e3_o0), (.int e4_o0), (.int e5_o0), (.int v728), (.int e7_o0)] (.int (0 : Int32)) := Arv.set Ar727 q727 S727 N727_ H727 G727 (by rw [hv728]; exact fits_nar_bool _) W727 6 rfl (Nat.le_of_ble_eq_true rfl)
      have N727 := Fr.snoc X727 N0 g_o0
      have Z729 : n0 ≤ h727.size := Nat.le_trans Z0 (Keep.of_wr W727).1
      have K729 : Keep h0 h727 [o0] := (Keep.refl h0 [o0]).wr W727 (Or.inl (by simp))
      refine Go.st (S' := T727.setTop (mkF m 22 #[.val (.ref o0), .val (.int (6 : Int32)), .val (.int p2)] [])) st727 ?_
      have f730 := ((E_o0).wr W727)
      exact Go.ret X727 (v := none) (fun _ => rfl) Bd.notSynchronized (fun fs hr => X727.returnOut hx Bd.returns (hb hby dmethod_2_code_22) hr) (by decide) (by decide) (by rw [e727]; exact ⟨r725, v728, v721, v722, v728, hv721, hv722, hv728, (Or.inl ⟨hc720, hc726, rfl⟩), rfl, N727, K729, V727, f730⟩)
    · intro J731
      by_cases hc732 : (v722 = (0 : Int32))
      · refine Go.st (S' := s₁.setTop (mkF m 20 #[.val (.ref o0), .val (.int (6 : Int32)), .val (.int p2)] [(.int (6 : Int32)), (.ref o0)])) (fun t k => XS.ifYes X0.here hx rfl (pc0 := 13) (pc' := 20) rfl (hb hby dmethod_2_code_13) rfl ((if0 _ _).trans (teq hc732).1) (by decide) (by decide) k) ?_
        refine Go.st (S' := s₁.setTop (mkF m 21 #[.val (.ref o0), .val (.int (6 : Int32)), .val (.int p2)] [(.int (0 : Int32)), (.int (6 : Int32)), (.ref o0)])) (fun t k => XS.iconst X0.here hx rfl (hb hby dmethod_2_code_20) k) ?_
        exact J731 ((0 : Int32)) (Or.inl ⟨hc732, rfl⟩)
      · refine Go.st (S' := s₁.setTop (mkF m 16 #[.val (.ref o0), .val (.int (6 : Int32)), .val (.int p2)] [(.int (6 : Int32)), (.ref o0)])) (fun t k => XS.ifNo X0.here hx rfl (hb hby dmethod_2_code_13) rfl ((if0 _ _).trans (feq hc732).1) k) ?_
        refine Go.st (S' := s₁.setTop (mkF m 17 #[.val (.ref o0), .val (.int (6 : Int32)), .val (.int p2)] [(.int (1 : Int32)), (.int (6 : Int32)), (.ref o0)])) (fun t k => XS.iconst X0.here hx rfl (hb hby dmethod_2_code_16) k) ?_
        refine Go.st (S' := s₁.setTop (mkF m 21 #[.val (.ref o0), .val (.int (6 : Int32)), .val (.int p2)] [(.int (1 : Int32)), (.int (6 : Int32)), (.ref o0)])) (fun t k => XS.goto X0.here hx rfl (pc0 := 17) (pc' := 21) rfl (hb hby dmethod_2_code_17) (by decide) (by decide) k) ?_
        exact J731 ((1 : Int32)) (Or.inr ⟨hc732, rfl⟩)
  · refine Go.st (S' := s₁.setTop (mkF m 22 #[.val (.ref o0), .val (.int (6 : Int32)), .val (.int p2)] [])) (fun t k => XS.icmpYes X0.here hx rfl (pc0 := 3) (pc' := 22) rfl (hb hby dmethod_2_code_3) rfl (flt hc720).2.1 (by decide) (by decide) k) ?_
    exact Go.ret X0 (v := none) (fun _ => rfl) Bd.notSynchronized (fun fs hr => X0.returnOut hx Bd.returns (hb hby dmethod_2_code_22) hr) (by decide) (by decide) (by rw [e0]; exact ⟨(0 : Int32), e6_o0, _, _, _, rfl, rfl, rfl, (Or.inr ⟨hc720, rfl⟩), rfl, N0, (Keep.refl h0 [o0]), V_o0, E_o0⟩)
theorem ef_42 (m : MethodId) (o0 : Addr) (p2 : Int32) : entryFrame m #[(.ref o0), (.int (7 : Int32)), (.int p2)] 3 = mkF m 0 #[.val (.ref o0), .val (.int (7 : Int32)), .val (.int p2)] [] := by first | (simp [entryFrame, mkF, argsToLocals, Value.category, maxLocals]; done) | rfl
def Q42 (Z : State) (o0 : Addr) (p2 : Int32) (k_o0 : ClassId) (z_o0 : Int32) (e0_o0 : Int32) (e1_o0 : Int32) (e2_o0 : Int32) (e3_o0 : Int32) (e4_o0 : Int32) (e5_o0 : Int32) (e6_o0 : Int32) (e7_o0 : Int32) (h0 : Heap) (n0 : Nat) (v : Option Value) (h : Heap) (L : List Loc) : Prop := (∃ (r750 : Int32) (fv42_0_7 : Int32) (v746 : Int32) (v747 : Int32) (v753 : Int32), v746 = ((p2.toUInt32 >>> ((7 : Int32) &&& 31).toUInt32).toInt32) ∧ v747 = (v746 &&& (1 : Int32)) ∧ v753 = (r750 &&& (1 : Int32)) ∧ ((((7 : Int32) < z_o0) ∧ (((v747 = (0 : Int32)) ∧ (r750 = (0 : Int32))) ∨ ((¬ (v747 = (0 : Int32))) ∧ (r750 = (1 : Int32)))) ∧ (fv42_0_7 = v753)) ∨ ((¬ ((7 : Int32) < z_o0)) ∧ (fv42_0_7 = e7_o0))) ∧ v = none ∧ Fr n0 L ∧ Keep h0 h [o0] ∧ Arv Z h o0 k_o0 .boolean z_o0 [(.int e0_o0), (.int e1_o0), (.int e2_o0), (.int e3_o0), (.int e4_o0), (.int e5_o0), (.int e6_o0), (.int fv42_0_7)] (.int (0 : Int32)) ∧ Exa Z h o0 "[Z")
set_option maxRecDepth 65536 in
set_option maxHeartbeats 40000000 in
theorem rm42 (l : Launch) (Z : State) (a0 : Array Value) (hw : ∀ d ∈ tables_1, d.before a0 Z = true) (ws : List Jvm.Cond) (o0 : Addr) (p2 : Int32) (k_o0 : ClassId) (z_o0 : Int32) (e0_o0 : Int32) (e1_o0 : Int32) (e2_o0 : Int32) (e3_o0 : Int32) (e4_o0 : Int32) (e5_o0 : Int32) (e6_o0 : Int32) (e7_o0 : Int32) (h0 : Heap) (n0 : Nat) (Z0 : n0 ≤ h0.size) (hra_z_o0 : (¬ (z_o0 < (1 : Int32)))) (hrb_z_o0 : (¬ ((8 : Int32) < z_o0))) (V_o0 : Arv Z h0 o0 k_o0 .boolean z_o0 [(.int e0_o0), (.int e1_o0), (.int e2_o0), (.int e3_o0), (.int e4_o0), (.int e5_o0), (.int e6_o0), (.int e7_o0)] (.int (0 : Int32))) (g_o0 : n0 ≤ o0) (E_o0 : Exa Z h0 o0 "[Z") :
    Con l Z (⟨"com/example/tuneless/tuneless/problem/OneMaxEvaluatePinLaw", "put", "([ZII)V"⟩ : MethodName) method_2_code 3 none ws ({ frames := 0, cells := 0, slots := 0, locals := 0 } : Room) #[(.ref o0), (.int (7 : Int32)), (.int p2)] h0 0 0 (Q42 Z o0 p2 k_o0 z_o0 e0_o0 e1_o0 e2_o0 e3_o0 e4_o0 e5_o0 e6_o0 e7_o0 h0 n0) := by
  refine MetFree.of_bodySF (plainFor_of_name pn_9) hisR ?_
  intro p e s m args below meth c s₁ Bd hml0 hP hK
  obtain ⟨rfl, hZ, hh⟩ := hP
  have hx := Bd.exec
  have hby := Bd.bytes
  have hml : c.maxLocals = 3 := hml0
  have hown : s.vm.findClass "com/example/tuneless/tuneless/problem/OneMaxEvaluatePinLaw" = some m.cls := findClass_of_methodNamed Bd.named
  have hnm := (name_of_methodNamed Bd.named Bd.method).1
  have X0 : Stand p l e ({ frames := 0, cells := 0, slots := 0, locals := 0 } : Room) s m #[(.ref o0), (.int (7 : Int32)), (.int p2)] below meth c s₁ [] 0 0 := Stand.of_body Bd
  have e0 : s₁.heap = h0 := by rw [← hh, Bd.state]; rfl
  have N0 := Fr.nil n0
  refine Go.of ?_
  refine Go.st (S' := s₁.setTop (mkF m 0 #[.val (.ref o0), .val (.int (7 : Int32)), .val (.int p2)] [])) (fun t k => castTop (ef_42 m o0 p2) k) ?_
  refine Go.st (S' := s₁.setTop (mkF m 1 #[.val (.ref o0), .val (.int (7 : Int32)), .val (.int p2)] [(.int (7 : Int32))])) (fun t k => XS.iloadN X0.here hx rfl (hb hby dmethod_2_code_0) rfl k) ?_
  refine Go.st (S' := s₁.setTop (mkF m 2 #[.val (.ref o0), .val (.int (7 : Int32)), .val (.int p2)] [(.ref o0), (.int (7 : Int32))])) (fun t k => XS.aloadN X0.here hx rfl (hb hby dmethod_2_code_1) rfl rfl k) ?_
  obtain ⟨cl743, Ar743, -, S743, N743_, -, -⟩ := id V_o0
  refine Go.op (F := fun z => s₁.setTop (mkF m 3 #[.val (.ref o0), .val (.int (7 : Int32)), .val (.int p2)] [(.int z), (.int (7 : Int32))])) (x := cl743.slots.size.toInt32) (fun t k => X0.arraylength hx (own_eh e0 Ar743.1) (State.isArrayOf_alike hZ.alike Ar743.2.1) (g := (mkF m 2 #[.val (.ref o0), .val (.int (7 : Int32)), .val (.int p2)] [(.ref o0), (.int (7 : Int32))])) rfl rfl (hb hby dmethod_2_code_2) t k) ?_
  intro v744 hv744
  obtain rfl : z_o0 = v744 := (hv744.trans (len_of S743 N743_)).symm
  by_cases hc745 : ((7 : Int32) < z_o0)
  · refine Go.st (S' := s₁.setTop (mkF m 6 #[.val (.ref o0), .val (.int (7 : Int32)), .val (.int p2)] [])) (fun t k => XS.icmpNo X0.here hx rfl (hb hby dmethod_2_code_3) rfl (tlt hc745).2.1 k) ?_
    refine Go.st (S' := s₁.setTop (mkF m 7 #[.val (.ref o0), .val (.int (7 : Int32)), .val (.int p2)] [(.ref o0)])) (fun t k => XS.aloadN X0.here hx rfl (hb hby dmethod_2_code_6) rfl rfl k) ?_
    refine Go.st (S' := s₁.setTop (mkF m 8 #[.val (.ref o0), .val (.int (7 : Int32)), .val (.int p2)] [(.int (7 : Int32)), (.ref o0)])) (fun t k => XS.iloadN X0.here hx rfl (hb hby dmethod_2_code_7) rfl k) ?_
    refine Go.st (S' := s₁.setTop (mkF m 9 #[.val (.ref o0), .val (.int (7 : Int32)), .val (.int p2)] [(.int p2), (.int (7 : Int32)), (.ref o0)])) (fun t k => XS.iloadN X0.here hx rfl (hb hby dmethod_2_code_8) rfl k) ?_
    refine Go.st (S' := s₁.setTop (mkF m 10 #[.val (.ref o0), .val (.int (7 : Int32)), .val (.int p2)] [(.int (7 : Int32)), (.int p2), (.int (7 : Int32)), (.ref o0)])) (fun t k => XS.iloadN X0.here hx rfl (hb hby dmethod_2_code_9) rfl k) ?_
    refine Go.op (F := fun z => s₁.setTop (mkF m 11 #[.val (.ref o0), .val (.int (7 : Int32)), .val (.int p2)] [(.int z), (.int (7 : Int32)), (.ref o0)])) (x := ((p2.toUInt32 >>> ((7 : Int32) &&& 31).toUInt32).toInt32)) (fun t k => XS.iushr X0.here hx rfl (hb hby dmethod_2_code_10) rfl k) ?_
    intro v746 hv746
    refine Go.st (S' := s₁.setTop (mkF m 12 #[.val (.ref o0), .val (.int (7 : Int32)), .val (.int p2)] [(.int (1 : Int32)), (.int v746), (.int (7 : Int32)), (.ref o0)])) (fun t k => XS.iconst X0.here hx rfl (hb hby dmethod_2_code_11) k) ?_
    refine Go.op (F := fun z => s₁.setTop (mkF m 13 #[.val (.ref o0), .val (.int (7 : Int32)), .val (.int p2)] [(.int z), (.int (7 : Int32)), (.ref o0)])) (x := (v746 &&& (1 : Int32))) (fun t k => XS.iand X0.here hx rfl (hb hby dmethod_2_code_12) rfl k) ?_
    intro v747 hv747
    refine Go.join (α := Int32) (fun r => (((v747 = (0 : Int32)) ∧ (r = (0 : Int32))) ∨ ((¬ (v747 = (0 : Int32))) ∧ (r = (1 : Int32))))) (fun r => s₁.setTop (mkF m 21 #[.val (.ref o0), .val (.int (7 : Int32)), .val (.int p2)] [(.int r), (.int (7 : Int32)), (.ref o0)])) ?_ ?_
    · intro r750 hc751
      obtain ⟨cl752, Ar752, q752, S752, N752_, H752, G752⟩ := id V_o0
      have hin752 : ¬ ((7 : Int32) < 0 ∨ cl752.slots.size ≤ ((7 : Int32)).toNatClampNeg) := inb_of S752 ⟨by decide, hc745⟩
      obtain ⟨v753, hv753⟩ : ∃ z, z = (r750 &&& (1 : Int32)) := ⟨_, rfl⟩
      obtain ⟨T752, h752, X752, e752, W752, st752⟩ := stZ X0 hx hZ e0 Ar752 (j := (7 : Int32)) hin752 (g := (mkF m 21 #[.val (.ref o0), .val (.int (7 : Int32)), .val (.int p2)] [(.int r750), (.int (7 : Int32)), (.ref o0)])) rfl rfl (hb hby dmethod_2_code_21)
      have W752 : Wr h0 h752 o0 ((7 : Int32)).toNatClampNeg (.int v753) := by rw [hv753]; exact W752
      have V752 : Arv Z h752 o0 k_o0 .boolean z_o0 [(.int e0_o0), (.int e1_o0), (.int e2_o0), (.int e3_o0), (.int e4_o0), (.int e5_o0), (.int e6_o0), (.int v753)] (.int (0 : Int32)) := Arv.set Ar752 q752 S752 N752_ H752 G752 (by rw [hv753]; exact fits_nar_bool _) W752 7 rfl (Nat.le_of_ble_eq_true rfl)
      have N752 := Fr.snoc X752 N0 g_o0
      have Z754 : n0 ≤ h752.size := Nat.le_trans Z0 (Keep.of_wr W752).1
      have K754 : Keep h0 h752 [o0] := (Keep.refl h0 [o0]).wr W752 (Or.inl (by simp))
      refine Go.st (S' := T752.setTop (mkF m 22 #[.val (.ref o0), .val (.int (7 : Int32)), .val (.int p2)] [])) st752 ?_
      have f755 := ((E_o0).wr W752)
      exact Go.ret X752 (v := none) (fun _ => rfl) Bd.notSynchronized (fun fs hr => X752.returnOut hx Bd.returns (hb hby dmethod_2_code_22) hr) (by decide) (by decide) (by rw [e752]; exact ⟨r750, v753, v746, v747, v753, hv746, hv747, hv753, (Or.inl ⟨hc745, hc751, rfl⟩), rfl, N752, K754, V752, f755⟩)
    · intro J756
      by_cases hc757 : (v747 = (0 : Int32))
      · refine Go.st (S' := s₁.setTop (mkF m 20 #[.val (.ref o0), .val (.int (7 : Int32)), .val (.int p2)] [(.int (7 : Int32)), (.ref o0)])) (fun t k => XS.ifYes X0.here hx rfl (pc0 := 13) (pc' := 20) rfl (hb hby dmethod_2_code_13) rfl ((if0 _ _).trans (teq hc757).1) (by decide) (by decide) k) ?_
        refine Go.st (S' := s₁.setTop (mkF m 21 #[.val (.ref o0), .val (.int (7 : Int32)), .val (.int p2)] [(.int (0 : Int32)), (.int (7 : Int32)), (.ref o0)])) (fun t k => XS.iconst X0.here hx rfl (hb hby dmethod_2_code_20) k) ?_
        exact J756 ((0 : Int32)) (Or.inl ⟨hc757, rfl⟩)
      · refine Go.st (S' := s₁.setTop (mkF m 16 #[.val (.ref o0), .val (.int (7 : Int32)), .val (.int p2)] [(.int (7 : Int32)), (.ref o0)])) (fun t k => XS.ifNo X0.here hx rfl (hb hby dmethod_2_code_13) rfl ((if0 _ _).trans (feq hc757).1) k) ?_
        refine Go.st (S' := s₁.setTop (mkF m 17 #[.val (.ref o0), .val (.int (7 : Int32)), .val (.int p2)] [(.int (1 : Int32)), (.int (7 : Int32)), (.ref o0)])) (fun t k => XS.iconst X0.here hx rfl (hb hby dmethod_2_code_16) k) ?_
        refine Go.st (S' := s₁.setTop (mkF m 21 #[.val (.ref o0), .val (.int (7 : Int32)), .val (.int p2)] [(.int (1 : Int32)), (.int (7 : Int32)), (.ref o0)])) (fun t k => XS.goto X0.here hx rfl (pc0 := 17) (pc' := 21) rfl (hb hby dmethod_2_code_17) (by decide) (by decide) k) ?_
        exact J756 ((1 : Int32)) (Or.inr ⟨hc757, rfl⟩)
  · refine Go.st (S' := s₁.setTop (mkF m 22 #[.val (.ref o0), .val (.int (7 : Int32)), .val (.int p2)] [])) (fun t k => XS.icmpYes X0.here hx rfl (pc0 := 3) (pc' := 22) rfl (hb hby dmethod_2_code_3) rfl (flt hc745).2.1 (by decide) (by decide) k) ?_
    exact Go.ret X0 (v := none) (fun _ => rfl) Bd.notSynchronized (fun fs hr => X0.returnOut hx Bd.returns (hb hby dmethod_2_code_22) hr) (by decide) (by decide) (by rw [e0]; exact ⟨(0 : Int32), e7_o0, _, _, _, rfl, rfl, rfl, (Or.inr ⟨hc745, rfl⟩), rfl, N0, (Keep.refl h0 [o0]), V_o0, E_o0⟩)
theorem ef_43 (m : MethodId) (o0 : Addr) (o1 : Addr) : entryFrame m #[(.ref o0), (.ref o1)] 7 = mkF m 0 #[.val (.ref o0), .val (.ref o1), .unset, .unset, .unset, .unset, .unset] [] := by first | (simp [entryFrame, mkF, argsToLocals, Value.category, maxLocals]; done) | rfl
def Q43 (Z : State) (o0 : Addr) (o1 : Addr) (k_o1 : ClassId) (z_o1 : Int32) (e0_o1 : Int32) (e1_o1 : Int32) (e2_o1 : Int32) (e3_o1 : Int32) (e4_o1 : Int32) (e5_o1 : Int32) (e6_o1 : Int32) (e7_o1 : Int32) (h0 : Heap) (n0 : Nat) (v : Option Value) (h : Heap) (L : List Loc) : Prop := ∃ r : Int64, (r.toInt = (e0_o1).toInt + (e1_o1).toInt + (e2_o1).toInt + (e3_o1).toInt + (e4_o1).toInt + (e5_o1).toInt + (e6_o1).toInt + (e7_o1).toInt) ∧ v = some (.double (FP.l2d r)) ∧ Fr n0 L ∧ h = h0
set_option maxRecDepth 65536 in
set_option maxHeartbeats 40000000 in
theorem rm43 (l : Launch) (Z : State) (a0 : Array Value) (hw : ∀ d ∈ tables_1, d.before a0 Z = true) (ws : List Jvm.Cond) (o0 : Addr) (o1 : Addr) (k_o1 : ClassId) (z_o1 : Int32) (e0_o1 : Int32) (e1_o1 : Int32) (e2_o1 : Int32) (e3_o1 : Int32) (e4_o1 : Int32) (e5_o1 : Int32) (e6_o1 : Int32) (e7_o1 : Int32) (h0 : Heap) (n0 : Nat) (Z0 : n0 ≤ h0.size) (hpre : (0 ≤ (e0_o1).toInt ∧ (e0_o1).toInt ≤ 1 ∧ (0 < (z_o1).toInt ∨ (e0_o1).toInt = 0)) ∧ (0 ≤ (e1_o1).toInt ∧ (e1_o1).toInt ≤ 1 ∧ (1 < (z_o1).toInt ∨ (e1_o1).toInt = 0)) ∧ (0 ≤ (e2_o1).toInt ∧ (e2_o1).toInt ≤ 1 ∧ (2 < (z_o1).toInt ∨ (e2_o1).toInt = 0)) ∧ (0 ≤ (e3_o1).toInt ∧ (e3_o1).toInt ≤ 1 ∧ (3 < (z_o1).toInt ∨ (e3_o1).toInt = 0)) ∧ (0 ≤ (e4_o1).toInt ∧ (e4_o1).toInt ≤ 1 ∧ (4 < (z_o1).toInt ∨ (e4_o1).toInt = 0)) ∧ (0 ≤ (e5_o1).toInt ∧ (e5_o1).toInt ≤ 1 ∧ (5 < (z_o1).toInt ∨ (e5_o1).toInt = 0)) ∧ (0 ≤ (e6_o1).toInt ∧ (e6_o1).toInt ≤ 1 ∧ (6 < (z_o1).toInt ∨ (e6_o1).toInt = 0)) ∧ (0 ≤ (e7_o1).toInt ∧ (e7_o1).toInt ≤ 1 ∧ (7 < (z_o1).toInt ∨ (e7_o1).toInt = 0))) (hra_z_o1 : (¬ (z_o1 < (1 : Int32)))) (hrb_z_o1 : (¬ ((8 : Int32) < z_o1))) (V_o1 : Arv Z h0 o1 k_o1 .boolean z_o1 [(.int e0_o1), (.int e1_o1), (.int e2_o1), (.int e3_o1), (.int e4_o1), (.int e5_o1), (.int e6_o1), (.int e7_o1)] (.int (0 : Int32))) :
    Con l Z (⟨"com/example/tuneless/tuneless/problem/OneMax", "evaluate", "([Z)D"⟩ : MethodName) prog_62_method_2_code 7 (some .double) ws ({ frames := 0, cells := 0, slots := 0, locals := 0 } : Room) #[(.ref o0), (.ref o1)] h0 0 0 (Q43 Z o0 o1 k_o1 z_o1 e0_o1 e1_o1 e2_o1 e3_o1 e4_o1 e5_o1 e6_o1 e7_o1 h0 n0) := by
  refine MetFree.of_bodySF (plainFor_of_name pn_8) hisR ?_
  intro p e s m args below meth c s₁ Bd hml0 hP hK
  obtain ⟨rfl, hZ, hh⟩ := hP
  have hx := Bd.exec
  have hby := Bd.bytes
  have hml : c.maxLocals = 7 := hml0
  have hown : s.vm.findClass "com/example/tuneless/tuneless/problem/OneMax" = some m.cls := findClass_of_methodNamed Bd.named
  have hnm := (name_of_methodNamed Bd.named Bd.method).1
  have X0 : Stand p l e ({ frames := 0, cells := 0, slots := 0, locals := 0 } : Room) s m #[(.ref o0), (.ref o1)] below meth c s₁ [] 0 0 := Stand.of_body Bd
  have e0 : s₁.heap = h0 := by rw [← hh, Bd.state]; rfl
  have N0 := Fr.nil n0
  refine Go.of ?_
  refine Go.st (S' := s₁.setTop (mkF m 0 #[.val (.ref o0), .val (.ref o1), .unset, .unset, .unset, .unset, .unset] [])) (fun t k => castTop (ef_43 m o0 o1) k) ?_
  let A777 : Array Slot := #[.val (.ref o0), .val (.ref o1), .unset, .unset, .unset, .unset, .unset]
  refine Go.st (S' := s₁.setTop (mkF m 1 A777 [(.int (0 : Int32))])) (fun t k => XS.iconst X0.here hx rfl (hb hby dprog_62_method_2_code_0) k) ?_
  let A778 : Array Slot := #[.val (.ref o0), .val (.ref o1), .val (.int (0 : Int32)), .unset, .unset, .unset, .unset]
  refine Go.st (S' := s₁.setTop (mkF m 2 A778 [])) (fun t k => XS.istoreN X0.here hx rfl (hb hby dprog_62_method_2_code_1) rfl (l' := A778) rfl k) ?_
  refine Go.st (S' := s₁.setTop (mkF m 3 A778 [(.ref o1)])) (fun t k => XS.aloadN X0.here hx rfl (hb hby dprog_62_method_2_code_2) rfl rfl k) ?_
  let A779 : Array Slot := #[.val (.ref o0), .val (.ref o1), .val (.int (0 : Int32)), .val (.ref o1), .unset, .unset, .unset]
  refine Go.st (S' := s₁.setTop (mkF m 4 A779 [])) (fun t k => XS.astoreN X0.here hx rfl (hb hby dprog_62_method_2_code_3) rfl rfl (l' := A779) rfl k) ?_
  refine Go.st (S' := s₁.setTop (mkF m 5 A779 [(.ref o1)])) (fun t k => XS.aloadN X0.here hx rfl (hb hby dprog_62_method_2_code_4) rfl rfl k) ?_
  obtain ⟨cl780, Ar780, -, S780, N780_, -, -⟩ := id V_o1
  refine Go.op (F := fun z => s₁.setTop (mkF m 6 A779 [(.int z)])) (x := cl780.slots.size.toInt32) (fun t k => X0.arraylength hx (own_eh e0 Ar780.1) (State.isArrayOf_alike hZ.alike Ar780.2.1) (g := (mkF m 5 A779 [(.ref o1)])) rfl rfl (hb hby dprog_62_method_2_code_5) t k) ?_
  intro v781 hv781
  obtain rfl : z_o1 = v781 := (hv781.trans (len_of S780 N780_)).symm
  let A782 : Array Slot := #[.val (.ref o0), .val (.ref o1), .val (.int (0 : Int32)), .val (.ref o1), .val (.int z_o1), .unset, .unset]
  refine Go.st (S' := s₁.setTop (mkF m 8 A782 [])) (fun t k => XS.istore X0.here hx rfl (hb hby dprog_62_method_2_code_6) rfl (l' := A782) rfl k) ?_
  refine Go.st (S' := s₁.setTop (mkF m 9 A782 [(.int (0 : Int32))])) (fun t k => XS.iconst X0.here hx rfl (hb hby dprog_62_method_2_code_8) k) ?_
  let A783 : Array Slot := #[.val (.ref o0), .val (.ref o1), .val (.int (0 : Int32)), .val (.ref o1), .val (.int z_o1), .val (.int (0 : Int32)), .unset]
  refine Go.st (S' := s₁.setTop (mkF m 11 A783 [])) (fun t k => XS.istore X0.here hx rfl (hb hby dprog_62_method_2_code_9) rfl (l' := A783) rfl k) ?_
  refine Go.st (S' := s₁.setTop (mkF m 13 A783 [(.int (0 : Int32))])) (fun t k => XS.iload X0.here hx rfl (hb hby dprog_62_method_2_code_11) rfl k) ?_
  refine Go.st (S' := s₁.setTop (mkF m 15 A783 [(.int z_o1), (.int (0 : Int32))])) (fun t k => XS.iload X0.here hx rfl (hb hby dprog_62_method_2_code_13) rfl k) ?_
  by_cases hc784 : ((0 : Int32) < z_o1)
  · refine Go.st (S' := s₁.setTop (mkF m 18 A783 [])) (fun t k => XS.icmpNo X0.here hx rfl (hb hby dprog_62_method_2_code_15) rfl (tlt hc784).2.1 k) ?_
    refine Go.st (S' := s₁.setTop (mkF m 19 A783 [(.ref o1)])) (fun t k => XS.aloadN X0.here hx rfl (hb hby dprog_62_method_2_code_18) rfl rfl k) ?_
    refine Go.st (S' := s₁.setTop (mkF m 21 A783 [(.int (0 : Int32)), (.ref o1)])) (fun t k => XS.iload X0.here hx rfl (hb hby dprog_62_method_2_code_19) rfl k) ?_
    obtain ⟨cl785, Ar785, -, S785, N785_, H785, -⟩ := id V_o1
    have hin785 : ¬ ((0 : Int32) < 0 ∨ cl785.slots.size ≤ ((0 : Int32)).toNatClampNeg) := inb_of S785 ⟨by decide, hc784⟩
    have hat785 : cl785.slots[((0 : Int32)).toNatClampNeg]? = some (.int e0_o1) := Has.at H785 hin785 rfl
    refine Go.st (S' := s₁.setTop (mkF m 22 A783 [(.int e0_o1)])) (fun t k => X0.baloadBooleans hx (j := (0 : Int32)) (v := (.int e0_o1)) (own_eh e0 Ar785.1) (State.isArrayOf_alike hZ.alike Ar785.2.1) Ar785.2.2 hin785 hat785 (g := (mkF m 21 A783 [(.int (0 : Int32)), (.ref o1)])) rfl rfl (hb hby dprog_62_method_2_code_21) t k) ?_
    let A786 : Array Slot := #[.val (.ref o0), .val (.ref o1), .val (.int (0 : Int32)), .val (.ref o1), .val (.int z_o1), .val (.int (0 : Int32)), .val (.int e0_o1)]
    refine Go.st (S' := s₁.setTop (mkF m 24 A786 [])) (fun t k => XS.istore X0.here hx rfl (hb hby dprog_62_method_2_code_22) rfl (l' := A786) rfl k) ?_
    refine Go.st (S' := s₁.setTop (mkF m 26 A786 [(.int e0_o1)])) (fun t k => XS.iload X0.here hx rfl (hb hby dprog_62_method_2_code_24) rfl k) ?_
    refine Go.join (α := Int32) (fun r => (((e0_o1 = (0 : Int32)) ∧ (r = (0 : Int32))) ∨ ((¬ (e0_o1 = (0 : Int32))) ∧ (r = (1 : Int32))))) (fun r => s₁.setTop (mkF m 32 #[.val (.ref o0), .val (.ref o1), .val (.int r), .val (.ref o1), .val (.int z_o1), .val (.int (0 : Int32)), .val (.int e0_o1)] [])) ?_ ?_
    · intro r791 hc792
      obtain ⟨hp0, hp1, hp2, hp3, hp4, hp5, hp6, hp7⟩ := hpre
      have hs793 : r791.toInt = (e0_o1).toInt := by
        have re0_o1 := rng32 e0_o1
        have rr791 := rng32 r791
        have lI0_ : (0 : Int32).toInt = 0 := by decide
        have lI1_ : (1 : Int32).toInt = 1 := by decide
        simp only [← Int32.toInt_inj] at hc792
        omega
      refine Go.op (F := fun z => s₁.setTop (mkF m 35 #[.val (.ref o0), .val (.ref o1), .val (.int r791), .val (.ref o1), .val (.int z_o1), .val (.int z), .val (.int e0_o1)] [])) (x := ((0 : Int32) + (1 : Int32))) (fun t k => XS.iinc X0.here hx rfl (hb hby dprog_62_method_2_code_32) rfl rfl k) ?_
      intro v794 hv794
      obtain rfl : (1 : Int32) = v794 := (hv794.trans (by decide)).symm
      let A795 : Array Slot := #[.val (.ref o0), .val (.ref o1), .val (.int r791), .val (.ref o1), .val (.int z_o1), .val (.int (1 : Int32)), .val (.int e0_o1)]
      refine Go.st (S' := s₁.setTop (mkF m 11 A795 [])) (fun t k => XS.goto X0.here hx rfl (pc0 := 35) (pc' := 11) rfl (hb hby dprog_62_method_2_code_35) (by decide) (by decide) k) ?_
      refine Go.st (S' := s₁.setTop (mkF m 13 A795 [(.int (1 : Int32))])) (fun t k => XS.iload X0.here hx rfl (hb hby dprog_62_method_2_code_11) rfl k) ?_
      refine Go.st (S' := s₁.setTop (mkF m 15 A795 [(.int z_o1), (.int (1 : Int32))])) (fun t k => XS.iload X0.here hx rfl (hb hby dprog_62_method_2_code_13) rfl k) ?_
      by_cases hc796 : ((1 : Int32) < z_o1)
      · refine Go.st (S' := s₁.setTop (mkF m 18 A795 [])) (fun t k => XS.icmpNo X0.here hx rfl (hb hby dprog_62_method_2_code_15) rfl (tlt hc796).2.1 k) ?_
        refine Go.st (S' := s₁.setTop (mkF m 19 A795 [(.ref o1)])) (fun t k => XS.aloadN X0.here hx rfl (hb hby dprog_62_method_2_code_18) rfl rfl k) ?_
        refine Go.st (S' := s₁.setTop (mkF m 21 A795 [(.int (1 : Int32)), (.ref o1)])) (fun t k => XS.iload X0.here hx rfl (hb hby dprog_62_method_2_code_19) rfl k) ?_
        obtain ⟨cl797, Ar797, -, S797, N797_, H797, -⟩ := id V_o1
        have hin797 : ¬ ((1 : Int32) < 0 ∨ cl797.slots.size ≤ ((1 : Int32)).toNatClampNeg) := inb_of S797 ⟨by decide, hc796⟩
        have hat797 : cl797.slots[((1 : Int32)).toNatClampNeg]? = some (.int e1_o1) := Has.at H797 hin797 rfl
        refine Go.st (S' := s₁.setTop (mkF m 22 A795 [(.int e1_o1)])) (fun t k => X0.baloadBooleans hx (j := (1 : Int32)) (v := (.int e1_o1)) (own_eh e0 Ar797.1) (State.isArrayOf_alike hZ.alike Ar797.2.1) Ar797.2.2 hin797 hat797 (g := (mkF m 21 A795 [(.int (1 : Int32)), (.ref o1)])) rfl rfl (hb hby dprog_62_method_2_code_21) t k) ?_
        let A798 : Array Slot := #[.val (.ref o0), .val (.ref o1), .val (.int r791), .val (.ref o1), .val (.int z_o1), .val (.int (1 : Int32)), .val (.int e1_o1)]
        refine Go.st (S' := s₁.setTop (mkF m 24 A798 [])) (fun t k => XS.istore X0.here hx rfl (hb hby dprog_62_method_2_code_22) rfl (l' := A798) rfl k) ?_
        refine Go.st (S' := s₁.setTop (mkF m 26 A798 [(.int e1_o1)])) (fun t k => XS.iload X0.here hx rfl (hb hby dprog_62_method_2_code_24) rfl k) ?_
        obtain ⟨v801, hv801⟩ : ∃ z, z = (r791 + (1 : Int32)) := ⟨_, rfl⟩
        refine Go.join (α := Int32) (fun r => (((e1_o1 = (0 : Int32)) ∧ (r = r791)) ∨ ((¬ (e1_o1 = (0 : Int32))) ∧ (r = v801)))) (fun r => s₁.setTop (mkF m 32 #[.val (.ref o0), .val (.ref o1), .val (.int r), .val (.ref o1), .val (.int z_o1), .val (.int (1 : Int32)), .val (.int e1_o1)] [])) ?_ ?_
        · intro r804 hc805
          have hs806 : r804.toInt = (e0_o1).toInt + (e1_o1).toInt := by
            have rv801 := rng32 v801
            have wv801 := c_iadd r791 (1 : Int32)
            rw [← hv801] at wv801
            have re1_o1 := rng32 e1_o1
            have rr791 := rng32 r791
            have rr804 := rng32 r804
            have lI1 : (1 : Int32).toInt = 1 := by decide
            have lI0_ : (0 : Int32).toInt = 0 := by decide
            simp only [← Int32.toInt_inj] at hc805
            omega
          refine Go.op (F := fun z => s₁.setTop (mkF m 35 #[.val (.ref o0), .val (.ref o1), .val (.int r804), .val (.ref o1), .val (.int z_o1), .val (.int z), .val (.int e1_o1)] [])) (x := ((1 : Int32) + (1 : Int32))) (fun t k => XS.iinc X0.here hx rfl (hb hby dprog_62_method_2_code_32) rfl rfl k) ?_
          intro v807 hv807
          obtain rfl : (2 : Int32) = v807 := (hv807.trans (by decide)).symm
          let A808 : Array Slot := #[.val (.ref o0), .val (.ref o1), .val (.int r804), .val (.ref o1), .val (.int z_o1), .val (.int (2 : Int32)), .val (.int e1_o1)]
          refine Go.st (S' := s₁.setTop (mkF m 11 A808 [])) (fun t k => XS.goto X0.here hx rfl (pc0 := 35) (pc' := 11) rfl (hb hby dprog_62_method_2_code_35) (by decide) (by decide) k) ?_
          refine Go.st (S' := s₁.setTop (mkF m 13 A808 [(.int (2 : Int32))])) (fun t k => XS.iload X0.here hx rfl (hb hby dprog_62_method_2_code_11) rfl k) ?_
          refine Go.st (S' := s₁.setTop (mkF m 15 A808 [(.int z_o1), (.int (2 : Int32))])) (fun t k => XS.iload X0.here hx rfl (hb hby dprog_62_method_2_code_13) rfl k) ?_
          by_cases hc809 : ((2 : Int32) < z_o1)
          · refine Go.st (S' := s₁.setTop (mkF m 18 A808 [])) (fun t k => XS.icmpNo X0.here hx rfl (hb hby dprog_62_method_2_code_15) rfl (tlt hc809).2.1 k) ?_
            refine Go.st (S' := s₁.setTop (mkF m 19 A808 [(.ref o1)])) (fun t k => XS.aloadN X0.here hx rfl (hb hby dprog_62_method_2_code_18) rfl rfl k) ?_
            refine Go.st (S' := s₁.setTop (mkF m 21 A808 [(.int (2 : Int32)), (.ref o1)])) (fun t k => XS.iload X0.here hx rfl (hb hby dprog_62_method_2_code_19) rfl k) ?_
            obtain ⟨cl810, Ar810, -, S810, N810_, H810, -⟩ := id V_o1
            have hin810 : ¬ ((2 : Int32) < 0 ∨ cl810.slots.size ≤ ((2 : Int32)).toNatClampNeg) := inb_of S810 ⟨by decide, hc809⟩
            have hat810 : cl810.slots[((2 : Int32)).toNatClampNeg]? = some (.int e2_o1) := Has.at H810 hin810 rfl
            refine Go.st (S' := s₁.setTop (mkF m 22 A808 [(.int e2_o1)])) (fun t k => X0.baloadBooleans hx (j := (2 : Int32)) (v := (.int e2_o1)) (own_eh e0 Ar810.1) (State.isArrayOf_alike hZ.alike Ar810.2.1) Ar810.2.2 hin810 hat810 (g := (mkF m 21 A808 [(.int (2 : Int32)), (.ref o1)])) rfl rfl (hb hby dprog_62_method_2_code_21) t k) ?_
            let A811 : Array Slot := #[.val (.ref o0), .val (.ref o1), .val (.int r804), .val (.ref o1), .val (.int z_o1), .val (.int (2 : Int32)), .val (.int e2_o1)]
            refine Go.st (S' := s₁.setTop (mkF m 24 A811 [])) (fun t k => XS.istore X0.here hx rfl (hb hby dprog_62_method_2_code_22) rfl (l' := A811) rfl k) ?_
            refine Go.st (S' := s₁.setTop (mkF m 26 A811 [(.int e2_o1)])) (fun t k => XS.iload X0.here hx rfl (hb hby dprog_62_method_2_code_24) rfl k) ?_
            obtain ⟨v814, hv814⟩ : ∃ z, z = (r804 + (1 : Int32)) := ⟨_, rfl⟩
            refine Go.join (α := Int32) (fun r => (((e2_o1 = (0 : Int32)) ∧ (r = r804)) ∨ ((¬ (e2_o1 = (0 : Int32))) ∧ (r = v814)))) (fun r => s₁.setTop (mkF m 32 #[.val (.ref o0), .val (.ref o1), .val (.int r), .val (.ref o1), .val (.int z_o1), .val (.int (2 : Int32)), .val (.int e2_o1)] [])) ?_ ?_
            · intro r817 hc818
              have hs819 : r817.toInt = (e0_o1).toInt + (e1_o1).toInt + (e2_o1).toInt := by
                have rv814 := rng32 v814
                have wv814 := c_iadd r804 (1 : Int32)
                rw [← hv814] at wv814
                have re2_o1 := rng32 e2_o1
                have rr804 := rng32 r804
                have rr817 := rng32 r817
                have lI1 : (1 : Int32).toInt = 1 := by decide
                have lI0_ : (0 : Int32).toInt = 0 := by decide
                simp only [← Int32.toInt_inj] at hc818
                omega
              refine Go.op (F := fun z => s₁.setTop (mkF m 35 #[.val (.ref o0), .val (.ref o1), .val (.int r817), .val (.ref o1), .val (.int z_o1), .val (.int z), .val (.int e2_o1)] [])) (x := ((2 : Int32) + (1 : Int32))) (fun t k => XS.iinc X0.here hx rfl (hb hby dprog_62_method_2_code_32) rfl rfl k) ?_
              intro v820 hv820
              obtain rfl : (3 : Int32) = v820 := (hv820.trans (by decide)).symm
              let A821 : Array Slot := #[.val (.ref o0), .val (.ref o1), .val (.int r817), .val (.ref o1), .val (.int z_o1), .val (.int (3 : Int32)), .val (.int e2_o1)]
              refine Go.st (S' := s₁.setTop (mkF m 11 A821 [])) (fun t k => XS.goto X0.here hx rfl (pc0 := 35) (pc' := 11) rfl (hb hby dprog_62_method_2_code_35) (by decide) (by decide) k) ?_
              refine Go.st (S' := s₁.setTop (mkF m 13 A821 [(.int (3 : Int32))])) (fun t k => XS.iload X0.here hx rfl (hb hby dprog_62_method_2_code_11) rfl k) ?_
              refine Go.st (S' := s₁.setTop (mkF m 15 A821 [(.int z_o1), (.int (3 : Int32))])) (fun t k => XS.iload X0.here hx rfl (hb hby dprog_62_method_2_code_13) rfl k) ?_
              by_cases hc822 : ((3 : Int32) < z_o1)
              · refine Go.st (S' := s₁.setTop (mkF m 18 A821 [])) (fun t k => XS.icmpNo X0.here hx rfl (hb hby dprog_62_method_2_code_15) rfl (tlt hc822).2.1 k) ?_
                refine Go.st (S' := s₁.setTop (mkF m 19 A821 [(.ref o1)])) (fun t k => XS.aloadN X0.here hx rfl (hb hby dprog_62_method_2_code_18) rfl rfl k) ?_
                refine Go.st (S' := s₁.setTop (mkF m 21 A821 [(.int (3 : Int32)), (.ref o1)])) (fun t k => XS.iload X0.here hx rfl (hb hby dprog_62_method_2_code_19) rfl k) ?_
                obtain ⟨cl823, Ar823, -, S823, N823_, H823, -⟩ := id V_o1
                have hin823 : ¬ ((3 : Int32) < 0 ∨ cl823.slots.size ≤ ((3 : Int32)).toNatClampNeg) := inb_of S823 ⟨by decide, hc822⟩
                have hat823 : cl823.slots[((3 : Int32)).toNatClampNeg]? = some (.int e3_o1) := Has.at H823 hin823 rfl
                refine Go.st (S' := s₁.setTop (mkF m 22 A821 [(.int e3_o1)])) (fun t k => X0.baloadBooleans hx (j := (3 : Int32)) (v := (.int e3_o1)) (own_eh e0 Ar823.1) (State.isArrayOf_alike hZ.alike Ar823.2.1) Ar823.2.2 hin823 hat823 (g := (mkF m 21 A821 [(.int (3 : Int32)), (.ref o1)])) rfl rfl (hb hby dprog_62_method_2_code_21) t k) ?_
                let A824 : Array Slot := #[.val (.ref o0), .val (.ref o1), .val (.int r817), .val (.ref o1), .val (.int z_o1), .val (.int (3 : Int32)), .val (.int e3_o1)]
                refine Go.st (S' := s₁.setTop (mkF m 24 A824 [])) (fun t k => XS.istore X0.here hx rfl (hb hby dprog_62_method_2_code_22) rfl (l' := A824) rfl k) ?_
                refine Go.st (S' := s₁.setTop (mkF m 26 A824 [(.int e3_o1)])) (fun t k => XS.iload X0.here hx rfl (hb hby dprog_62_method_2_code_24) rfl k) ?_
                obtain ⟨v827, hv827⟩ : ∃ z, z = (r817 + (1 : Int32)) := ⟨_, rfl⟩
                refine Go.join (α := Int32) (fun r => (((e3_o1 = (0 : Int32)) ∧ (r = r817)) ∨ ((¬ (e3_o1 = (0 : Int32))) ∧ (r = v827)))) (fun r => s₁.setTop (mkF m 32 #[.val (.ref o0), .val (.ref o1), .val (.int r), .val (.ref o1), .val (.int z_o1), .val (.int (3 : Int32)), .val (.int e3_o1)] [])) ?_ ?_
                · intro r830 hc831
                  have hs832 : r830.toInt = (e0_o1).toInt + (e1_o1).toInt + (e2_o1).toInt + (e3_o1).toInt := by
                    have rv827 := rng32 v827
                    have wv827 := c_iadd r817 (1 : Int32)
                    rw [← hv827] at wv827
                    have re3_o1 := rng32 e3_o1
                    have rr817 := rng32 r817
                    have rr830 := rng32 r830
                    have lI1 : (1 : Int32).toInt = 1 := by decide
                    have lI0_ : (0 : Int32).toInt = 0 := by decide
                    simp only [← Int32.toInt_inj] at hc831
                    omega
                  refine Go.op (F := fun z => s₁.setTop (mkF m 35 #[.val (.ref o0), .val (.ref o1), .val (.int r830), .val (.ref o1), .val (.int z_o1), .val (.int z), .val (.int e3_o1)] [])) (x := ((3 : Int32) + (1 : Int32))) (fun t k => XS.iinc X0.here hx rfl (hb hby dprog_62_method_2_code_32) rfl rfl k) ?_
                  intro v833 hv833
                  obtain rfl : (4 : Int32) = v833 := (hv833.trans (by decide)).symm
                  let A834 : Array Slot := #[.val (.ref o0), .val (.ref o1), .val (.int r830), .val (.ref o1), .val (.int z_o1), .val (.int (4 : Int32)), .val (.int e3_o1)]
                  refine Go.st (S' := s₁.setTop (mkF m 11 A834 [])) (fun t k => XS.goto X0.here hx rfl (pc0 := 35) (pc' := 11) rfl (hb hby dprog_62_method_2_code_35) (by decide) (by decide) k) ?_
                  refine Go.st (S' := s₁.setTop (mkF m 13 A834 [(.int (4 : Int32))])) (fun t k => XS.iload X0.here hx rfl (hb hby dprog_62_method_2_code_11) rfl k) ?_
                  refine Go.st (S' := s₁.setTop (mkF m 15 A834 [(.int z_o1), (.int (4 : Int32))])) (fun t k => XS.iload X0.here hx rfl (hb hby dprog_62_method_2_code_13) rfl k) ?_
                  by_cases hc835 : ((4 : Int32) < z_o1)
                  · refine Go.st (S' := s₁.setTop (mkF m 18 A834 [])) (fun t k => XS.icmpNo X0.here hx rfl (hb hby dprog_62_method_2_code_15) rfl (tlt hc835).2.1 k) ?_
                    refine Go.st (S' := s₁.setTop (mkF m 19 A834 [(.ref o1)])) (fun t k => XS.aloadN X0.here hx rfl (hb hby dprog_62_method_2_code_18) rfl rfl k) ?_
                    refine Go.st (S' := s₁.setTop (mkF m 21 A834 [(.int (4 : Int32)), (.ref o1)])) (fun t k => XS.iload X0.here hx rfl (hb hby dprog_62_method_2_code_19) rfl k) ?_
                    obtain ⟨cl836, Ar836, -, S836, N836_, H836, -⟩ := id V_o1
                    have hin836 : ¬ ((4 : Int32) < 0 ∨ cl836.slots.size ≤ ((4 : Int32)).toNatClampNeg) := inb_of S836 ⟨by decide, hc835⟩
                    have hat836 : cl836.slots[((4 : Int32)).toNatClampNeg]? = some (.int e4_o1) := Has.at H836 hin836 rfl
                    refine Go.st (S' := s₁.setTop (mkF m 22 A834 [(.int e4_o1)])) (fun t k => X0.baloadBooleans hx (j := (4 : Int32)) (v := (.int e4_o1)) (own_eh e0 Ar836.1) (State.isArrayOf_alike hZ.alike Ar836.2.1) Ar836.2.2 hin836 hat836 (g := (mkF m 21 A834 [(.int (4 : Int32)), (.ref o1)])) rfl rfl (hb hby dprog_62_method_2_code_21) t k) ?_
                    let A837 : Array Slot := #[.val (.ref o0), .val (.ref o1), .val (.int r830), .val (.ref o1), .val (.int z_o1), .val (.int (4 : Int32)), .val (.int e4_o1)]
                    refine Go.st (S' := s₁.setTop (mkF m 24 A837 [])) (fun t k => XS.istore X0.here hx rfl (hb hby dprog_62_method_2_code_22) rfl (l' := A837) rfl k) ?_
                    refine Go.st (S' := s₁.setTop (mkF m 26 A837 [(.int e4_o1)])) (fun t k => XS.iload X0.here hx rfl (hb hby dprog_62_method_2_code_24) rfl k) ?_
                    obtain ⟨v840, hv840⟩ : ∃ z, z = (r830 + (1 : Int32)) := ⟨_, rfl⟩
                    refine Go.join (α := Int32) (fun r => (((e4_o1 = (0 : Int32)) ∧ (r = r830)) ∨ ((¬ (e4_o1 = (0 : Int32))) ∧ (r = v840)))) (fun r => s₁.setTop (mkF m 32 #[.val (.ref o0), .val (.ref o1), .val (.int r), .val (.ref o1), .val (.int z_o1), .val (.int (4 : Int32)), .val (.int e4_o1)] [])) ?_ ?_
                    · intro r843 hc844
                      have hs845 : r843.toInt = (e0_o1).toInt + (e1_o1).toInt + (e2_o1).toInt + (e3_o1).toInt + (e4_o1).toInt := by
                        have rv840 := rng32 v840
                        have wv840 := c_iadd r830 (1 : Int32)
                        rw [← hv840] at wv840
                        have re4_o1 := rng32 e4_o1
                        have rr830 := rng32 r830
                        have rr843 := rng32 r843
                        have lI1 : (1 : Int32).toInt = 1 := by decide
                        have lI0_ : (0 : Int32).toInt = 0 := by decide
                        simp only [← Int32.toInt_inj] at hc844
                        omega
                      refine Go.op (F := fun z => s₁.setTop (mkF m 35 #[.val (.ref o0), .val (.ref o1), .val (.int r843), .val (.ref o1), .val (.int z_o1), .val (.int z), .val (.int e4_o1)] [])) (x := ((4 : Int32) + (1 : Int32))) (fun t k => XS.iinc X0.here hx rfl (hb hby dprog_62_method_2_code_32) rfl rfl k) ?_
                      intro v846 hv846
                      obtain rfl : (5 : Int32) = v846 := (hv846.trans (by decide)).symm
                      let A847 : Array Slot := #[.val (.ref o0), .val (.ref o1), .val (.int r843), .val (.ref o1), .val (.int z_o1), .val (.int (5 : Int32)), .val (.int e4_o1)]
                      refine Go.st (S' := s₁.setTop (mkF m 11 A847 [])) (fun t k => XS.goto X0.here hx rfl (pc0 := 35) (pc' := 11) rfl (hb hby dprog_62_method_2_code_35) (by decide) (by decide) k) ?_
                      refine Go.st (S' := s₁.setTop (mkF m 13 A847 [(.int (5 : Int32))])) (fun t k => XS.iload X0.here hx rfl (hb hby dprog_62_method_2_code_11) rfl k) ?_
                      refine Go.st (S' := s₁.setTop (mkF m 15 A847 [(.int z_o1), (.int (5 : Int32))])) (fun t k => XS.iload X0.here hx rfl (hb hby dprog_62_method_2_code_13) rfl k) ?_
                      by_cases hc848 : ((5 : Int32) < z_o1)
                      · refine Go.st (S' := s₁.setTop (mkF m 18 A847 [])) (fun t k => XS.icmpNo X0.here hx rfl (hb hby dprog_62_method_2_code_15) rfl (tlt hc848).2.1 k) ?_
                        refine Go.st (S' := s₁.setTop (mkF m 19 A847 [(.ref o1)])) (fun t k => XS.aloadN X0.here hx rfl (hb hby dprog_62_method_2_code_18) rfl rfl k) ?_
                        refine Go.st (S' := s₁.setTop (mkF m 21 A847 [(.int (5 : Int32)), (.ref o1)])) (fun t k => XS.iload X0.here hx rfl (hb hby dprog_62_method_2_code_19) rfl k) ?_
                        obtain ⟨cl849, Ar849, -, S849, N849_, H849, -⟩ := id V_o1
                        have hin849 : ¬ ((5 : Int32) < 0 ∨ cl849.slots.size ≤ ((5 : Int32)).toNatClampNeg) := inb_of S849 ⟨by decide, hc848⟩
                        have hat849 : cl849.slots[((5 : Int32)).toNatClampNeg]? = some (.int e5_o1) := Has.at H849 hin849 rfl
                        refine Go.st (S' := s₁.setTop (mkF m 22 A847 [(.int e5_o1)])) (fun t k => X0.baloadBooleans hx (j := (5 : Int32)) (v := (.int e5_o1)) (own_eh e0 Ar849.1) (State.isArrayOf_alike hZ.alike Ar849.2.1) Ar849.2.2 hin849 hat849 (g := (mkF m 21 A847 [(.int (5 : Int32)), (.ref o1)])) rfl rfl (hb hby dprog_62_method_2_code_21) t k) ?_
                        let A850 : Array Slot := #[.val (.ref o0), .val (.ref o1), .val (.int r843), .val (.ref o1), .val (.int z_o1), .val (.int (5 : Int32)), .val (.int e5_o1)]
                        refine Go.st (S' := s₁.setTop (mkF m 24 A850 [])) (fun t k => XS.istore X0.here hx rfl (hb hby dprog_62_method_2_code_22) rfl (l' := A850) rfl k) ?_
                        refine Go.st (S' := s₁.setTop (mkF m 26 A850 [(.int e5_o1)])) (fun t k => XS.iload X0.here hx rfl (hb hby dprog_62_method_2_code_24) rfl k) ?_
                        obtain ⟨v853, hv853⟩ : ∃ z, z = (r843 + (1 : Int32)) := ⟨_, rfl⟩
                        refine Go.join (α := Int32) (fun r => (((e5_o1 = (0 : Int32)) ∧ (r = r843)) ∨ ((¬ (e5_o1 = (0 : Int32))) ∧ (r = v853)))) (fun r => s₁.setTop (mkF m 32 #[.val (.ref o0), .val (.ref o1), .val (.int r), .val (.ref o1), .val (.int z_o1), .val (.int (5 : Int32)), .val (.int e5_o1)] [])) ?_ ?_
                        · intro r856 hc857
                          have hs858 : r856.toInt = (e0_o1).toInt + (e1_o1).toInt + (e2_o1).toInt + (e3_o1).toInt + (e4_o1).toInt + (e5_o1).toInt := by
                            have rv853 := rng32 v853
                            have wv853 := c_iadd r843 (1 : Int32)
                            rw [← hv853] at wv853
                            have re5_o1 := rng32 e5_o1
                            have rr843 := rng32 r843
                            have rr856 := rng32 r856
                            have lI1 : (1 : Int32).toInt = 1 := by decide
                            have lI0_ : (0 : Int32).toInt = 0 := by decide
                            simp only [← Int32.toInt_inj] at hc857
                            omega
                          refine Go.op (F := fun z => s₁.setTop (mkF m 35 #[.val (.ref o0), .val (.ref o1), .val (.int r856), .val (.ref o1), .val (.int z_o1), .val (.int z), .val (.int e5_o1)] [])) (x := ((5 : Int32) + (1 : Int32))) (fun t k => XS.iinc X0.here hx rfl (hb hby dprog_62_method_2_code_32) rfl rfl k) ?_
                          intro v859 hv859
                          obtain rfl : (6 : Int32) = v859 := (hv859.trans (by decide)).symm
                          let A860 : Array Slot := #[.val (.ref o0), .val (.ref o1), .val (.int r856), .val (.ref o1), .val (.int z_o1), .val (.int (6 : Int32)), .val (.int e5_o1)]
                          refine Go.st (S' := s₁.setTop (mkF m 11 A860 [])) (fun t k => XS.goto X0.here hx rfl (pc0 := 35) (pc' := 11) rfl (hb hby dprog_62_method_2_code_35) (by decide) (by decide) k) ?_
                          refine Go.st (S' := s₁.setTop (mkF m 13 A860 [(.int (6 : Int32))])) (fun t k => XS.iload X0.here hx rfl (hb hby dprog_62_method_2_code_11) rfl k) ?_
                          refine Go.st (S' := s₁.setTop (mkF m 15 A860 [(.int z_o1), (.int (6 : Int32))])) (fun t k => XS.iload X0.here hx rfl (hb hby dprog_62_method_2_code_13) rfl k) ?_
                          by_cases hc861 : ((6 : Int32) < z_o1)
                          · refine Go.st (S' := s₁.setTop (mkF m 18 A860 [])) (fun t k => XS.icmpNo X0.here hx rfl (hb hby dprog_62_method_2_code_15) rfl (tlt hc861).2.1 k) ?_
                            refine Go.st (S' := s₁.setTop (mkF m 19 A860 [(.ref o1)])) (fun t k => XS.aloadN X0.here hx rfl (hb hby dprog_62_method_2_code_18) rfl rfl k) ?_
                            refine Go.st (S' := s₁.setTop (mkF m 21 A860 [(.int (6 : Int32)), (.ref o1)])) (fun t k => XS.iload X0.here hx rfl (hb hby dprog_62_method_2_code_19) rfl k) ?_
                            obtain ⟨cl862, Ar862, -, S862, N862_, H862, -⟩ := id V_o1
                            have hin862 : ¬ ((6 : Int32) < 0 ∨ cl862.slots.size ≤ ((6 : Int32)).toNatClampNeg) := inb_of S862 ⟨by decide, hc861⟩
                            have hat862 : cl862.slots[((6 : Int32)).toNatClampNeg]? = some (.int e6_o1) := Has.at H862 hin862 rfl
                            refine Go.st (S' := s₁.setTop (mkF m 22 A860 [(.int e6_o1)])) (fun t k => X0.baloadBooleans hx (j := (6 : Int32)) (v := (.int e6_o1)) (own_eh e0 Ar862.1) (State.isArrayOf_alike hZ.alike Ar862.2.1) Ar862.2.2 hin862 hat862 (g := (mkF m 21 A860 [(.int (6 : Int32)), (.ref o1)])) rfl rfl (hb hby dprog_62_method_2_code_21) t k) ?_
                            let A863 : Array Slot := #[.val (.ref o0), .val (.ref o1), .val (.int r856), .val (.ref o1), .val (.int z_o1), .val (.int (6 : Int32)), .val (.int e6_o1)]
                            refine Go.st (S' := s₁.setTop (mkF m 24 A863 [])) (fun t k => XS.istore X0.here hx rfl (hb hby dprog_62_method_2_code_22) rfl (l' := A863) rfl k) ?_
                            refine Go.st (S' := s₁.setTop (mkF m 26 A863 [(.int e6_o1)])) (fun t k => XS.iload X0.here hx rfl (hb hby dprog_62_method_2_code_24) rfl k) ?_
                            obtain ⟨v866, hv866⟩ : ∃ z, z = (r856 + (1 : Int32)) := ⟨_, rfl⟩
                            refine Go.join (α := Int32) (fun r => (((e6_o1 = (0 : Int32)) ∧ (r = r856)) ∨ ((¬ (e6_o1 = (0 : Int32))) ∧ (r = v866)))) (fun r => s₁.setTop (mkF m 32 #[.val (.ref o0), .val (.ref o1), .val (.int r), .val (.ref o1), .val (.int z_o1), .val (.int (6 : Int32)), .val (.int e6_o1)] [])) ?_ ?_
                            · intro r869 hc870
                              have hs871 : r869.toInt = (e0_o1).toInt + (e1_o1).toInt + (e2_o1).toInt + (e3_o1).toInt + (e4_o1).toInt + (e5_o1).toInt + (e6_o1).toInt := by
                                have rv866 := rng32 v866
                                have wv866 := c_iadd r856 (1 : Int32)
                                rw [← hv866] at wv866
                                have re6_o1 := rng32 e6_o1
                                have rr856 := rng32 r856
                                have rr869 := rng32 r869
                                have lI1 : (1 : Int32).toInt = 1 := by decide
                                have lI0_ : (0 : Int32).toInt = 0 := by decide
                                simp only [← Int32.toInt_inj] at hc870
                                omega
                              refine Go.op (F := fun z => s₁.setTop (mkF m 35 #[.val (.ref o0), .val (.ref o1), .val (.int r869), .val (.ref o1), .val (.int z_o1), .val (.int z), .val (.int e6_o1)] [])) (x := ((6 : Int32) + (1 : Int32))) (fun t k => XS.iinc X0.here hx rfl (hb hby dprog_62_method_2_code_32) rfl rfl k) ?_
                              intro v872 hv872
                              obtain rfl : (7 : Int32) = v872 := (hv872.trans (by decide)).symm
                              let A873 : Array Slot := #[.val (.ref o0), .val (.ref o1), .val (.int r869), .val (.ref o1), .val (.int z_o1), .val (.int (7 : Int32)), .val (.int e6_o1)]
                              refine Go.st (S' := s₁.setTop (mkF m 11 A873 [])) (fun t k => XS.goto X0.here hx rfl (pc0 := 35) (pc' := 11) rfl (hb hby dprog_62_method_2_code_35) (by decide) (by decide) k) ?_
                              refine Go.st (S' := s₁.setTop (mkF m 13 A873 [(.int (7 : Int32))])) (fun t k => XS.iload X0.here hx rfl (hb hby dprog_62_method_2_code_11) rfl k) ?_
                              refine Go.st (S' := s₁.setTop (mkF m 15 A873 [(.int z_o1), (.int (7 : Int32))])) (fun t k => XS.iload X0.here hx rfl (hb hby dprog_62_method_2_code_13) rfl k) ?_
                              by_cases hc874 : ((7 : Int32) < z_o1)
                              · refine Go.st (S' := s₁.setTop (mkF m 18 A873 [])) (fun t k => XS.icmpNo X0.here hx rfl (hb hby dprog_62_method_2_code_15) rfl (tlt hc874).2.1 k) ?_
                                refine Go.st (S' := s₁.setTop (mkF m 19 A873 [(.ref o1)])) (fun t k => XS.aloadN X0.here hx rfl (hb hby dprog_62_method_2_code_18) rfl rfl k) ?_
                                refine Go.st (S' := s₁.setTop (mkF m 21 A873 [(.int (7 : Int32)), (.ref o1)])) (fun t k => XS.iload X0.here hx rfl (hb hby dprog_62_method_2_code_19) rfl k) ?_
                                obtain ⟨cl875, Ar875, -, S875, N875_, H875, -⟩ := id V_o1
                                have hin875 : ¬ ((7 : Int32) < 0 ∨ cl875.slots.size ≤ ((7 : Int32)).toNatClampNeg) := inb_of S875 ⟨by decide, hc874⟩
                                have hat875 : cl875.slots[((7 : Int32)).toNatClampNeg]? = some (.int e7_o1) := Has.at H875 hin875 rfl
                                refine Go.st (S' := s₁.setTop (mkF m 22 A873 [(.int e7_o1)])) (fun t k => X0.baloadBooleans hx (j := (7 : Int32)) (v := (.int e7_o1)) (own_eh e0 Ar875.1) (State.isArrayOf_alike hZ.alike Ar875.2.1) Ar875.2.2 hin875 hat875 (g := (mkF m 21 A873 [(.int (7 : Int32)), (.ref o1)])) rfl rfl (hb hby dprog_62_method_2_code_21) t k) ?_
                                let A876 : Array Slot := #[.val (.ref o0), .val (.ref o1), .val (.int r869), .val (.ref o1), .val (.int z_o1), .val (.int (7 : Int32)), .val (.int e7_o1)]
                                refine Go.st (S' := s₁.setTop (mkF m 24 A876 [])) (fun t k => XS.istore X0.here hx rfl (hb hby dprog_62_method_2_code_22) rfl (l' := A876) rfl k) ?_
                                refine Go.st (S' := s₁.setTop (mkF m 26 A876 [(.int e7_o1)])) (fun t k => XS.iload X0.here hx rfl (hb hby dprog_62_method_2_code_24) rfl k) ?_
                                obtain ⟨v879, hv879⟩ : ∃ z, z = (r869 + (1 : Int32)) := ⟨_, rfl⟩
                                refine Go.join (α := Int32) (fun r => (((e7_o1 = (0 : Int32)) ∧ (r = r869)) ∨ ((¬ (e7_o1 = (0 : Int32))) ∧ (r = v879)))) (fun r => s₁.setTop (mkF m 32 #[.val (.ref o0), .val (.ref o1), .val (.int r), .val (.ref o1), .val (.int z_o1), .val (.int (7 : Int32)), .val (.int e7_o1)] [])) ?_ ?_
                                · intro r882 hc883
                                  have hs884 : r882.toInt = (e0_o1).toInt + (e1_o1).toInt + (e2_o1).toInt + (e3_o1).toInt + (e4_o1).toInt + (e5_o1).toInt + (e6_o1).toInt + (e7_o1).toInt := by
                                    have rv879 := rng32 v879
                                    have wv879 := c_iadd r869 (1 : Int32)
                                    rw [← hv879] at wv879
                                    have re7_o1 := rng32 e7_o1
                                    have rr869 := rng32 r869
                                    have rr882 := rng32 r882
                                    have lI1 : (1 : Int32).toInt = 1 := by decide
                                    have lI0_ : (0 : Int32).toInt = 0 := by decide
                                    simp only [← Int32.toInt_inj] at hc883
                                    omega
                                  refine Go.op (F := fun z => s₁.setTop (mkF m 35 #[.val (.ref o0), .val (.ref o1), .val (.int r882), .val (.ref o1), .val (.int z_o1), .val (.int z), .val (.int e7_o1)] [])) (x := ((7 : Int32) + (1 : Int32))) (fun t k => XS.iinc X0.here hx rfl (hb hby dprog_62_method_2_code_32) rfl rfl k) ?_
                                  intro v885 hv885
                                  obtain rfl : (8 : Int32) = v885 := (hv885.trans (by decide)).symm
                                  let A886 : Array Slot := #[.val (.ref o0), .val (.ref o1), .val (.int r882), .val (.ref o1), .val (.int z_o1), .val (.int (8 : Int32)), .val (.int e7_o1)]
                                  refine Go.st (S' := s₁.setTop (mkF m 11 A886 [])) (fun t k => XS.goto X0.here hx rfl (pc0 := 35) (pc' := 11) rfl (hb hby dprog_62_method_2_code_35) (by decide) (by decide) k) ?_
                                  refine Go.st (S' := s₁.setTop (mkF m 13 A886 [(.int (8 : Int32))])) (fun t k => XS.iload X0.here hx rfl (hb hby dprog_62_method_2_code_11) rfl k) ?_
                                  refine Go.st (S' := s₁.setTop (mkF m 15 A886 [(.int z_o1), (.int (8 : Int32))])) (fun t k => XS.iload X0.here hx rfl (hb hby dprog_62_method_2_code_13) rfl k) ?_
                                  refine Go.st (S' := s₁.setTop (mkF m 38 A886 [])) (fun t k => XS.icmpYes X0.here hx rfl (pc0 := 15) (pc' := 38) rfl (hb hby dprog_62_method_2_code_15) rfl (flt hrb_z_o1).2.1 (by decide) (by decide) k) ?_
                                  refine Go.st (S' := s₁.setTop (mkF m 39 A886 [(.int r882)])) (fun t k => XS.iloadN X0.here hx rfl (hb hby dprog_62_method_2_code_38) rfl k) ?_
                                  obtain ⟨v887, hv887⟩ : ∃ z, z = r882.toInt64 := ⟨_, rfl⟩
                                  refine Go.st (S' := s₁.setTop (mkF m 40 A886 [(.double (FP.l2d v887))])) (fun t k => XS.i2dS X0.here hx rfl (hb hby dprog_62_method_2_code_39) rfl ((i2d_w _).trans (by rw [hv887])) k) ?_
                                  exact Go.ret X0 (v := some (.double (FP.l2d v887))) (fun h => by rw [Bd.returns] at h; cases h) Bd.notSynchronized (fun fs hr => retOut X0 hx Bd.returns rfl (Or.inr (Or.inr (Or.inl ⟨rfl, rfl, _, rfl⟩))) (hb hby dprog_62_method_2_code_40) hr) (by decide) (by decide) (⟨v887, (by have w_ := c_i2l r882; rw [← hv887] at w_; simp only [Int32.lt_iff_toInt_lt] at hrb_z_o1; have l_ : (8 : Int32).toInt = 8 := (by decide); omega), rfl, N0, e0⟩)
                                · intro J888
                                  by_cases hc889 : (e7_o1 = (0 : Int32))
                                  · refine Go.st (S' := s₁.setTop (mkF m 32 A876 [])) (fun t k => XS.ifYes X0.here hx rfl (pc0 := 26) (pc' := 32) rfl (hb hby dprog_62_method_2_code_26) rfl ((if0 _ _).trans (teq hc889).1) (by decide) (by decide) k) ?_
                                    exact J888 (r869) (Or.inl ⟨hc889, rfl⟩)
                                  · refine Go.st (S' := s₁.setTop (mkF m 29 A876 [])) (fun t k => XS.ifNo X0.here hx rfl (hb hby dprog_62_method_2_code_26) rfl ((if0 _ _).trans (feq hc889).1) k) ?_
                                    refine Go.op (F := fun z => s₁.setTop (mkF m 32 #[.val (.ref o0), .val (.ref o1), .val (.int z), .val (.ref o1), .val (.int z_o1), .val (.int (7 : Int32)), .val (.int e7_o1)] [])) (x := (r869 + (1 : Int32))) (fun t k => XS.iinc X0.here hx rfl (hb hby dprog_62_method_2_code_29) rfl rfl k) ?_
                                    intro v890 hv890
                                    obtain rfl : v879 = v890 := hv879.trans hv890.symm
                                    exact J888 (v879) (Or.inr ⟨hc889, rfl⟩)
                              · refine Go.st (S' := s₁.setTop (mkF m 38 A873 [])) (fun t k => XS.icmpYes X0.here hx rfl (pc0 := 15) (pc' := 38) rfl (hb hby dprog_62_method_2_code_15) rfl (flt hc874).2.1 (by decide) (by decide) k) ?_
                                refine Go.st (S' := s₁.setTop (mkF m 39 A873 [(.int r869)])) (fun t k => XS.iloadN X0.here hx rfl (hb hby dprog_62_method_2_code_38) rfl k) ?_
                                obtain ⟨v891, hv891⟩ : ∃ z, z = r869.toInt64 := ⟨_, rfl⟩
                                refine Go.st (S' := s₁.setTop (mkF m 40 A873 [(.double (FP.l2d v891))])) (fun t k => XS.i2dS X0.here hx rfl (hb hby dprog_62_method_2_code_39) rfl ((i2d_w _).trans (by rw [hv891])) k) ?_
                                exact Go.ret X0 (v := some (.double (FP.l2d v891))) (fun h => by rw [Bd.returns] at h; cases h) Bd.notSynchronized (fun fs hr => retOut X0 hx Bd.returns rfl (Or.inr (Or.inr (Or.inl ⟨rfl, rfl, _, rfl⟩))) (hb hby dprog_62_method_2_code_40) hr) (by decide) (by decide) (⟨v891, (by have w_ := c_i2l r869; rw [← hv891] at w_; simp only [Int32.lt_iff_toInt_lt] at hc874; have l_ : (7 : Int32).toInt = 7 := (by decide); omega), rfl, N0, e0⟩)
                            · intro J892
                              by_cases hc893 : (e6_o1 = (0 : Int32))
                              · refine Go.st (S' := s₁.setTop (mkF m 32 A863 [])) (fun t k => XS.ifYes X0.here hx rfl (pc0 := 26) (pc' := 32) rfl (hb hby dprog_62_method_2_code_26) rfl ((if0 _ _).trans (teq hc893).1) (by decide) (by decide) k) ?_
                                exact J892 (r856) (Or.inl ⟨hc893, rfl⟩)
                              · refine Go.st (S' := s₁.setTop (mkF m 29 A863 [])) (fun t k => XS.ifNo X0.here hx rfl (hb hby dprog_62_method_2_code_26) rfl ((if0 _ _).trans (feq hc893).1) k) ?_
                                refine Go.op (F := fun z => s₁.setTop (mkF m 32 #[.val (.ref o0), .val (.ref o1), .val (.int z), .val (.ref o1), .val (.int z_o1), .val (.int (6 : Int32)), .val (.int e6_o1)] [])) (x := (r856 + (1 : Int32))) (fun t k => XS.iinc X0.here hx rfl (hb hby dprog_62_method_2_code_29) rfl rfl k) ?_
                                intro v894 hv894
                                obtain rfl : v866 = v894 := hv866.trans hv894.symm
                                exact J892 (v866) (Or.inr ⟨hc893, rfl⟩)
                          · refine Go.st (S' := s₁.setTop (mkF m 38 A860 [])) (fun t k => XS.icmpYes X0.here hx rfl (pc0 := 15) (pc' := 38) rfl (hb hby dprog_62_method_2_code_15) rfl (flt hc861).2.1 (by decide) (by decide) k) ?_
                            refine Go.st (S' := s₁.setTop (mkF m 39 A860 [(.int r856)])) (fun t k => XS.iloadN X0.here hx rfl (hb hby dprog_62_method_2_code_38) rfl k) ?_
                            obtain ⟨v895, hv895⟩ : ∃ z, z = r856.toInt64 := ⟨_, rfl⟩
                            refine Go.st (S' := s₁.setTop (mkF m 40 A860 [(.double (FP.l2d v895))])) (fun t k => XS.i2dS X0.here hx rfl (hb hby dprog_62_method_2_code_39) rfl ((i2d_w _).trans (by rw [hv895])) k) ?_
                            exact Go.ret X0 (v := some (.double (FP.l2d v895))) (fun h => by rw [Bd.returns] at h; cases h) Bd.notSynchronized (fun fs hr => retOut X0 hx Bd.returns rfl (Or.inr (Or.inr (Or.inl ⟨rfl, rfl, _, rfl⟩))) (hb hby dprog_62_method_2_code_40) hr) (by decide) (by decide) (⟨v895, (by have w_ := c_i2l r856; rw [← hv895] at w_; simp only [Int32.lt_iff_toInt_lt] at hc861; have l_ : (6 : Int32).toInt = 6 := (by decide); omega), rfl, N0, e0⟩)
                        · intro J896
                          by_cases hc897 : (e5_o1 = (0 : Int32))
                          · refine Go.st (S' := s₁.setTop (mkF m 32 A850 [])) (fun t k => XS.ifYes X0.here hx rfl (pc0 := 26) (pc' := 32) rfl (hb hby dprog_62_method_2_code_26) rfl ((if0 _ _).trans (teq hc897).1) (by decide) (by decide) k) ?_
                            exact J896 (r843) (Or.inl ⟨hc897, rfl⟩)
                          · refine Go.st (S' := s₁.setTop (mkF m 29 A850 [])) (fun t k => XS.ifNo X0.here hx rfl (hb hby dprog_62_method_2_code_26) rfl ((if0 _ _).trans (feq hc897).1) k) ?_
                            refine Go.op (F := fun z => s₁.setTop (mkF m 32 #[.val (.ref o0), .val (.ref o1), .val (.int z), .val (.ref o1), .val (.int z_o1), .val (.int (5 : Int32)), .val (.int e5_o1)] [])) (x := (r843 + (1 : Int32))) (fun t k => XS.iinc X0.here hx rfl (hb hby dprog_62_method_2_code_29) rfl rfl k) ?_
                            intro v898 hv898
                            obtain rfl : v853 = v898 := hv853.trans hv898.symm
                            exact J896 (v853) (Or.inr ⟨hc897, rfl⟩)
                      · refine Go.st (S' := s₁.setTop (mkF m 38 A847 [])) (fun t k => XS.icmpYes X0.here hx rfl (pc0 := 15) (pc' := 38) rfl (hb hby dprog_62_method_2_code_15) rfl (flt hc848).2.1 (by decide) (by decide) k) ?_
                        refine Go.st (S' := s₁.setTop (mkF m 39 A847 [(.int r843)])) (fun t k => XS.iloadN X0.here hx rfl (hb hby dprog_62_method_2_code_38) rfl k) ?_
                        obtain ⟨v899, hv899⟩ : ∃ z, z = r843.toInt64 := ⟨_, rfl⟩
                        refine Go.st (S' := s₁.setTop (mkF m 40 A847 [(.double (FP.l2d v899))])) (fun t k => XS.i2dS X0.here hx rfl (hb hby dprog_62_method_2_code_39) rfl ((i2d_w _).trans (by rw [hv899])) k) ?_
                        exact Go.ret X0 (v := some (.double (FP.l2d v899))) (fun h => by rw [Bd.returns] at h; cases h) Bd.notSynchronized (fun fs hr => retOut X0 hx Bd.returns rfl (Or.inr (Or.inr (Or.inl ⟨rfl, rfl, _, rfl⟩))) (hb hby dprog_62_method_2_code_40) hr) (by decide) (by decide) (⟨v899, (by have w_ := c_i2l r843; rw [← hv899] at w_; simp only [Int32.lt_iff_toInt_lt] at hc848; have l_ : (5 : Int32).toInt = 5 := (by decide); omega), rfl, N0, e0⟩)
                    · intro J900
                      by_cases hc901 : (e4_o1 = (0 : Int32))
                      · refine Go.st (S' := s₁.setTop (mkF m 32 A837 [])) (fun t k => XS.ifYes X0.here hx rfl (pc0 := 26) (pc' := 32) rfl (hb hby dprog_62_method_2_code_26) rfl ((if0 _ _).trans (teq hc901).1) (by decide) (by decide) k) ?_
                        exact J900 (r830) (Or.inl ⟨hc901, rfl⟩)
                      · refine Go.st (S' := s₁.setTop (mkF m 29 A837 [])) (fun t k => XS.ifNo X0.here hx rfl (hb hby dprog_62_method_2_code_26) rfl ((if0 _ _).trans (feq hc901).1) k) ?_
                        refine Go.op (F := fun z => s₁.setTop (mkF m 32 #[.val (.ref o0), .val (.ref o1), .val (.int z), .val (.ref o1), .val (.int z_o1), .val (.int (4 : Int32)), .val (.int e4_o1)] [])) (x := (r830 + (1 : Int32))) (fun t k => XS.iinc X0.here hx rfl (hb hby dprog_62_method_2_code_29) rfl rfl k) ?_
                        intro v902 hv902
                        obtain rfl : v840 = v902 := hv840.trans hv902.symm
                        exact J900 (v840) (Or.inr ⟨hc901, rfl⟩)
                  · refine Go.st (S' := s₁.setTop (mkF m 38 A834 [])) (fun t k => XS.icmpYes X0.here hx rfl (pc0 := 15) (pc' := 38) rfl (hb hby dprog_62_method_2_code_15) rfl (flt hc835).2.1 (by decide) (by decide) k) ?_
                    refine Go.st (S' := s₁.setTop (mkF m 39 A834 [(.int r830)])) (fun t k => XS.iloadN X0.here hx rfl (hb hby dprog_62_method_2_code_38) rfl k) ?_
                    obtain ⟨v903, hv903⟩ : ∃ z, z = r830.toInt64 := ⟨_, rfl⟩
                    refine Go.st (S' := s₁.setTop (mkF m 40 A834 [(.double (FP.l2d v903))])) (fun t k => XS.i2dS X0.here hx rfl (hb hby dprog_62_method_2_code_39) rfl ((i2d_w _).trans (by rw [hv903])) k) ?_
                    exact Go.ret X0 (v := some (.double (FP.l2d v903))) (fun h => by rw [Bd.returns] at h; cases h) Bd.notSynchronized (fun fs hr => retOut X0 hx Bd.returns rfl (Or.inr (Or.inr (Or.inl ⟨rfl, rfl, _, rfl⟩))) (hb hby dprog_62_method_2_code_40) hr) (by decide) (by decide) (⟨v903, (by have w_ := c_i2l r830; rw [← hv903] at w_; simp only [Int32.lt_iff_toInt_lt] at hc835; have l_ : (4 : Int32).toInt = 4 := (by decide); omega), rfl, N0, e0⟩)
                · intro J904
                  by_cases hc905 : (e3_o1 = (0 : Int32))
                  · refine Go.st (S' := s₁.setTop (mkF m 32 A824 [])) (fun t k => XS.ifYes X0.here hx rfl (pc0 := 26) (pc' := 32) rfl (hb hby dprog_62_method_2_code_26) rfl ((if0 _ _).trans (teq hc905).1) (by decide) (by decide) k) ?_
                    exact J904 (r817) (Or.inl ⟨hc905, rfl⟩)
                  · refine Go.st (S' := s₁.setTop (mkF m 29 A824 [])) (fun t k => XS.ifNo X0.here hx rfl (hb hby dprog_62_method_2_code_26) rfl ((if0 _ _).trans (feq hc905).1) k) ?_
                    refine Go.op (F := fun z => s₁.setTop (mkF m 32 #[.val (.ref o0), .val (.ref o1), .val (.int z), .val (.ref o1), .val (.int z_o1), .val (.int (3 : Int32)), .val (.int e3_o1)] [])) (x := (r817 + (1 : Int32))) (fun t k => XS.iinc X0.here hx rfl (hb hby dprog_62_method_2_code_29) rfl rfl k) ?_
                    intro v906 hv906
                    obtain rfl : v827 = v906 := hv827.trans hv906.symm
                    exact J904 (v827) (Or.inr ⟨hc905, rfl⟩)
              · refine Go.st (S' := s₁.setTop (mkF m 38 A821 [])) (fun t k => XS.icmpYes X0.here hx rfl (pc0 := 15) (pc' := 38) rfl (hb hby dprog_62_method_2_code_15) rfl (flt hc822).2.1 (by decide) (by decide) k) ?_
                refine Go.st (S' := s₁.setTop (mkF m 39 A821 [(.int r817)])) (fun t k => XS.iloadN X0.here hx rfl (hb hby dprog_62_method_2_code_38) rfl k) ?_
                obtain ⟨v907, hv907⟩ : ∃ z, z = r817.toInt64 := ⟨_, rfl⟩
                refine Go.st (S' := s₁.setTop (mkF m 40 A821 [(.double (FP.l2d v907))])) (fun t k => XS.i2dS X0.here hx rfl (hb hby dprog_62_method_2_code_39) rfl ((i2d_w _).trans (by rw [hv907])) k) ?_
                exact Go.ret X0 (v := some (.double (FP.l2d v907))) (fun h => by rw [Bd.returns] at h; cases h) Bd.notSynchronized (fun fs hr => retOut X0 hx Bd.returns rfl (Or.inr (Or.inr (Or.inl ⟨rfl, rfl, _, rfl⟩))) (hb hby dprog_62_method_2_code_40) hr) (by decide) (by decide) (⟨v907, (by have w_ := c_i2l r817; rw [← hv907] at w_; simp only [Int32.lt_iff_toInt_lt] at hc822; have l_ : (3 : Int32).toInt = 3 := (by decide); omega), rfl, N0, e0⟩)
            · intro J908
              by_cases hc909 : (e2_o1 = (0 : Int32))
              · refine Go.st (S' := s₁.setTop (mkF m 32 A811 [])) (fun t k => XS.ifYes X0.here hx rfl (pc0 := 26) (pc' := 32) rfl (hb hby dprog_62_method_2_code_26) rfl ((if0 _ _).trans (teq hc909).1) (by decide) (by decide) k) ?_
                exact J908 (r804) (Or.inl ⟨hc909, rfl⟩)
              · refine Go.st (S' := s₁.setTop (mkF m 29 A811 [])) (fun t k => XS.ifNo X0.here hx rfl (hb hby dprog_62_method_2_code_26) rfl ((if0 _ _).trans (feq hc909).1) k) ?_
                refine Go.op (F := fun z => s₁.setTop (mkF m 32 #[.val (.ref o0), .val (.ref o1), .val (.int z), .val (.ref o1), .val (.int z_o1), .val (.int (2 : Int32)), .val (.int e2_o1)] [])) (x := (r804 + (1 : Int32))) (fun t k => XS.iinc X0.here hx rfl (hb hby dprog_62_method_2_code_29) rfl rfl k) ?_
                intro v910 hv910
                obtain rfl : v814 = v910 := hv814.trans hv910.symm
                exact J908 (v814) (Or.inr ⟨hc909, rfl⟩)
          · refine Go.st (S' := s₁.setTop (mkF m 38 A808 [])) (fun t k => XS.icmpYes X0.here hx rfl (pc0 := 15) (pc' := 38) rfl (hb hby dprog_62_method_2_code_15) rfl (flt hc809).2.1 (by decide) (by decide) k) ?_
            refine Go.st (S' := s₁.setTop (mkF m 39 A808 [(.int r804)])) (fun t k => XS.iloadN X0.here hx rfl (hb hby dprog_62_method_2_code_38) rfl k) ?_
            obtain ⟨v911, hv911⟩ : ∃ z, z = r804.toInt64 := ⟨_, rfl⟩
            refine Go.st (S' := s₁.setTop (mkF m 40 A808 [(.double (FP.l2d v911))])) (fun t k => XS.i2dS X0.here hx rfl (hb hby dprog_62_method_2_code_39) rfl ((i2d_w _).trans (by rw [hv911])) k) ?_
            exact Go.ret X0 (v := some (.double (FP.l2d v911))) (fun h => by rw [Bd.returns] at h; cases h) Bd.notSynchronized (fun fs hr => retOut X0 hx Bd.returns rfl (Or.inr (Or.inr (Or.inl ⟨rfl, rfl, _, rfl⟩))) (hb hby dprog_62_method_2_code_40) hr) (by decide) (by decide) (⟨v911, (by have w_ := c_i2l r804; rw [← hv911] at w_; simp only [Int32.lt_iff_toInt_lt] at hc809; have l_ : (2 : Int32).toInt = 2 := (by decide); omega), rfl, N0, e0⟩)
        · intro J912
          by_cases hc913 : (e1_o1 = (0 : Int32))
          · refine Go.st (S' := s₁.setTop (mkF m 32 A798 [])) (fun t k => XS.ifYes X0.here hx rfl (pc0 := 26) (pc' := 32) rfl (hb hby dprog_62_method_2_code_26) rfl ((if0 _ _).trans (teq hc913).1) (by decide) (by decide) k) ?_
            exact J912 (r791) (Or.inl ⟨hc913, rfl⟩)
          · refine Go.st (S' := s₁.setTop (mkF m 29 A798 [])) (fun t k => XS.ifNo X0.here hx rfl (hb hby dprog_62_method_2_code_26) rfl ((if0 _ _).trans (feq hc913).1) k) ?_
            refine Go.op (F := fun z => s₁.setTop (mkF m 32 #[.val (.ref o0), .val (.ref o1), .val (.int z), .val (.ref o1), .val (.int z_o1), .val (.int (1 : Int32)), .val (.int e1_o1)] [])) (x := (r791 + (1 : Int32))) (fun t k => XS.iinc X0.here hx rfl (hb hby dprog_62_method_2_code_29) rfl rfl k) ?_
            intro v914 hv914
            obtain rfl : v801 = v914 := hv801.trans hv914.symm
            exact J912 (v801) (Or.inr ⟨hc913, rfl⟩)
      · refine Go.st (S' := s₁.setTop (mkF m 38 A795 [])) (fun t k => XS.icmpYes X0.here hx rfl (pc0 := 15) (pc' := 38) rfl (hb hby dprog_62_method_2_code_15) rfl (flt hc796).2.1 (by decide) (by decide) k) ?_
        refine Go.st (S' := s₁.setTop (mkF m 39 A795 [(.int r791)])) (fun t k => XS.iloadN X0.here hx rfl (hb hby dprog_62_method_2_code_38) rfl k) ?_
        obtain ⟨v915, hv915⟩ : ∃ z, z = r791.toInt64 := ⟨_, rfl⟩
        refine Go.st (S' := s₁.setTop (mkF m 40 A795 [(.double (FP.l2d v915))])) (fun t k => XS.i2dS X0.here hx rfl (hb hby dprog_62_method_2_code_39) rfl ((i2d_w _).trans (by rw [hv915])) k) ?_
        exact Go.ret X0 (v := some (.double (FP.l2d v915))) (fun h => by rw [Bd.returns] at h; cases h) Bd.notSynchronized (fun fs hr => retOut X0 hx Bd.returns rfl (Or.inr (Or.inr (Or.inl ⟨rfl, rfl, _, rfl⟩))) (hb hby dprog_62_method_2_code_40) hr) (by decide) (by decide) (⟨v915, (by have w_ := c_i2l r791; rw [← hv915] at w_; simp only [Int32.lt_iff_toInt_lt] at hc796; have l_ : (1 : Int32).toInt = 1 := (by decide); omega), rfl, N0, e0⟩)
    · intro J916
      by_cases hc917 : (e0_o1 = (0 : Int32))
      · refine Go.st (S' := s₁.setTop (mkF m 32 A786 [])) (fun t k => XS.ifYes X0.here hx rfl (pc0 := 26) (pc' := 32) rfl (hb hby dprog_62_method_2_code_26) rfl ((if0 _ _).trans (teq hc917).1) (by decide) (by decide) k) ?_
        exact J916 ((0 : Int32)) (Or.inl ⟨hc917, rfl⟩)
      · refine Go.st (S' := s₁.setTop (mkF m 29 A786 [])) (fun t k => XS.ifNo X0.here hx rfl (hb hby dprog_62_method_2_code_26) rfl ((if0 _ _).trans (feq hc917).1) k) ?_
        refine Go.op (F := fun z => s₁.setTop (mkF m 32 #[.val (.ref o0), .val (.ref o1), .val (.int z), .val (.ref o1), .val (.int z_o1), .val (.int (0 : Int32)), .val (.int e0_o1)] [])) (x := ((0 : Int32) + (1 : Int32))) (fun t k => XS.iinc X0.here hx rfl (hb hby dprog_62_method_2_code_29) rfl rfl k) ?_
        intro v918 hv918
        obtain rfl : (1 : Int32) = v918 := (hv918.trans (by decide)).symm
        exact J916 ((1 : Int32)) (Or.inr ⟨hc917, rfl⟩)
  · exfalso
    have rz_o1 := rng32 z_o1
    have lI0 : (0 : Int32).toInt = 0 := by decide
    have lI1 : (1 : Int32).toInt = 1 := by decide
    have lI8 : (8 : Int32).toInt = 8 := by decide
    simp only [Int32.lt_iff_toInt_lt, Int64.lt_iff_toInt_lt, ← Int32.toInt_inj, ← Int64.toInt_inj] at hra_z_o1 hrb_z_o1 hc784
    omega
theorem ef_44 (m : MethodId) (p0 : Int32) (p2 : Int32) : entryFrame m #[(.int p0), (.int (0 : Int32)), (.int p2)] 3 = mkF m 0 #[.val (.int p0), .val (.int (0 : Int32)), .val (.int p2)] [] := by first | (simp [entryFrame, mkF, argsToLocals, Value.category, maxLocals]; done) | rfl
def Q44 (Z : State) (p0 : Int32) (p2 : Int32) (h0 : Heap) (n0 : Nat) (v : Option Value) (h : Heap) (L : List Loc) : Prop := (∃ (rv44 : Int32) (v925 : Int32) (v926 : Int32), v925 = ((p0.toUInt32 >>> ((0 : Int32) &&& 31).toUInt32).toInt32) ∧ v926 = (v925 &&& (1 : Int32)) ∧ ((((0 : Int32) < p2) ∧ (rv44 = v926)) ∨ ((¬ ((0 : Int32) < p2)) ∧ (rv44 = (0 : Int32)))) ∧ v = some (.int rv44) ∧ Fr n0 L ∧ h = h0)
set_option maxRecDepth 65536 in
set_option maxHeartbeats 40000000 in
theorem rm44 (l : Launch) (Z : State) (a0 : Array Value) (hw : ∀ d ∈ tables_1, d.before a0 Z = true) (ws : List Jvm.Cond) (p0 : Int32) (p2 : Int32) (h0 : Heap) (n0 : Nat) (Z0 : n0 ≤ h0.size)  :
    Con l Z (⟨"com/example/tuneless/tuneless/problem/OneMaxEvaluatePinLaw", "bit", "(III)I"⟩ : MethodName) method_3_code 3 (some .int) ws ({ frames := 0, cells := 0, slots := 0, locals := 0 } : Room) #[(.int p0), (.int (0 : Int32)), (.int p2)] h0 0 0 (Q44 Z p0 p2 h0 n0) := by
  refine MetFree.of_bodySF (plainFor_of_name pn_9) hisR ?_
  intro p e s m args below meth c s₁ Bd hml0 hP hK
  obtain ⟨rfl, hZ, hh⟩ := hP
  have hx := Bd.exec
  have hby := Bd.bytes
  have hml : c.maxLocals = 3 := hml0
  have hown : s.vm.findClass "com/example/tuneless/tuneless/problem/OneMaxEvaluatePinLaw" = some m.cls := findClass_of_methodNamed Bd.named
  have hnm := (name_of_methodNamed Bd.named Bd.method).1
  have X0 : Stand p l e ({ frames := 0, cells := 0, slots := 0, locals := 0 } : Room) s m #[(.int p0), (.int (0 : Int32)), (.int p2)] below meth c s₁ [] 0 0 := Stand.of_body Bd
  have e0 : s₁.heap = h0 := by rw [← hh, Bd.state]; rfl
  have N0 := Fr.nil n0
  refine Go.of ?_
  refine Go.st (S' := s₁.setTop (mkF m 0 #[.val (.int p0), .val (.int (0 : Int32)), .val (.int p2)] [])) (fun t k => castTop (ef_44 m p0 p2) k) ?_
  refine Go.st (S' := s₁.setTop (mkF m 1 #[.val (.int p0), .val (.int (0 : Int32)), .val (.int p2)] [(.int (0 : Int32))])) (fun t k => XS.iloadN X0.here hx rfl (hb hby dmethod_3_code_0) rfl k) ?_
  refine Go.st (S' := s₁.setTop (mkF m 2 #[.val (.int p0), .val (.int (0 : Int32)), .val (.int p2)] [(.int p2), (.int (0 : Int32))])) (fun t k => XS.iloadN X0.here hx rfl (hb hby dmethod_3_code_1) rfl k) ?_
  by_cases hc924 : ((0 : Int32) < p2)
  · refine Go.st (S' := s₁.setTop (mkF m 5 #[.val (.int p0), .val (.int (0 : Int32)), .val (.int p2)] [])) (fun t k => XS.icmpNo X0.here hx rfl (hb hby dmethod_3_code_2) rfl (tlt hc924).2.1 k) ?_
    refine Go.st (S' := s₁.setTop (mkF m 6 #[.val (.int p0), .val (.int (0 : Int32)), .val (.int p2)] [(.int p0)])) (fun t k => XS.iloadN X0.here hx rfl (hb hby dmethod_3_code_5) rfl k) ?_
    refine Go.st (S' := s₁.setTop (mkF m 7 #[.val (.int p0), .val (.int (0 : Int32)), .val (.int p2)] [(.int (0 : Int32)), (.int p0)])) (fun t k => XS.iloadN X0.here hx rfl (hb hby dmethod_3_code_6) rfl k) ?_
    refine Go.op (F := fun z => s₁.setTop (mkF m 8 #[.val (.int p0), .val (.int (0 : Int32)), .val (.int p2)] [(.int z)])) (x := ((p0.toUInt32 >>> ((0 : Int32) &&& 31).toUInt32).toInt32)) (fun t k => XS.iushr X0.here hx rfl (hb hby dmethod_3_code_7) rfl k) ?_
    intro v925 hv925
    refine Go.st (S' := s₁.setTop (mkF m 9 #[.val (.int p0), .val (.int (0 : Int32)), .val (.int p2)] [(.int (1 : Int32)), (.int v925)])) (fun t k => XS.iconst X0.here hx rfl (hb hby dmethod_3_code_8) k) ?_
    refine Go.op (F := fun z => s₁.setTop (mkF m 10 #[.val (.int p0), .val (.int (0 : Int32)), .val (.int p2)] [(.int z)])) (x := (v925 &&& (1 : Int32))) (fun t k => XS.iand X0.here hx rfl (hb hby dmethod_3_code_9) rfl k) ?_
    intro v926 hv926
    exact Go.ret X0 (v := some (.int v926)) (fun h => by rw [Bd.returns] at h; cases h) Bd.notSynchronized (fun fs hr => retI X0 hx Bd.returns (hb hby dmethod_3_code_10) hr) (by decide) (by decide) (⟨v926, v925, v926, hv925, hv926, (Or.inl ⟨hc924, rfl⟩), rfl, N0, (e0)⟩)
  · refine Go.st (S' := s₁.setTop (mkF m 11 #[.val (.int p0), .val (.int (0 : Int32)), .val (.int p2)] [])) (fun t k => XS.icmpYes X0.here hx rfl (pc0 := 2) (pc' := 11) rfl (hb hby dmethod_3_code_2) rfl (flt hc924).2.1 (by decide) (by decide) k) ?_
    refine Go.st (S' := s₁.setTop (mkF m 12 #[.val (.int p0), .val (.int (0 : Int32)), .val (.int p2)] [(.int (0 : Int32))])) (fun t k => XS.iconst X0.here hx rfl (hb hby dmethod_3_code_11) k) ?_
    exact Go.ret X0 (v := some (.int (0 : Int32))) (fun h => by rw [Bd.returns] at h; cases h) Bd.notSynchronized (fun fs hr => retI X0 hx Bd.returns (hb hby dmethod_3_code_12) hr) (by decide) (by decide) (⟨(0 : Int32), _, _, rfl, rfl, (Or.inr ⟨hc924, rfl⟩), rfl, N0, (e0)⟩)
theorem ef_45 (m : MethodId) (p0 : Int32) (p2 : Int32) : entryFrame m #[(.int p0), (.int (1 : Int32)), (.int p2)] 3 = mkF m 0 #[.val (.int p0), .val (.int (1 : Int32)), .val (.int p2)] [] := by first | (simp [entryFrame, mkF, argsToLocals, Value.category, maxLocals]; done) | rfl
def Q45 (Z : State) (p0 : Int32) (p2 : Int32) (h0 : Heap) (n0 : Nat) (v : Option Value) (h : Heap) (L : List Loc) : Prop := (∃ (rv45 : Int32) (v935 : Int32) (v936 : Int32), v935 = ((p0.toUInt32 >>> ((1 : Int32) &&& 31).toUInt32).toInt32) ∧ v936 = (v935 &&& (1 : Int32)) ∧ ((((1 : Int32) < p2) ∧ (rv45 = v936)) ∨ ((¬ ((1 : Int32) < p2)) ∧ (rv45 = (0 : Int32)))) ∧ v = some (.int rv45) ∧ Fr n0 L ∧ h = h0)
set_option maxRecDepth 65536 in
set_option maxHeartbeats 40000000 in
theorem rm45 (l : Launch) (Z : State) (a0 : Array Value) (hw : ∀ d ∈ tables_1, d.before a0 Z = true) (ws : List Jvm.Cond) (p0 : Int32) (p2 : Int32) (h0 : Heap) (n0 : Nat) (Z0 : n0 ≤ h0.size)  :
    Con l Z (⟨"com/example/tuneless/tuneless/problem/OneMaxEvaluatePinLaw", "bit", "(III)I"⟩ : MethodName) method_3_code 3 (some .int) ws ({ frames := 0, cells := 0, slots := 0, locals := 0 } : Room) #[(.int p0), (.int (1 : Int32)), (.int p2)] h0 0 0 (Q45 Z p0 p2 h0 n0) := by
  refine MetFree.of_bodySF (plainFor_of_name pn_9) hisR ?_
  intro p e s m args below meth c s₁ Bd hml0 hP hK
  obtain ⟨rfl, hZ, hh⟩ := hP
  have hx := Bd.exec
  have hby := Bd.bytes
  have hml : c.maxLocals = 3 := hml0
  have hown : s.vm.findClass "com/example/tuneless/tuneless/problem/OneMaxEvaluatePinLaw" = some m.cls := findClass_of_methodNamed Bd.named
  have hnm := (name_of_methodNamed Bd.named Bd.method).1
  have X0 : Stand p l e ({ frames := 0, cells := 0, slots := 0, locals := 0 } : Room) s m #[(.int p0), (.int (1 : Int32)), (.int p2)] below meth c s₁ [] 0 0 := Stand.of_body Bd
  have e0 : s₁.heap = h0 := by rw [← hh, Bd.state]; rfl
  have N0 := Fr.nil n0
  refine Go.of ?_
  refine Go.st (S' := s₁.setTop (mkF m 0 #[.val (.int p0), .val (.int (1 : Int32)), .val (.int p2)] [])) (fun t k => castTop (ef_45 m p0 p2) k) ?_
  refine Go.st (S' := s₁.setTop (mkF m 1 #[.val (.int p0), .val (.int (1 : Int32)), .val (.int p2)] [(.int (1 : Int32))])) (fun t k => XS.iloadN X0.here hx rfl (hb hby dmethod_3_code_0) rfl k) ?_
  refine Go.st (S' := s₁.setTop (mkF m 2 #[.val (.int p0), .val (.int (1 : Int32)), .val (.int p2)] [(.int p2), (.int (1 : Int32))])) (fun t k => XS.iloadN X0.here hx rfl (hb hby dmethod_3_code_1) rfl k) ?_
  by_cases hc934 : ((1 : Int32) < p2)
  · refine Go.st (S' := s₁.setTop (mkF m 5 #[.val (.int p0), .val (.int (1 : Int32)), .val (.int p2)] [])) (fun t k => XS.icmpNo X0.here hx rfl (hb hby dmethod_3_code_2) rfl (tlt hc934).2.1 k) ?_
    refine Go.st (S' := s₁.setTop (mkF m 6 #[.val (.int p0), .val (.int (1 : Int32)), .val (.int p2)] [(.int p0)])) (fun t k => XS.iloadN X0.here hx rfl (hb hby dmethod_3_code_5) rfl k) ?_
    refine Go.st (S' := s₁.setTop (mkF m 7 #[.val (.int p0), .val (.int (1 : Int32)), .val (.int p2)] [(.int (1 : Int32)), (.int p0)])) (fun t k => XS.iloadN X0.here hx rfl (hb hby dmethod_3_code_6) rfl k) ?_
    refine Go.op (F := fun z => s₁.setTop (mkF m 8 #[.val (.int p0), .val (.int (1 : Int32)), .val (.int p2)] [(.int z)])) (x := ((p0.toUInt32 >>> ((1 : Int32) &&& 31).toUInt32).toInt32)) (fun t k => XS.iushr X0.here hx rfl (hb hby dmethod_3_code_7) rfl k) ?_
    intro v935 hv935
    refine Go.st (S' := s₁.setTop (mkF m 9 #[.val (.int p0), .val (.int (1 : Int32)), .val (.int p2)] [(.int (1 : Int32)), (.int v935)])) (fun t k => XS.iconst X0.here hx rfl (hb hby dmethod_3_code_8) k) ?_
    refine Go.op (F := fun z => s₁.setTop (mkF m 10 #[.val (.int p0), .val (.int (1 : Int32)), .val (.int p2)] [(.int z)])) (x := (v935 &&& (1 : Int32))) (fun t k => XS.iand X0.here hx rfl (hb hby dmethod_3_code_9) rfl k) ?_
    intro v936 hv936
    exact Go.ret X0 (v := some (.int v936)) (fun h => by rw [Bd.returns] at h; cases h) Bd.notSynchronized (fun fs hr => retI X0 hx Bd.returns (hb hby dmethod_3_code_10) hr) (by decide) (by decide) (⟨v936, v935, v936, hv935, hv936, (Or.inl ⟨hc934, rfl⟩), rfl, N0, (e0)⟩)
  · refine Go.st (S' := s₁.setTop (mkF m 11 #[.val (.int p0), .val (.int (1 : Int32)), .val (.int p2)] [])) (fun t k => XS.icmpYes X0.here hx rfl (pc0 := 2) (pc' := 11) rfl (hb hby dmethod_3_code_2) rfl (flt hc934).2.1 (by decide) (by decide) k) ?_
    refine Go.st (S' := s₁.setTop (mkF m 12 #[.val (.int p0), .val (.int (1 : Int32)), .val (.int p2)] [(.int (0 : Int32))])) (fun t k => XS.iconst X0.here hx rfl (hb hby dmethod_3_code_11) k) ?_
    exact Go.ret X0 (v := some (.int (0 : Int32))) (fun h => by rw [Bd.returns] at h; cases h) Bd.notSynchronized (fun fs hr => retI X0 hx Bd.returns (hb hby dmethod_3_code_12) hr) (by decide) (by decide) (⟨(0 : Int32), _, _, rfl, rfl, (Or.inr ⟨hc934, rfl⟩), rfl, N0, (e0)⟩)
theorem ef_46 (m : MethodId) (p0 : Int32) (p2 : Int32) : entryFrame m #[(.int p0), (.int (2 : Int32)), (.int p2)] 3 = mkF m 0 #[.val (.int p0), .val (.int (2 : Int32)), .val (.int p2)] [] := by first | (simp [entryFrame, mkF, argsToLocals, Value.category, maxLocals]; done) | rfl
def Q46 (Z : State) (p0 : Int32) (p2 : Int32) (h0 : Heap) (n0 : Nat) (v : Option Value) (h : Heap) (L : List Loc) : Prop := (∃ (rv46 : Int32) (v946 : Int32) (v947 : Int32), v946 = ((p0.toUInt32 >>> ((2 : Int32) &&& 31).toUInt32).toInt32) ∧ v947 = (v946 &&& (1 : Int32)) ∧ ((((2 : Int32) < p2) ∧ (rv46 = v947)) ∨ ((¬ ((2 : Int32) < p2)) ∧ (rv46 = (0 : Int32)))) ∧ v = some (.int rv46) ∧ Fr n0 L ∧ h = h0)
set_option maxRecDepth 65536 in
set_option maxHeartbeats 40000000 in
theorem rm46 (l : Launch) (Z : State) (a0 : Array Value) (hw : ∀ d ∈ tables_1, d.before a0 Z = true) (ws : List Jvm.Cond) (p0 : Int32) (p2 : Int32) (h0 : Heap) (n0 : Nat) (Z0 : n0 ≤ h0.size)  :
    Con l Z (⟨"com/example/tuneless/tuneless/problem/OneMaxEvaluatePinLaw", "bit", "(III)I"⟩ : MethodName) method_3_code 3 (some .int) ws ({ frames := 0, cells := 0, slots := 0, locals := 0 } : Room) #[(.int p0), (.int (2 : Int32)), (.int p2)] h0 0 0 (Q46 Z p0 p2 h0 n0) := by
  refine MetFree.of_bodySF (plainFor_of_name pn_9) hisR ?_
  intro p e s m args below meth c s₁ Bd hml0 hP hK
  obtain ⟨rfl, hZ, hh⟩ := hP
  have hx := Bd.exec
  have hby := Bd.bytes
  have hml : c.maxLocals = 3 := hml0
  have hown : s.vm.findClass "com/example/tuneless/tuneless/problem/OneMaxEvaluatePinLaw" = some m.cls := findClass_of_methodNamed Bd.named
  have hnm := (name_of_methodNamed Bd.named Bd.method).1
  have X0 : Stand p l e ({ frames := 0, cells := 0, slots := 0, locals := 0 } : Room) s m #[(.int p0), (.int (2 : Int32)), (.int p2)] below meth c s₁ [] 0 0 := Stand.of_body Bd
  have e0 : s₁.heap = h0 := by rw [← hh, Bd.state]; rfl
  have N0 := Fr.nil n0
  refine Go.of ?_
  refine Go.st (S' := s₁.setTop (mkF m 0 #[.val (.int p0), .val (.int (2 : Int32)), .val (.int p2)] [])) (fun t k => castTop (ef_46 m p0 p2) k) ?_
  refine Go.st (S' := s₁.setTop (mkF m 1 #[.val (.int p0), .val (.int (2 : Int32)), .val (.int p2)] [(.int (2 : Int32))])) (fun t k => XS.iloadN X0.here hx rfl (hb hby dmethod_3_code_0) rfl k) ?_
  refine Go.st (S' := s₁.setTop (mkF m 2 #[.val (.int p0), .val (.int (2 : Int32)), .val (.int p2)] [(.int p2), (.int (2 : Int32))])) (fun t k => XS.iloadN X0.here hx rfl (hb hby dmethod_3_code_1) rfl k) ?_
  by_cases hc945 : ((2 : Int32) < p2)
  · refine Go.st (S' := s₁.setTop (mkF m 5 #[.val (.int p0), .val (.int (2 : Int32)), .val (.int p2)] [])) (fun t k => XS.icmpNo X0.here hx rfl (hb hby dmethod_3_code_2) rfl (tlt hc945).2.1 k) ?_
    refine Go.st (S' := s₁.setTop (mkF m 6 #[.val (.int p0), .val (.int (2 : Int32)), .val (.int p2)] [(.int p0)])) (fun t k => XS.iloadN X0.here hx rfl (hb hby dmethod_3_code_5) rfl k) ?_
    refine Go.st (S' := s₁.setTop (mkF m 7 #[.val (.int p0), .val (.int (2 : Int32)), .val (.int p2)] [(.int (2 : Int32)), (.int p0)])) (fun t k => XS.iloadN X0.here hx rfl (hb hby dmethod_3_code_6) rfl k) ?_
    refine Go.op (F := fun z => s₁.setTop (mkF m 8 #[.val (.int p0), .val (.int (2 : Int32)), .val (.int p2)] [(.int z)])) (x := ((p0.toUInt32 >>> ((2 : Int32) &&& 31).toUInt32).toInt32)) (fun t k => XS.iushr X0.here hx rfl (hb hby dmethod_3_code_7) rfl k) ?_
    intro v946 hv946
    refine Go.st (S' := s₁.setTop (mkF m 9 #[.val (.int p0), .val (.int (2 : Int32)), .val (.int p2)] [(.int (1 : Int32)), (.int v946)])) (fun t k => XS.iconst X0.here hx rfl (hb hby dmethod_3_code_8) k) ?_
    refine Go.op (F := fun z => s₁.setTop (mkF m 10 #[.val (.int p0), .val (.int (2 : Int32)), .val (.int p2)] [(.int z)])) (x := (v946 &&& (1 : Int32))) (fun t k => XS.iand X0.here hx rfl (hb hby dmethod_3_code_9) rfl k) ?_
    intro v947 hv947
    exact Go.ret X0 (v := some (.int v947)) (fun h => by rw [Bd.returns] at h; cases h) Bd.notSynchronized (fun fs hr => retI X0 hx Bd.returns (hb hby dmethod_3_code_10) hr) (by decide) (by decide) (⟨v947, v946, v947, hv946, hv947, (Or.inl ⟨hc945, rfl⟩), rfl, N0, (e0)⟩)
  · refine Go.st (S' := s₁.setTop (mkF m 11 #[.val (.int p0), .val (.int (2 : Int32)), .val (.int p2)] [])) (fun t k => XS.icmpYes X0.here hx rfl (pc0 := 2) (pc' := 11) rfl (hb hby dmethod_3_code_2) rfl (flt hc945).2.1 (by decide) (by decide) k) ?_
    refine Go.st (S' := s₁.setTop (mkF m 12 #[.val (.int p0), .val (.int (2 : Int32)), .val (.int p2)] [(.int (0 : Int32))])) (fun t k => XS.iconst X0.here hx rfl (hb hby dmethod_3_code_11) k) ?_
    exact Go.ret X0 (v := some (.int (0 : Int32))) (fun h => by rw [Bd.returns] at h; cases h) Bd.notSynchronized (fun fs hr => retI X0 hx Bd.returns (hb hby dmethod_3_code_12) hr) (by decide) (by decide) (⟨(0 : Int32), _, _, rfl, rfl, (Or.inr ⟨hc945, rfl⟩), rfl, N0, (e0)⟩)
theorem ef_47 (m : MethodId) (p0 : Int32) (p2 : Int32) : entryFrame m #[(.int p0), (.int (3 : Int32)), (.int p2)] 3 = mkF m 0 #[.val (.int p0), .val (.int (3 : Int32)), .val (.int p2)] [] := by first | (simp [entryFrame, mkF, argsToLocals, Value.category, maxLocals]; done) | rfl
def Q47 (Z : State) (p0 : Int32) (p2 : Int32) (h0 : Heap) (n0 : Nat) (v : Option Value) (h : Heap) (L : List Loc) : Prop := (∃ (rv47 : Int32) (v957 : Int32) (v958 : Int32), v957 = ((p0.toUInt32 >>> ((3 : Int32) &&& 31).toUInt32).toInt32) ∧ v958 = (v957 &&& (1 : Int32)) ∧ ((((3 : Int32) < p2) ∧ (rv47 = v958)) ∨ ((¬ ((3 : Int32) < p2)) ∧ (rv47 = (0 : Int32)))) ∧ v = some (.int rv47) ∧ Fr n0 L ∧ h = h0)
set_option maxRecDepth 65536 in
set_option maxHeartbeats 40000000 in
theorem rm47 (l : Launch) (Z : State) (a0 : Array Value) (hw : ∀ d ∈ tables_1, d.before a0 Z = true) (ws : List Jvm.Cond) (p0 : Int32) (p2 : Int32) (h0 : Heap) (n0 : Nat) (Z0 : n0 ≤ h0.size)  :
    Con l Z (⟨"com/example/tuneless/tuneless/problem/OneMaxEvaluatePinLaw", "bit", "(III)I"⟩ : MethodName) method_3_code 3 (some .int) ws ({ frames := 0, cells := 0, slots := 0, locals := 0 } : Room) #[(.int p0), (.int (3 : Int32)), (.int p2)] h0 0 0 (Q47 Z p0 p2 h0 n0) := by
  refine MetFree.of_bodySF (plainFor_of_name pn_9) hisR ?_
  intro p e s m args below meth c s₁ Bd hml0 hP hK
  obtain ⟨rfl, hZ, hh⟩ := hP
  have hx := Bd.exec
  have hby := Bd.bytes
  have hml : c.maxLocals = 3 := hml0
  have hown : s.vm.findClass "com/example/tuneless/tuneless/problem/OneMaxEvaluatePinLaw" = some m.cls := findClass_of_methodNamed Bd.named
  have hnm := (name_of_methodNamed Bd.named Bd.method).1
  have X0 : Stand p l e ({ frames := 0, cells := 0, slots := 0, locals := 0 } : Room) s m #[(.int p0), (.int (3 : Int32)), (.int p2)] below meth c s₁ [] 0 0 := Stand.of_body Bd
  have e0 : s₁.heap = h0 := by rw [← hh, Bd.state]; rfl
  have N0 := Fr.nil n0
  refine Go.of ?_
  refine Go.st (S' := s₁.setTop (mkF m 0 #[.val (.int p0), .val (.int (3 : Int32)), .val (.int p2)] [])) (fun t k => castTop (ef_47 m p0 p2) k) ?_
  refine Go.st (S' := s₁.setTop (mkF m 1 #[.val (.int p0), .val (.int (3 : Int32)), .val (.int p2)] [(.int (3 : Int32))])) (fun t k => XS.iloadN X0.here hx rfl (hb hby dmethod_3_code_0) rfl k) ?_
  refine Go.st (S' := s₁.setTop (mkF m 2 #[.val (.int p0), .val (.int (3 : Int32)), .val (.int p2)] [(.int p2), (.int (3 : Int32))])) (fun t k => XS.iloadN X0.here hx rfl (hb hby dmethod_3_code_1) rfl k) ?_
  by_cases hc956 : ((3 : Int32) < p2)
  · refine Go.st (S' := s₁.setTop (mkF m 5 #[.val (.int p0), .val (.int (3 : Int32)), .val (.int p2)] [])) (fun t k => XS.icmpNo X0.here hx rfl (hb hby dmethod_3_code_2) rfl (tlt hc956).2.1 k) ?_
    refine Go.st (S' := s₁.setTop (mkF m 6 #[.val (.int p0), .val (.int (3 : Int32)), .val (.int p2)] [(.int p0)])) (fun t k => XS.iloadN X0.here hx rfl (hb hby dmethod_3_code_5) rfl k) ?_
    refine Go.st (S' := s₁.setTop (mkF m 7 #[.val (.int p0), .val (.int (3 : Int32)), .val (.int p2)] [(.int (3 : Int32)), (.int p0)])) (fun t k => XS.iloadN X0.here hx rfl (hb hby dmethod_3_code_6) rfl k) ?_
    refine Go.op (F := fun z => s₁.setTop (mkF m 8 #[.val (.int p0), .val (.int (3 : Int32)), .val (.int p2)] [(.int z)])) (x := ((p0.toUInt32 >>> ((3 : Int32) &&& 31).toUInt32).toInt32)) (fun t k => XS.iushr X0.here hx rfl (hb hby dmethod_3_code_7) rfl k) ?_
    intro v957 hv957
    refine Go.st (S' := s₁.setTop (mkF m 9 #[.val (.int p0), .val (.int (3 : Int32)), .val (.int p2)] [(.int (1 : Int32)), (.int v957)])) (fun t k => XS.iconst X0.here hx rfl (hb hby dmethod_3_code_8) k) ?_
    refine Go.op (F := fun z => s₁.setTop (mkF m 10 #[.val (.int p0), .val (.int (3 : Int32)), .val (.int p2)] [(.int z)])) (x := (v957 &&& (1 : Int32))) (fun t k => XS.iand X0.here hx rfl (hb hby dmethod_3_code_9) rfl k) ?_
    intro v958 hv958
    exact Go.ret X0 (v := some (.int v958)) (fun h => by rw [Bd.returns] at h; cases h) Bd.notSynchronized (fun fs hr => retI X0 hx Bd.returns (hb hby dmethod_3_code_10) hr) (by decide) (by decide) (⟨v958, v957, v958, hv957, hv958, (Or.inl ⟨hc956, rfl⟩), rfl, N0, (e0)⟩)
  · refine Go.st (S' := s₁.setTop (mkF m 11 #[.val (.int p0), .val (.int (3 : Int32)), .val (.int p2)] [])) (fun t k => XS.icmpYes X0.here hx rfl (pc0 := 2) (pc' := 11) rfl (hb hby dmethod_3_code_2) rfl (flt hc956).2.1 (by decide) (by decide) k) ?_
    refine Go.st (S' := s₁.setTop (mkF m 12 #[.val (.int p0), .val (.int (3 : Int32)), .val (.int p2)] [(.int (0 : Int32))])) (fun t k => XS.iconst X0.here hx rfl (hb hby dmethod_3_code_11) k) ?_
    exact Go.ret X0 (v := some (.int (0 : Int32))) (fun h => by rw [Bd.returns] at h; cases h) Bd.notSynchronized (fun fs hr => retI X0 hx Bd.returns (hb hby dmethod_3_code_12) hr) (by decide) (by decide) (⟨(0 : Int32), _, _, rfl, rfl, (Or.inr ⟨hc956, rfl⟩), rfl, N0, (e0)⟩)
theorem ef_48 (m : MethodId) (p0 : Int32) (p2 : Int32) : entryFrame m #[(.int p0), (.int (4 : Int32)), (.int p2)] 3 = mkF m 0 #[.val (.int p0), .val (.int (4 : Int32)), .val (.int p2)] [] := by first | (simp [entryFrame, mkF, argsToLocals, Value.category, maxLocals]; done) | rfl
def Q48 (Z : State) (p0 : Int32) (p2 : Int32) (h0 : Heap) (n0 : Nat) (v : Option Value) (h : Heap) (L : List Loc) : Prop := (∃ (rv48 : Int32) (v968 : Int32) (v969 : Int32), v968 = ((p0.toUInt32 >>> ((4 : Int32) &&& 31).toUInt32).toInt32) ∧ v969 = (v968 &&& (1 : Int32)) ∧ ((((4 : Int32) < p2) ∧ (rv48 = v969)) ∨ ((¬ ((4 : Int32) < p2)) ∧ (rv48 = (0 : Int32)))) ∧ v = some (.int rv48) ∧ Fr n0 L ∧ h = h0)
set_option maxRecDepth 65536 in
set_option maxHeartbeats 40000000 in
theorem rm48 (l : Launch) (Z : State) (a0 : Array Value) (hw : ∀ d ∈ tables_1, d.before a0 Z = true) (ws : List Jvm.Cond) (p0 : Int32) (p2 : Int32) (h0 : Heap) (n0 : Nat) (Z0 : n0 ≤ h0.size)  :
    Con l Z (⟨"com/example/tuneless/tuneless/problem/OneMaxEvaluatePinLaw", "bit", "(III)I"⟩ : MethodName) method_3_code 3 (some .int) ws ({ frames := 0, cells := 0, slots := 0, locals := 0 } : Room) #[(.int p0), (.int (4 : Int32)), (.int p2)] h0 0 0 (Q48 Z p0 p2 h0 n0) := by
  refine MetFree.of_bodySF (plainFor_of_name pn_9) hisR ?_
  intro p e s m args below meth c s₁ Bd hml0 hP hK
  obtain ⟨rfl, hZ, hh⟩ := hP
  have hx := Bd.exec
  have hby := Bd.bytes
  have hml : c.maxLocals = 3 := hml0
  have hown : s.vm.findClass "com/example/tuneless/tuneless/problem/OneMaxEvaluatePinLaw" = some m.cls := findClass_of_methodNamed Bd.named
  have hnm := (name_of_methodNamed Bd.named Bd.method).1
  have X0 : Stand p l e ({ frames := 0, cells := 0, slots := 0, locals := 0 } : Room) s m #[(.int p0), (.int (4 : Int32)), (.int p2)] below meth c s₁ [] 0 0 := Stand.of_body Bd
  have e0 : s₁.heap = h0 := by rw [← hh, Bd.state]; rfl
  have N0 := Fr.nil n0
  refine Go.of ?_
  refine Go.st (S' := s₁.setTop (mkF m 0 #[.val (.int p0), .val (.int (4 : Int32)), .val (.int p2)] [])) (fun t k => castTop (ef_48 m p0 p2) k) ?_
  refine Go.st (S' := s₁.setTop (mkF m 1 #[.val (.int p0), .val (.int (4 : Int32)), .val (.int p2)] [(.int (4 : Int32))])) (fun t k => XS.iloadN X0.here hx rfl (hb hby dmethod_3_code_0) rfl k) ?_
  refine Go.st (S' := s₁.setTop (mkF m 2 #[.val (.int p0), .val (.int (4 : Int32)), .val (.int p2)] [(.int p2), (.int (4 : Int32))])) (fun t k => XS.iloadN X0.here hx rfl (hb hby dmethod_3_code_1) rfl k) ?_
  by_cases hc967 : ((4 : Int32) < p2)
  · refine Go.st (S' := s₁.setTop (mkF m 5 #[.val (.int p0), .val (.int (4 : Int32)), .val (.int p2)] [])) (fun t k => XS.icmpNo X0.here hx rfl (hb hby dmethod_3_code_2) rfl (tlt hc967).2.1 k) ?_
    refine Go.st (S' := s₁.setTop (mkF m 6 #[.val (.int p0), .val (.int (4 : Int32)), .val (.int p2)] [(.int p0)])) (fun t k => XS.iloadN X0.here hx rfl (hb hby dmethod_3_code_5) rfl k) ?_
    refine Go.st (S' := s₁.setTop (mkF m 7 #[.val (.int p0), .val (.int (4 : Int32)), .val (.int p2)] [(.int (4 : Int32)), (.int p0)])) (fun t k => XS.iloadN X0.here hx rfl (hb hby dmethod_3_code_6) rfl k) ?_
    refine Go.op (F := fun z => s₁.setTop (mkF m 8 #[.val (.int p0), .val (.int (4 : Int32)), .val (.int p2)] [(.int z)])) (x := ((p0.toUInt32 >>> ((4 : Int32) &&& 31).toUInt32).toInt32)) (fun t k => XS.iushr X0.here hx rfl (hb hby dmethod_3_code_7) rfl k) ?_
    intro v968 hv968
    refine Go.st (S' := s₁.setTop (mkF m 9 #[.val (.int p0), .val (.int (4 : Int32)), .val (.int p2)] [(.int (1 : Int32)), (.int v968)])) (fun t k => XS.iconst X0.here hx rfl (hb hby dmethod_3_code_8) k) ?_
    refine Go.op (F := fun z => s₁.setTop (mkF m 10 #[.val (.int p0), .val (.int (4 : Int32)), .val (.int p2)] [(.int z)])) (x := (v968 &&& (1 : Int32))) (fun t k => XS.iand X0.here hx rfl (hb hby dmethod_3_code_9) rfl k) ?_
    intro v969 hv969
    exact Go.ret X0 (v := some (.int v969)) (fun h => by rw [Bd.returns] at h; cases h) Bd.notSynchronized (fun fs hr => retI X0 hx Bd.returns (hb hby dmethod_3_code_10) hr) (by decide) (by decide) (⟨v969, v968, v969, hv968, hv969, (Or.inl ⟨hc967, rfl⟩), rfl, N0, (e0)⟩)
  · refine Go.st (S' := s₁.setTop (mkF m 11 #[.val (.int p0), .val (.int (4 : Int32)), .val (.int p2)] [])) (fun t k => XS.icmpYes X0.here hx rfl (pc0 := 2) (pc' := 11) rfl (hb hby dmethod_3_code_2) rfl (flt hc967).2.1 (by decide) (by decide) k) ?_
    refine Go.st (S' := s₁.setTop (mkF m 12 #[.val (.int p0), .val (.int (4 : Int32)), .val (.int p2)] [(.int (0 : Int32))])) (fun t k => XS.iconst X0.here hx rfl (hb hby dmethod_3_code_11) k) ?_
    exact Go.ret X0 (v := some (.int (0 : Int32))) (fun h => by rw [Bd.returns] at h; cases h) Bd.notSynchronized (fun fs hr => retI X0 hx Bd.returns (hb hby dmethod_3_code_12) hr) (by decide) (by decide) (⟨(0 : Int32), _, _, rfl, rfl, (Or.inr ⟨hc967, rfl⟩), rfl, N0, (e0)⟩)
theorem ef_49 (m : MethodId) (p0 : Int32) (p2 : Int32) : entryFrame m #[(.int p0), (.int (5 : Int32)), (.int p2)] 3 = mkF m 0 #[.val (.int p0), .val (.int (5 : Int32)), .val (.int p2)] [] := by first | (simp [entryFrame, mkF, argsToLocals, Value.category, maxLocals]; done) | rfl
def Q49 (Z : State) (p0 : Int32) (p2 : Int32) (h0 : Heap) (n0 : Nat) (v : Option Value) (h : Heap) (L : List Loc) : Prop := (∃ (rv49 : Int32) (v979 : Int32) (v980 : Int32), v979 = ((p0.toUInt32 >>> ((5 : Int32) &&& 31).toUInt32).toInt32) ∧ v980 = (v979 &&& (1 : Int32)) ∧ ((((5 : Int32) < p2) ∧ (rv49 = v980)) ∨ ((¬ ((5 : Int32) < p2)) ∧ (rv49 = (0 : Int32)))) ∧ v = some (.int rv49) ∧ Fr n0 L ∧ h = h0)
set_option maxRecDepth 65536 in
set_option maxHeartbeats 40000000 in
theorem rm49 (l : Launch) (Z : State) (a0 : Array Value) (hw : ∀ d ∈ tables_1, d.before a0 Z = true) (ws : List Jvm.Cond) (p0 : Int32) (p2 : Int32) (h0 : Heap) (n0 : Nat) (Z0 : n0 ≤ h0.size)  :
    Con l Z (⟨"com/example/tuneless/tuneless/problem/OneMaxEvaluatePinLaw", "bit", "(III)I"⟩ : MethodName) method_3_code 3 (some .int) ws ({ frames := 0, cells := 0, slots := 0, locals := 0 } : Room) #[(.int p0), (.int (5 : Int32)), (.int p2)] h0 0 0 (Q49 Z p0 p2 h0 n0) := by
  refine MetFree.of_bodySF (plainFor_of_name pn_9) hisR ?_
  intro p e s m args below meth c s₁ Bd hml0 hP hK
  obtain ⟨rfl, hZ, hh⟩ := hP
  have hx := Bd.exec
  have hby := Bd.bytes
  have hml : c.maxLocals = 3 := hml0
  have hown : s.vm.findClass "com/example/tuneless/tuneless/problem/OneMaxEvaluatePinLaw" = some m.cls := findClass_of_methodNamed Bd.named
  have hnm := (name_of_methodNamed Bd.named Bd.method).1
  have X0 : Stand p l e ({ frames := 0, cells := 0, slots := 0, locals := 0 } : Room) s m #[(.int p0), (.int (5 : Int32)), (.int p2)] below meth c s₁ [] 0 0 := Stand.of_body Bd
  have e0 : s₁.heap = h0 := by rw [← hh, Bd.state]; rfl
  have N0 := Fr.nil n0
  refine Go.of ?_
  refine Go.st (S' := s₁.setTop (mkF m 0 #[.val (.int p0), .val (.int (5 : Int32)), .val (.int p2)] [])) (fun t k => castTop (ef_49 m p0 p2) k) ?_
  refine Go.st (S' := s₁.setTop (mkF m 1 #[.val (.int p0), .val (.int (5 : Int32)), .val (.int p2)] [(.int (5 : Int32))])) (fun t k => XS.iloadN X0.here hx rfl (hb hby dmethod_3_code_0) rfl k) ?_
  refine Go.st (S' := s₁.setTop (mkF m 2 #[.val (.int p0), .val (.int (5 : Int32)), .val (.int p2)] [(.int p2), (.int (5 : Int32))])) (fun t k => XS.iloadN X0.here hx rfl (hb hby dmethod_3_code_1) rfl k) ?_
  by_cases hc978 : ((5 : Int32) < p2)
  · refine Go.st (S' := s₁.setTop (mkF m 5 #[.val (.int p0), .val (.int (5 : Int32)), .val (.int p2)] [])) (fun t k => XS.icmpNo X0.here hx rfl (hb hby dmethod_3_code_2) rfl (tlt hc978).2.1 k) ?_
    refine Go.st (S' := s₁.setTop (mkF m 6 #[.val (.int p0), .val (.int (5 : Int32)), .val (.int p2)] [(.int p0)])) (fun t k => XS.iloadN X0.here hx rfl (hb hby dmethod_3_code_5) rfl k) ?_
    refine Go.st (S' := s₁.setTop (mkF m 7 #[.val (.int p0), .val (.int (5 : Int32)), .val (.int p2)] [(.int (5 : Int32)), (.int p0)])) (fun t k => XS.iloadN X0.here hx rfl (hb hby dmethod_3_code_6) rfl k) ?_
    refine Go.op (F := fun z => s₁.setTop (mkF m 8 #[.val (.int p0), .val (.int (5 : Int32)), .val (.int p2)] [(.int z)])) (x := ((p0.toUInt32 >>> ((5 : Int32) &&& 31).toUInt32).toInt32)) (fun t k => XS.iushr X0.here hx rfl (hb hby dmethod_3_code_7) rfl k) ?_
    intro v979 hv979
    refine Go.st (S' := s₁.setTop (mkF m 9 #[.val (.int p0), .val (.int (5 : Int32)), .val (.int p2)] [(.int (1 : Int32)), (.int v979)])) (fun t k => XS.iconst X0.here hx rfl (hb hby dmethod_3_code_8) k) ?_
    refine Go.op (F := fun z => s₁.setTop (mkF m 10 #[.val (.int p0), .val (.int (5 : Int32)), .val (.int p2)] [(.int z)])) (x := (v979 &&& (1 : Int32))) (fun t k => XS.iand X0.here hx rfl (hb hby dmethod_3_code_9) rfl k) ?_
    intro v980 hv980
    exact Go.ret X0 (v := some (.int v980)) (fun h => by rw [Bd.returns] at h; cases h) Bd.notSynchronized (fun fs hr => retI X0 hx Bd.returns (hb hby dmethod_3_code_10) hr) (by decide) (by decide) (⟨v980, v979, v980, hv979, hv980, (Or.inl ⟨hc978, rfl⟩), rfl, N0, (e0)⟩)
  · refine Go.st (S' := s₁.setTop (mkF m 11 #[.val (.int p0), .val (.int (5 : Int32)), .val (.int p2)] [])) (fun t k => XS.icmpYes X0.here hx rfl (pc0 := 2) (pc' := 11) rfl (hb hby dmethod_3_code_2) rfl (flt hc978).2.1 (by decide) (by decide) k) ?_
    refine Go.st (S' := s₁.setTop (mkF m 12 #[.val (.int p0), .val (.int (5 : Int32)), .val (.int p2)] [(.int (0 : Int32))])) (fun t k => XS.iconst X0.here hx rfl (hb hby dmethod_3_code_11) k) ?_
    exact Go.ret X0 (v := some (.int (0 : Int32))) (fun h => by rw [Bd.returns] at h; cases h) Bd.notSynchronized (fun fs hr => retI X0 hx Bd.returns (hb hby dmethod_3_code_12) hr) (by decide) (by decide) (⟨(0 : Int32), _, _, rfl, rfl, (Or.inr ⟨hc978, rfl⟩), rfl, N0, (e0)⟩)
theorem ef_50 (m : MethodId) (p0 : Int32) (p2 : Int32) : entryFrame m #[(.int p0), (.int (6 : Int32)), (.int p2)] 3 = mkF m 0 #[.val (.int p0), .val (.int (6 : Int32)), .val (.int p2)] [] := by first | (simp [entryFrame, mkF, argsToLocals, Value.category, maxLocals]; done) | rfl
def Q50 (Z : State) (p0 : Int32) (p2 : Int32) (h0 : Heap) (n0 : Nat) (v : Option Value) (h : Heap) (L : List Loc) : Prop := (∃ (rv50 : Int32) (v990 : Int32) (v991 : Int32), v990 = ((p0.toUInt32 >>> ((6 : Int32) &&& 31).toUInt32).toInt32) ∧ v991 = (v990 &&& (1 : Int32)) ∧ ((((6 : Int32) < p2) ∧ (rv50 = v991)) ∨ ((¬ ((6 : Int32) < p2)) ∧ (rv50 = (0 : Int32)))) ∧ v = some (.int rv50) ∧ Fr n0 L ∧ h = h0)
set_option maxRecDepth 65536 in
set_option maxHeartbeats 40000000 in
theorem rm50 (l : Launch) (Z : State) (a0 : Array Value) (hw : ∀ d ∈ tables_1, d.before a0 Z = true) (ws : List Jvm.Cond) (p0 : Int32) (p2 : Int32) (h0 : Heap) (n0 : Nat) (Z0 : n0 ≤ h0.size)  :
    Con l Z (⟨"com/example/tuneless/tuneless/problem/OneMaxEvaluatePinLaw", "bit", "(III)I"⟩ : MethodName) method_3_code 3 (some .int) ws ({ frames := 0, cells := 0, slots := 0, locals := 0 } : Room) #[(.int p0), (.int (6 : Int32)), (.int p2)] h0 0 0 (Q50 Z p0 p2 h0 n0) := by
  refine MetFree.of_bodySF (plainFor_of_name pn_9) hisR ?_
  intro p e s m args below meth c s₁ Bd hml0 hP hK
  obtain ⟨rfl, hZ, hh⟩ := hP
  have hx := Bd.exec
  have hby := Bd.bytes
  have hml : c.maxLocals = 3 := hml0
  have hown : s.vm.findClass "com/example/tuneless/tuneless/problem/OneMaxEvaluatePinLaw" = some m.cls := findClass_of_methodNamed Bd.named
  have hnm := (name_of_methodNamed Bd.named Bd.method).1
  have X0 : Stand p l e ({ frames := 0, cells := 0, slots := 0, locals := 0 } : Room) s m #[(.int p0), (.int (6 : Int32)), (.int p2)] below meth c s₁ [] 0 0 := Stand.of_body Bd
  have e0 : s₁.heap = h0 := by rw [← hh, Bd.state]; rfl
  have N0 := Fr.nil n0
  refine Go.of ?_
  refine Go.st (S' := s₁.setTop (mkF m 0 #[.val (.int p0), .val (.int (6 : Int32)), .val (.int p2)] [])) (fun t k => castTop (ef_50 m p0 p2) k) ?_
  refine Go.st (S' := s₁.setTop (mkF m 1 #[.val (.int p0), .val (.int (6 : Int32)), .val (.int p2)] [(.int (6 : Int32))])) (fun t k => XS.iloadN X0.here hx rfl (hb hby dmethod_3_code_0) rfl k) ?_
  refine Go.st (S' := s₁.setTop (mkF m 2 #[.val (.int p0), .val (.int (6 : Int32)), .val (.int p2)] [(.int p2), (.int (6 : Int32))])) (fun t k => XS.iloadN X0.here hx rfl (hb hby dmethod_3_code_1) rfl k) ?_
  by_cases hc989 : ((6 : Int32) < p2)
  · refine Go.st (S' := s₁.setTop (mkF m 5 #[.val (.int p0), .val (.int (6 : Int32)), .val (.int p2)] [])) (fun t k => XS.icmpNo X0.here hx rfl (hb hby dmethod_3_code_2) rfl (tlt hc989).2.1 k) ?_
    refine Go.st (S' := s₁.setTop (mkF m 6 #[.val (.int p0), .val (.int (6 : Int32)), .val (.int p2)] [(.int p0)])) (fun t k => XS.iloadN X0.here hx rfl (hb hby dmethod_3_code_5) rfl k) ?_
    refine Go.st (S' := s₁.setTop (mkF m 7 #[.val (.int p0), .val (.int (6 : Int32)), .val (.int p2)] [(.int (6 : Int32)), (.int p0)])) (fun t k => XS.iloadN X0.here hx rfl (hb hby dmethod_3_code_6) rfl k) ?_
    refine Go.op (F := fun z => s₁.setTop (mkF m 8 #[.val (.int p0), .val (.int (6 : Int32)), .val (.int p2)] [(.int z)])) (x := ((p0.toUInt32 >>> ((6 : Int32) &&& 31).toUInt32).toInt32)) (fun t k => XS.iushr X0.here hx rfl (hb hby dmethod_3_code_7) rfl k) ?_
    intro v990 hv990
    refine Go.st (S' := s₁.setTop (mkF m 9 #[.val (.int p0), .val (.int (6 : Int32)), .val (.int p2)] [(.int (1 : Int32)), (.int v990)])) (fun t k => XS.iconst X0.here hx rfl (hb hby dmethod_3_code_8) k) ?_
    refine Go.op (F := fun z => s₁.setTop (mkF m 10 #[.val (.int p0), .val (.int (6 : Int32)), .val (.int p2)] [(.int z)])) (x := (v990 &&& (1 : Int32))) (fun t k => XS.iand X0.here hx rfl (hb hby dmethod_3_code_9) rfl k) ?_
    intro v991 hv991
    exact Go.ret X0 (v := some (.int v991)) (fun h => by rw [Bd.returns] at h; cases h) Bd.notSynchronized (fun fs hr => retI X0 hx Bd.returns (hb hby dmethod_3_code_10) hr) (by decide) (by decide) (⟨v991, v990, v991, hv990, hv991, (Or.inl ⟨hc989, rfl⟩), rfl, N0, (e0)⟩)
  · refine Go.st (S' := s₁.setTop (mkF m 11 #[.val (.int p0), .val (.int (6 : Int32)), .val (.int p2)] [])) (fun t k => XS.icmpYes X0.here hx rfl (pc0 := 2) (pc' := 11) rfl (hb hby dmethod_3_code_2) rfl (flt hc989).2.1 (by decide) (by decide) k) ?_
    refine Go.st (S' := s₁.setTop (mkF m 12 #[.val (.int p0), .val (.int (6 : Int32)), .val (.int p2)] [(.int (0 : Int32))])) (fun t k => XS.iconst X0.here hx rfl (hb hby dmethod_3_code_11) k) ?_
    exact Go.ret X0 (v := some (.int (0 : Int32))) (fun h => by rw [Bd.returns] at h; cases h) Bd.notSynchronized (fun fs hr => retI X0 hx Bd.returns (hb hby dmethod_3_code_12) hr) (by decide) (by decide) (⟨(0 : Int32), _, _, rfl, rfl, (Or.inr ⟨hc989, rfl⟩), rfl, N0, (e0)⟩)
theorem ef_51 (m : MethodId) (p0 : Int32) (p2 : Int32) : entryFrame m #[(.int p0), (.int (7 : Int32)), (.int p2)] 3 = mkF m 0 #[.val (.int p0), .val (.int (7 : Int32)), .val (.int p2)] [] := by first | (simp [entryFrame, mkF, argsToLocals, Value.category, maxLocals]; done) | rfl
def Q51 (Z : State) (p0 : Int32) (p2 : Int32) (h0 : Heap) (n0 : Nat) (v : Option Value) (h : Heap) (L : List Loc) : Prop := (∃ (rv51 : Int32) (v1001 : Int32) (v1002 : Int32), v1001 = ((p0.toUInt32 >>> ((7 : Int32) &&& 31).toUInt32).toInt32) ∧ v1002 = (v1001 &&& (1 : Int32)) ∧ ((((7 : Int32) < p2) ∧ (rv51 = v1002)) ∨ ((¬ ((7 : Int32) < p2)) ∧ (rv51 = (0 : Int32)))) ∧ v = some (.int rv51) ∧ Fr n0 L ∧ h = h0)
set_option maxRecDepth 65536 in
set_option maxHeartbeats 40000000 in
theorem rm51 (l : Launch) (Z : State) (a0 : Array Value) (hw : ∀ d ∈ tables_1, d.before a0 Z = true) (ws : List Jvm.Cond) (p0 : Int32) (p2 : Int32) (h0 : Heap) (n0 : Nat) (Z0 : n0 ≤ h0.size)  :
    Con l Z (⟨"com/example/tuneless/tuneless/problem/OneMaxEvaluatePinLaw", "bit", "(III)I"⟩ : MethodName) method_3_code 3 (some .int) ws ({ frames := 0, cells := 0, slots := 0, locals := 0 } : Room) #[(.int p0), (.int (7 : Int32)), (.int p2)] h0 0 0 (Q51 Z p0 p2 h0 n0) := by
  refine MetFree.of_bodySF (plainFor_of_name pn_9) hisR ?_
  intro p e s m args below meth c s₁ Bd hml0 hP hK
  obtain ⟨rfl, hZ, hh⟩ := hP
  have hx := Bd.exec
  have hby := Bd.bytes
  have hml : c.maxLocals = 3 := hml0
  have hown : s.vm.findClass "com/example/tuneless/tuneless/problem/OneMaxEvaluatePinLaw" = some m.cls := findClass_of_methodNamed Bd.named
  have hnm := (name_of_methodNamed Bd.named Bd.method).1
  have X0 : Stand p l e ({ frames := 0, cells := 0, slots := 0, locals := 0 } : Room) s m #[(.int p0), (.int (7 : Int32)), (.int p2)] below meth c s₁ [] 0 0 := Stand.of_body Bd
  have e0 : s₁.heap = h0 := by rw [← hh, Bd.state]; rfl
  have N0 := Fr.nil n0
  refine Go.of ?_
  refine Go.st (S' := s₁.setTop (mkF m 0 #[.val (.int p0), .val (.int (7 : Int32)), .val (.int p2)] [])) (fun t k => castTop (ef_51 m p0 p2) k) ?_
  refine Go.st (S' := s₁.setTop (mkF m 1 #[.val (.int p0), .val (.int (7 : Int32)), .val (.int p2)] [(.int (7 : Int32))])) (fun t k => XS.iloadN X0.here hx rfl (hb hby dmethod_3_code_0) rfl k) ?_
  refine Go.st (S' := s₁.setTop (mkF m 2 #[.val (.int p0), .val (.int (7 : Int32)), .val (.int p2)] [(.int p2), (.int (7 : Int32))])) (fun t k => XS.iloadN X0.here hx rfl (hb hby dmethod_3_code_1) rfl k) ?_
  by_cases hc1000 : ((7 : Int32) < p2)
  · refine Go.st (S' := s₁.setTop (mkF m 5 #[.val (.int p0), .val (.int (7 : Int32)), .val (.int p2)] [])) (fun t k => XS.icmpNo X0.here hx rfl (hb hby dmethod_3_code_2) rfl (tlt hc1000).2.1 k) ?_
    refine Go.st (S' := s₁.setTop (mkF m 6 #[.val (.int p0), .val (.int (7 : Int32)), .val (.int p2)] [(.int p0)])) (fun t k => XS.iloadN X0.here hx rfl (hb hby dmethod_3_code_5) rfl k) ?_
    refine Go.st (S' := s₁.setTop (mkF m 7 #[.val (.int p0), .val (.int (7 : Int32)), .val (.int p2)] [(.int (7 : Int32)), (.int p0)])) (fun t k => XS.iloadN X0.here hx rfl (hb hby dmethod_3_code_6) rfl k) ?_
    refine Go.op (F := fun z => s₁.setTop (mkF m 8 #[.val (.int p0), .val (.int (7 : Int32)), .val (.int p2)] [(.int z)])) (x := ((p0.toUInt32 >>> ((7 : Int32) &&& 31).toUInt32).toInt32)) (fun t k => XS.iushr X0.here hx rfl (hb hby dmethod_3_code_7) rfl k) ?_
    intro v1001 hv1001
    refine Go.st (S' := s₁.setTop (mkF m 9 #[.val (.int p0), .val (.int (7 : Int32)), .val (.int p2)] [(.int (1 : Int32)), (.int v1001)])) (fun t k => XS.iconst X0.here hx rfl (hb hby dmethod_3_code_8) k) ?_
    refine Go.op (F := fun z => s₁.setTop (mkF m 10 #[.val (.int p0), .val (.int (7 : Int32)), .val (.int p2)] [(.int z)])) (x := (v1001 &&& (1 : Int32))) (fun t k => XS.iand X0.here hx rfl (hb hby dmethod_3_code_9) rfl k) ?_
    intro v1002 hv1002
    exact Go.ret X0 (v := some (.int v1002)) (fun h => by rw [Bd.returns] at h; cases h) Bd.notSynchronized (fun fs hr => retI X0 hx Bd.returns (hb hby dmethod_3_code_10) hr) (by decide) (by decide) (⟨v1002, v1001, v1002, hv1001, hv1002, (Or.inl ⟨hc1000, rfl⟩), rfl, N0, (e0)⟩)
  · refine Go.st (S' := s₁.setTop (mkF m 11 #[.val (.int p0), .val (.int (7 : Int32)), .val (.int p2)] [])) (fun t k => XS.icmpYes X0.here hx rfl (pc0 := 2) (pc' := 11) rfl (hb hby dmethod_3_code_2) rfl (flt hc1000).2.1 (by decide) (by decide) k) ?_
    refine Go.st (S' := s₁.setTop (mkF m 12 #[.val (.int p0), .val (.int (7 : Int32)), .val (.int p2)] [(.int (0 : Int32))])) (fun t k => XS.iconst X0.here hx rfl (hb hby dmethod_3_code_11) k) ?_
    exact Go.ret X0 (v := some (.int (0 : Int32))) (fun h => by rw [Bd.returns] at h; cases h) Bd.notSynchronized (fun fs hr => retI X0 hx Bd.returns (hb hby dmethod_3_code_12) hr) (by decide) (by decide) (⟨(0 : Int32), _, _, rfl, rfl, (Or.inr ⟨hc1000, rfl⟩), rfl, N0, (e0)⟩)
theorem ef_52 (m : MethodId) (o0 : Addr) (p2 : Int32) : entryFrame m #[(.ref o0), (.int (0 : Int32)), (.int p2)] 3 = mkF m 0 #[.val (.ref o0), .val (.int (0 : Int32)), .val (.int p2)] [] := by first | (simp [entryFrame, mkF, argsToLocals, Value.category, maxLocals]; done) | rfl
def Q52 (Z : State) (o0 : Addr) (p2 : Int32) (k_o0 : ClassId) (z_o0 : Int32) (e0_o0 : Int32) (e1_o0 : Int32) (e2_o0 : Int32) (e3_o0 : Int32) (e4_o0 : Int32) (e5_o0 : Int32) (e6_o0 : Int32) (e7_o0 : Int32) (h0 : Heap) (n0 : Nat) (v : Option Value) (h : Heap) (L : List Loc) : Prop := (∃ (r1020 : Int32) (rv52 : Int32) (v1016 : Int32) (v1017 : Int32), v1016 = ((p2.toUInt32 >>> ((0 : Int32) &&& 31).toUInt32).toInt32) ∧ v1017 = (v1016 &&& (1 : Int32)) ∧ ((((0 : Int32) < z_o0) ∧ (((v1017 = (0 : Int32)) ∧ (r1020 = (0 : Int32))) ∨ ((¬ (v1017 = (0 : Int32))) ∧ (r1020 = (1 : Int32)))) ∧ (e0_o0 = r1020) ∧ (rv52 = (1 : Int32))) ∨ (((0 : Int32) < z_o0) ∧ (((v1017 = (0 : Int32)) ∧ (r1020 = (0 : Int32))) ∨ ((¬ (v1017 = (0 : Int32))) ∧ (r1020 = (1 : Int32)))) ∧ (¬ (e0_o0 = r1020)) ∧ (rv52 = (0 : Int32)))) ∧ v = some (.int rv52) ∧ Fr n0 L ∧ h = h0)
set_option maxRecDepth 65536 in
set_option maxHeartbeats 40000000 in
theorem rm52 (l : Launch) (Z : State) (a0 : Array Value) (hw : ∀ d ∈ tables_1, d.before a0 Z = true) (ws : List Jvm.Cond) (o0 : Addr) (p2 : Int32) (k_o0 : ClassId) (z_o0 : Int32) (e0_o0 : Int32) (e1_o0 : Int32) (e2_o0 : Int32) (e3_o0 : Int32) (e4_o0 : Int32) (e5_o0 : Int32) (e6_o0 : Int32) (e7_o0 : Int32) (h0 : Heap) (n0 : Nat) (Z0 : n0 ≤ h0.size) (hra_z_o0 : (¬ (z_o0 < (1 : Int32)))) (hrb_z_o0 : (¬ ((8 : Int32) < z_o0))) (V_o0 : Arv Z h0 o0 k_o0 .boolean z_o0 [(.int e0_o0), (.int e1_o0), (.int e2_o0), (.int e3_o0), (.int e4_o0), (.int e5_o0), (.int e6_o0), (.int e7_o0)] (.int (0 : Int32))) :
    Con l Z (⟨"com/example/tuneless/tuneless/problem/OneMaxEvaluatePinLaw", "same", "([ZII)Z"⟩ : MethodName) method_4_code 3 (some .boolean) ws ({ frames := 0, cells := 0, slots := 0, locals := 0 } : Room) #[(.ref o0), (.int (0 : Int32)), (.int p2)] h0 0 0 (Q52 Z o0 p2 k_o0 z_o0 e0_o0 e1_o0 e2_o0 e3_o0 e4_o0 e5_o0 e6_o0 e7_o0 h0 n0) := by
  refine MetFree.of_bodySF (plainFor_of_name pn_9) hisR ?_
  intro p e s m args below meth c s₁ Bd hml0 hP hK
  obtain ⟨rfl, hZ, hh⟩ := hP
  have hx := Bd.exec
  have hby := Bd.bytes
  have hml : c.maxLocals = 3 := hml0
  have hown : s.vm.findClass "com/example/tuneless/tuneless/problem/OneMaxEvaluatePinLaw" = some m.cls := findClass_of_methodNamed Bd.named
  have hnm := (name_of_methodNamed Bd.named Bd.method).1
  have X0 : Stand p l e ({ frames := 0, cells := 0, slots := 0, locals := 0 } : Room) s m #[(.ref o0), (.int (0 : Int32)), (.int p2)] below meth c s₁ [] 0 0 := Stand.of_body Bd
  have e0 : s₁.heap = h0 := by rw [← hh, Bd.state]; rfl
  have N0 := Fr.nil n0
  refine Go.of ?_
  refine Go.st (S' := s₁.setTop (mkF m 0 #[.val (.ref o0), .val (.int (0 : Int32)), .val (.int p2)] [])) (fun t k => castTop (ef_52 m o0 p2) k) ?_
  refine Go.st (S' := s₁.setTop (mkF m 1 #[.val (.ref o0), .val (.int (0 : Int32)), .val (.int p2)] [(.int (0 : Int32))])) (fun t k => XS.iloadN X0.here hx rfl (hb hby dmethod_4_code_0) rfl k) ?_
  refine Go.st (S' := s₁.setTop (mkF m 2 #[.val (.ref o0), .val (.int (0 : Int32)), .val (.int p2)] [(.ref o0), (.int (0 : Int32))])) (fun t k => XS.aloadN X0.here hx rfl (hb hby dmethod_4_code_1) rfl rfl k) ?_
  obtain ⟨cl1012, Ar1012, -, S1012, N1012_, -, -⟩ := id V_o0
  refine Go.op (F := fun z => s₁.setTop (mkF m 3 #[.val (.ref o0), .val (.int (0 : Int32)), .val (.int p2)] [(.int z), (.int (0 : Int32))])) (x := cl1012.slots.size.toInt32) (fun t k => X0.arraylength hx (own_eh e0 Ar1012.1) (State.isArrayOf_alike hZ.alike Ar1012.2.1) (g := (mkF m 2 #[.val (.ref o0), .val (.int (0 : Int32)), .val (.int p2)] [(.ref o0), (.int (0 : Int32))])) rfl rfl (hb hby dmethod_4_code_2) t k) ?_
  intro v1013 hv1013
  obtain rfl : z_o0 = v1013 := (hv1013.trans (len_of S1012 N1012_)).symm
  by_cases hc1014 : ((0 : Int32) < z_o0)
  · refine Go.st (S' := s₁.setTop (mkF m 8 #[.val (.ref o0), .val (.int (0 : Int32)), .val (.int p2)] [])) (fun t k => XS.icmpYes X0.here hx rfl (pc0 := 3) (pc' := 8) rfl (hb hby dmethod_4_code_3) rfl (tlt hc1014).1 (by decide) (by decide) k) ?_
    refine Go.st (S' := s₁.setTop (mkF m 9 #[.val (.ref o0), .val (.int (0 : Int32)), .val (.int p2)] [(.ref o0)])) (fun t k => XS.aloadN X0.here hx rfl (hb hby dmethod_4_code_8) rfl rfl k) ?_
    refine Go.st (S' := s₁.setTop (mkF m 10 #[.val (.ref o0), .val (.int (0 : Int32)), .val (.int p2)] [(.int (0 : Int32)), (.ref o0)])) (fun t k => XS.iloadN X0.here hx rfl (hb hby dmethod_4_code_9) rfl k) ?_
    obtain ⟨cl1015, Ar1015, -, S1015, N1015_, H1015, -⟩ := id V_o0
    have hin1015 : ¬ ((0 : Int32) < 0 ∨ cl1015.slots.size ≤ ((0 : Int32)).toNatClampNeg) := inb_of S1015 ⟨by decide, hc1014⟩
    have hat1015 : cl1015.slots[((0 : Int32)).toNatClampNeg]? = some (.int e0_o0) := Has.at H1015 hin1015 rfl
    refine Go.st (S' := s₁.setTop (mkF m 11 #[.val (.ref o0), .val (.int (0 : Int32)), .val (.int p2)] [(.int e0_o0)])) (fun t k => X0.baloadBooleans hx (j := (0 : Int32)) (v := (.int e0_o0)) (own_eh e0 Ar1015.1) (State.isArrayOf_alike hZ.alike Ar1015.2.1) Ar1015.2.2 hin1015 hat1015 (g := (mkF m 10 #[.val (.ref o0), .val (.int (0 : Int32)), .val (.int p2)] [(.int (0 : Int32)), (.ref o0)])) rfl rfl (hb hby dmethod_4_code_10) t k) ?_
    refine Go.st (S' := s₁.setTop (mkF m 12 #[.val (.ref o0), .val (.int (0 : Int32)), .val (.int p2)] [(.int p2), (.int e0_o0)])) (fun t k => XS.iloadN X0.here hx rfl (hb hby dmethod_4_code_11) rfl k) ?_
    refine Go.st (S' := s₁.setTop (mkF m 13 #[.val (.ref o0), .val (.int (0 : Int32)), .val (.int p2)] [(.int (0 : Int32)), (.int p2), (.int e0_o0)])) (fun t k => XS.iloadN X0.here hx rfl (hb hby dmethod_4_code_12) rfl k) ?_
    refine Go.op (F := fun z => s₁.setTop (mkF m 14 #[.val (.ref o0), .val (.int (0 : Int32)), .val (.int p2)] [(.int z), (.int e0_o0)])) (x := ((p2.toUInt32 >>> ((0 : Int32) &&& 31).toUInt32).toInt32)) (fun t k => XS.iushr X0.here hx rfl (hb hby dmethod_4_code_13) rfl k) ?_
    intro v1016 hv1016
    refine Go.st (S' := s₁.setTop (mkF m 15 #[.val (.ref o0), .val (.int (0 : Int32)), .val (.int p2)] [(.int (1 : Int32)), (.int v1016), (.int e0_o0)])) (fun t k => XS.iconst X0.here hx rfl (hb hby dmethod_4_code_14) k) ?_
    refine Go.op (F := fun z => s₁.setTop (mkF m 16 #[.val (.ref o0), .val (.int (0 : Int32)), .val (.int p2)] [(.int z), (.int e0_o0)])) (x := (v1016 &&& (1 : Int32))) (fun t k => XS.iand X0.here hx rfl (hb hby dmethod_4_code_15) rfl k) ?_
    intro v1017 hv1017
    refine Go.join (α := Int32) (fun r => (((v1017 = (0 : Int32)) ∧ (r = (0 : Int32))) ∨ ((¬ (v1017 = (0 : Int32))) ∧ (r = (1 : Int32))))) (fun r => s₁.setTop (mkF m 24 #[.val (.ref o0), .val (.int (0 : Int32)), .val (.int p2)] [(.int r), (.int e0_o0)])) ?_ ?_
    · intro r1020 hc1021
      by_cases hc1022 : (e0_o0 = r1020)
      · refine Go.st (S' := s₁.setTop (mkF m 27 #[.val (.ref o0), .val (.int (0 : Int32)), .val (.int p2)] [])) (fun t k => XS.icmpNo X0.here hx rfl (hb hby dmethod_4_code_24) rfl (teq hc1022).2 k) ?_
        refine Go.st (S' := s₁.setTop (mkF m 28 #[.val (.ref o0), .val (.int (0 : Int32)), .val (.int p2)] [(.int (1 : Int32))])) (fun t k => XS.iconst X0.here hx rfl (hb hby dmethod_4_code_27) k) ?_
        refine Go.st (S' := s₁.setTop (mkF m 32 #[.val (.ref o0), .val (.int (0 : Int32)), .val (.int p2)] [(.int (1 : Int32))])) (fun t k => XS.goto X0.here hx rfl (pc0 := 28) (pc' := 32) rfl (hb hby dmethod_4_code_28) (by decide) (by decide) k) ?_
        exact Go.ret X0 (v := some (.int (1 : Int32))) (fun h => by rw [Bd.returns] at h; cases h) Bd.notSynchronized (fun fs hr => retN X0 hx (t := .boolean) Bd.returns (by simp) (hb hby dmethod_4_code_32) hr) (by decide) (by decide) (⟨r1020, (1 : Int32), v1016, v1017, hv1016, hv1017, (Or.inl ⟨hc1014, hc1021, hc1022, rfl⟩), rfl, N0, (e0)⟩)
      · refine Go.st (S' := s₁.setTop (mkF m 31 #[.val (.ref o0), .val (.int (0 : Int32)), .val (.int p2)] [])) (fun t k => XS.icmpYes X0.here hx rfl (pc0 := 24) (pc' := 31) rfl (hb hby dmethod_4_code_24) rfl (feq hc1022).2 (by decide) (by decide) k) ?_
        refine Go.st (S' := s₁.setTop (mkF m 32 #[.val (.ref o0), .val (.int (0 : Int32)), .val (.int p2)] [(.int (0 : Int32))])) (fun t k => XS.iconst X0.here hx rfl (hb hby dmethod_4_code_31) k) ?_
        exact Go.ret X0 (v := some (.int (0 : Int32))) (fun h => by rw [Bd.returns] at h; cases h) Bd.notSynchronized (fun fs hr => retN X0 hx (t := .boolean) Bd.returns (by simp) (hb hby dmethod_4_code_32) hr) (by decide) (by decide) (⟨r1020, (0 : Int32), v1016, v1017, hv1016, hv1017, (Or.inr ⟨hc1014, hc1021, hc1022, rfl⟩), rfl, N0, (e0)⟩)
    · intro J1023
      by_cases hc1024 : (v1017 = (0 : Int32))
      · refine Go.st (S' := s₁.setTop (mkF m 23 #[.val (.ref o0), .val (.int (0 : Int32)), .val (.int p2)] [(.int e0_o0)])) (fun t k => XS.ifYes X0.here hx rfl (pc0 := 16) (pc' := 23) rfl (hb hby dmethod_4_code_16) rfl ((if0 _ _).trans (teq hc1024).1) (by decide) (by decide) k) ?_
        refine Go.st (S' := s₁.setTop (mkF m 24 #[.val (.ref o0), .val (.int (0 : Int32)), .val (.int p2)] [(.int (0 : Int32)), (.int e0_o0)])) (fun t k => XS.iconst X0.here hx rfl (hb hby dmethod_4_code_23) k) ?_
        exact J1023 ((0 : Int32)) (Or.inl ⟨hc1024, rfl⟩)
      · refine Go.st (S' := s₁.setTop (mkF m 19 #[.val (.ref o0), .val (.int (0 : Int32)), .val (.int p2)] [(.int e0_o0)])) (fun t k => XS.ifNo X0.here hx rfl (hb hby dmethod_4_code_16) rfl ((if0 _ _).trans (feq hc1024).1) k) ?_
        refine Go.st (S' := s₁.setTop (mkF m 20 #[.val (.ref o0), .val (.int (0 : Int32)), .val (.int p2)] [(.int (1 : Int32)), (.int e0_o0)])) (fun t k => XS.iconst X0.here hx rfl (hb hby dmethod_4_code_19) k) ?_
        refine Go.st (S' := s₁.setTop (mkF m 24 #[.val (.ref o0), .val (.int (0 : Int32)), .val (.int p2)] [(.int (1 : Int32)), (.int e0_o0)])) (fun t k => XS.goto X0.here hx rfl (pc0 := 20) (pc' := 24) rfl (hb hby dmethod_4_code_20) (by decide) (by decide) k) ?_
        exact J1023 ((1 : Int32)) (Or.inr ⟨hc1024, rfl⟩)
  · exfalso
    have rz_o0 := rng32 z_o0
    have lI0 : (0 : Int32).toInt = 0 := by decide
    have lI1 : (1 : Int32).toInt = 1 := by decide
    have lI8 : (8 : Int32).toInt = 8 := by decide
    simp only [Int32.lt_iff_toInt_lt, Int64.lt_iff_toInt_lt, ← Int32.toInt_inj, ← Int64.toInt_inj] at hra_z_o0 hrb_z_o0 hc1014
    omega
theorem ef_53 (m : MethodId) (o0 : Addr) (p2 : Int32) : entryFrame m #[(.ref o0), (.int (1 : Int32)), (.int p2)] 3 = mkF m 0 #[.val (.ref o0), .val (.int (1 : Int32)), .val (.int p2)] [] := by first | (simp [entryFrame, mkF, argsToLocals, Value.category, maxLocals]; done) | rfl
def Q53 (Z : State) (o0 : Addr) (p2 : Int32) (k_o0 : ClassId) (z_o0 : Int32) (e0_o0 : Int32) (e1_o0 : Int32) (e2_o0 : Int32) (e3_o0 : Int32) (e4_o0 : Int32) (e5_o0 : Int32) (e6_o0 : Int32) (e7_o0 : Int32) (h0 : Heap) (n0 : Nat) (v : Option Value) (h : Heap) (L : List Loc) : Prop := (∃ (r1040 : Int32) (rv53 : Int32) (v1036 : Int32) (v1037 : Int32), v1036 = ((p2.toUInt32 >>> ((1 : Int32) &&& 31).toUInt32).toInt32) ∧ v1037 = (v1036 &&& (1 : Int32)) ∧ ((((1 : Int32) < z_o0) ∧ (((v1037 = (0 : Int32)) ∧ (r1040 = (0 : Int32))) ∨ ((¬ (v1037 = (0 : Int32))) ∧ (r1040 = (1 : Int32)))) ∧ (e1_o0 = r1040) ∧ (rv53 = (1 : Int32))) ∨ (((1 : Int32) < z_o0) ∧ (((v1037 = (0 : Int32)) ∧ (r1040 = (0 : Int32))) ∨ ((¬ (v1037 = (0 : Int32))) ∧ (r1040 = (1 : Int32)))) ∧ (¬ (e1_o0 = r1040)) ∧ (rv53 = (0 : Int32))) ∨ ((¬ ((1 : Int32) < z_o0)) ∧ (rv53 = (1 : Int32)))) ∧ v = some (.int rv53) ∧ Fr n0 L ∧ h = h0)
set_option maxRecDepth 65536 in
set_option maxHeartbeats 40000000 in
theorem rm53 (l : Launch) (Z : State) (a0 : Array Value) (hw : ∀ d ∈ tables_1, d.before a0 Z = true) (ws : List Jvm.Cond) (o0 : Addr) (p2 : Int32) (k_o0 : ClassId) (z_o0 : Int32) (e0_o0 : Int32) (e1_o0 : Int32) (e2_o0 : Int32) (e3_o0 : Int32) (e4_o0 : Int32) (e5_o0 : Int32) (e6_o0 : Int32) (e7_o0 : Int32) (h0 : Heap) (n0 : Nat) (Z0 : n0 ≤ h0.size) (hra_z_o0 : (¬ (z_o0 < (1 : Int32)))) (hrb_z_o0 : (¬ ((8 : Int32) < z_o0))) (V_o0 : Arv Z h0 o0 k_o0 .boolean z_o0 [(.int e0_o0), (.int e1_o0), (.int e2_o0), (.int e3_o0), (.int e4_o0), (.int e5_o0), (.int e6_o0), (.int e7_o0)] (.int (0 : Int32))) :
    Con l Z (⟨"com/example/tuneless/tuneless/problem/OneMaxEvaluatePinLaw", "same", "([ZII)Z"⟩ : MethodName) method_4_code 3 (some .boolean) ws ({ frames := 0, cells := 0, slots := 0, locals := 0 } : Room) #[(.ref o0), (.int (1 : Int32)), (.int p2)] h0 0 0 (Q53 Z o0 p2 k_o0 z_o0 e0_o0 e1_o0 e2_o0 e3_o0 e4_o0 e5_o0 e6_o0 e7_o0 h0 n0) := by
  refine MetFree.of_bodySF (plainFor_of_name pn_9) hisR ?_
  intro p e s m args below meth c s₁ Bd hml0 hP hK
  obtain ⟨rfl, hZ, hh⟩ := hP
  have hx := Bd.exec
  have hby := Bd.bytes
  have hml : c.maxLocals = 3 := hml0
  have hown : s.vm.findClass "com/example/tuneless/tuneless/problem/OneMaxEvaluatePinLaw" = some m.cls := findClass_of_methodNamed Bd.named
  have hnm := (name_of_methodNamed Bd.named Bd.method).1
  have X0 : Stand p l e ({ frames := 0, cells := 0, slots := 0, locals := 0 } : Room) s m #[(.ref o0), (.int (1 : Int32)), (.int p2)] below meth c s₁ [] 0 0 := Stand.of_body Bd
  have e0 : s₁.heap = h0 := by rw [← hh, Bd.state]; rfl
  have N0 := Fr.nil n0
  refine Go.of ?_
  refine Go.st (S' := s₁.setTop (mkF m 0 #[.val (.ref o0), .val (.int (1 : Int32)), .val (.int p2)] [])) (fun t k => castTop (ef_53 m o0 p2) k) ?_
  refine Go.st (S' := s₁.setTop (mkF m 1 #[.val (.ref o0), .val (.int (1 : Int32)), .val (.int p2)] [(.int (1 : Int32))])) (fun t k => XS.iloadN X0.here hx rfl (hb hby dmethod_4_code_0) rfl k) ?_
  refine Go.st (S' := s₁.setTop (mkF m 2 #[.val (.ref o0), .val (.int (1 : Int32)), .val (.int p2)] [(.ref o0), (.int (1 : Int32))])) (fun t k => XS.aloadN X0.here hx rfl (hb hby dmethod_4_code_1) rfl rfl k) ?_
  obtain ⟨cl1032, Ar1032, -, S1032, N1032_, -, -⟩ := id V_o0
  refine Go.op (F := fun z => s₁.setTop (mkF m 3 #[.val (.ref o0), .val (.int (1 : Int32)), .val (.int p2)] [(.int z), (.int (1 : Int32))])) (x := cl1032.slots.size.toInt32) (fun t k => X0.arraylength hx (own_eh e0 Ar1032.1) (State.isArrayOf_alike hZ.alike Ar1032.2.1) (g := (mkF m 2 #[.val (.ref o0), .val (.int (1 : Int32)), .val (.int p2)] [(.ref o0), (.int (1 : Int32))])) rfl rfl (hb hby dmethod_4_code_2) t k) ?_
  intro v1033 hv1033
  obtain rfl : z_o0 = v1033 := (hv1033.trans (len_of S1032 N1032_)).symm
  by_cases hc1034 : ((1 : Int32) < z_o0)
  · refine Go.st (S' := s₁.setTop (mkF m 8 #[.val (.ref o0), .val (.int (1 : Int32)), .val (.int p2)] [])) (fun t k => XS.icmpYes X0.here hx rfl (pc0 := 3) (pc' := 8) rfl (hb hby dmethod_4_code_3) rfl (tlt hc1034).1 (by decide) (by decide) k) ?_
    refine Go.st (S' := s₁.setTop (mkF m 9 #[.val (.ref o0), .val (.int (1 : Int32)), .val (.int p2)] [(.ref o0)])) (fun t k => XS.aloadN X0.here hx rfl (hb hby dmethod_4_code_8) rfl rfl k) ?_
    refine Go.st (S' := s₁.setTop (mkF m 10 #[.val (.ref o0), .val (.int (1 : Int32)), .val (.int p2)] [(.int (1 : Int32)), (.ref o0)])) (fun t k => XS.iloadN X0.here hx rfl (hb hby dmethod_4_code_9) rfl k) ?_
    obtain ⟨cl1035, Ar1035, -, S1035, N1035_, H1035, -⟩ := id V_o0
    have hin1035 : ¬ ((1 : Int32) < 0 ∨ cl1035.slots.size ≤ ((1 : Int32)).toNatClampNeg) := inb_of S1035 ⟨by decide, hc1034⟩
    have hat1035 : cl1035.slots[((1 : Int32)).toNatClampNeg]? = some (.int e1_o0) := Has.at H1035 hin1035 rfl
    refine Go.st (S' := s₁.setTop (mkF m 11 #[.val (.ref o0), .val (.int (1 : Int32)), .val (.int p2)] [(.int e1_o0)])) (fun t k => X0.baloadBooleans hx (j := (1 : Int32)) (v := (.int e1_o0)) (own_eh e0 Ar1035.1) (State.isArrayOf_alike hZ.alike Ar1035.2.1) Ar1035.2.2 hin1035 hat1035 (g := (mkF m 10 #[.val (.ref o0), .val (.int (1 : Int32)), .val (.int p2)] [(.int (1 : Int32)), (.ref o0)])) rfl rfl (hb hby dmethod_4_code_10) t k) ?_
    refine Go.st (S' := s₁.setTop (mkF m 12 #[.val (.ref o0), .val (.int (1 : Int32)), .val (.int p2)] [(.int p2), (.int e1_o0)])) (fun t k => XS.iloadN X0.here hx rfl (hb hby dmethod_4_code_11) rfl k) ?_
    refine Go.st (S' := s₁.setTop (mkF m 13 #[.val (.ref o0), .val (.int (1 : Int32)), .val (.int p2)] [(.int (1 : Int32)), (.int p2), (.int e1_o0)])) (fun t k => XS.iloadN X0.here hx rfl (hb hby dmethod_4_code_12) rfl k) ?_
    refine Go.op (F := fun z => s₁.setTop (mkF m 14 #[.val (.ref o0), .val (.int (1 : Int32)), .val (.int p2)] [(.int z), (.int e1_o0)])) (x := ((p2.toUInt32 >>> ((1 : Int32) &&& 31).toUInt32).toInt32)) (fun t k => XS.iushr X0.here hx rfl (hb hby dmethod_4_code_13) rfl k) ?_
    intro v1036 hv1036
    refine Go.st (S' := s₁.setTop (mkF m 15 #[.val (.ref o0), .val (.int (1 : Int32)), .val (.int p2)] [(.int (1 : Int32)), (.int v1036), (.int e1_o0)])) (fun t k => XS.iconst X0.here hx rfl (hb hby dmethod_4_code_14) k) ?_
    refine Go.op (F := fun z => s₁.setTop (mkF m 16 #[.val (.ref o0), .val (.int (1 : Int32)), .val (.int p2)] [(.int z), (.int e1_o0)])) (x := (v1036 &&& (1 : Int32))) (fun t k => XS.iand X0.here hx rfl (hb hby dmethod_4_code_15) rfl k) ?_
    intro v1037 hv1037
    refine Go.join (α := Int32) (fun r => (((v1037 = (0 : Int32)) ∧ (r = (0 : Int32))) ∨ ((¬ (v1037 = (0 : Int32))) ∧ (r = (1 : Int32))))) (fun r => s₁.setTop (mkF m 24 #[.val (.ref o0), .val (.int (1 : Int32)), .val (.int p2)] [(.int r), (.int e1_o0)])) ?_ ?_
    · intro r1040 hc1041
      by_cases hc1042 : (e1_o0 = r1040)
      · refine Go.st (S' := s₁.setTop (mkF m 27 #[.val (.ref o0), .val (.int (1 : Int32)), .val (.int p2)] [])) (fun t k => XS.icmpNo X0.here hx rfl (hb hby dmethod_4_code_24) rfl (teq hc1042).2 k) ?_
        refine Go.st (S' := s₁.setTop (mkF m 28 #[.val (.ref o0), .val (.int (1 : Int32)), .val (.int p2)] [(.int (1 : Int32))])) (fun t k => XS.iconst X0.here hx rfl (hb hby dmethod_4_code_27) k) ?_
        refine Go.st (S' := s₁.setTop (mkF m 32 #[.val (.ref o0), .val (.int (1 : Int32)), .val (.int p2)] [(.int (1 : Int32))])) (fun t k => XS.goto X0.here hx rfl (pc0 := 28) (pc' := 32) rfl (hb hby dmethod_4_code_28) (by decide) (by decide) k) ?_
        exact Go.ret X0 (v := some (.int (1 : Int32))) (fun h => by rw [Bd.returns] at h; cases h) Bd.notSynchronized (fun fs hr => retN X0 hx (t := .boolean) Bd.returns (by simp) (hb hby dmethod_4_code_32) hr) (by decide) (by decide) (⟨r1040, (1 : Int32), v1036, v1037, hv1036, hv1037, (Or.inl ⟨hc1034, hc1041, hc1042, rfl⟩), rfl, N0, (e0)⟩)
      · refine Go.st (S' := s₁.setTop (mkF m 31 #[.val (.ref o0), .val (.int (1 : Int32)), .val (.int p2)] [])) (fun t k => XS.icmpYes X0.here hx rfl (pc0 := 24) (pc' := 31) rfl (hb hby dmethod_4_code_24) rfl (feq hc1042).2 (by decide) (by decide) k) ?_
        refine Go.st (S' := s₁.setTop (mkF m 32 #[.val (.ref o0), .val (.int (1 : Int32)), .val (.int p2)] [(.int (0 : Int32))])) (fun t k => XS.iconst X0.here hx rfl (hb hby dmethod_4_code_31) k) ?_
        exact Go.ret X0 (v := some (.int (0 : Int32))) (fun h => by rw [Bd.returns] at h; cases h) Bd.notSynchronized (fun fs hr => retN X0 hx (t := .boolean) Bd.returns (by simp) (hb hby dmethod_4_code_32) hr) (by decide) (by decide) (⟨r1040, (0 : Int32), v1036, v1037, hv1036, hv1037, (Or.inr (Or.inl ⟨hc1034, hc1041, hc1042, rfl⟩)), rfl, N0, (e0)⟩)
    · intro J1043
      by_cases hc1044 : (v1037 = (0 : Int32))
      · refine Go.st (S' := s₁.setTop (mkF m 23 #[.val (.ref o0), .val (.int (1 : Int32)), .val (.int p2)] [(.int e1_o0)])) (fun t k => XS.ifYes X0.here hx rfl (pc0 := 16) (pc' := 23) rfl (hb hby dmethod_4_code_16) rfl ((if0 _ _).trans (teq hc1044).1) (by decide) (by decide) k) ?_
        refine Go.st (S' := s₁.setTop (mkF m 24 #[.val (.ref o0), .val (.int (1 : Int32)), .val (.int p2)] [(.int (0 : Int32)), (.int e1_o0)])) (fun t k => XS.iconst X0.here hx rfl (hb hby dmethod_4_code_23) k) ?_
        exact J1043 ((0 : Int32)) (Or.inl ⟨hc1044, rfl⟩)
      · refine Go.st (S' := s₁.setTop (mkF m 19 #[.val (.ref o0), .val (.int (1 : Int32)), .val (.int p2)] [(.int e1_o0)])) (fun t k => XS.ifNo X0.here hx rfl (hb hby dmethod_4_code_16) rfl ((if0 _ _).trans (feq hc1044).1) k) ?_
        refine Go.st (S' := s₁.setTop (mkF m 20 #[.val (.ref o0), .val (.int (1 : Int32)), .val (.int p2)] [(.int (1 : Int32)), (.int e1_o0)])) (fun t k => XS.iconst X0.here hx rfl (hb hby dmethod_4_code_19) k) ?_
        refine Go.st (S' := s₁.setTop (mkF m 24 #[.val (.ref o0), .val (.int (1 : Int32)), .val (.int p2)] [(.int (1 : Int32)), (.int e1_o0)])) (fun t k => XS.goto X0.here hx rfl (pc0 := 20) (pc' := 24) rfl (hb hby dmethod_4_code_20) (by decide) (by decide) k) ?_
        exact J1043 ((1 : Int32)) (Or.inr ⟨hc1044, rfl⟩)
  · refine Go.st (S' := s₁.setTop (mkF m 6 #[.val (.ref o0), .val (.int (1 : Int32)), .val (.int p2)] [])) (fun t k => XS.icmpNo X0.here hx rfl (hb hby dmethod_4_code_3) rfl (flt hc1034).1 k) ?_
    refine Go.st (S' := s₁.setTop (mkF m 7 #[.val (.ref o0), .val (.int (1 : Int32)), .val (.int p2)] [(.int (1 : Int32))])) (fun t k => XS.iconst X0.here hx rfl (hb hby dmethod_4_code_6) k) ?_
    exact Go.ret X0 (v := some (.int (1 : Int32))) (fun h => by rw [Bd.returns] at h; cases h) Bd.notSynchronized (fun fs hr => retN X0 hx (t := .boolean) Bd.returns (by simp) (hb hby dmethod_4_code_7) hr) (by decide) (by decide) (⟨(0 : Int32), (1 : Int32), _, _, rfl, rfl, (Or.inr (Or.inr ⟨hc1034, rfl⟩)), rfl, N0, (e0)⟩)
theorem ef_54 (m : MethodId) (o0 : Addr) (p2 : Int32) : entryFrame m #[(.ref o0), (.int (2 : Int32)), (.int p2)] 3 = mkF m 0 #[.val (.ref o0), .val (.int (2 : Int32)), .val (.int p2)] [] := by first | (simp [entryFrame, mkF, argsToLocals, Value.category, maxLocals]; done) | rfl
def Q54 (Z : State) (o0 : Addr) (p2 : Int32) (k_o0 : ClassId) (z_o0 : Int32) (e0_o0 : Int32) (e1_o0 : Int32) (e2_o0 : Int32) (e3_o0 : Int32) (e4_o0 : Int32) (e5_o0 : Int32) (e6_o0 : Int32) (e7_o0 : Int32) (h0 : Heap) (n0 : Nat) (v : Option Value) (h : Heap) (L : List Loc) : Prop := (∃ (r1060 : Int32) (rv54 : Int32) (v1056 : Int32) (v1057 : Int32), v1056 = ((p2.toUInt32 >>> ((2 : Int32) &&& 31).toUInt32).toInt32) ∧ v1057 = (v1056 &&& (1 : Int32)) ∧ ((((2 : Int32) < z_o0) ∧ (((v1057 = (0 : Int32)) ∧ (r1060 = (0 : Int32))) ∨ ((¬ (v1057 = (0 : Int32))) ∧ (r1060 = (1 : Int32)))) ∧ (e2_o0 = r1060) ∧ (rv54 = (1 : Int32))) ∨ (((2 : Int32) < z_o0) ∧ (((v1057 = (0 : Int32)) ∧ (r1060 = (0 : Int32))) ∨ ((¬ (v1057 = (0 : Int32))) ∧ (r1060 = (1 : Int32)))) ∧ (¬ (e2_o0 = r1060)) ∧ (rv54 = (0 : Int32))) ∨ ((¬ ((2 : Int32) < z_o0)) ∧ (rv54 = (1 : Int32)))) ∧ v = some (.int rv54) ∧ Fr n0 L ∧ h = h0)
set_option maxRecDepth 65536 in
set_option maxHeartbeats 40000000 in
theorem rm54 (l : Launch) (Z : State) (a0 : Array Value) (hw : ∀ d ∈ tables_1, d.before a0 Z = true) (ws : List Jvm.Cond) (o0 : Addr) (p2 : Int32) (k_o0 : ClassId) (z_o0 : Int32) (e0_o0 : Int32) (e1_o0 : Int32) (e2_o0 : Int32) (e3_o0 : Int32) (e4_o0 : Int32) (e5_o0 : Int32) (e6_o0 : Int32) (e7_o0 : Int32) (h0 : Heap) (n0 : Nat) (Z0 : n0 ≤ h0.size) (hra_z_o0 : (¬ (z_o0 < (1 : Int32)))) (hrb_z_o0 : (¬ ((8 : Int32) < z_o0))) (V_o0 : Arv Z h0 o0 k_o0 .boolean z_o0 [(.int e0_o0), (.int e1_o0), (.int e2_o0), (.int e3_o0), (.int e4_o0), (.int e5_o0), (.int e6_o0), (.int e7_o0)] (.int (0 : Int32))) :
    Con l Z (⟨"com/example/tuneless/tuneless/problem/OneMaxEvaluatePinLaw", "same", "([ZII)Z"⟩ : MethodName) method_4_code 3 (some .boolean) ws ({ frames := 0, cells := 0, slots := 0, locals := 0 } : Room) #[(.ref o0), (.int (2 : Int32)), (.int p2)] h0 0 0 (Q54 Z o0 p2 k_o0 z_o0 e0_o0 e1_o0 e2_o0 e3_o0 e4_o0 e5_o0 e6_o0 e7_o0 h0 n0) := by
  refine MetFree.of_bodySF (plainFor_of_name pn_9) hisR ?_
  intro p e s m args below meth c s₁ Bd hml0 hP hK
  obtain ⟨rfl, hZ, hh⟩ := hP
  have hx := Bd.exec
  have hby := Bd.bytes
  have hml : c.maxLocals = 3 := hml0
  have hown : s.vm.findClass "com/example/tuneless/tuneless/problem/OneMaxEvaluatePinLaw" = some m.cls := findClass_of_methodNamed Bd.named
  have hnm := (name_of_methodNamed Bd.named Bd.method).1
  have X0 : Stand p l e ({ frames := 0, cells := 0, slots := 0, locals := 0 } : Room) s m #[(.ref o0), (.int (2 : Int32)), (.int p2)] below meth c s₁ [] 0 0 := Stand.of_body Bd
  have e0 : s₁.heap = h0 := by rw [← hh, Bd.state]; rfl
  have N0 := Fr.nil n0
  refine Go.of ?_
  refine Go.st (S' := s₁.setTop (mkF m 0 #[.val (.ref o0), .val (.int (2 : Int32)), .val (.int p2)] [])) (fun t k => castTop (ef_54 m o0 p2) k) ?_
  refine Go.st (S' := s₁.setTop (mkF m 1 #[.val (.ref o0), .val (.int (2 : Int32)), .val (.int p2)] [(.int (2 : Int32))])) (fun t k => XS.iloadN X0.here hx rfl (hb hby dmethod_4_code_0) rfl k) ?_
  refine Go.st (S' := s₁.setTop (mkF m 2 #[.val (.ref o0), .val (.int (2 : Int32)), .val (.int p2)] [(.ref o0), (.int (2 : Int32))])) (fun t k => XS.aloadN X0.here hx rfl (hb hby dmethod_4_code_1) rfl rfl k) ?_
  obtain ⟨cl1052, Ar1052, -, S1052, N1052_, -, -⟩ := id V_o0
  refine Go.op (F := fun z => s₁.setTop (mkF m 3 #[.val (.ref o0), .val (.int (2 : Int32)), .val (.int p2)] [(.int z), (.int (2 : Int32))])) (x := cl1052.slots.size.toInt32) (fun t k => X0.arraylength hx (own_eh e0 Ar1052.1) (State.isArrayOf_alike hZ.alike Ar1052.2.1) (g := (mkF m 2 #[.val (.ref o0), .val (.int (2 : Int32)), .val (.int p2)] [(.ref o0), (.int (2 : Int32))])) rfl rfl (hb hby dmethod_4_code_2) t k) ?_
  intro v1053 hv1053
  obtain rfl : z_o0 = v1053 := (hv1053.trans (len_of S1052 N1052_)).symm
  by_cases hc1054 : ((2 : Int32) < z_o0)
  · refine Go.st (S' := s₁.setTop (mkF m 8 #[.val (.ref o0), .val (.int (2 : Int32)), .val (.int p2)] [])) (fun t k => XS.icmpYes X0.here hx rfl (pc0 := 3) (pc' := 8) rfl (hb hby dmethod_4_code_3) rfl (tlt hc1054).1 (by decide) (by decide) k) ?_
    refine Go.st (S' := s₁.setTop (mkF m 9 #[.val (.ref o0), .val (.int (2 : Int32)), .val (.int p2)] [(.ref o0)])) (fun t k => XS.aloadN X0.here hx rfl (hb hby dmethod_4_code_8) rfl rfl k) ?_
    refine Go.st (S' := s₁.setTop (mkF m 10 #[.val (.ref o0), .val (.int (2 : Int32)), .val (.int p2)] [(.int (2 : Int32)), (.ref o0)])) (fun t k => XS.iloadN X0.here hx rfl (hb hby dmethod_4_code_9) rfl k) ?_
    obtain ⟨cl1055, Ar1055, -, S1055, N1055_, H1055, -⟩ := id V_o0
    have hin1055 : ¬ ((2 : Int32) < 0 ∨ cl1055.slots.size ≤ ((2 : Int32)).toNatClampNeg) := inb_of S1055 ⟨by decide, hc1054⟩
    have hat1055 : cl1055.slots[((2 : Int32)).toNatClampNeg]? = some (.int e2_o0) := Has.at H1055 hin1055 rfl
    refine Go.st (S' := s₁.setTop (mkF m 11 #[.val (.ref o0), .val (.int (2 : Int32)), .val (.int p2)] [(.int e2_o0)])) (fun t k => X0.baloadBooleans hx (j := (2 : Int32)) (v := (.int e2_o0)) (own_eh e0 Ar1055.1) (State.isArrayOf_alike hZ.alike Ar1055.2.1) Ar1055.2.2 hin1055 hat1055 (g := (mkF m 10 #[.val (.ref o0), .val (.int (2 : Int32)), .val (.int p2)] [(.int (2 : Int32)), (.ref o0)])) rfl rfl (hb hby dmethod_4_code_10) t k) ?_
    refine Go.st (S' := s₁.setTop (mkF m 12 #[.val (.ref o0), .val (.int (2 : Int32)), .val (.int p2)] [(.int p2), (.int e2_o0)])) (fun t k => XS.iloadN X0.here hx rfl (hb hby dmethod_4_code_11) rfl k) ?_
    refine Go.st (S' := s₁.setTop (mkF m 13 #[.val (.ref o0), .val (.int (2 : Int32)), .val (.int p2)] [(.int (2 : Int32)), (.int p2), (.int e2_o0)])) (fun t k => XS.iloadN X0.here hx rfl (hb hby dmethod_4_code_12) rfl k) ?_
    refine Go.op (F := fun z => s₁.setTop (mkF m 14 #[.val (.ref o0), .val (.int (2 : Int32)), .val (.int p2)] [(.int z), (.int e2_o0)])) (x := ((p2.toUInt32 >>> ((2 : Int32) &&& 31).toUInt32).toInt32)) (fun t k => XS.iushr X0.here hx rfl (hb hby dmethod_4_code_13) rfl k) ?_
    intro v1056 hv1056
    refine Go.st (S' := s₁.setTop (mkF m 15 #[.val (.ref o0), .val (.int (2 : Int32)), .val (.int p2)] [(.int (1 : Int32)), (.int v1056), (.int e2_o0)])) (fun t k => XS.iconst X0.here hx rfl (hb hby dmethod_4_code_14) k) ?_
    refine Go.op (F := fun z => s₁.setTop (mkF m 16 #[.val (.ref o0), .val (.int (2 : Int32)), .val (.int p2)] [(.int z), (.int e2_o0)])) (x := (v1056 &&& (1 : Int32))) (fun t k => XS.iand X0.here hx rfl (hb hby dmethod_4_code_15) rfl k) ?_
    intro v1057 hv1057
    refine Go.join (α := Int32) (fun r => (((v1057 = (0 : Int32)) ∧ (r = (0 : Int32))) ∨ ((¬ (v1057 = (0 : Int32))) ∧ (r = (1 : Int32))))) (fun r => s₁.setTop (mkF m 24 #[.val (.ref o0), .val (.int (2 : Int32)), .val (.int p2)] [(.int r), (.int e2_o0)])) ?_ ?_
    · intro r1060 hc1061
      by_cases hc1062 : (e2_o0 = r1060)
      · refine Go.st (S' := s₁.setTop (mkF m 27 #[.val (.ref o0), .val (.int (2 : Int32)), .val (.int p2)] [])) (fun t k => XS.icmpNo X0.here hx rfl (hb hby dmethod_4_code_24) rfl (teq hc1062).2 k) ?_
        refine Go.st (S' := s₁.setTop (mkF m 28 #[.val (.ref o0), .val (.int (2 : Int32)), .val (.int p2)] [(.int (1 : Int32))])) (fun t k => XS.iconst X0.here hx rfl (hb hby dmethod_4_code_27) k) ?_
        refine Go.st (S' := s₁.setTop (mkF m 32 #[.val (.ref o0), .val (.int (2 : Int32)), .val (.int p2)] [(.int (1 : Int32))])) (fun t k => XS.goto X0.here hx rfl (pc0 := 28) (pc' := 32) rfl (hb hby dmethod_4_code_28) (by decide) (by decide) k) ?_
        exact Go.ret X0 (v := some (.int (1 : Int32))) (fun h => by rw [Bd.returns] at h; cases h) Bd.notSynchronized (fun fs hr => retN X0 hx (t := .boolean) Bd.returns (by simp) (hb hby dmethod_4_code_32) hr) (by decide) (by decide) (⟨r1060, (1 : Int32), v1056, v1057, hv1056, hv1057, (Or.inl ⟨hc1054, hc1061, hc1062, rfl⟩), rfl, N0, (e0)⟩)
      · refine Go.st (S' := s₁.setTop (mkF m 31 #[.val (.ref o0), .val (.int (2 : Int32)), .val (.int p2)] [])) (fun t k => XS.icmpYes X0.here hx rfl (pc0 := 24) (pc' := 31) rfl (hb hby dmethod_4_code_24) rfl (feq hc1062).2 (by decide) (by decide) k) ?_
        refine Go.st (S' := s₁.setTop (mkF m 32 #[.val (.ref o0), .val (.int (2 : Int32)), .val (.int p2)] [(.int (0 : Int32))])) (fun t k => XS.iconst X0.here hx rfl (hb hby dmethod_4_code_31) k) ?_
        exact Go.ret X0 (v := some (.int (0 : Int32))) (fun h => by rw [Bd.returns] at h; cases h) Bd.notSynchronized (fun fs hr => retN X0 hx (t := .boolean) Bd.returns (by simp) (hb hby dmethod_4_code_32) hr) (by decide) (by decide) (⟨r1060, (0 : Int32), v1056, v1057, hv1056, hv1057, (Or.inr (Or.inl ⟨hc1054, hc1061, hc1062, rfl⟩)), rfl, N0, (e0)⟩)
    · intro J1063
      by_cases hc1064 : (v1057 = (0 : Int32))
      · refine Go.st (S' := s₁.setTop (mkF m 23 #[.val (.ref o0), .val (.int (2 : Int32)), .val (.int p2)] [(.int e2_o0)])) (fun t k => XS.ifYes X0.here hx rfl (pc0 := 16) (pc' := 23) rfl (hb hby dmethod_4_code_16) rfl ((if0 _ _).trans (teq hc1064).1) (by decide) (by decide) k) ?_
        refine Go.st (S' := s₁.setTop (mkF m 24 #[.val (.ref o0), .val (.int (2 : Int32)), .val (.int p2)] [(.int (0 : Int32)), (.int e2_o0)])) (fun t k => XS.iconst X0.here hx rfl (hb hby dmethod_4_code_23) k) ?_
        exact J1063 ((0 : Int32)) (Or.inl ⟨hc1064, rfl⟩)
      · refine Go.st (S' := s₁.setTop (mkF m 19 #[.val (.ref o0), .val (.int (2 : Int32)), .val (.int p2)] [(.int e2_o0)])) (fun t k => XS.ifNo X0.here hx rfl (hb hby dmethod_4_code_16) rfl ((if0 _ _).trans (feq hc1064).1) k) ?_
        refine Go.st (S' := s₁.setTop (mkF m 20 #[.val (.ref o0), .val (.int (2 : Int32)), .val (.int p2)] [(.int (1 : Int32)), (.int e2_o0)])) (fun t k => XS.iconst X0.here hx rfl (hb hby dmethod_4_code_19) k) ?_
        refine Go.st (S' := s₁.setTop (mkF m 24 #[.val (.ref o0), .val (.int (2 : Int32)), .val (.int p2)] [(.int (1 : Int32)), (.int e2_o0)])) (fun t k => XS.goto X0.here hx rfl (pc0 := 20) (pc' := 24) rfl (hb hby dmethod_4_code_20) (by decide) (by decide) k) ?_
        exact J1063 ((1 : Int32)) (Or.inr ⟨hc1064, rfl⟩)
  · refine Go.st (S' := s₁.setTop (mkF m 6 #[.val (.ref o0), .val (.int (2 : Int32)), .val (.int p2)] [])) (fun t k => XS.icmpNo X0.here hx rfl (hb hby dmethod_4_code_3) rfl (flt hc1054).1 k) ?_
    refine Go.st (S' := s₁.setTop (mkF m 7 #[.val (.ref o0), .val (.int (2 : Int32)), .val (.int p2)] [(.int (1 : Int32))])) (fun t k => XS.iconst X0.here hx rfl (hb hby dmethod_4_code_6) k) ?_
    exact Go.ret X0 (v := some (.int (1 : Int32))) (fun h => by rw [Bd.returns] at h; cases h) Bd.notSynchronized (fun fs hr => retN X0 hx (t := .boolean) Bd.returns (by simp) (hb hby dmethod_4_code_7) hr) (by decide) (by decide) (⟨(0 : Int32), (1 : Int32), _, _, rfl, rfl, (Or.inr (Or.inr ⟨hc1054, rfl⟩)), rfl, N0, (e0)⟩)
theorem ef_55 (m : MethodId) (o0 : Addr) (p2 : Int32) : entryFrame m #[(.ref o0), (.int (3 : Int32)), (.int p2)] 3 = mkF m 0 #[.val (.ref o0), .val (.int (3 : Int32)), .val (.int p2)] [] := by first | (simp [entryFrame, mkF, argsToLocals, Value.category, maxLocals]; done) | rfl
def Q55 (Z : State) (o0 : Addr) (p2 : Int32) (k_o0 : ClassId) (z_o0 : Int32) (e0_o0 : Int32) (e1_o0 : Int32) (e2_o0 : Int32) (e3_o0 : Int32) (e4_o0 : Int32) (e5_o0 : Int32) (e6_o0 : Int32) (e7_o0 : Int32) (h0 : Heap) (n0 : Nat) (v : Option Value) (h : Heap) (L : List Loc) : Prop := (∃ (r1080 : Int32) (rv55 : Int32) (v1076 : Int32) (v1077 : Int32), v1076 = ((p2.toUInt32 >>> ((3 : Int32) &&& 31).toUInt32).toInt32) ∧ v1077 = (v1076 &&& (1 : Int32)) ∧ ((((3 : Int32) < z_o0) ∧ (((v1077 = (0 : Int32)) ∧ (r1080 = (0 : Int32))) ∨ ((¬ (v1077 = (0 : Int32))) ∧ (r1080 = (1 : Int32)))) ∧ (e3_o0 = r1080) ∧ (rv55 = (1 : Int32))) ∨ (((3 : Int32) < z_o0) ∧ (((v1077 = (0 : Int32)) ∧ (r1080 = (0 : Int32))) ∨ ((¬ (v1077 = (0 : Int32))) ∧ (r1080 = (1 : Int32)))) ∧ (¬ (e3_o0 = r1080)) ∧ (rv55 = (0 : Int32))) ∨ ((¬ ((3 : Int32) < z_o0)) ∧ (rv55 = (1 : Int32)))) ∧ v = some (.int rv55) ∧ Fr n0 L ∧ h = h0)
set_option maxRecDepth 65536 in
set_option maxHeartbeats 40000000 in
theorem rm55 (l : Launch) (Z : State) (a0 : Array Value) (hw : ∀ d ∈ tables_1, d.before a0 Z = true) (ws : List Jvm.Cond) (o0 : Addr) (p2 : Int32) (k_o0 : ClassId) (z_o0 : Int32) (e0_o0 : Int32) (e1_o0 : Int32) (e2_o0 : Int32) (e3_o0 : Int32) (e4_o0 : Int32) (e5_o0 : Int32) (e6_o0 : Int32) (e7_o0 : Int32) (h0 : Heap) (n0 : Nat) (Z0 : n0 ≤ h0.size) (hra_z_o0 : (¬ (z_o0 < (1 : Int32)))) (hrb_z_o0 : (¬ ((8 : Int32) < z_o0))) (V_o0 : Arv Z h0 o0 k_o0 .boolean z_o0 [(.int e0_o0), (.int e1_o0), (.int e2_o0), (.int e3_o0), (.int e4_o0), (.int e5_o0), (.int e6_o0), (.int e7_o0)] (.int (0 : Int32))) :
    Con l Z (⟨"com/example/tuneless/tuneless/problem/OneMaxEvaluatePinLaw", "same", "([ZII)Z"⟩ : MethodName) method_4_code 3 (some .boolean) ws ({ frames := 0, cells := 0, slots := 0, locals := 0 } : Room) #[(.ref o0), (.int (3 : Int32)), (.int p2)] h0 0 0 (Q55 Z o0 p2 k_o0 z_o0 e0_o0 e1_o0 e2_o0 e3_o0 e4_o0 e5_o0 e6_o0 e7_o0 h0 n0) := by
  refine MetFree.of_bodySF (plainFor_of_name pn_9) hisR ?_
  intro p e s m args below meth c s₁ Bd hml0 hP hK
  obtain ⟨rfl, hZ, hh⟩ := hP
  have hx := Bd.exec
  have hby := Bd.bytes
  have hml : c.maxLocals = 3 := hml0
  have hown : s.vm.findClass "com/example/tuneless/tuneless/problem/OneMaxEvaluatePinLaw" = some m.cls := findClass_of_methodNamed Bd.named
  have hnm := (name_of_methodNamed Bd.named Bd.method).1
  have X0 : Stand p l e ({ frames := 0, cells := 0, slots := 0, locals := 0 } : Room) s m #[(.ref o0), (.int (3 : Int32)), (.int p2)] below meth c s₁ [] 0 0 := Stand.of_body Bd
  have e0 : s₁.heap = h0 := by rw [← hh, Bd.state]; rfl
  have N0 := Fr.nil n0
  refine Go.of ?_
  refine Go.st (S' := s₁.setTop (mkF m 0 #[.val (.ref o0), .val (.int (3 : Int32)), .val (.int p2)] [])) (fun t k => castTop (ef_55 m o0 p2) k) ?_
  refine Go.st (S' := s₁.setTop (mkF m 1 #[.val (.ref o0), .val (.int (3 : Int32)), .val (.int p2)] [(.int (3 : Int32))])) (fun t k => XS.iloadN X0.here hx rfl (hb hby dmethod_4_code_0) rfl k) ?_
  refine Go.st (S' := s₁.setTop (mkF m 2 #[.val (.ref o0), .val (.int (3 : Int32)), .val (.int p2)] [(.ref o0), (.int (3 : Int32))])) (fun t k => XS.aloadN X0.here hx rfl (hb hby dmethod_4_code_1) rfl rfl k) ?_
  obtain ⟨cl1072, Ar1072, -, S1072, N1072_, -, -⟩ := id V_o0
  refine Go.op (F := fun z => s₁.setTop (mkF m 3 #[.val (.ref o0), .val (.int (3 : Int32)), .val (.int p2)] [(.int z), (.int (3 : Int32))])) (x := cl1072.slots.size.toInt32) (fun t k => X0.arraylength hx (own_eh e0 Ar1072.1) (State.isArrayOf_alike hZ.alike Ar1072.2.1) (g := (mkF m 2 #[.val (.ref o0), .val (.int (3 : Int32)), .val (.int p2)] [(.ref o0), (.int (3 : Int32))])) rfl rfl (hb hby dmethod_4_code_2) t k) ?_
  intro v1073 hv1073
  obtain rfl : z_o0 = v1073 := (hv1073.trans (len_of S1072 N1072_)).symm
  by_cases hc1074 : ((3 : Int32) < z_o0)
  · refine Go.st (S' := s₁.setTop (mkF m 8 #[.val (.ref o0), .val (.int (3 : Int32)), .val (.int p2)] [])) (fun t k => XS.icmpYes X0.here hx rfl (pc0 := 3) (pc' := 8) rfl (hb hby dmethod_4_code_3) rfl (tlt hc1074).1 (by decide) (by decide) k) ?_
    refine Go.st (S' := s₁.setTop (mkF m 9 #[.val (.ref o0), .val (.int (3 : Int32)), .val (.int p2)] [(.ref o0)])) (fun t k => XS.aloadN X0.here hx rfl (hb hby dmethod_4_code_8) rfl rfl k) ?_
    refine Go.st (S' := s₁.setTop (mkF m 10 #[.val (.ref o0), .val (.int (3 : Int32)), .val (.int p2)] [(.int (3 : Int32)), (.ref o0)])) (fun t k => XS.iloadN X0.here hx rfl (hb hby dmethod_4_code_9) rfl k) ?_
    obtain ⟨cl1075, Ar1075, -, S1075, N1075_, H1075, -⟩ := id V_o0
    have hin1075 : ¬ ((3 : Int32) < 0 ∨ cl1075.slots.size ≤ ((3 : Int32)).toNatClampNeg) := inb_of S1075 ⟨by decide, hc1074⟩
    have hat1075 : cl1075.slots[((3 : Int32)).toNatClampNeg]? = some (.int e3_o0) := Has.at H1075 hin1075 rfl
    refine Go.st (S' := s₁.setTop (mkF m 11 #[.val (.ref o0), .val (.int (3 : Int32)), .val (.int p2)] [(.int e3_o0)])) (fun t k => X0.baloadBooleans hx (j := (3 : Int32)) (v := (.int e3_o0)) (own_eh e0 Ar1075.1) (State.isArrayOf_alike hZ.alike Ar1075.2.1) Ar1075.2.2 hin1075 hat1075 (g := (mkF m 10 #[.val (.ref o0), .val (.int (3 : Int32)), .val (.int p2)] [(.int (3 : Int32)), (.ref o0)])) rfl rfl (hb hby dmethod_4_code_10) t k) ?_
    refine Go.st (S' := s₁.setTop (mkF m 12 #[.val (.ref o0), .val (.int (3 : Int32)), .val (.int p2)] [(.int p2), (.int e3_o0)])) (fun t k => XS.iloadN X0.here hx rfl (hb hby dmethod_4_code_11) rfl k) ?_
    refine Go.st (S' := s₁.setTop (mkF m 13 #[.val (.ref o0), .val (.int (3 : Int32)), .val (.int p2)] [(.int (3 : Int32)), (.int p2), (.int e3_o0)])) (fun t k => XS.iloadN X0.here hx rfl (hb hby dmethod_4_code_12) rfl k) ?_
    refine Go.op (F := fun z => s₁.setTop (mkF m 14 #[.val (.ref o0), .val (.int (3 : Int32)), .val (.int p2)] [(.int z), (.int e3_o0)])) (x := ((p2.toUInt32 >>> ((3 : Int32) &&& 31).toUInt32).toInt32)) (fun t k => XS.iushr X0.here hx rfl (hb hby dmethod_4_code_13) rfl k) ?_
    intro v1076 hv1076
    refine Go.st (S' := s₁.setTop (mkF m 15 #[.val (.ref o0), .val (.int (3 : Int32)), .val (.int p2)] [(.int (1 : Int32)), (.int v1076), (.int e3_o0)])) (fun t k => XS.iconst X0.here hx rfl (hb hby dmethod_4_code_14) k) ?_
    refine Go.op (F := fun z => s₁.setTop (mkF m 16 #[.val (.ref o0), .val (.int (3 : Int32)), .val (.int p2)] [(.int z), (.int e3_o0)])) (x := (v1076 &&& (1 : Int32))) (fun t k => XS.iand X0.here hx rfl (hb hby dmethod_4_code_15) rfl k) ?_
    intro v1077 hv1077
    refine Go.join (α := Int32) (fun r => (((v1077 = (0 : Int32)) ∧ (r = (0 : Int32))) ∨ ((¬ (v1077 = (0 : Int32))) ∧ (r = (1 : Int32))))) (fun r => s₁.setTop (mkF m 24 #[.val (.ref o0), .val (.int (3 : Int32)), .val (.int p2)] [(.int r), (.int e3_o0)])) ?_ ?_
    · intro r1080 hc1081
      by_cases hc1082 : (e3_o0 = r1080)
      · refine Go.st (S' := s₁.setTop (mkF m 27 #[.val (.ref o0), .val (.int (3 : Int32)), .val (.int p2)] [])) (fun t k => XS.icmpNo X0.here hx rfl (hb hby dmethod_4_code_24) rfl (teq hc1082).2 k) ?_
        refine Go.st (S' := s₁.setTop (mkF m 28 #[.val (.ref o0), .val (.int (3 : Int32)), .val (.int p2)] [(.int (1 : Int32))])) (fun t k => XS.iconst X0.here hx rfl (hb hby dmethod_4_code_27) k) ?_
        refine Go.st (S' := s₁.setTop (mkF m 32 #[.val (.ref o0), .val (.int (3 : Int32)), .val (.int p2)] [(.int (1 : Int32))])) (fun t k => XS.goto X0.here hx rfl (pc0 := 28) (pc' := 32) rfl (hb hby dmethod_4_code_28) (by decide) (by decide) k) ?_
        exact Go.ret X0 (v := some (.int (1 : Int32))) (fun h => by rw [Bd.returns] at h; cases h) Bd.notSynchronized (fun fs hr => retN X0 hx (t := .boolean) Bd.returns (by simp) (hb hby dmethod_4_code_32) hr) (by decide) (by decide) (⟨r1080, (1 : Int32), v1076, v1077, hv1076, hv1077, (Or.inl ⟨hc1074, hc1081, hc1082, rfl⟩), rfl, N0, (e0)⟩)
      · refine Go.st (S' := s₁.setTop (mkF m 31 #[.val (.ref o0), .val (.int (3 : Int32)), .val (.int p2)] [])) (fun t k => XS.icmpYes X0.here hx rfl (pc0 := 24) (pc' := 31) rfl (hb hby dmethod_4_code_24) rfl (feq hc1082).2 (by decide) (by decide) k) ?_
        refine Go.st (S' := s₁.setTop (mkF m 32 #[.val (.ref o0), .val (.int (3 : Int32)), .val (.int p2)] [(.int (0 : Int32))])) (fun t k => XS.iconst X0.here hx rfl (hb hby dmethod_4_code_31) k) ?_
        exact Go.ret X0 (v := some (.int (0 : Int32))) (fun h => by rw [Bd.returns] at h; cases h) Bd.notSynchronized (fun fs hr => retN X0 hx (t := .boolean) Bd.returns (by simp) (hb hby dmethod_4_code_32) hr) (by decide) (by decide) (⟨r1080, (0 : Int32), v1076, v1077, hv1076, hv1077, (Or.inr (Or.inl ⟨hc1074, hc1081, hc1082, rfl⟩)), rfl, N0, (e0)⟩)
    · intro J1083
      by_cases hc1084 : (v1077 = (0 : Int32))
      · refine Go.st (S' := s₁.setTop (mkF m 23 #[.val (.ref o0), .val (.int (3 : Int32)), .val (.int p2)] [(.int e3_o0)])) (fun t k => XS.ifYes X0.here hx rfl (pc0 := 16) (pc' := 23) rfl (hb hby dmethod_4_code_16) rfl ((if0 _ _).trans (teq hc1084).1) (by decide) (by decide) k) ?_
        refine Go.st (S' := s₁.setTop (mkF m 24 #[.val (.ref o0), .val (.int (3 : Int32)), .val (.int p2)] [(.int (0 : Int32)), (.int e3_o0)])) (fun t k => XS.iconst X0.here hx rfl (hb hby dmethod_4_code_23) k) ?_
        exact J1083 ((0 : Int32)) (Or.inl ⟨hc1084, rfl⟩)
      · refine Go.st (S' := s₁.setTop (mkF m 19 #[.val (.ref o0), .val (.int (3 : Int32)), .val (.int p2)] [(.int e3_o0)])) (fun t k => XS.ifNo X0.here hx rfl (hb hby dmethod_4_code_16) rfl ((if0 _ _).trans (feq hc1084).1) k) ?_
        refine Go.st (S' := s₁.setTop (mkF m 20 #[.val (.ref o0), .val (.int (3 : Int32)), .val (.int p2)] [(.int (1 : Int32)), (.int e3_o0)])) (fun t k => XS.iconst X0.here hx rfl (hb hby dmethod_4_code_19) k) ?_
        refine Go.st (S' := s₁.setTop (mkF m 24 #[.val (.ref o0), .val (.int (3 : Int32)), .val (.int p2)] [(.int (1 : Int32)), (.int e3_o0)])) (fun t k => XS.goto X0.here hx rfl (pc0 := 20) (pc' := 24) rfl (hb hby dmethod_4_code_20) (by decide) (by decide) k) ?_
        exact J1083 ((1 : Int32)) (Or.inr ⟨hc1084, rfl⟩)
  · refine Go.st (S' := s₁.setTop (mkF m 6 #[.val (.ref o0), .val (.int (3 : Int32)), .val (.int p2)] [])) (fun t k => XS.icmpNo X0.here hx rfl (hb hby dmethod_4_code_3) rfl (flt hc1074).1 k) ?_
    refine Go.st (S' := s₁.setTop (mkF m 7 #[.val (.ref o0), .val (.int (3 : Int32)), .val (.int p2)] [(.int (1 : Int32))])) (fun t k => XS.iconst X0.here hx rfl (hb hby dmethod_4_code_6) k) ?_
    exact Go.ret X0 (v := some (.int (1 : Int32))) (fun h => by rw [Bd.returns] at h; cases h) Bd.notSynchronized (fun fs hr => retN X0 hx (t := .boolean) Bd.returns (by simp) (hb hby dmethod_4_code_7) hr) (by decide) (by decide) (⟨(0 : Int32), (1 : Int32), _, _, rfl, rfl, (Or.inr (Or.inr ⟨hc1074, rfl⟩)), rfl, N0, (e0)⟩)
theorem ef_56 (m : MethodId) (o0 : Addr) (p2 : Int32) : entryFrame m #[(.ref o0), (.int (4 : Int32)), (.int p2)] 3 = mkF m 0 #[.val (.ref o0), .val (.int (4 : Int32)), .val (.int p2)] [] := by first | (simp [entryFrame, mkF, argsToLocals, Value.category, maxLocals]; done) | rfl
def Q56 (Z : State) (o0 : Addr) (p2 : Int32) (k_o0 : ClassId) (z_o0 : Int32) (e0_o0 : Int32) (e1_o0 : Int32) (e2_o0 : Int32) (e3_o0 : Int32) (e4_o0 : Int32) (e5_o0 : Int32) (e6_o0 : Int32) (e7_o0 : Int32) (h0 : Heap) (n0 : Nat) (v : Option Value) (h : Heap) (L : List Loc) : Prop := (∃ (r1100 : Int32) (rv56 : Int32) (v1096 : Int32) (v1097 : Int32), v1096 = ((p2.toUInt32 >>> ((4 : Int32) &&& 31).toUInt32).toInt32) ∧ v1097 = (v1096 &&& (1 : Int32)) ∧ ((((4 : Int32) < z_o0) ∧ (((v1097 = (0 : Int32)) ∧ (r1100 = (0 : Int32))) ∨ ((¬ (v1097 = (0 : Int32))) ∧ (r1100 = (1 : Int32)))) ∧ (e4_o0 = r1100) ∧ (rv56 = (1 : Int32))) ∨ (((4 : Int32) < z_o0) ∧ (((v1097 = (0 : Int32)) ∧ (r1100 = (0 : Int32))) ∨ ((¬ (v1097 = (0 : Int32))) ∧ (r1100 = (1 : Int32)))) ∧ (¬ (e4_o0 = r1100)) ∧ (rv56 = (0 : Int32))) ∨ ((¬ ((4 : Int32) < z_o0)) ∧ (rv56 = (1 : Int32)))) ∧ v = some (.int rv56) ∧ Fr n0 L ∧ h = h0)
set_option maxRecDepth 65536 in
set_option maxHeartbeats 40000000 in
theorem rm56 (l : Launch) (Z : State) (a0 : Array Value) (hw : ∀ d ∈ tables_1, d.before a0 Z = true) (ws : List Jvm.Cond) (o0 : Addr) (p2 : Int32) (k_o0 : ClassId) (z_o0 : Int32) (e0_o0 : Int32) (e1_o0 : Int32) (e2_o0 : Int32) (e3_o0 : Int32) (e4_o0 : Int32) (e5_o0 : Int32) (e6_o0 : Int32) (e7_o0 : Int32) (h0 : Heap) (n0 : Nat) (Z0 : n0 ≤ h0.size) (hra_z_o0 : (¬ (z_o0 < (1 : Int32)))) (hrb_z_o0 : (¬ ((8 : Int32) < z_o0))) (V_o0 : Arv Z h0 o0 k_o0 .boolean z_o0 [(.int e0_o0), (.int e1_o0), (.int e2_o0), (.int e3_o0), (.int e4_o0), (.int e5_o0), (.int e6_o0), (.int e7_o0)] (.int (0 : Int32))) :
    Con l Z (⟨"com/example/tuneless/tuneless/problem/OneMaxEvaluatePinLaw", "same", "([ZII)Z"⟩ : MethodName) method_4_code 3 (some .boolean) ws ({ frames := 0, cells := 0, slots := 0, locals := 0 } : Room) #[(.ref o0), (.int (4 : Int32)), (.int p2)] h0 0 0 (Q56 Z o0 p2 k_o0 z_o0 e0_o0 e1_o0 e2_o0 e3_o0 e4_o0 e5_o0 e6_o0 e7_o0 h0 n0) := by
  refine MetFree.of_bodySF (plainFor_of_name pn_9) hisR ?_
  intro p e s m args below meth c s₁ Bd hml0 hP hK
  obtain ⟨rfl, hZ, hh⟩ := hP
  have hx := Bd.exec
  have hby := Bd.bytes
  have hml : c.maxLocals = 3 := hml0
  have hown : s.vm.findClass "com/example/tuneless/tuneless/problem/OneMaxEvaluatePinLaw" = some m.cls := findClass_of_methodNamed Bd.named
  have hnm := (name_of_methodNamed Bd.named Bd.method).1
  have X0 : Stand p l e ({ frames := 0, cells := 0, slots := 0, locals := 0 } : Room) s m #[(.ref o0), (.int (4 : Int32)), (.int p2)] below meth c s₁ [] 0 0 := Stand.of_body Bd
  have e0 : s₁.heap = h0 := by rw [← hh, Bd.state]; rfl
  have N0 := Fr.nil n0
  refine Go.of ?_
  refine Go.st (S' := s₁.setTop (mkF m 0 #[.val (.ref o0), .val (.int (4 : Int32)), .val (.int p2)] [])) (fun t k => castTop (ef_56 m o0 p2) k) ?_
  refine Go.st (S' := s₁.setTop (mkF m 1 #[.val (.ref o0), .val (.int (4 : Int32)), .val (.int p2)] [(.int (4 : Int32))])) (fun t k => XS.iloadN X0.here hx rfl (hb hby dmethod_4_code_0) rfl k) ?_
  refine Go.st (S' := s₁.setTop (mkF m 2 #[.val (.ref o0), .val (.int (4 : Int32)), .val (.int p2)] [(.ref o0), (.int (4 : Int32))])) (fun t k => XS.aloadN X0.here hx rfl (hb hby dmethod_4_code_1) rfl rfl k) ?_
  obtain ⟨cl1092, Ar1092, -, S1092, N1092_, -, -⟩ := id V_o0
  refine Go.op (F := fun z => s₁.setTop (mkF m 3 #[.val (.ref o0), .val (.int (4 : Int32)), .val (.int p2)] [(.int z), (.int (4 : Int32))])) (x := cl1092.slots.size.toInt32) (fun t k => X0.arraylength hx (own_eh e0 Ar1092.1) (State.isArrayOf_alike hZ.alike Ar1092.2.1) (g := (mkF m 2 #[.val (.ref o0), .val (.int (4 : Int32)), .val (.int p2)] [(.ref o0), (.int (4 : Int32))])) rfl rfl (hb hby dmethod_4_code_2) t k) ?_
  intro v1093 hv1093
  obtain rfl : z_o0 = v1093 := (hv1093.trans (len_of S1092 N1092_)).symm
  by_cases hc1094 : ((4 : Int32) < z_o0)
  · refine Go.st (S' := s₁.setTop (mkF m 8 #[.val (.ref o0), .val (.int (4 : Int32)), .val (.int p2)] [])) (fun t k => XS.icmpYes X0.here hx rfl (pc0 := 3) (pc' := 8) rfl (hb hby dmethod_4_code_3) rfl (tlt hc1094).1 (by decide) (by decide) k) ?_
    refine Go.st (S' := s₁.setTop (mkF m 9 #[.val (.ref o0), .val (.int (4 : Int32)), .val (.int p2)] [(.ref o0)])) (fun t k => XS.aloadN X0.here hx rfl (hb hby dmethod_4_code_8) rfl rfl k) ?_
    refine Go.st (S' := s₁.setTop (mkF m 10 #[.val (.ref o0), .val (.int (4 : Int32)), .val (.int p2)] [(.int (4 : Int32)), (.ref o0)])) (fun t k => XS.iloadN X0.here hx rfl (hb hby dmethod_4_code_9) rfl k) ?_
    obtain ⟨cl1095, Ar1095, -, S1095, N1095_, H1095, -⟩ := id V_o0
    have hin1095 : ¬ ((4 : Int32) < 0 ∨ cl1095.slots.size ≤ ((4 : Int32)).toNatClampNeg) := inb_of S1095 ⟨by decide, hc1094⟩
    have hat1095 : cl1095.slots[((4 : Int32)).toNatClampNeg]? = some (.int e4_o0) := Has.at H1095 hin1095 rfl
    refine Go.st (S' := s₁.setTop (mkF m 11 #[.val (.ref o0), .val (.int (4 : Int32)), .val (.int p2)] [(.int e4_o0)])) (fun t k => X0.baloadBooleans hx (j := (4 : Int32)) (v := (.int e4_o0)) (own_eh e0 Ar1095.1) (State.isArrayOf_alike hZ.alike Ar1095.2.1) Ar1095.2.2 hin1095 hat1095 (g := (mkF m 10 #[.val (.ref o0), .val (.int (4 : Int32)), .val (.int p2)] [(.int (4 : Int32)), (.ref o0)])) rfl rfl (hb hby dmethod_4_code_10) t k) ?_
    refine Go.st (S' := s₁.setTop (mkF m 12 #[.val (.ref o0), .val (.int (4 : Int32)), .val (.int p2)] [(.int p2), (.int e4_o0)])) (fun t k => XS.iloadN X0.here hx rfl (hb hby dmethod_4_code_11) rfl k) ?_
    refine Go.st (S' := s₁.setTop (mkF m 13 #[.val (.ref o0), .val (.int (4 : Int32)), .val (.int p2)] [(.int (4 : Int32)), (.int p2), (.int e4_o0)])) (fun t k => XS.iloadN X0.here hx rfl (hb hby dmethod_4_code_12) rfl k) ?_
    refine Go.op (F := fun z => s₁.setTop (mkF m 14 #[.val (.ref o0), .val (.int (4 : Int32)), .val (.int p2)] [(.int z), (.int e4_o0)])) (x := ((p2.toUInt32 >>> ((4 : Int32) &&& 31).toUInt32).toInt32)) (fun t k => XS.iushr X0.here hx rfl (hb hby dmethod_4_code_13) rfl k) ?_
    intro v1096 hv1096
    refine Go.st (S' := s₁.setTop (mkF m 15 #[.val (.ref o0), .val (.int (4 : Int32)), .val (.int p2)] [(.int (1 : Int32)), (.int v1096), (.int e4_o0)])) (fun t k => XS.iconst X0.here hx rfl (hb hby dmethod_4_code_14) k) ?_
    refine Go.op (F := fun z => s₁.setTop (mkF m 16 #[.val (.ref o0), .val (.int (4 : Int32)), .val (.int p2)] [(.int z), (.int e4_o0)])) (x := (v1096 &&& (1 : Int32))) (fun t k => XS.iand X0.here hx rfl (hb hby dmethod_4_code_15) rfl k) ?_
    intro v1097 hv1097
    refine Go.join (α := Int32) (fun r => (((v1097 = (0 : Int32)) ∧ (r = (0 : Int32))) ∨ ((¬ (v1097 = (0 : Int32))) ∧ (r = (1 : Int32))))) (fun r => s₁.setTop (mkF m 24 #[.val (.ref o0), .val (.int (4 : Int32)), .val (.int p2)] [(.int r), (.int e4_o0)])) ?_ ?_
    · intro r1100 hc1101
      by_cases hc1102 : (e4_o0 = r1100)
      · refine Go.st (S' := s₁.setTop (mkF m 27 #[.val (.ref o0), .val (.int (4 : Int32)), .val (.int p2)] [])) (fun t k => XS.icmpNo X0.here hx rfl (hb hby dmethod_4_code_24) rfl (teq hc1102).2 k) ?_
        refine Go.st (S' := s₁.setTop (mkF m 28 #[.val (.ref o0), .val (.int (4 : Int32)), .val (.int p2)] [(.int (1 : Int32))])) (fun t k => XS.iconst X0.here hx rfl (hb hby dmethod_4_code_27) k) ?_
        refine Go.st (S' := s₁.setTop (mkF m 32 #[.val (.ref o0), .val (.int (4 : Int32)), .val (.int p2)] [(.int (1 : Int32))])) (fun t k => XS.goto X0.here hx rfl (pc0 := 28) (pc' := 32) rfl (hb hby dmethod_4_code_28) (by decide) (by decide) k) ?_
        exact Go.ret X0 (v := some (.int (1 : Int32))) (fun h => by rw [Bd.returns] at h; cases h) Bd.notSynchronized (fun fs hr => retN X0 hx (t := .boolean) Bd.returns (by simp) (hb hby dmethod_4_code_32) hr) (by decide) (by decide) (⟨r1100, (1 : Int32), v1096, v1097, hv1096, hv1097, (Or.inl ⟨hc1094, hc1101, hc1102, rfl⟩), rfl, N0, (e0)⟩)
      · refine Go.st (S' := s₁.setTop (mkF m 31 #[.val (.ref o0), .val (.int (4 : Int32)), .val (.int p2)] [])) (fun t k => XS.icmpYes X0.here hx rfl (pc0 := 24) (pc' := 31) rfl (hb hby dmethod_4_code_24) rfl (feq hc1102).2 (by decide) (by decide) k) ?_
        refine Go.st (S' := s₁.setTop (mkF m 32 #[.val (.ref o0), .val (.int (4 : Int32)), .val (.int p2)] [(.int (0 : Int32))])) (fun t k => XS.iconst X0.here hx rfl (hb hby dmethod_4_code_31) k) ?_
        exact Go.ret X0 (v := some (.int (0 : Int32))) (fun h => by rw [Bd.returns] at h; cases h) Bd.notSynchronized (fun fs hr => retN X0 hx (t := .boolean) Bd.returns (by simp) (hb hby dmethod_4_code_32) hr) (by decide) (by decide) (⟨r1100, (0 : Int32), v1096, v1097, hv1096, hv1097, (Or.inr (Or.inl ⟨hc1094, hc1101, hc1102, rfl⟩)), rfl, N0, (e0)⟩)
    · intro J1103
      by_cases hc1104 : (v1097 = (0 : Int32))
      · refine Go.st (S' := s₁.setTop (mkF m 23 #[.val (.ref o0), .val (.int (4 : Int32)), .val (.int p2)] [(.int e4_o0)])) (fun t k => XS.ifYes X0.here hx rfl (pc0 := 16) (pc' := 23) rfl (hb hby dmethod_4_code_16) rfl ((if0 _ _).trans (teq hc1104).1) (by decide) (by decide) k) ?_
        refine Go.st (S' := s₁.setTop (mkF m 24 #[.val (.ref o0), .val (.int (4 : Int32)), .val (.int p2)] [(.int (0 : Int32)), (.int e4_o0)])) (fun t k => XS.iconst X0.here hx rfl (hb hby dmethod_4_code_23) k) ?_
        exact J1103 ((0 : Int32)) (Or.inl ⟨hc1104, rfl⟩)
      · refine Go.st (S' := s₁.setTop (mkF m 19 #[.val (.ref o0), .val (.int (4 : Int32)), .val (.int p2)] [(.int e4_o0)])) (fun t k => XS.ifNo X0.here hx rfl (hb hby dmethod_4_code_16) rfl ((if0 _ _).trans (feq hc1104).1) k) ?_
        refine Go.st (S' := s₁.setTop (mkF m 20 #[.val (.ref o0), .val (.int (4 : Int32)), .val (.int p2)] [(.int (1 : Int32)), (.int e4_o0)])) (fun t k => XS.iconst X0.here hx rfl (hb hby dmethod_4_code_19) k) ?_
        refine Go.st (S' := s₁.setTop (mkF m 24 #[.val (.ref o0), .val (.int (4 : Int32)), .val (.int p2)] [(.int (1 : Int32)), (.int e4_o0)])) (fun t k => XS.goto X0.here hx rfl (pc0 := 20) (pc' := 24) rfl (hb hby dmethod_4_code_20) (by decide) (by decide) k) ?_
        exact J1103 ((1 : Int32)) (Or.inr ⟨hc1104, rfl⟩)
  · refine Go.st (S' := s₁.setTop (mkF m 6 #[.val (.ref o0), .val (.int (4 : Int32)), .val (.int p2)] [])) (fun t k => XS.icmpNo X0.here hx rfl (hb hby dmethod_4_code_3) rfl (flt hc1094).1 k) ?_
    refine Go.st (S' := s₁.setTop (mkF m 7 #[.val (.ref o0), .val (.int (4 : Int32)), .val (.int p2)] [(.int (1 : Int32))])) (fun t k => XS.iconst X0.here hx rfl (hb hby dmethod_4_code_6) k) ?_
    exact Go.ret X0 (v := some (.int (1 : Int32))) (fun h => by rw [Bd.returns] at h; cases h) Bd.notSynchronized (fun fs hr => retN X0 hx (t := .boolean) Bd.returns (by simp) (hb hby dmethod_4_code_7) hr) (by decide) (by decide) (⟨(0 : Int32), (1 : Int32), _, _, rfl, rfl, (Or.inr (Or.inr ⟨hc1094, rfl⟩)), rfl, N0, (e0)⟩)
theorem ef_57 (m : MethodId) (o0 : Addr) (p2 : Int32) : entryFrame m #[(.ref o0), (.int (5 : Int32)), (.int p2)] 3 = mkF m 0 #[.val (.ref o0), .val (.int (5 : Int32)), .val (.int p2)] [] := by first | (simp [entryFrame, mkF, argsToLocals, Value.category, maxLocals]; done) | rfl
def Q57 (Z : State) (o0 : Addr) (p2 : Int32) (k_o0 : ClassId) (z_o0 : Int32) (e0_o0 : Int32) (e1_o0 : Int32) (e2_o0 : Int32) (e3_o0 : Int32) (e4_o0 : Int32) (e5_o0 : Int32) (e6_o0 : Int32) (e7_o0 : Int32) (h0 : Heap) (n0 : Nat) (v : Option Value) (h : Heap) (L : List Loc) : Prop := (∃ (r1120 : Int32) (rv57 : Int32) (v1116 : Int32) (v1117 : Int32), v1116 = ((p2.toUInt32 >>> ((5 : Int32) &&& 31).toUInt32).toInt32) ∧ v1117 = (v1116 &&& (1 : Int32)) ∧ ((((5 : Int32) < z_o0) ∧ (((v1117 = (0 : Int32)) ∧ (r1120 = (0 : Int32))) ∨ ((¬ (v1117 = (0 : Int32))) ∧ (r1120 = (1 : Int32)))) ∧ (e5_o0 = r1120) ∧ (rv57 = (1 : Int32))) ∨ (((5 : Int32) < z_o0) ∧ (((v1117 = (0 : Int32)) ∧ (r1120 = (0 : Int32))) ∨ ((¬ (v1117 = (0 : Int32))) ∧ (r1120 = (1 : Int32)))) ∧ (¬ (e5_o0 = r1120)) ∧ (rv57 = (0 : Int32))) ∨ ((¬ ((5 : Int32) < z_o0)) ∧ (rv57 = (1 : Int32)))) ∧ v = some (.int rv57) ∧ Fr n0 L ∧ h = h0)
set_option maxRecDepth 65536 in
set_option maxHeartbeats 40000000 in
theorem rm57 (l : Launch) (Z : State) (a0 : Array Value) (hw : ∀ d ∈ tables_1, d.before a0 Z = true) (ws : List Jvm.Cond) (o0 : Addr) (p2 : Int32) (k_o0 : ClassId) (z_o0 : Int32) (e0_o0 : Int32) (e1_o0 : Int32) (e2_o0 : Int32) (e3_o0 : Int32) (e4_o0 : Int32) (e5_o0 : Int32) (e6_o0 : Int32) (e7_o0 : Int32) (h0 : Heap) (n0 : Nat) (Z0 : n0 ≤ h0.size) (hra_z_o0 : (¬ (z_o0 < (1 : Int32)))) (hrb_z_o0 : (¬ ((8 : Int32) < z_o0))) (V_o0 : Arv Z h0 o0 k_o0 .boolean z_o0 [(.int e0_o0), (.int e1_o0), (.int e2_o0), (.int e3_o0), (.int e4_o0), (.int e5_o0), (.int e6_o0), (.int e7_o0)] (.int (0 : Int32))) :
    Con l Z (⟨"com/example/tuneless/tuneless/problem/OneMaxEvaluatePinLaw", "same", "([ZII)Z"⟩ : MethodName) method_4_code 3 (some .boolean) ws ({ frames := 0, cells := 0, slots := 0, locals := 0 } : Room) #[(.ref o0), (.int (5 : Int32)), (.int p2)] h0 0 0 (Q57 Z o0 p2 k_o0 z_o0 e0_o0 e1_o0 e2_o0 e3_o0 e4_o0 e5_o0 e6_o0 e7_o0 h0 n0) := by
  refine MetFree.of_bodySF (plainFor_of_name pn_9) hisR ?_
  intro p e s m args below meth c s₁ Bd hml0 hP hK
  obtain ⟨rfl, hZ, hh⟩ := hP
  have hx := Bd.exec
  have hby := Bd.bytes
  have hml : c.maxLocals = 3 := hml0
  have hown : s.vm.findClass "com/example/tuneless/tuneless/problem/OneMaxEvaluatePinLaw" = some m.cls := findClass_of_methodNamed Bd.named
  have hnm := (name_of_methodNamed Bd.named Bd.method).1
  have X0 : Stand p l e ({ frames := 0, cells := 0, slots := 0, locals := 0 } : Room) s m #[(.ref o0), (.int (5 : Int32)), (.int p2)] below meth c s₁ [] 0 0 := Stand.of_body Bd
  have e0 : s₁.heap = h0 := by rw [← hh, Bd.state]; rfl
  have N0 := Fr.nil n0
  refine Go.of ?_
  refine Go.st (S' := s₁.setTop (mkF m 0 #[.val (.ref o0), .val (.int (5 : Int32)), .val (.int p2)] [])) (fun t k => castTop (ef_57 m o0 p2) k) ?_
  refine Go.st (S' := s₁.setTop (mkF m 1 #[.val (.ref o0), .val (.int (5 : Int32)), .val (.int p2)] [(.int (5 : Int32))])) (fun t k => XS.iloadN X0.here hx rfl (hb hby dmethod_4_code_0) rfl k) ?_
  refine Go.st (S' := s₁.setTop (mkF m 2 #[.val (.ref o0), .val (.int (5 : Int32)), .val (.int p2)] [(.ref o0), (.int (5 : Int32))])) (fun t k => XS.aloadN X0.here hx rfl (hb hby dmethod_4_code_1) rfl rfl k) ?_
  obtain ⟨cl1112, Ar1112, -, S1112, N1112_, -, -⟩ := id V_o0
  refine Go.op (F := fun z => s₁.setTop (mkF m 3 #[.val (.ref o0), .val (.int (5 : Int32)), .val (.int p2)] [(.int z), (.int (5 : Int32))])) (x := cl1112.slots.size.toInt32) (fun t k => X0.arraylength hx (own_eh e0 Ar1112.1) (State.isArrayOf_alike hZ.alike Ar1112.2.1) (g := (mkF m 2 #[.val (.ref o0), .val (.int (5 : Int32)), .val (.int p2)] [(.ref o0), (.int (5 : Int32))])) rfl rfl (hb hby dmethod_4_code_2) t k) ?_
  intro v1113 hv1113
  obtain rfl : z_o0 = v1113 := (hv1113.trans (len_of S1112 N1112_)).symm
  by_cases hc1114 : ((5 : Int32) < z_o0)
  · refine Go.st (S' := s₁.setTop (mkF m 8 #[.val (.ref o0), .val (.int (5 : Int32)), .val (.int p2)] [])) (fun t k => XS.icmpYes X0.here hx rfl (pc0 := 3) (pc' := 8) rfl (hb hby dmethod_4_code_3) rfl (tlt hc1114).1 (by decide) (by decide) k) ?_
    refine Go.st (S' := s₁.setTop (mkF m 9 #[.val (.ref o0), .val (.int (5 : Int32)), .val (.int p2)] [(.ref o0)])) (fun t k => XS.aloadN X0.here hx rfl (hb hby dmethod_4_code_8) rfl rfl k) ?_
    refine Go.st (S' := s₁.setTop (mkF m 10 #[.val (.ref o0), .val (.int (5 : Int32)), .val (.int p2)] [(.int (5 : Int32)), (.ref o0)])) (fun t k => XS.iloadN X0.here hx rfl (hb hby dmethod_4_code_9) rfl k) ?_
    obtain ⟨cl1115, Ar1115, -, S1115, N1115_, H1115, -⟩ := id V_o0
    have hin1115 : ¬ ((5 : Int32) < 0 ∨ cl1115.slots.size ≤ ((5 : Int32)).toNatClampNeg) := inb_of S1115 ⟨by decide, hc1114⟩
    have hat1115 : cl1115.slots[((5 : Int32)).toNatClampNeg]? = some (.int e5_o0) := Has.at H1115 hin1115 rfl
    refine Go.st (S' := s₁.setTop (mkF m 11 #[.val (.ref o0), .val (.int (5 : Int32)), .val (.int p2)] [(.int e5_o0)])) (fun t k => X0.baloadBooleans hx (j := (5 : Int32)) (v := (.int e5_o0)) (own_eh e0 Ar1115.1) (State.isArrayOf_alike hZ.alike Ar1115.2.1) Ar1115.2.2 hin1115 hat1115 (g := (mkF m 10 #[.val (.ref o0), .val (.int (5 : Int32)), .val (.int p2)] [(.int (5 : Int32)), (.ref o0)])) rfl rfl (hb hby dmethod_4_code_10) t k) ?_
    refine Go.st (S' := s₁.setTop (mkF m 12 #[.val (.ref o0), .val (.int (5 : Int32)), .val (.int p2)] [(.int p2), (.int e5_o0)])) (fun t k => XS.iloadN X0.here hx rfl (hb hby dmethod_4_code_11) rfl k) ?_
    refine Go.st (S' := s₁.setTop (mkF m 13 #[.val (.ref o0), .val (.int (5 : Int32)), .val (.int p2)] [(.int (5 : Int32)), (.int p2), (.int e5_o0)])) (fun t k => XS.iloadN X0.here hx rfl (hb hby dmethod_4_code_12) rfl k) ?_
    refine Go.op (F := fun z => s₁.setTop (mkF m 14 #[.val (.ref o0), .val (.int (5 : Int32)), .val (.int p2)] [(.int z), (.int e5_o0)])) (x := ((p2.toUInt32 >>> ((5 : Int32) &&& 31).toUInt32).toInt32)) (fun t k => XS.iushr X0.here hx rfl (hb hby dmethod_4_code_13) rfl k) ?_
    intro v1116 hv1116
    refine Go.st (S' := s₁.setTop (mkF m 15 #[.val (.ref o0), .val (.int (5 : Int32)), .val (.int p2)] [(.int (1 : Int32)), (.int v1116), (.int e5_o0)])) (fun t k => XS.iconst X0.here hx rfl (hb hby dmethod_4_code_14) k) ?_
    refine Go.op (F := fun z => s₁.setTop (mkF m 16 #[.val (.ref o0), .val (.int (5 : Int32)), .val (.int p2)] [(.int z), (.int e5_o0)])) (x := (v1116 &&& (1 : Int32))) (fun t k => XS.iand X0.here hx rfl (hb hby dmethod_4_code_15) rfl k) ?_
    intro v1117 hv1117
    refine Go.join (α := Int32) (fun r => (((v1117 = (0 : Int32)) ∧ (r = (0 : Int32))) ∨ ((¬ (v1117 = (0 : Int32))) ∧ (r = (1 : Int32))))) (fun r => s₁.setTop (mkF m 24 #[.val (.ref o0), .val (.int (5 : Int32)), .val (.int p2)] [(.int r), (.int e5_o0)])) ?_ ?_
    · intro r1120 hc1121
      by_cases hc1122 : (e5_o0 = r1120)
      · refine Go.st (S' := s₁.setTop (mkF m 27 #[.val (.ref o0), .val (.int (5 : Int32)), .val (.int p2)] [])) (fun t k => XS.icmpNo X0.here hx rfl (hb hby dmethod_4_code_24) rfl (teq hc1122).2 k) ?_
        refine Go.st (S' := s₁.setTop (mkF m 28 #[.val (.ref o0), .val (.int (5 : Int32)), .val (.int p2)] [(.int (1 : Int32))])) (fun t k => XS.iconst X0.here hx rfl (hb hby dmethod_4_code_27) k) ?_
        refine Go.st (S' := s₁.setTop (mkF m 32 #[.val (.ref o0), .val (.int (5 : Int32)), .val (.int p2)] [(.int (1 : Int32))])) (fun t k => XS.goto X0.here hx rfl (pc0 := 28) (pc' := 32) rfl (hb hby dmethod_4_code_28) (by decide) (by decide) k) ?_
        exact Go.ret X0 (v := some (.int (1 : Int32))) (fun h => by rw [Bd.returns] at h; cases h) Bd.notSynchronized (fun fs hr => retN X0 hx (t := .boolean) Bd.returns (by simp) (hb hby dmethod_4_code_32) hr) (by decide) (by decide) (⟨r1120, (1 : Int32), v1116, v1117, hv1116, hv1117, (Or.inl ⟨hc1114, hc1121, hc1122, rfl⟩), rfl, N0, (e0)⟩)
      · refine Go.st (S' := s₁.setTop (mkF m 31 #[.val (.ref o0), .val (.int (5 : Int32)), .val (.int p2)] [])) (fun t k => XS.icmpYes X0.here hx rfl (pc0 := 24) (pc' := 31) rfl (hb hby dmethod_4_code_24) rfl (feq hc1122).2 (by decide) (by decide) k) ?_
        refine Go.st (S' := s₁.setTop (mkF m 32 #[.val (.ref o0), .val (.int (5 : Int32)), .val (.int p2)] [(.int (0 : Int32))])) (fun t k => XS.iconst X0.here hx rfl (hb hby dmethod_4_code_31) k) ?_
        exact Go.ret X0 (v := some (.int (0 : Int32))) (fun h => by rw [Bd.returns] at h; cases h) Bd.notSynchronized (fun fs hr => retN X0 hx (t := .boolean) Bd.returns (by simp) (hb hby dmethod_4_code_32) hr) (by decide) (by decide) (⟨r1120, (0 : Int32), v1116, v1117, hv1116, hv1117, (Or.inr (Or.inl ⟨hc1114, hc1121, hc1122, rfl⟩)), rfl, N0, (e0)⟩)
    · intro J1123
      by_cases hc1124 : (v1117 = (0 : Int32))
      · refine Go.st (S' := s₁.setTop (mkF m 23 #[.val (.ref o0), .val (.int (5 : Int32)), .val (.int p2)] [(.int e5_o0)])) (fun t k => XS.ifYes X0.here hx rfl (pc0 := 16) (pc' := 23) rfl (hb hby dmethod_4_code_16) rfl ((if0 _ _).trans (teq hc1124).1) (by decide) (by decide) k) ?_
        refine Go.st (S' := s₁.setTop (mkF m 24 #[.val (.ref o0), .val (.int (5 : Int32)), .val (.int p2)] [(.int (0 : Int32)), (.int e5_o0)])) (fun t k => XS.iconst X0.here hx rfl (hb hby dmethod_4_code_23) k) ?_
        exact J1123 ((0 : Int32)) (Or.inl ⟨hc1124, rfl⟩)
      · refine Go.st (S' := s₁.setTop (mkF m 19 #[.val (.ref o0), .val (.int (5 : Int32)), .val (.int p2)] [(.int e5_o0)])) (fun t k => XS.ifNo X0.here hx rfl (hb hby dmethod_4_code_16) rfl ((if0 _ _).trans (feq hc1124).1) k) ?_
        refine Go.st (S' := s₁.setTop (mkF m 20 #[.val (.ref o0), .val (.int (5 : Int32)), .val (.int p2)] [(.int (1 : Int32)), (.int e5_o0)])) (fun t k => XS.iconst X0.here hx rfl (hb hby dmethod_4_code_19) k) ?_
        refine Go.st (S' := s₁.setTop (mkF m 24 #[.val (.ref o0), .val (.int (5 : Int32)), .val (.int p2)] [(.int (1 : Int32)), (.int e5_o0)])) (fun t k => XS.goto X0.here hx rfl (pc0 := 20) (pc' := 24) rfl (hb hby dmethod_4_code_20) (by decide) (by decide) k) ?_
        exact J1123 ((1 : Int32)) (Or.inr ⟨hc1124, rfl⟩)
  · refine Go.st (S' := s₁.setTop (mkF m 6 #[.val (.ref o0), .val (.int (5 : Int32)), .val (.int p2)] [])) (fun t k => XS.icmpNo X0.here hx rfl (hb hby dmethod_4_code_3) rfl (flt hc1114).1 k) ?_
    refine Go.st (S' := s₁.setTop (mkF m 7 #[.val (.ref o0), .val (.int (5 : Int32)), .val (.int p2)] [(.int (1 : Int32))])) (fun t k => XS.iconst X0.here hx rfl (hb hby dmethod_4_code_6) k) ?_
    exact Go.ret X0 (v := some (.int (1 : Int32))) (fun h => by rw [Bd.returns] at h; cases h) Bd.notSynchronized (fun fs hr => retN X0 hx (t := .boolean) Bd.returns (by simp) (hb hby dmethod_4_code_7) hr) (by decide) (by decide) (⟨(0 : Int32), (1 : Int32), _, _, rfl, rfl, (Or.inr (Or.inr ⟨hc1114, rfl⟩)), rfl, N0, (e0)⟩)
theorem ef_58 (m : MethodId) (o0 : Addr) (p2 : Int32) : entryFrame m #[(.ref o0), (.int (6 : Int32)), (.int p2)] 3 = mkF m 0 #[.val (.ref o0), .val (.int (6 : Int32)), .val (.int p2)] [] := by first | (simp [entryFrame, mkF, argsToLocals, Value.category, maxLocals]; done) | rfl
def Q58 (Z : State) (o0 : Addr) (p2 : Int32) (k_o0 : ClassId) (z_o0 : Int32) (e0_o0 : Int32) (e1_o0 : Int32) (e2_o0 : Int32) (e3_o0 : Int32) (e4_o0 : Int32) (e5_o0 : Int32) (e6_o0 : Int32) (e7_o0 : Int32) (h0 : Heap) (n0 : Nat) (v : Option Value) (h : Heap) (L : List Loc) : Prop := (∃ (r1140 : Int32) (rv58 : Int32) (v1136 : Int32) (v1137 : Int32), v1136 = ((p2.toUInt32 >>> ((6 : Int32) &&& 31).toUInt32).toInt32) ∧ v1137 = (v1136 &&& (1 : Int32)) ∧ ((((6 : Int32) < z_o0) ∧ (((v1137 = (0 : Int32)) ∧ (r1140 = (0 : Int32))) ∨ ((¬ (v1137 = (0 : Int32))) ∧ (r1140 = (1 : Int32)))) ∧ (e6_o0 = r1140) ∧ (rv58 = (1 : Int32))) ∨ (((6 : Int32) < z_o0) ∧ (((v1137 = (0 : Int32)) ∧ (r1140 = (0 : Int32))) ∨ ((¬ (v1137 = (0 : Int32))) ∧ (r1140 = (1 : Int32)))) ∧ (¬ (e6_o0 = r1140)) ∧ (rv58 = (0 : Int32))) ∨ ((¬ ((6 : Int32) < z_o0)) ∧ (rv58 = (1 : Int32)))) ∧ v = some (.int rv58) ∧ Fr n0 L ∧ h = h0)
set_option maxRecDepth 65536 in
set_option maxHeartbeats 40000000 in
theorem rm58 (l : Launch) (Z : State) (a0 : Array Value) (hw : ∀ d ∈ tables_1, d.before a0 Z = true) (ws : List Jvm.Cond) (o0 : Addr) (p2 : Int32) (k_o0 : ClassId) (z_o0 : Int32) (e0_o0 : Int32) (e1_o0 : Int32) (e2_o0 : Int32) (e3_o0 : Int32) (e4_o0 : Int32) (e5_o0 : Int32) (e6_o0 : Int32) (e7_o0 : Int32) (h0 : Heap) (n0 : Nat) (Z0 : n0 ≤ h0.size) (hra_z_o0 : (¬ (z_o0 < (1 : Int32)))) (hrb_z_o0 : (¬ ((8 : Int32) < z_o0))) (V_o0 : Arv Z h0 o0 k_o0 .boolean z_o0 [(.int e0_o0), (.int e1_o0), (.int e2_o0), (.int e3_o0), (.int e4_o0), (.int e5_o0), (.int e6_o0), (.int e7_o0)] (.int (0 : Int32))) :
    Con l Z (⟨"com/example/tuneless/tuneless/problem/OneMaxEvaluatePinLaw", "same", "([ZII)Z"⟩ : MethodName) method_4_code 3 (some .boolean) ws ({ frames := 0, cells := 0, slots := 0, locals := 0 } : Room) #[(.ref o0), (.int (6 : Int32)), (.int p2)] h0 0 0 (Q58 Z o0 p2 k_o0 z_o0 e0_o0 e1_o0 e2_o0 e3_o0 e4_o0 e5_o0 e6_o0 e7_o0 h0 n0) := by
  refine MetFree.of_bodySF (plainFor_of_name pn_9) hisR ?_
  intro p e s m args below meth c s₁ Bd hml0 hP hK
  obtain ⟨rfl, hZ, hh⟩ := hP
  have hx := Bd.exec
  have hby := Bd.bytes
  have hml : c.maxLocals = 3 := hml0
  have hown : s.vm.findClass "com/example/tuneless/tuneless/problem/OneMaxEvaluatePinLaw" = some m.cls := findClass_of_methodNamed Bd.named
  have hnm := (name_of_methodNamed Bd.named Bd.method).1
  have X0 : Stand p l e ({ frames := 0, cells := 0, slots := 0, locals := 0 } : Room) s m #[(.ref o0), (.int (6 : Int32)), (.int p2)] below meth c s₁ [] 0 0 := Stand.of_body Bd
  have e0 : s₁.heap = h0 := by rw [← hh, Bd.state]; rfl
  have N0 := Fr.nil n0
  refine Go.of ?_
  refine Go.st (S' := s₁.setTop (mkF m 0 #[.val (.ref o0), .val (.int (6 : Int32)), .val (.int p2)] [])) (fun t k => castTop (ef_58 m o0 p2) k) ?_
  refine Go.st (S' := s₁.setTop (mkF m 1 #[.val (.ref o0), .val (.int (6 : Int32)), .val (.int p2)] [(.int (6 : Int32))])) (fun t k => XS.iloadN X0.here hx rfl (hb hby dmethod_4_code_0) rfl k) ?_
  refine Go.st (S' := s₁.setTop (mkF m 2 #[.val (.ref o0), .val (.int (6 : Int32)), .val (.int p2)] [(.ref o0), (.int (6 : Int32))])) (fun t k => XS.aloadN X0.here hx rfl (hb hby dmethod_4_code_1) rfl rfl k) ?_
  obtain ⟨cl1132, Ar1132, -, S1132, N1132_, -, -⟩ := id V_o0
  refine Go.op (F := fun z => s₁.setTop (mkF m 3 #[.val (.ref o0), .val (.int (6 : Int32)), .val (.int p2)] [(.int z), (.int (6 : Int32))])) (x := cl1132.slots.size.toInt32) (fun t k => X0.arraylength hx (own_eh e0 Ar1132.1) (State.isArrayOf_alike hZ.alike Ar1132.2.1) (g := (mkF m 2 #[.val (.ref o0), .val (.int (6 : Int32)), .val (.int p2)] [(.ref o0), (.int (6 : Int32))])) rfl rfl (hb hby dmethod_4_code_2) t k) ?_
  intro v1133 hv1133
  obtain rfl : z_o0 = v1133 := (hv1133.trans (len_of S1132 N1132_)).symm
  by_cases hc1134 : ((6 : Int32) < z_o0)
  · refine Go.st (S' := s₁.setTop (mkF m 8 #[.val (.ref o0), .val (.int (6 : Int32)), .val (.int p2)] [])) (fun t k => XS.icmpYes X0.here hx rfl (pc0 := 3) (pc' := 8) rfl (hb hby dmethod_4_code_3) rfl (tlt hc1134).1 (by decide) (by decide) k) ?_
    refine Go.st (S' := s₁.setTop (mkF m 9 #[.val (.ref o0), .val (.int (6 : Int32)), .val (.int p2)] [(.ref o0)])) (fun t k => XS.aloadN X0.here hx rfl (hb hby dmethod_4_code_8) rfl rfl k) ?_
    refine Go.st (S' := s₁.setTop (mkF m 10 #[.val (.ref o0), .val (.int (6 : Int32)), .val (.int p2)] [(.int (6 : Int32)), (.ref o0)])) (fun t k => XS.iloadN X0.here hx rfl (hb hby dmethod_4_code_9) rfl k) ?_
    obtain ⟨cl1135, Ar1135, -, S1135, N1135_, H1135, -⟩ := id V_o0
    have hin1135 : ¬ ((6 : Int32) < 0 ∨ cl1135.slots.size ≤ ((6 : Int32)).toNatClampNeg) := inb_of S1135 ⟨by decide, hc1134⟩
    have hat1135 : cl1135.slots[((6 : Int32)).toNatClampNeg]? = some (.int e6_o0) := Has.at H1135 hin1135 rfl
    refine Go.st (S' := s₁.setTop (mkF m 11 #[.val (.ref o0), .val (.int (6 : Int32)), .val (.int p2)] [(.int e6_o0)])) (fun t k => X0.baloadBooleans hx (j := (6 : Int32)) (v := (.int e6_o0)) (own_eh e0 Ar1135.1) (State.isArrayOf_alike hZ.alike Ar1135.2.1) Ar1135.2.2 hin1135 hat1135 (g := (mkF m 10 #[.val (.ref o0), .val (.int (6 : Int32)), .val (.int p2)] [(.int (6 : Int32)), (.ref o0)])) rfl rfl (hb hby dmethod_4_code_10) t k) ?_
    refine Go.st (S' := s₁.setTop (mkF m 12 #[.val (.ref o0), .val (.int (6 : Int32)), .val (.int p2)] [(.int p2), (.int e6_o0)])) (fun t k => XS.iloadN X0.here hx rfl (hb hby dmethod_4_code_11) rfl k) ?_
    refine Go.st (S' := s₁.setTop (mkF m 13 #[.val (.ref o0), .val (.int (6 : Int32)), .val (.int p2)] [(.int (6 : Int32)), (.int p2), (.int e6_o0)])) (fun t k => XS.iloadN X0.here hx rfl (hb hby dmethod_4_code_12) rfl k) ?_
    refine Go.op (F := fun z => s₁.setTop (mkF m 14 #[.val (.ref o0), .val (.int (6 : Int32)), .val (.int p2)] [(.int z), (.int e6_o0)])) (x := ((p2.toUInt32 >>> ((6 : Int32) &&& 31).toUInt32).toInt32)) (fun t k => XS.iushr X0.here hx rfl (hb hby dmethod_4_code_13) rfl k) ?_
    intro v1136 hv1136
    refine Go.st (S' := s₁.setTop (mkF m 15 #[.val (.ref o0), .val (.int (6 : Int32)), .val (.int p2)] [(.int (1 : Int32)), (.int v1136), (.int e6_o0)])) (fun t k => XS.iconst X0.here hx rfl (hb hby dmethod_4_code_14) k) ?_
    refine Go.op (F := fun z => s₁.setTop (mkF m 16 #[.val (.ref o0), .val (.int (6 : Int32)), .val (.int p2)] [(.int z), (.int e6_o0)])) (x := (v1136 &&& (1 : Int32))) (fun t k => XS.iand X0.here hx rfl (hb hby dmethod_4_code_15) rfl k) ?_
    intro v1137 hv1137
    refine Go.join (α := Int32) (fun r => (((v1137 = (0 : Int32)) ∧ (r = (0 : Int32))) ∨ ((¬ (v1137 = (0 : Int32))) ∧ (r = (1 : Int32))))) (fun r => s₁.setTop (mkF m 24 #[.val (.ref o0), .val (.int (6 : Int32)), .val (.int p2)] [(.int r), (.int e6_o0)])) ?_ ?_
    · intro r1140 hc1141
      by_cases hc1142 : (e6_o0 = r1140)
      · refine Go.st (S' := s₁.setTop (mkF m 27 #[.val (.ref o0), .val (.int (6 : Int32)), .val (.int p2)] [])) (fun t k => XS.icmpNo X0.here hx rfl (hb hby dmethod_4_code_24) rfl (teq hc1142).2 k) ?_
        refine Go.st (S' := s₁.setTop (mkF m 28 #[.val (.ref o0), .val (.int (6 : Int32)), .val (.int p2)] [(.int (1 : Int32))])) (fun t k => XS.iconst X0.here hx rfl (hb hby dmethod_4_code_27) k) ?_
        refine Go.st (S' := s₁.setTop (mkF m 32 #[.val (.ref o0), .val (.int (6 : Int32)), .val (.int p2)] [(.int (1 : Int32))])) (fun t k => XS.goto X0.here hx rfl (pc0 := 28) (pc' := 32) rfl (hb hby dmethod_4_code_28) (by decide) (by decide) k) ?_
        exact Go.ret X0 (v := some (.int (1 : Int32))) (fun h => by rw [Bd.returns] at h; cases h) Bd.notSynchronized (fun fs hr => retN X0 hx (t := .boolean) Bd.returns (by simp) (hb hby dmethod_4_code_32) hr) (by decide) (by decide) (⟨r1140, (1 : Int32), v1136, v1137, hv1136, hv1137, (Or.inl ⟨hc1134, hc1141, hc1142, rfl⟩), rfl, N0, (e0)⟩)
      · refine Go.st (S' := s₁.setTop (mkF m 31 #[.val (.ref o0), .val (.int (6 : Int32)), .val (.int p2)] [])) (fun t k => XS.icmpYes X0.here hx rfl (pc0 := 24) (pc' := 31) rfl (hb hby dmethod_4_code_24) rfl (feq hc1142).2 (by decide) (by decide) k) ?_
        refine Go.st (S' := s₁.setTop (mkF m 32 #[.val (.ref o0), .val (.int (6 : Int32)), .val (.int p2)] [(.int (0 : Int32))])) (fun t k => XS.iconst X0.here hx rfl (hb hby dmethod_4_code_31) k) ?_
        exact Go.ret X0 (v := some (.int (0 : Int32))) (fun h => by rw [Bd.returns] at h; cases h) Bd.notSynchronized (fun fs hr => retN X0 hx (t := .boolean) Bd.returns (by simp) (hb hby dmethod_4_code_32) hr) (by decide) (by decide) (⟨r1140, (0 : Int32), v1136, v1137, hv1136, hv1137, (Or.inr (Or.inl ⟨hc1134, hc1141, hc1142, rfl⟩)), rfl, N0, (e0)⟩)
    · intro J1143
      by_cases hc1144 : (v1137 = (0 : Int32))
      · refine Go.st (S' := s₁.setTop (mkF m 23 #[.val (.ref o0), .val (.int (6 : Int32)), .val (.int p2)] [(.int e6_o0)])) (fun t k => XS.ifYes X0.here hx rfl (pc0 := 16) (pc' := 23) rfl (hb hby dmethod_4_code_16) rfl ((if0 _ _).trans (teq hc1144).1) (by decide) (by decide) k) ?_
        refine Go.st (S' := s₁.setTop (mkF m 24 #[.val (.ref o0), .val (.int (6 : Int32)), .val (.int p2)] [(.int (0 : Int32)), (.int e6_o0)])) (fun t k => XS.iconst X0.here hx rfl (hb hby dmethod_4_code_23) k) ?_
        exact J1143 ((0 : Int32)) (Or.inl ⟨hc1144, rfl⟩)
      · refine Go.st (S' := s₁.setTop (mkF m 19 #[.val (.ref o0), .val (.int (6 : Int32)), .val (.int p2)] [(.int e6_o0)])) (fun t k => XS.ifNo X0.here hx rfl (hb hby dmethod_4_code_16) rfl ((if0 _ _).trans (feq hc1144).1) k) ?_
        refine Go.st (S' := s₁.setTop (mkF m 20 #[.val (.ref o0), .val (.int (6 : Int32)), .val (.int p2)] [(.int (1 : Int32)), (.int e6_o0)])) (fun t k => XS.iconst X0.here hx rfl (hb hby dmethod_4_code_19) k) ?_
        refine Go.st (S' := s₁.setTop (mkF m 24 #[.val (.ref o0), .val (.int (6 : Int32)), .val (.int p2)] [(.int (1 : Int32)), (.int e6_o0)])) (fun t k => XS.goto X0.here hx rfl (pc0 := 20) (pc' := 24) rfl (hb hby dmethod_4_code_20) (by decide) (by decide) k) ?_
        exact J1143 ((1 : Int32)) (Or.inr ⟨hc1144, rfl⟩)
  · refine Go.st (S' := s₁.setTop (mkF m 6 #[.val (.ref o0), .val (.int (6 : Int32)), .val (.int p2)] [])) (fun t k => XS.icmpNo X0.here hx rfl (hb hby dmethod_4_code_3) rfl (flt hc1134).1 k) ?_
    refine Go.st (S' := s₁.setTop (mkF m 7 #[.val (.ref o0), .val (.int (6 : Int32)), .val (.int p2)] [(.int (1 : Int32))])) (fun t k => XS.iconst X0.here hx rfl (hb hby dmethod_4_code_6) k) ?_
    exact Go.ret X0 (v := some (.int (1 : Int32))) (fun h => by rw [Bd.returns] at h; cases h) Bd.notSynchronized (fun fs hr => retN X0 hx (t := .boolean) Bd.returns (by simp) (hb hby dmethod_4_code_7) hr) (by decide) (by decide) (⟨(0 : Int32), (1 : Int32), _, _, rfl, rfl, (Or.inr (Or.inr ⟨hc1134, rfl⟩)), rfl, N0, (e0)⟩)
theorem ef_59 (m : MethodId) (o0 : Addr) (p2 : Int32) : entryFrame m #[(.ref o0), (.int (7 : Int32)), (.int p2)] 3 = mkF m 0 #[.val (.ref o0), .val (.int (7 : Int32)), .val (.int p2)] [] := by first | (simp [entryFrame, mkF, argsToLocals, Value.category, maxLocals]; done) | rfl
def Q59 (Z : State) (o0 : Addr) (p2 : Int32) (k_o0 : ClassId) (z_o0 : Int32) (e0_o0 : Int32) (e1_o0 : Int32) (e2_o0 : Int32) (e3_o0 : Int32) (e4_o0 : Int32) (e5_o0 : Int32) (e6_o0 : Int32) (e7_o0 : Int32) (h0 : Heap) (n0 : Nat) (v : Option Value) (h : Heap) (L : List Loc) : Prop := (∃ (r1160 : Int32) (rv59 : Int32) (v1156 : Int32) (v1157 : Int32), v1156 = ((p2.toUInt32 >>> ((7 : Int32) &&& 31).toUInt32).toInt32) ∧ v1157 = (v1156 &&& (1 : Int32)) ∧ ((((7 : Int32) < z_o0) ∧ (((v1157 = (0 : Int32)) ∧ (r1160 = (0 : Int32))) ∨ ((¬ (v1157 = (0 : Int32))) ∧ (r1160 = (1 : Int32)))) ∧ (e7_o0 = r1160) ∧ (rv59 = (1 : Int32))) ∨ (((7 : Int32) < z_o0) ∧ (((v1157 = (0 : Int32)) ∧ (r1160 = (0 : Int32))) ∨ ((¬ (v1157 = (0 : Int32))) ∧ (r1160 = (1 : Int32)))) ∧ (¬ (e7_o0 = r1160)) ∧ (rv59 = (0 : Int32))) ∨ ((¬ ((7 : Int32) < z_o0)) ∧ (rv59 = (1 : Int32)))) ∧ v = some (.int rv59) ∧ Fr n0 L ∧ h = h0)
set_option maxRecDepth 65536 in
set_option maxHeartbeats 40000000 in
theorem rm59 (l : Launch) (Z : State) (a0 : Array Value) (hw : ∀ d ∈ tables_1, d.before a0 Z = true) (ws : List Jvm.Cond) (o0 : Addr) (p2 : Int32) (k_o0 : ClassId) (z_o0 : Int32) (e0_o0 : Int32) (e1_o0 : Int32) (e2_o0 : Int32) (e3_o0 : Int32) (e4_o0 : Int32) (e5_o0 : Int32) (e6_o0 : Int32) (e7_o0 : Int32) (h0 : Heap) (n0 : Nat) (Z0 : n0 ≤ h0.size) (hra_z_o0 : (¬ (z_o0 < (1 : Int32)))) (hrb_z_o0 : (¬ ((8 : Int32) < z_o0))) (V_o0 : Arv Z h0 o0 k_o0 .boolean z_o0 [(.int e0_o0), (.int e1_o0), (.int e2_o0), (.int e3_o0), (.int e4_o0), (.int e5_o0), (.int e6_o0), (.int e7_o0)] (.int (0 : Int32))) :
    Con l Z (⟨"com/example/tuneless/tuneless/problem/OneMaxEvaluatePinLaw", "same", "([ZII)Z"⟩ : MethodName) method_4_code 3 (some .boolean) ws ({ frames := 0, cells := 0, slots := 0, locals := 0 } : Room) #[(.ref o0), (.int (7 : Int32)), (.int p2)] h0 0 0 (Q59 Z o0 p2 k_o0 z_o0 e0_o0 e1_o0 e2_o0 e3_o0 e4_o0 e5_o0 e6_o0 e7_o0 h0 n0) := by
  refine MetFree.of_bodySF (plainFor_of_name pn_9) hisR ?_
  intro p e s m args below meth c s₁ Bd hml0 hP hK
  obtain ⟨rfl, hZ, hh⟩ := hP
  have hx := Bd.exec
  have hby := Bd.bytes
  have hml : c.maxLocals = 3 := hml0
  have hown : s.vm.findClass "com/example/tuneless/tuneless/problem/OneMaxEvaluatePinLaw" = some m.cls := findClass_of_methodNamed Bd.named
  have hnm := (name_of_methodNamed Bd.named Bd.method).1
  have X0 : Stand p l e ({ frames := 0, cells := 0, slots := 0, locals := 0 } : Room) s m #[(.ref o0), (.int (7 : Int32)), (.int p2)] below meth c s₁ [] 0 0 := Stand.of_body Bd
  have e0 : s₁.heap = h0 := by rw [← hh, Bd.state]; rfl
  have N0 := Fr.nil n0
  refine Go.of ?_
  refine Go.st (S' := s₁.setTop (mkF m 0 #[.val (.ref o0), .val (.int (7 : Int32)), .val (.int p2)] [])) (fun t k => castTop (ef_59 m o0 p2) k) ?_
  refine Go.st (S' := s₁.setTop (mkF m 1 #[.val (.ref o0), .val (.int (7 : Int32)), .val (.int p2)] [(.int (7 : Int32))])) (fun t k => XS.iloadN X0.here hx rfl (hb hby dmethod_4_code_0) rfl k) ?_
  refine Go.st (S' := s₁.setTop (mkF m 2 #[.val (.ref o0), .val (.int (7 : Int32)), .val (.int p2)] [(.ref o0), (.int (7 : Int32))])) (fun t k => XS.aloadN X0.here hx rfl (hb hby dmethod_4_code_1) rfl rfl k) ?_
  obtain ⟨cl1152, Ar1152, -, S1152, N1152_, -, -⟩ := id V_o0
  refine Go.op (F := fun z => s₁.setTop (mkF m 3 #[.val (.ref o0), .val (.int (7 : Int32)), .val (.int p2)] [(.int z), (.int (7 : Int32))])) (x := cl1152.slots.size.toInt32) (fun t k => X0.arraylength hx (own_eh e0 Ar1152.1) (State.isArrayOf_alike hZ.alike Ar1152.2.1) (g := (mkF m 2 #[.val (.ref o0), .val (.int (7 : Int32)), .val (.int p2)] [(.ref o0), (.int (7 : Int32))])) rfl rfl (hb hby dmethod_4_code_2) t k) ?_
  intro v1153 hv1153
  obtain rfl : z_o0 = v1153 := (hv1153.trans (len_of S1152 N1152_)).symm
  by_cases hc1154 : ((7 : Int32) < z_o0)
  · refine Go.st (S' := s₁.setTop (mkF m 8 #[.val (.ref o0), .val (.int (7 : Int32)), .val (.int p2)] [])) (fun t k => XS.icmpYes X0.here hx rfl (pc0 := 3) (pc' := 8) rfl (hb hby dmethod_4_code_3) rfl (tlt hc1154).1 (by decide) (by decide) k) ?_
    refine Go.st (S' := s₁.setTop (mkF m 9 #[.val (.ref o0), .val (.int (7 : Int32)), .val (.int p2)] [(.ref o0)])) (fun t k => XS.aloadN X0.here hx rfl (hb hby dmethod_4_code_8) rfl rfl k) ?_
    refine Go.st (S' := s₁.setTop (mkF m 10 #[.val (.ref o0), .val (.int (7 : Int32)), .val (.int p2)] [(.int (7 : Int32)), (.ref o0)])) (fun t k => XS.iloadN X0.here hx rfl (hb hby dmethod_4_code_9) rfl k) ?_
    obtain ⟨cl1155, Ar1155, -, S1155, N1155_, H1155, -⟩ := id V_o0
    have hin1155 : ¬ ((7 : Int32) < 0 ∨ cl1155.slots.size ≤ ((7 : Int32)).toNatClampNeg) := inb_of S1155 ⟨by decide, hc1154⟩
    have hat1155 : cl1155.slots[((7 : Int32)).toNatClampNeg]? = some (.int e7_o0) := Has.at H1155 hin1155 rfl
    refine Go.st (S' := s₁.setTop (mkF m 11 #[.val (.ref o0), .val (.int (7 : Int32)), .val (.int p2)] [(.int e7_o0)])) (fun t k => X0.baloadBooleans hx (j := (7 : Int32)) (v := (.int e7_o0)) (own_eh e0 Ar1155.1) (State.isArrayOf_alike hZ.alike Ar1155.2.1) Ar1155.2.2 hin1155 hat1155 (g := (mkF m 10 #[.val (.ref o0), .val (.int (7 : Int32)), .val (.int p2)] [(.int (7 : Int32)), (.ref o0)])) rfl rfl (hb hby dmethod_4_code_10) t k) ?_
    refine Go.st (S' := s₁.setTop (mkF m 12 #[.val (.ref o0), .val (.int (7 : Int32)), .val (.int p2)] [(.int p2), (.int e7_o0)])) (fun t k => XS.iloadN X0.here hx rfl (hb hby dmethod_4_code_11) rfl k) ?_
    refine Go.st (S' := s₁.setTop (mkF m 13 #[.val (.ref o0), .val (.int (7 : Int32)), .val (.int p2)] [(.int (7 : Int32)), (.int p2), (.int e7_o0)])) (fun t k => XS.iloadN X0.here hx rfl (hb hby dmethod_4_code_12) rfl k) ?_
    refine Go.op (F := fun z => s₁.setTop (mkF m 14 #[.val (.ref o0), .val (.int (7 : Int32)), .val (.int p2)] [(.int z), (.int e7_o0)])) (x := ((p2.toUInt32 >>> ((7 : Int32) &&& 31).toUInt32).toInt32)) (fun t k => XS.iushr X0.here hx rfl (hb hby dmethod_4_code_13) rfl k) ?_
    intro v1156 hv1156
    refine Go.st (S' := s₁.setTop (mkF m 15 #[.val (.ref o0), .val (.int (7 : Int32)), .val (.int p2)] [(.int (1 : Int32)), (.int v1156), (.int e7_o0)])) (fun t k => XS.iconst X0.here hx rfl (hb hby dmethod_4_code_14) k) ?_
    refine Go.op (F := fun z => s₁.setTop (mkF m 16 #[.val (.ref o0), .val (.int (7 : Int32)), .val (.int p2)] [(.int z), (.int e7_o0)])) (x := (v1156 &&& (1 : Int32))) (fun t k => XS.iand X0.here hx rfl (hb hby dmethod_4_code_15) rfl k) ?_
    intro v1157 hv1157
    refine Go.join (α := Int32) (fun r => (((v1157 = (0 : Int32)) ∧ (r = (0 : Int32))) ∨ ((¬ (v1157 = (0 : Int32))) ∧ (r = (1 : Int32))))) (fun r => s₁.setTop (mkF m 24 #[.val (.ref o0), .val (.int (7 : Int32)), .val (.int p2)] [(.int r), (.int e7_o0)])) ?_ ?_
    · intro r1160 hc1161
      by_cases hc1162 : (e7_o0 = r1160)
      · refine Go.st (S' := s₁.setTop (mkF m 27 #[.val (.ref o0), .val (.int (7 : Int32)), .val (.int p2)] [])) (fun t k => XS.icmpNo X0.here hx rfl (hb hby dmethod_4_code_24) rfl (teq hc1162).2 k) ?_
        refine Go.st (S' := s₁.setTop (mkF m 28 #[.val (.ref o0), .val (.int (7 : Int32)), .val (.int p2)] [(.int (1 : Int32))])) (fun t k => XS.iconst X0.here hx rfl (hb hby dmethod_4_code_27) k) ?_
        refine Go.st (S' := s₁.setTop (mkF m 32 #[.val (.ref o0), .val (.int (7 : Int32)), .val (.int p2)] [(.int (1 : Int32))])) (fun t k => XS.goto X0.here hx rfl (pc0 := 28) (pc' := 32) rfl (hb hby dmethod_4_code_28) (by decide) (by decide) k) ?_
        exact Go.ret X0 (v := some (.int (1 : Int32))) (fun h => by rw [Bd.returns] at h; cases h) Bd.notSynchronized (fun fs hr => retN X0 hx (t := .boolean) Bd.returns (by simp) (hb hby dmethod_4_code_32) hr) (by decide) (by decide) (⟨r1160, (1 : Int32), v1156, v1157, hv1156, hv1157, (Or.inl ⟨hc1154, hc1161, hc1162, rfl⟩), rfl, N0, (e0)⟩)
      · refine Go.st (S' := s₁.setTop (mkF m 31 #[.val (.ref o0), .val (.int (7 : Int32)), .val (.int p2)] [])) (fun t k => XS.icmpYes X0.here hx rfl (pc0 := 24) (pc' := 31) rfl (hb hby dmethod_4_code_24) rfl (feq hc1162).2 (by decide) (by decide) k) ?_
        refine Go.st (S' := s₁.setTop (mkF m 32 #[.val (.ref o0), .val (.int (7 : Int32)), .val (.int p2)] [(.int (0 : Int32))])) (fun t k => XS.iconst X0.here hx rfl (hb hby dmethod_4_code_31) k) ?_
        exact Go.ret X0 (v := some (.int (0 : Int32))) (fun h => by rw [Bd.returns] at h; cases h) Bd.notSynchronized (fun fs hr => retN X0 hx (t := .boolean) Bd.returns (by simp) (hb hby dmethod_4_code_32) hr) (by decide) (by decide) (⟨r1160, (0 : Int32), v1156, v1157, hv1156, hv1157, (Or.inr (Or.inl ⟨hc1154, hc1161, hc1162, rfl⟩)), rfl, N0, (e0)⟩)
    · intro J1163
      by_cases hc1164 : (v1157 = (0 : Int32))
      · refine Go.st (S' := s₁.setTop (mkF m 23 #[.val (.ref o0), .val (.int (7 : Int32)), .val (.int p2)] [(.int e7_o0)])) (fun t k => XS.ifYes X0.here hx rfl (pc0 := 16) (pc' := 23) rfl (hb hby dmethod_4_code_16) rfl ((if0 _ _).trans (teq hc1164).1) (by decide) (by decide) k) ?_
        refine Go.st (S' := s₁.setTop (mkF m 24 #[.val (.ref o0), .val (.int (7 : Int32)), .val (.int p2)] [(.int (0 : Int32)), (.int e7_o0)])) (fun t k => XS.iconst X0.here hx rfl (hb hby dmethod_4_code_23) k) ?_
        exact J1163 ((0 : Int32)) (Or.inl ⟨hc1164, rfl⟩)
      · refine Go.st (S' := s₁.setTop (mkF m 19 #[.val (.ref o0), .val (.int (7 : Int32)), .val (.int p2)] [(.int e7_o0)])) (fun t k => XS.ifNo X0.here hx rfl (hb hby dmethod_4_code_16) rfl ((if0 _ _).trans (feq hc1164).1) k) ?_
        refine Go.st (S' := s₁.setTop (mkF m 20 #[.val (.ref o0), .val (.int (7 : Int32)), .val (.int p2)] [(.int (1 : Int32)), (.int e7_o0)])) (fun t k => XS.iconst X0.here hx rfl (hb hby dmethod_4_code_19) k) ?_
        refine Go.st (S' := s₁.setTop (mkF m 24 #[.val (.ref o0), .val (.int (7 : Int32)), .val (.int p2)] [(.int (1 : Int32)), (.int e7_o0)])) (fun t k => XS.goto X0.here hx rfl (pc0 := 20) (pc' := 24) rfl (hb hby dmethod_4_code_20) (by decide) (by decide) k) ?_
        exact J1163 ((1 : Int32)) (Or.inr ⟨hc1164, rfl⟩)
  · refine Go.st (S' := s₁.setTop (mkF m 6 #[.val (.ref o0), .val (.int (7 : Int32)), .val (.int p2)] [])) (fun t k => XS.icmpNo X0.here hx rfl (hb hby dmethod_4_code_3) rfl (flt hc1154).1 k) ?_
    refine Go.st (S' := s₁.setTop (mkF m 7 #[.val (.ref o0), .val (.int (7 : Int32)), .val (.int p2)] [(.int (1 : Int32))])) (fun t k => XS.iconst X0.here hx rfl (hb hby dmethod_4_code_6) k) ?_
    exact Go.ret X0 (v := some (.int (1 : Int32))) (fun h => by rw [Bd.returns] at h; cases h) Bd.notSynchronized (fun fs hr => retN X0 hx (t := .boolean) Bd.returns (by simp) (hb hby dmethod_4_code_7) hr) (by decide) (by decide) (⟨(0 : Int32), (1 : Int32), _, _, rfl, rfl, (Or.inr (Or.inr ⟨hc1154, rfl⟩)), rfl, N0, (e0)⟩)
theorem ef_60 (m : MethodId) (p0 : Int32) (p1 : Int32) : entryFrame m #[(.int p0), (.int p1)] maxLocals = mkF m 0 #[.val (.int p0), .val (.int p1), .unset, .unset, .unset, .unset, .unset, .unset, .unset] [] := by first | (simp [entryFrame, mkF, argsToLocals, Value.category, maxLocals]; done) | rfl
def Q60 (Z : State) (p0 : Int32) (p1 : Int32) (s_String_COMPACT_STRINGS : Int32) (s_Integer_DigitOnes : Addr) (k_s_Integer_DigitOnes : ClassId) (s_Direction_MAXIMIZE : Addr) (h0 : Heap) (n0 : Nat) (v : Option Value) (h : Heap) (L : List Loc) : Prop := v = some (.int 1) ∧ Fr n0 L
set_option maxRecDepth 65536 in
set_option maxHeartbeats 40000000 in
theorem rm60 (l : Launch) (Z : State) (a0 : Array Value) (hw : ∀ d ∈ tables_1, d.before a0 Z = true) (ws : List Jvm.Cond) (p0 : Int32) (p1 : Int32) (s_String_COMPACT_STRINGS : Int32) (s_Integer_DigitOnes : Addr) (k_s_Integer_DigitOnes : ClassId) (s_Direction_MAXIMIZE : Addr) (h0 : Heap) (n0 : Nat) (Z0 : n0 ≤ h0.size) (S_s_String_COMPACT_STRINGS : Sta Z h0 "java/lang/String" "COMPACT_STRINGS" "Z" (.int s_String_COMPACT_STRINGS)) (nz_s_String_COMPACT_STRINGS : s_String_COMPACT_STRINGS ≠ 0) (keepZ : ∀ (b : Addr) (cl : Cell), Z.heap[b]? = some cl → h0[b]? = some cl) (held_7 : Jvm.Lit.constHeld Z "com/example/tuneless/tuneless/problem/OneMax" 7) (hcw : Jvm.Lit.compactW.before a0 Z = true) (S_s_Integer_DigitOnes : Sta Z h0 "java/lang/Integer" "DigitOnes" "[B" (.ref s_Integer_DigitOnes)) (V_s_Integer_DigitOnes : Arv Z h0 s_Integer_DigitOnes k_s_Integer_DigitOnes .byte (100 : Int32) [(.int (48 : Int32)), (.int (49 : Int32)), (.int (50 : Int32)), (.int (51 : Int32)), (.int (52 : Int32)), (.int (53 : Int32)), (.int (54 : Int32)), (.int (55 : Int32)), (.int (56 : Int32)), (.int (57 : Int32)), (.int (48 : Int32)), (.int (49 : Int32)), (.int (50 : Int32)), (.int (51 : Int32)), (.int (52 : Int32)), (.int (53 : Int32)), (.int (54 : Int32)), (.int (55 : Int32)), (.int (56 : Int32)), (.int (57 : Int32)), (.int (48 : Int32)), (.int (49 : Int32)), (.int (50 : Int32)), (.int (51 : Int32)), (.int (52 : Int32)), (.int (53 : Int32)), (.int (54 : Int32)), (.int (55 : Int32)), (.int (56 : Int32)), (.int (57 : Int32)), (.int (48 : Int32)), (.int (49 : Int32)), (.int (50 : Int32)), (.int (51 : Int32)), (.int (52 : Int32)), (.int (53 : Int32)), (.int (54 : Int32)), (.int (55 : Int32)), (.int (56 : Int32)), (.int (57 : Int32)), (.int (48 : Int32)), (.int (49 : Int32)), (.int (50 : Int32)), (.int (51 : Int32)), (.int (52 : Int32)), (.int (53 : Int32)), (.int (54 : Int32)), (.int (55 : Int32)), (.int (56 : Int32)), (.int (57 : Int32)), (.int (48 : Int32)), (.int (49 : Int32)), (.int (50 : Int32)), (.int (51 : Int32)), (.int (52 : Int32)), (.int (53 : Int32)), (.int (54 : Int32)), (.int (55 : Int32)), (.int (56 : Int32)), (.int (57 : Int32)), (.int (48 : Int32)), (.int (49 : Int32)), (.int (50 : Int32)), (.int (51 : Int32)), (.int (52 : Int32)), (.int (53 : Int32)), (.int (54 : Int32)), (.int (55 : Int32)), (.int (56 : Int32)), (.int (57 : Int32)), (.int (48 : Int32)), (.int (49 : Int32)), (.int (50 : Int32)), (.int (51 : Int32)), (.int (52 : Int32)), (.int (53 : Int32)), (.int (54 : Int32)), (.int (55 : Int32)), (.int (56 : Int32)), (.int (57 : Int32)), (.int (48 : Int32)), (.int (49 : Int32)), (.int (50 : Int32)), (.int (51 : Int32)), (.int (52 : Int32)), (.int (53 : Int32)), (.int (54 : Int32)), (.int (55 : Int32)), (.int (56 : Int32)), (.int (57 : Int32)), (.int (48 : Int32)), (.int (49 : Int32)), (.int (50 : Int32)), (.int (51 : Int32)), (.int (52 : Int32)), (.int (53 : Int32)), (.int (54 : Int32)), (.int (55 : Int32)), (.int (56 : Int32)), (.int (57 : Int32))] (.int 0)) (S_s_Direction_MAXIMIZE : Sta Z h0 "com/example/tuneless/tuneless/space/Direction" "MAXIMIZE" "Lcom/example/tuneless/tuneless/space/Direction;" (.ref s_Direction_MAXIMIZE)) :
    ConW l Z x code maxLocals ret ws room_1 #[(.int p0), (.int p1)] h0 10 114 (Q60 Z p0 p1 s_String_COMPACT_STRINGS s_Integer_DigitOnes k_s_Integer_DigitOnes s_Direction_MAXIMIZE h0 n0) := by
  refine MetFree.of_bodySF (plainFor_of_name pn_9) hisR ?_
  intro p e s m args below meth c s₁ Bd hml0 hP hK
  obtain ⟨rfl, hZH, hh⟩ := hP
  have hZ := hZH.wide
  have hx := Bd.exec
  have hby := Bd.bytes
  have hml : c.maxLocals = 9 := hml0
  have hown : s.vm.findClass "com/example/tuneless/tuneless/problem/OneMaxEvaluatePinLaw" = some m.cls := findClass_of_methodNamed Bd.named
  have hnm := (name_of_methodNamed Bd.named Bd.method).1
  have X0 : Stand p l e room_1 s m #[(.int p0), (.int p1)] below meth c s₁ [] 0 0 := Stand.of_body Bd
  have e0 : s₁.heap = h0 := by rw [← hh, Bd.state]; rfl
  have N0 := Fr.nil n0
  refine Go.of ?_
  refine Go.st (S' := s₁.setTop (mkF m 0 #[.val (.int p0), .val (.int p1), .unset, .unset, .unset, .unset, .unset, .unset, .unset] [])) (fun t k => castTop (ef_60 m p0 p1) k) ?_
  let A1 : Array Slot := #[.val (.int p0), .val (.int p1), .unset, .unset, .unset, .unset, .unset, .unset, .unset]
  refine Go.st (S' := s₁.setTop (mkF m 1 A1 [(.int p0)])) (fun t k => XS.iloadN X0.here hx rfl (hb hby at_0) rfl k) ?_
  refine Go.st (S' := s₁.setTop (mkF m 3 A1 [(.int (7 : Int32)), (.int p0)])) (fun t k => XS.bipush X0.here hx rfl (hb hby at_1) k) ?_
  refine Go.op (F := fun z => s₁.setTop (mkF m 4 A1 [(.int z)])) (x := (p0 &&& (7 : Int32))) (fun t k => XS.iand X0.here hx rfl (hb hby at_3) rfl k) ?_
  intro v2 hv2
  refine Go.st (S' := s₁.setTop (mkF m 5 A1 [(.int (1 : Int32)), (.int v2)])) (fun t k => XS.iconst X0.here hx rfl (hb hby at_4) k) ?_
  refine Go.op (F := fun z => s₁.setTop (mkF m 6 A1 [(.int z)])) (x := (v2 + (1 : Int32))) (fun t k => XS.iadd X0.here hx rfl (hb hby at_5) rfl k) ?_
  intro v3 hv3
  let A4 : Array Slot := #[.val (.int p0), .val (.int p1), .val (.int v3), .unset, .unset, .unset, .unset, .unset, .unset]
  refine Go.st (S' := s₁.setTop (mkF m 7 A4 [])) (fun t k => XS.istoreN X0.here hx rfl (hb hby at_6) rfl (l' := A4) rfl k) ?_
  have hra_n : (¬ (v3 < (1 : Int32))) := by
    intro hc_
    have rv2 := rng32 v2
    have wv2 := c_mask p0 (7 : Int32) 3 (by decide) (by decide)
    rw [← hv2] at wv2
    have rv3 := rng32 v3
    have wv3 := c_iadd v2 (1 : Int32)
    rw [← hv3] at wv3
    have rp0 := rng32 p0
    have lI1 : (1 : Int32).toInt = 1 := by decide
    have lI7 : (7 : Int32).toInt = 7 := by decide
    simp only [Int32.lt_iff_toInt_lt, Int64.lt_iff_toInt_lt, ← Int32.toInt_inj, ← Int64.toInt_inj] at hc_
    omega
  have hrb_n : (¬ ((8 : Int32) < v3)) := by
    intro hc_
    have rv2 := rng32 v2
    have wv2 := c_mask p0 (7 : Int32) 3 (by decide) (by decide)
    rw [← hv2] at wv2
    have rv3 := rng32 v3
    have wv3 := c_iadd v2 (1 : Int32)
    rw [← hv3] at wv3
    have rp0 := rng32 p0
    have lI1 : (1 : Int32).toInt = 1 := by decide
    have lI7 : (7 : Int32).toInt = 7 := by decide
    have lI8 : (8 : Int32).toInt = 8 := by decide
    simp only [Int32.lt_iff_toInt_lt, Int64.lt_iff_toInt_lt, ← Int32.toInt_inj, ← Int64.toInt_inj] at hc_
    omega
  obtain ⟨T5, h5, X5, e5, E5, A5, D5, -, st5⟩ := newO X0 hx hZ hown (hw _ (List.mem_of_getElem? (i := 0) rfl)) (hw _ (List.mem_of_getElem? (i := 1) rfl)) (hw _ (List.mem_of_getElem? (i := 2) rfl)) e0 (g := (mkF m 7 A4 [])) rfl (hb hby at_7) (by decide) (by decide)
  obtain ⟨b5, gg5⟩ : ∃ z, z = h0.size := ⟨_, rfl⟩
  rw [← gg5] at A5 D5 st5
  have g_b5 : n0 ≤ b5 := Nat.le_trans Z0 (Nat.le_of_eq gg5.symm)
  have sz_b5 : h0.size ≤ b5 := Nat.le_trans (Keep.refl h0 []).1 (Nat.le_of_eq gg5.symm)
  have Z6 : n0 ≤ h5.size := Nat.le_trans Z0 E5.1
  have K6 : Keep h0 h5 [] := (Keep.refl h0 []).ext E5
  have Fb5_description : Fld Z h5 b5 "com/example/tuneless/tuneless/problem/Landscape" "description" "Ljava/lang/String;" .null := D5 (Or.inr (hw _ (List.mem_of_getElem? (i := 177) rfl))) (ty := (.object "java/lang/String")) (by decide)
  have Fb5_space : Fld Z h5 b5 "com/example/tuneless/tuneless/problem/Landscape" "space" "Lcom/example/tuneless/tuneless/space/BitStringSpace;" .null := D5 (Or.inr (hw _ (List.mem_of_getElem? (i := 191) rfl))) (ty := (.object "com/example/tuneless/tuneless/space/BitStringSpace")) (by decide)
  have Fb5_direction : Fld Z h5 b5 "com/example/tuneless/tuneless/problem/Landscape" "direction" "Lcom/example/tuneless/tuneless/space/Direction;" .null := D5 (Or.inr (hw _ (List.mem_of_getElem? (i := 193) rfl))) (ty := (.object "com/example/tuneless/tuneless/space/Direction")) (by decide)
  have Fb5_optimum : Fld Z h5 b5 "com/example/tuneless/tuneless/problem/Landscape" "optimum" "Ljava/util/OptionalDouble;" .null := D5 (Or.inr (hw _ (List.mem_of_getElem? (i := 195) rfl))) (ty := (.object "java/util/OptionalDouble")) (by decide)
  refine Go.st (S' := T5.setTop (mkF m 10 A4 [(.ref b5)])) st5 ?_
  refine Go.st (S' := T5.setTop (mkF m 11 A4 [(.ref b5), (.ref b5)])) (fun t k => XS.dup X5.here hx rfl (hb hby at_10) rfl rfl k) ?_
  refine Go.st (S' := T5.setTop (mkF m 12 A4 [(.int v3), (.ref b5), (.ref b5)])) (fun t k => XS.iloadN X5.here hx rfl (hb hby at_11) rfl k) ?_
  have f508 := (Sta.ext E5 (S_s_String_COMPACT_STRINGS))
  have f509 := (Sta.ext E5 (S_s_Integer_DigitOnes))
  have f510 := ((V_s_Integer_DigitOnes).ext E5)
  have f511 := (Sta.ext E5 (S_s_Direction_MAXIMIZE))
  obtain ⟨r512, T512, L512, X512, hQ512, hS512, hZ, hown, st512⟩ := own_callIW (W := 1) (a := b5) X5 hx hZH e5 hown (y := (⟨"com/example/tuneless/tuneless/problem/OneMax", "<init>", "(I)V"⟩ : MethodName)) rfl (hw _ (List.mem_of_getElem? (i := 3) rfl)) (hw _ (List.mem_of_getElem? (i := 4) rfl)) (hw _ (List.mem_of_getElem? (i := 2) rfl)) (hw _ (List.mem_of_getElem? (i := 5) rfl)) (by decide) (rm34 l Z a0 hw [] b5 v3 s_String_COMPACT_STRINGS s_Integer_DigitOnes k_s_Integer_DigitOnes s_Direction_MAXIMIZE h5 n0 Z6 (hra_n) (hrb_n) (f508) (nz_s_String_COMPACT_STRINGS) ((fun b cl z => (K6).2.1 b cl (keepZ b cl z) nin0)) (held_7) (hcw) (f509) (f510) (f511) (A5) (Fb5_description) (Fb5_space) (Fb5_direction) (Fb5_optimum) (g_b5)) (by decide) (by decide) (by decide) (by decide) (g := (mkF m 12 A4 [(.int v3), (.ref b5), (.ref b5)])) rfl (by rw [hml]; rfl) (argsL := [(.int v3)]) (rest := [(.ref b5)]) rfl (lenOf pd_0 rfl) rfl (by show 2 * 0 + _ ≤ _; exact Nat.le_of_eq rfl) (hb hby at_12)
  obtain ⟨r520, v513, b514, b515, b516, b517, b518, b519, k521, k522, hv513, rfl, N512, K512_, sz_b514_, sz_b515_, sz_b516_, sz_b517_, sz_b518_, sz_b519_, f523, f524, f525, f526, f527, f528, f529, f530, f531, f532, f533, f534, f535, f536, f537, f538, f539, f540, f541, f542, f543, hlt544, hlt545, hlt546, hlt547, hlt548, hlt549, hlt550, hlt551, hlt552, hlt553, hlt554, hlt555, hlt556, hlt557, hlt558⟩ := hQ512
  have N512_ := Fr.app N0 N512
  have g_b514 : n0 ≤ b514 := Nat.le_trans Z6 sz_b514_
  have sz_b514 : h0.size ≤ b514 := Nat.le_trans K6.1 sz_b514_
  have lt_b5_b514 : b5 < b514 := Nat.lt_of_lt_of_le (A5).lt sz_b514_
  have g_b515 : n0 ≤ b515 := Nat.le_trans Z6 sz_b515_
  have sz_b515 : h0.size ≤ b515 := Nat.le_trans K6.1 sz_b515_
  have lt_b5_b515 : b5 < b515 := Nat.lt_of_lt_of_le (A5).lt sz_b515_
  have g_b516 : n0 ≤ b516 := Nat.le_trans Z6 sz_b516_
  have sz_b516 : h0.size ≤ b516 := Nat.le_trans K6.1 sz_b516_
  have lt_b5_b516 : b5 < b516 := Nat.lt_of_lt_of_le (A5).lt sz_b516_
  have g_b517 : n0 ≤ b517 := Nat.le_trans Z6 sz_b517_
  have sz_b517 : h0.size ≤ b517 := Nat.le_trans K6.1 sz_b517_
  have lt_b5_b517 : b5 < b517 := Nat.lt_of_lt_of_le (A5).lt sz_b517_
  have g_b518 : n0 ≤ b518 := Nat.le_trans Z6 sz_b518_
  have sz_b518 : h0.size ≤ b518 := Nat.le_trans K6.1 sz_b518_
  have lt_b5_b518 : b5 < b518 := Nat.lt_of_lt_of_le (A5).lt sz_b518_
  have g_b519 : n0 ≤ b519 := Nat.le_trans Z6 sz_b519_
  have sz_b519 : h0.size ≤ b519 := Nat.le_trans K6.1 sz_b519_
  have lt_b5_b519 : b5 < b519 := Nat.lt_of_lt_of_le (A5).lt sz_b519_
  have Z559 : n0 ≤ T512.heap.size := Nat.le_trans Z6 K512_.1
  have K559 : Keep h0 T512.heap [] := K6.trans K512_ (allS (Or.inr sz_b5) all0)
  refine Go.st (S' := T512.setTop (mkF m 15 A4 [(.ref b5)])) st512 ?_
  let A560 : Array Slot := #[.val (.int p0), .val (.int p1), .val (.int v3), .val (.ref b5), .unset, .unset, .unset, .unset, .unset]
  refine Go.st (S' := T512.setTop (mkF m 16 A560 [])) (fun t k => XS.astoreN X512.here hx rfl (hb hby at_15) rfl rfl (l' := A560) rfl k) ?_
  refine Go.st (S' := T512.setTop (mkF m 17 A560 [(.int v3)])) (fun t k => XS.iloadN X512.here hx rfl (hb hby at_16) rfl k) ?_
  have hl562 : ¬ (v3 < 0) := by
    intro hc565
    have rv2 := rng32 v2
    have wv2 := c_mask p0 (7 : Int32) 3 (by decide) (by decide)
    rw [← hv2] at wv2
    have rv3 := rng32 v3
    have wv3 := c_iadd v2 (1 : Int32)
    rw [← hv3] at wv3
    have rp0 := rng32 p0
    have lI0 : (0 : Int32).toInt = 0 := by decide
    have lI1 : (1 : Int32).toInt = 1 := by decide
    have lI7 : (7 : Int32).toInt = 7 := by decide
    have lI8 : (8 : Int32).toInt = 8 := by decide
    simp only [Int32.lt_iff_toInt_lt, Int64.lt_iff_toInt_lt, ← Int32.toInt_inj, ← Int64.toInt_inj] at hra_n hrb_n hc565
    omega
  have hl563 : ¬ ((8 : Int32) < v3) := by
    intro hc565
    have rv2 := rng32 v2
    have wv2 := c_mask p0 (7 : Int32) 3 (by decide) (by decide)
    rw [← hv2] at wv2
    have rv3 := rng32 v3
    have wv3 := c_iadd v2 (1 : Int32)
    rw [← hv3] at wv3
    have rp0 := rng32 p0
    have lI1 : (1 : Int32).toInt = 1 := by decide
    have lI7 : (7 : Int32).toInt = 7 := by decide
    have lI8 : (8 : Int32).toInt = 8 := by decide
    simp only [Int32.lt_iff_toInt_lt, Int64.lt_iff_toInt_lt, ← Int32.toInt_inj, ← Int64.toInt_inj] at hra_n hrb_n hc565
    omega
  obtain ⟨T561, h561, k561, X561, e561, E561, A561, B561, st561⟩ := newPE X512 hx hZ (hw _ (List.mem_of_getElem? (i := 196) rfl)) rfl (g := (mkF m 17 A560 [(.int v3)])) rfl (hb hby at_17) rfl hl562 (cap := 8) (own_capI hl563 (by decide)) (by decide) (by decide) (by decide) (ad := "[Z") (by decide)
  obtain ⟨b561, gg561⟩ : ∃ z, z = T512.heap.size := ⟨_, rfl⟩
  rw [← gg561] at A561 B561 st561
  have g_b561 : n0 ≤ b561 := Nat.le_trans Z559 (Nat.le_of_eq gg561.symm)
  have sz_b561 : h0.size ≤ b561 := Nat.le_trans K559.1 (Nat.le_of_eq gg561.symm)
  have lt_b5_b561 : b5 < b561 := Nat.lt_of_lt_of_le (f534).lt (Nat.le_of_eq gg561.symm)
  have lt_b514_b561 : b514 < b561 := Nat.lt_of_lt_of_le (f523).lt (Nat.le_of_eq gg561.symm)
  have lt_b515_b561 : b515 < b561 := Nat.lt_of_lt_of_le (f528).lt (Nat.le_of_eq gg561.symm)
  have lt_b516_b561 : b516 < b561 := Nat.lt_of_lt_of_le (f529).lt (Nat.le_of_eq gg561.symm)
  have lt_b517_b561 : b517 < b561 := Nat.lt_of_lt_of_le (f533).lt (Nat.le_of_eq gg561.symm)
  have lt_b518_b561 : b518 < b561 := Nat.lt_of_lt_of_le (f539).lt (Nat.le_of_eq gg561.symm)
  have lt_b519_b561 : b519 < b561 := Nat.lt_of_lt_of_le (f542).lt (Nat.le_of_eq gg561.symm)
  have Z566 : n0 ≤ h561.size := Nat.le_trans Z559 E561.1
  have K566 : Keep h0 h561 [] := K559.ext E561
  have hk566 : _ ≤ h561.size := Nat.le_trans (Nat.le_refl _) E561.1
  have V561 : Arv Z h561 b561 k561 .boolean v3 [(.int (0 : Int32)), (.int (0 : Int32)), (.int (0 : Int32)), (.int (0 : Int32)), (.int (0 : Int32)), (.int (0 : Int32)), (.int (0 : Int32)), (.int (0 : Int32))] (.int (0 : Int32)) := (Arv.new A561 hl562).pad (pad_rep [] (.int (0 : Int32)) 8)
  refine Go.st (S' := T561.setTop (mkF m 19 A560 [(.ref b561)])) st561 ?_
  let A567 : Array Slot := #[.val (.int p0), .val (.int p1), .val (.int v3), .val (.ref b5), .val (.ref b561), .unset, .unset, .unset, .unset]
  refine Go.st (S' := T561.setTop (mkF m 21 A567 [])) (fun t k => XS.astore X561.here hx rfl (hb hby at_19) rfl rfl (l' := A567) rfl k) ?_
  refine Go.st (S' := T561.setTop (mkF m 23 A567 [(.ref b561)])) (fun t k => XS.aload X561.here hx rfl (hb hby at_21) rfl rfl k) ?_
  refine Go.st (S' := T561.setTop (mkF m 24 A567 [(.int (0 : Int32)), (.ref b561)])) (fun t k => XS.iconst X561.here hx rfl (hb hby at_23) k) ?_
  refine Go.st (S' := T561.setTop (mkF m 25 A567 [(.int p1), (.int (0 : Int32)), (.ref b561)])) (fun t k => XS.iloadN X561.here hx rfl (hb hby at_24) rfl k) ?_
  obtain ⟨r583, T583, L583, X583, hQ583, st583⟩ := own_callS (W := 0) X561 hx hZ e561 hown (y := (⟨"com/example/tuneless/tuneless/problem/OneMaxEvaluatePinLaw", "put", "([ZII)V"⟩ : MethodName)) (hw _ (List.mem_of_getElem? (i := 197) rfl)) (hw _ (List.mem_of_getElem? (i := 198) rfl)) (hw _ (List.mem_of_getElem? (i := 199) rfl)) (hw _ (List.mem_of_getElem? (i := 200) rfl)) (by decide) (rm35 l Z a0 hw [] b561 p1 k561 v3 (0 : Int32) (0 : Int32) (0 : Int32) (0 : Int32) (0 : Int32) (0 : Int32) (0 : Int32) (0 : Int32) h561 n0 Z566 (hra_n) (hrb_n) (V561) (g_b561) (B561)) (by decide) (by decide) (by decide) (by decide) (g := (mkF m 25 A567 [(.int p1), (.int (0 : Int32)), (.ref b561)])) rfl (by rw [hml]; rfl) (argsL := [(.ref b561), (.int (0 : Int32)), (.int p1)]) (rest := []) rfl (lenOf pd_26 rfl) rfl (by show 2 * 0 + _ ≤ _; exact Nat.le_of_eq rfl) (hb hby at_25)
  obtain ⟨r587, v584, v585, v586, hv584, hv585, hv586, hc588, hc589, rfl, N583, K583_, f590, f591⟩ := hQ583
  have N583_ := Fr.app N512_ N583
  have Z592 : n0 ≤ T583.heap.size := Nat.le_trans Z566 K583_.1
  have K592 : Keep h0 T583.heap [] := K566.trans K583_ (allS (Or.inr sz_b561) all0)
  have hk592 : _ ≤ T583.heap.size := Nat.le_trans hk566 K583_.1
  refine Go.st (S' := T583.setTop (mkF m 28 A567 [])) st583 ?_
  refine Go.st (S' := T583.setTop (mkF m 30 A567 [(.ref b561)])) (fun t k => XS.aload X583.here hx rfl (hb hby at_28) rfl rfl k) ?_
  refine Go.st (S' := T583.setTop (mkF m 31 A567 [(.int (1 : Int32)), (.ref b561)])) (fun t k => XS.iconst X583.here hx rfl (hb hby at_30) k) ?_
  refine Go.st (S' := T583.setTop (mkF m 32 A567 [(.int p1), (.int (1 : Int32)), (.ref b561)])) (fun t k => XS.iloadN X583.here hx rfl (hb hby at_31) rfl k) ?_
  obtain ⟨r608, T608, L608, X608, hQ608, st608⟩ := own_callS (W := 0) X583 hx hZ rfl hown (y := (⟨"com/example/tuneless/tuneless/problem/OneMaxEvaluatePinLaw", "put", "([ZII)V"⟩ : MethodName)) (hw _ (List.mem_of_getElem? (i := 197) rfl)) (hw _ (List.mem_of_getElem? (i := 198) rfl)) (hw _ (List.mem_of_getElem? (i := 199) rfl)) (hw _ (List.mem_of_getElem? (i := 200) rfl)) (by decide) (rm36 l Z a0 hw [] b561 p1 k561 v3 v586 (0 : Int32) (0 : Int32) (0 : Int32) (0 : Int32) (0 : Int32) (0 : Int32) (0 : Int32) T583.heap n0 Z592 (hra_n) (hrb_n) (f590) (g_b561) (f591)) (by decide) (by decide) (by decide) (by decide) (g := (mkF m 32 A567 [(.int p1), (.int (1 : Int32)), (.ref b561)])) rfl (by rw [hml]; rfl) (argsL := [(.ref b561), (.int (1 : Int32)), (.int p1)]) (rest := []) rfl (lenOf pd_26 rfl) rfl (by show 2 * 0 + _ ≤ _; exact Nat.le_of_eq rfl) (hb hby at_32)
  obtain ⟨r612, r613, v609, v610, v611, hv609, hv610, hv611, hc614, rfl, N608, K608_, f615, f616⟩ := hQ608
  have N608_ := Fr.app N583_ N608
  have Z617 : n0 ≤ T608.heap.size := Nat.le_trans Z592 K608_.1
  have K617 : Keep h0 T608.heap [] := K592.trans K608_ (allS (Or.inr sz_b561) all0)
  have hk617 : _ ≤ T608.heap.size := Nat.le_trans hk592 K608_.1
  refine Go.st (S' := T608.setTop (mkF m 35 A567 [])) st608 ?_
  refine Go.st (S' := T608.setTop (mkF m 37 A567 [(.ref b561)])) (fun t k => XS.aload X608.here hx rfl (hb hby at_35) rfl rfl k) ?_
  refine Go.st (S' := T608.setTop (mkF m 38 A567 [(.int (2 : Int32)), (.ref b561)])) (fun t k => XS.iconst X608.here hx rfl (hb hby at_37) k) ?_
  refine Go.st (S' := T608.setTop (mkF m 39 A567 [(.int p1), (.int (2 : Int32)), (.ref b561)])) (fun t k => XS.iloadN X608.here hx rfl (hb hby at_38) rfl k) ?_
  obtain ⟨r633, T633, L633, X633, hQ633, st633⟩ := own_callS (W := 0) X608 hx hZ rfl hown (y := (⟨"com/example/tuneless/tuneless/problem/OneMaxEvaluatePinLaw", "put", "([ZII)V"⟩ : MethodName)) (hw _ (List.mem_of_getElem? (i := 197) rfl)) (hw _ (List.mem_of_getElem? (i := 198) rfl)) (hw _ (List.mem_of_getElem? (i := 199) rfl)) (hw _ (List.mem_of_getElem? (i := 200) rfl)) (by decide) (rm37 l Z a0 hw [] b561 p1 k561 v3 v586 r613 (0 : Int32) (0 : Int32) (0 : Int32) (0 : Int32) (0 : Int32) (0 : Int32) T608.heap n0 Z617 (hra_n) (hrb_n) (f615) (g_b561) (f616)) (by decide) (by decide) (by decide) (by decide) (g := (mkF m 39 A567 [(.int p1), (.int (2 : Int32)), (.ref b561)])) rfl (by rw [hml]; rfl) (argsL := [(.ref b561), (.int (2 : Int32)), (.int p1)]) (rest := []) rfl (lenOf pd_26 rfl) rfl (by show 2 * 0 + _ ≤ _; exact Nat.le_of_eq rfl) (hb hby at_39)
  obtain ⟨r637, r638, v634, v635, v636, hv634, hv635, hv636, hc639, rfl, N633, K633_, f640, f641⟩ := hQ633
  have N633_ := Fr.app N608_ N633
  have Z642 : n0 ≤ T633.heap.size := Nat.le_trans Z617 K633_.1
  have K642 : Keep h0 T633.heap [] := K617.trans K633_ (allS (Or.inr sz_b561) all0)
  have hk642 : _ ≤ T633.heap.size := Nat.le_trans hk617 K633_.1
  refine Go.st (S' := T633.setTop (mkF m 42 A567 [])) st633 ?_
  refine Go.st (S' := T633.setTop (mkF m 44 A567 [(.ref b561)])) (fun t k => XS.aload X633.here hx rfl (hb hby at_42) rfl rfl k) ?_
  refine Go.st (S' := T633.setTop (mkF m 45 A567 [(.int (3 : Int32)), (.ref b561)])) (fun t k => XS.iconst X633.here hx rfl (hb hby at_44) k) ?_
  refine Go.st (S' := T633.setTop (mkF m 46 A567 [(.int p1), (.int (3 : Int32)), (.ref b561)])) (fun t k => XS.iloadN X633.here hx rfl (hb hby at_45) rfl k) ?_
  obtain ⟨r658, T658, L658, X658, hQ658, st658⟩ := own_callS (W := 0) X633 hx hZ rfl hown (y := (⟨"com/example/tuneless/tuneless/problem/OneMaxEvaluatePinLaw", "put", "([ZII)V"⟩ : MethodName)) (hw _ (List.mem_of_getElem? (i := 197) rfl)) (hw _ (List.mem_of_getElem? (i := 198) rfl)) (hw _ (List.mem_of_getElem? (i := 199) rfl)) (hw _ (List.mem_of_getElem? (i := 200) rfl)) (by decide) (rm38 l Z a0 hw [] b561 p1 k561 v3 v586 r613 r638 (0 : Int32) (0 : Int32) (0 : Int32) (0 : Int32) (0 : Int32) T633.heap n0 Z642 (hra_n) (hrb_n) (f640) (g_b561) (f641)) (by decide) (by decide) (by decide) (by decide) (g := (mkF m 46 A567 [(.int p1), (.int (3 : Int32)), (.ref b561)])) rfl (by rw [hml]; rfl) (argsL := [(.ref b561), (.int (3 : Int32)), (.int p1)]) (rest := []) rfl (lenOf pd_26 rfl) rfl (by show 2 * 0 + _ ≤ _; exact Nat.le_of_eq rfl) (hb hby at_46)
  obtain ⟨r662, r663, v659, v660, v661, hv659, hv660, hv661, hc664, rfl, N658, K658_, f665, f666⟩ := hQ658
  have N658_ := Fr.app N633_ N658
  have Z667 : n0 ≤ T658.heap.size := Nat.le_trans Z642 K658_.1
  have K667 : Keep h0 T658.heap [] := K642.trans K658_ (allS (Or.inr sz_b561) all0)
  have hk667 : _ ≤ T658.heap.size := Nat.le_trans hk642 K658_.1
  refine Go.st (S' := T658.setTop (mkF m 49 A567 [])) st658 ?_
  refine Go.st (S' := T658.setTop (mkF m 51 A567 [(.ref b561)])) (fun t k => XS.aload X658.here hx rfl (hb hby at_49) rfl rfl k) ?_
  refine Go.st (S' := T658.setTop (mkF m 52 A567 [(.int (4 : Int32)), (.ref b561)])) (fun t k => XS.iconst X658.here hx rfl (hb hby at_51) k) ?_
  refine Go.st (S' := T658.setTop (mkF m 53 A567 [(.int p1), (.int (4 : Int32)), (.ref b561)])) (fun t k => XS.iloadN X658.here hx rfl (hb hby at_52) rfl k) ?_
  obtain ⟨r683, T683, L683, X683, hQ683, st683⟩ := own_callS (W := 0) X658 hx hZ rfl hown (y := (⟨"com/example/tuneless/tuneless/problem/OneMaxEvaluatePinLaw", "put", "([ZII)V"⟩ : MethodName)) (hw _ (List.mem_of_getElem? (i := 197) rfl)) (hw _ (List.mem_of_getElem? (i := 198) rfl)) (hw _ (List.mem_of_getElem? (i := 199) rfl)) (hw _ (List.mem_of_getElem? (i := 200) rfl)) (by decide) (rm39 l Z a0 hw [] b561 p1 k561 v3 v586 r613 r638 r663 (0 : Int32) (0 : Int32) (0 : Int32) (0 : Int32) T658.heap n0 Z667 (hra_n) (hrb_n) (f665) (g_b561) (f666)) (by decide) (by decide) (by decide) (by decide) (g := (mkF m 53 A567 [(.int p1), (.int (4 : Int32)), (.ref b561)])) rfl (by rw [hml]; rfl) (argsL := [(.ref b561), (.int (4 : Int32)), (.int p1)]) (rest := []) rfl (lenOf pd_26 rfl) rfl (by show 2 * 0 + _ ≤ _; exact Nat.le_of_eq rfl) (hb hby at_53)
  obtain ⟨r687, r688, v684, v685, v686, hv684, hv685, hv686, hc689, rfl, N683, K683_, f690, f691⟩ := hQ683
  have N683_ := Fr.app N658_ N683
  have Z692 : n0 ≤ T683.heap.size := Nat.le_trans Z667 K683_.1
  have K692 : Keep h0 T683.heap [] := K667.trans K683_ (allS (Or.inr sz_b561) all0)
  have hk692 : _ ≤ T683.heap.size := Nat.le_trans hk667 K683_.1
  refine Go.st (S' := T683.setTop (mkF m 56 A567 [])) st683 ?_
  refine Go.st (S' := T683.setTop (mkF m 58 A567 [(.ref b561)])) (fun t k => XS.aload X683.here hx rfl (hb hby at_56) rfl rfl k) ?_
  refine Go.st (S' := T683.setTop (mkF m 59 A567 [(.int (5 : Int32)), (.ref b561)])) (fun t k => XS.iconst X683.here hx rfl (hb hby at_58) k) ?_
  refine Go.st (S' := T683.setTop (mkF m 60 A567 [(.int p1), (.int (5 : Int32)), (.ref b561)])) (fun t k => XS.iloadN X683.here hx rfl (hb hby at_59) rfl k) ?_
  obtain ⟨r708, T708, L708, X708, hQ708, st708⟩ := own_callS (W := 0) X683 hx hZ rfl hown (y := (⟨"com/example/tuneless/tuneless/problem/OneMaxEvaluatePinLaw", "put", "([ZII)V"⟩ : MethodName)) (hw _ (List.mem_of_getElem? (i := 197) rfl)) (hw _ (List.mem_of_getElem? (i := 198) rfl)) (hw _ (List.mem_of_getElem? (i := 199) rfl)) (hw _ (List.mem_of_getElem? (i := 200) rfl)) (by decide) (rm40 l Z a0 hw [] b561 p1 k561 v3 v586 r613 r638 r663 r688 (0 : Int32) (0 : Int32) (0 : Int32) T683.heap n0 Z692 (hra_n) (hrb_n) (f690) (g_b561) (f691)) (by decide) (by decide) (by decide) (by decide) (g := (mkF m 60 A567 [(.int p1), (.int (5 : Int32)), (.ref b561)])) rfl (by rw [hml]; rfl) (argsL := [(.ref b561), (.int (5 : Int32)), (.int p1)]) (rest := []) rfl (lenOf pd_26 rfl) rfl (by show 2 * 0 + _ ≤ _; exact Nat.le_of_eq rfl) (hb hby at_60)
  obtain ⟨r712, r713, v709, v710, v711, hv709, hv710, hv711, hc714, rfl, N708, K708_, f715, f716⟩ := hQ708
  have N708_ := Fr.app N683_ N708
  have Z717 : n0 ≤ T708.heap.size := Nat.le_trans Z692 K708_.1
  have K717 : Keep h0 T708.heap [] := K692.trans K708_ (allS (Or.inr sz_b561) all0)
  have hk717 : _ ≤ T708.heap.size := Nat.le_trans hk692 K708_.1
  refine Go.st (S' := T708.setTop (mkF m 63 A567 [])) st708 ?_
  refine Go.st (S' := T708.setTop (mkF m 65 A567 [(.ref b561)])) (fun t k => XS.aload X708.here hx rfl (hb hby at_63) rfl rfl k) ?_
  refine Go.st (S' := T708.setTop (mkF m 67 A567 [(.int (6 : Int32)), (.ref b561)])) (fun t k => XS.bipush X708.here hx rfl (hb hby at_65) k) ?_
  refine Go.st (S' := T708.setTop (mkF m 68 A567 [(.int p1), (.int (6 : Int32)), (.ref b561)])) (fun t k => XS.iloadN X708.here hx rfl (hb hby at_67) rfl k) ?_
  obtain ⟨r733, T733, L733, X733, hQ733, st733⟩ := own_callS (W := 0) X708 hx hZ rfl hown (y := (⟨"com/example/tuneless/tuneless/problem/OneMaxEvaluatePinLaw", "put", "([ZII)V"⟩ : MethodName)) (hw _ (List.mem_of_getElem? (i := 197) rfl)) (hw _ (List.mem_of_getElem? (i := 198) rfl)) (hw _ (List.mem_of_getElem? (i := 199) rfl)) (hw _ (List.mem_of_getElem? (i := 200) rfl)) (by decide) (rm41 l Z a0 hw [] b561 p1 k561 v3 v586 r613 r638 r663 r688 r713 (0 : Int32) (0 : Int32) T708.heap n0 Z717 (hra_n) (hrb_n) (f715) (g_b561) (f716)) (by decide) (by decide) (by decide) (by decide) (g := (mkF m 68 A567 [(.int p1), (.int (6 : Int32)), (.ref b561)])) rfl (by rw [hml]; rfl) (argsL := [(.ref b561), (.int (6 : Int32)), (.int p1)]) (rest := []) rfl (lenOf pd_26 rfl) rfl (by show 2 * 0 + _ ≤ _; exact Nat.le_of_eq rfl) (hb hby at_68)
  obtain ⟨r737, r738, v734, v735, v736, hv734, hv735, hv736, hc739, rfl, N733, K733_, f740, f741⟩ := hQ733
  have N733_ := Fr.app N708_ N733
  have Z742 : n0 ≤ T733.heap.size := Nat.le_trans Z717 K733_.1
  have K742 : Keep h0 T733.heap [] := K717.trans K733_ (allS (Or.inr sz_b561) all0)
  have hk742 : _ ≤ T733.heap.size := Nat.le_trans hk717 K733_.1
  refine Go.st (S' := T733.setTop (mkF m 71 A567 [])) st733 ?_
  refine Go.st (S' := T733.setTop (mkF m 73 A567 [(.ref b561)])) (fun t k => XS.aload X733.here hx rfl (hb hby at_71) rfl rfl k) ?_
  refine Go.st (S' := T733.setTop (mkF m 75 A567 [(.int (7 : Int32)), (.ref b561)])) (fun t k => XS.bipush X733.here hx rfl (hb hby at_73) k) ?_
  refine Go.st (S' := T733.setTop (mkF m 76 A567 [(.int p1), (.int (7 : Int32)), (.ref b561)])) (fun t k => XS.iloadN X733.here hx rfl (hb hby at_75) rfl k) ?_
  obtain ⟨r758, T758, L758, X758, hQ758, st758⟩ := own_callS (W := 0) X733 hx hZ rfl hown (y := (⟨"com/example/tuneless/tuneless/problem/OneMaxEvaluatePinLaw", "put", "([ZII)V"⟩ : MethodName)) (hw _ (List.mem_of_getElem? (i := 197) rfl)) (hw _ (List.mem_of_getElem? (i := 198) rfl)) (hw _ (List.mem_of_getElem? (i := 199) rfl)) (hw _ (List.mem_of_getElem? (i := 200) rfl)) (by decide) (rm42 l Z a0 hw [] b561 p1 k561 v3 v586 r613 r638 r663 r688 r713 r738 (0 : Int32) T733.heap n0 Z742 (hra_n) (hrb_n) (f740) (g_b561) (f741)) (by decide) (by decide) (by decide) (by decide) (g := (mkF m 76 A567 [(.int p1), (.int (7 : Int32)), (.ref b561)])) rfl (by rw [hml]; rfl) (argsL := [(.ref b561), (.int (7 : Int32)), (.int p1)]) (rest := []) rfl (lenOf pd_26 rfl) rfl (by show 2 * 0 + _ ≤ _; exact Nat.le_of_eq rfl) (hb hby at_76)
  obtain ⟨r762, r763, v759, v760, v761, hv759, hv760, hv761, hc764, rfl, N758, K758_, f765, f766⟩ := hQ758
  have N758_ := Fr.app N733_ N758
  have Z767 : n0 ≤ T758.heap.size := Nat.le_trans Z742 K758_.1
  have K767 : Keep h0 T758.heap [] := K742.trans K758_ (allS (Or.inr sz_b561) all0)
  have hk767 : _ ≤ T758.heap.size := Nat.le_trans hk742 K758_.1
  refine Go.st (S' := T758.setTop (mkF m 79 A567 [])) st758 ?_
  have hb768 : 0 ≤ (v586).toInt ∧ (v586).toInt ≤ 1 ∧ (0 < (v3).toInt ∨ (v586).toInt = 0) := by
    have rv584 := rng32 v584
    have wv584 := own_ushr0 p1
    rw [← hv584] at wv584
    have rv585 := rng32 v585
    have wv585 := c_mask v584 (1 : Int32) 1 (by decide) (by decide)
    rw [← hv585] at wv585
    have rv586 := rng32 v586
    have wv586 := c_mask r587 (1 : Int32) 1 (by decide) (by decide)
    rw [← hv586] at wv586
    have rp1 := rng32 p1
    have rr587 := rng32 r587
    have lI0 : (0 : Int32).toInt = 0 := by decide
    have lI1 : (1 : Int32).toInt = 1 := by decide
    have lI0_ : (0 : Int32).toInt = 0 := by decide
    have lI1_ : (1 : Int32).toInt = 1 := by decide
    simp only [Int32.lt_iff_toInt_lt, ← Int32.toInt_inj] at hc589 hra_n
    omega
  have hb769 : 0 ≤ (r613).toInt ∧ (r613).toInt ≤ 1 ∧ (1 < (v3).toInt ∨ (r613).toInt = 0) := by
    have rv2 := rng32 v2
    have wv2 := c_mask p0 (7 : Int32) 3 (by decide) (by decide)
    rw [← hv2] at wv2
    have rv3 := rng32 v3
    have wv3 := c_iadd v2 (1 : Int32)
    rw [← hv3] at wv3
    have rv609 := rng32 v609
    have wv609 := c_iushr p1 (1 : Int32) 1 (by decide) (by decide)
    rw [← hv609] at wv609
    have rv610 := rng32 v610
    have wv610 := c_mask v609 (1 : Int32) 1 (by decide) (by decide)
    rw [← hv610] at wv610
    have rv611 := rng32 v611
    have wv611 := c_mask r612 (1 : Int32) 1 (by decide) (by decide)
    rw [← hv611] at wv611
    have rp0 := rng32 p0
    have rp1 := rng32 p1
    have rr612 := rng32 r612
    have rr613 := rng32 r613
    have lI1 : (1 : Int32).toInt = 1 := by decide
    have lI7 : (7 : Int32).toInt = 7 := by decide
    have lI0_ : (0 : Int32).toInt = 0 := by decide
    have lI1_ : (1 : Int32).toInt = 1 := by decide
    simp only [Int32.lt_iff_toInt_lt, ← Int32.toInt_inj] at hc614 hra_n
    omega
  have hb770 : 0 ≤ (r638).toInt ∧ (r638).toInt ≤ 1 ∧ (2 < (v3).toInt ∨ (r638).toInt = 0) := by
    have rv2 := rng32 v2
    have wv2 := c_mask p0 (7 : Int32) 3 (by decide) (by decide)
    rw [← hv2] at wv2
    have rv3 := rng32 v3
    have wv3 := c_iadd v2 (1 : Int32)
    rw [← hv3] at wv3
    have rv634 := rng32 v634
    have wv634 := c_iushr p1 (2 : Int32) 2 (by decide) (by decide)
    rw [← hv634] at wv634
    have rv635 := rng32 v635
    have wv635 := c_mask v634 (1 : Int32) 1 (by decide) (by decide)
    rw [← hv635] at wv635
    have rv636 := rng32 v636
    have wv636 := c_mask r637 (1 : Int32) 1 (by decide) (by decide)
    rw [← hv636] at wv636
    have rp0 := rng32 p0
    have rp1 := rng32 p1
    have rr637 := rng32 r637
    have rr638 := rng32 r638
    have lI1 : (1 : Int32).toInt = 1 := by decide
    have lI2 : (2 : Int32).toInt = 2 := by decide
    have lI7 : (7 : Int32).toInt = 7 := by decide
    have lI0_ : (0 : Int32).toInt = 0 := by decide
    have lI1_ : (1 : Int32).toInt = 1 := by decide
    have lI2_ : (2 : Int32).toInt = 2 := by decide
    simp only [Int32.lt_iff_toInt_lt, ← Int32.toInt_inj] at hc639 hra_n
    omega
  have hb771 : 0 ≤ (r663).toInt ∧ (r663).toInt ≤ 1 ∧ (3 < (v3).toInt ∨ (r663).toInt = 0) := by
    have rv2 := rng32 v2
    have wv2 := c_mask p0 (7 : Int32) 3 (by decide) (by decide)
    rw [← hv2] at wv2
    have rv3 := rng32 v3
    have wv3 := c_iadd v2 (1 : Int32)
    rw [← hv3] at wv3
    have rv659 := rng32 v659
    have wv659 := c_iushr p1 (3 : Int32) 3 (by decide) (by decide)
    rw [← hv659] at wv659
    have rv660 := rng32 v660
    have wv660 := c_mask v659 (1 : Int32) 1 (by decide) (by decide)
    rw [← hv660] at wv660
    have rv661 := rng32 v661
    have wv661 := c_mask r662 (1 : Int32) 1 (by decide) (by decide)
    rw [← hv661] at wv661
    have rp0 := rng32 p0
    have rp1 := rng32 p1
    have rr662 := rng32 r662
    have rr663 := rng32 r663
    have lI1 : (1 : Int32).toInt = 1 := by decide
    have lI3 : (3 : Int32).toInt = 3 := by decide
    have lI7 : (7 : Int32).toInt = 7 := by decide
    have lI0_ : (0 : Int32).toInt = 0 := by decide
    have lI1_ : (1 : Int32).toInt = 1 := by decide
    have lI3_ : (3 : Int32).toInt = 3 := by decide
    simp only [Int32.lt_iff_toInt_lt, ← Int32.toInt_inj] at hc664 hra_n
    omega
  have hb772 : 0 ≤ (r688).toInt ∧ (r688).toInt ≤ 1 ∧ (4 < (v3).toInt ∨ (r688).toInt = 0) := by
    have rv2 := rng32 v2
    have wv2 := c_mask p0 (7 : Int32) 3 (by decide) (by decide)
    rw [← hv2] at wv2
    have rv3 := rng32 v3
    have wv3 := c_iadd v2 (1 : Int32)
    rw [← hv3] at wv3
    have rv684 := rng32 v684
    have wv684 := c_iushr p1 (4 : Int32) 4 (by decide) (by decide)
    rw [← hv684] at wv684
    have rv685 := rng32 v685
    have wv685 := c_mask v684 (1 : Int32) 1 (by decide) (by decide)
    rw [← hv685] at wv685
    have rv686 := rng32 v686
    have wv686 := c_mask r687 (1 : Int32) 1 (by decide) (by decide)
    rw [← hv686] at wv686
    have rp0 := rng32 p0
    have rp1 := rng32 p1
    have rr687 := rng32 r687
    have rr688 := rng32 r688
    have lI1 : (1 : Int32).toInt = 1 := by decide
    have lI4 : (4 : Int32).toInt = 4 := by decide
    have lI7 : (7 : Int32).toInt = 7 := by decide
    have lI0_ : (0 : Int32).toInt = 0 := by decide
    have lI1_ : (1 : Int32).toInt = 1 := by decide
    have lI4_ : (4 : Int32).toInt = 4 := by decide
    simp only [Int32.lt_iff_toInt_lt, ← Int32.toInt_inj] at hc689 hra_n
    omega
  have hb773 : 0 ≤ (r713).toInt ∧ (r713).toInt ≤ 1 ∧ (5 < (v3).toInt ∨ (r713).toInt = 0) := by
    have rv2 := rng32 v2
    have wv2 := c_mask p0 (7 : Int32) 3 (by decide) (by decide)
    rw [← hv2] at wv2
    have rv3 := rng32 v3
    have wv3 := c_iadd v2 (1 : Int32)
    rw [← hv3] at wv3
    have rv709 := rng32 v709
    have wv709 := c_iushr p1 (5 : Int32) 5 (by decide) (by decide)
    rw [← hv709] at wv709
    have rv710 := rng32 v710
    have wv710 := c_mask v709 (1 : Int32) 1 (by decide) (by decide)
    rw [← hv710] at wv710
    have rv711 := rng32 v711
    have wv711 := c_mask r712 (1 : Int32) 1 (by decide) (by decide)
    rw [← hv711] at wv711
    have rp0 := rng32 p0
    have rp1 := rng32 p1
    have rr712 := rng32 r712
    have rr713 := rng32 r713
    have lI1 : (1 : Int32).toInt = 1 := by decide
    have lI5 : (5 : Int32).toInt = 5 := by decide
    have lI7 : (7 : Int32).toInt = 7 := by decide
    have lI0_ : (0 : Int32).toInt = 0 := by decide
    have lI1_ : (1 : Int32).toInt = 1 := by decide
    have lI5_ : (5 : Int32).toInt = 5 := by decide
    simp only [Int32.lt_iff_toInt_lt, ← Int32.toInt_inj] at hc714 hra_n
    omega
  have hb774 : 0 ≤ (r738).toInt ∧ (r738).toInt ≤ 1 ∧ (6 < (v3).toInt ∨ (r738).toInt = 0) := by
    have rv2 := rng32 v2
    have wv2 := c_mask p0 (7 : Int32) 3 (by decide) (by decide)
    rw [← hv2] at wv2
    have rv3 := rng32 v3
    have wv3 := c_iadd v2 (1 : Int32)
    rw [← hv3] at wv3
    have rv734 := rng32 v734
    have wv734 := c_iushr p1 (6 : Int32) 6 (by decide) (by decide)
    rw [← hv734] at wv734
    have rv735 := rng32 v735
    have wv735 := c_mask v734 (1 : Int32) 1 (by decide) (by decide)
    rw [← hv735] at wv735
    have rv736 := rng32 v736
    have wv736 := c_mask r737 (1 : Int32) 1 (by decide) (by decide)
    rw [← hv736] at wv736
    have rp0 := rng32 p0
    have rp1 := rng32 p1
    have rr737 := rng32 r737
    have rr738 := rng32 r738
    have lI1 : (1 : Int32).toInt = 1 := by decide
    have lI6 : (6 : Int32).toInt = 6 := by decide
    have lI7 : (7 : Int32).toInt = 7 := by decide
    have lI0_ : (0 : Int32).toInt = 0 := by decide
    have lI1_ : (1 : Int32).toInt = 1 := by decide
    have lI6_ : (6 : Int32).toInt = 6 := by decide
    simp only [Int32.lt_iff_toInt_lt, ← Int32.toInt_inj] at hc739 hra_n
    omega
  have hb775 : 0 ≤ (r763).toInt ∧ (r763).toInt ≤ 1 ∧ (7 < (v3).toInt ∨ (r763).toInt = 0) := by
    have rv2 := rng32 v2
    have wv2 := c_mask p0 (7 : Int32) 3 (by decide) (by decide)
    rw [← hv2] at wv2
    have rv3 := rng32 v3
    have wv3 := c_iadd v2 (1 : Int32)
    rw [← hv3] at wv3
    have rv759 := rng32 v759
    have wv759 := c_iushr p1 (7 : Int32) 7 (by decide) (by decide)
    rw [← hv759] at wv759
    have rv760 := rng32 v760
    have wv760 := c_mask v759 (1 : Int32) 1 (by decide) (by decide)
    rw [← hv760] at wv760
    have rv761 := rng32 v761
    have wv761 := c_mask r762 (1 : Int32) 1 (by decide) (by decide)
    rw [← hv761] at wv761
    have rp0 := rng32 p0
    have rp1 := rng32 p1
    have rr762 := rng32 r762
    have rr763 := rng32 r763
    have lI1 : (1 : Int32).toInt = 1 := by decide
    have lI7 : (7 : Int32).toInt = 7 := by decide
    have lI0_ : (0 : Int32).toInt = 0 := by decide
    have lI1_ : (1 : Int32).toInt = 1 := by decide
    have lI7_ : (7 : Int32).toInt = 7 := by decide
    simp only [Int32.lt_iff_toInt_lt, ← Int32.toInt_inj] at hc764 hra_n
    omega
  refine Go.st (S' := T758.setTop (mkF m 80 A567 [(.ref b5)])) (fun t k => XS.aloadN X758.here hx rfl (hb hby at_79) rfl rfl k) ?_
  refine Go.st (S' := T758.setTop (mkF m 82 A567 [(.ref b561), (.ref b5)])) (fun t k => XS.aload X758.here hx rfl (hb hby at_80) rfl rfl k) ?_
  have f776 := ((((((((((((((((((f534).ext E561)).keep K583_)).keep K608_)).keep K633_)).keep K658_)).keep K683_)).keep K708_)).keep K733_)).keep K758_)
  have pre919 : (0 ≤ (v586).toInt ∧ (v586).toInt ≤ 1 ∧ (0 < (v3).toInt ∨ (v586).toInt = 0)) ∧ (0 ≤ (r613).toInt ∧ (r613).toInt ≤ 1 ∧ (1 < (v3).toInt ∨ (r613).toInt = 0)) ∧ (0 ≤ (r638).toInt ∧ (r638).toInt ≤ 1 ∧ (2 < (v3).toInt ∨ (r638).toInt = 0)) ∧ (0 ≤ (r663).toInt ∧ (r663).toInt ≤ 1 ∧ (3 < (v3).toInt ∨ (r663).toInt = 0)) ∧ (0 ≤ (r688).toInt ∧ (r688).toInt ≤ 1 ∧ (4 < (v3).toInt ∨ (r688).toInt = 0)) ∧ (0 ≤ (r713).toInt ∧ (r713).toInt ≤ 1 ∧ (5 < (v3).toInt ∨ (r713).toInt = 0)) ∧ (0 ≤ (r738).toInt ∧ (r738).toInt ≤ 1 ∧ (6 < (v3).toInt ∨ (r738).toInt = 0)) ∧ (0 ≤ (r763).toInt ∧ (r763).toInt ≤ 1 ∧ (7 < (v3).toInt ∨ (r763).toInt = 0)) := by
    exact ⟨hb768, hb769, hb770, hb771, hb772, hb773, hb774, hb775⟩
  obtain ⟨r920, T920, L920, X920, hQ920, st920⟩ := own_callV (W := 0) (a := b5) (C := "com/example/tuneless/tuneless/problem/OneMax") X758 hx hZ rfl hown (y := (⟨"com/example/tuneless/tuneless/problem/OneMax", "evaluate", "([Z)D"⟩ : MethodName)) (z := (⟨"com/example/tuneless/tuneless/problem/OneMax", "evaluate", "([Z)D"⟩ : MethodName)) (hw _ (List.mem_of_getElem? (i := 201) rfl)) (hw _ (List.mem_of_getElem? (i := 202) rfl)) (notFace_of_selects (args := #[]) (mvT hZ (hw _ (List.mem_of_getElem? (i := 204) rfl)))) (hw _ (List.mem_of_getElem? (i := 204) rfl)) (hw _ (List.mem_of_getElem? (i := 203) rfl)) (hw _ (List.mem_of_getElem? (i := 2) rfl)) (hw _ (List.mem_of_getElem? (i := 205) rfl)) (by decide) (f776) (rm43 l Z a0 hw [] b5 b561 k561 v3 v586 r613 r638 r663 r688 r713 r738 r763 T758.heap n0 Z767 (pre919) (hra_n) (hrb_n) (f765)) (by decide) (by decide) (by decide) (by decide) (g := (mkF m 82 A567 [(.ref b561), (.ref b5)])) rfl (by rw [hml]; rfl) (argsL := [(.ref b561)]) (rest := []) rfl (lenOf pd_27 rfl) rfl (by show 2 * 0 + _ ≤ _; exact Nat.le_of_eq rfl) (hb hby at_82)
  obtain ⟨r921, hp922, rfl, N920, e920⟩ := hQ920
  have N920_ := Fr.app N758_ N920
  refine Go.st (S' := T920.setTop (mkF m 85 A567 [(.double (FP.l2d r921))])) st920 ?_
  let A923 : Array Slot := #[.val (.int p0), .val (.int p1), .val (.int v3), .val (.ref b5), .val (.ref b561), .val (.double (FP.l2d r921)), .second, .unset, .unset]
  refine Go.st (S' := T920.setTop (mkF m 87 A923 [])) (fun t k => XS.dstore X920.here hx rfl (hb hby at_85) rfl (l' := A923) rfl k) ?_
  refine Go.st (S' := T920.setTop (mkF m 88 A923 [(.int p1)])) (fun t k => XS.iloadN X920.here hx rfl (hb hby at_87) rfl k) ?_
  refine Go.st (S' := T920.setTop (mkF m 89 A923 [(.int (0 : Int32)), (.int p1)])) (fun t k => XS.iconst X920.here hx rfl (hb hby at_88) k) ?_
  refine Go.st (S' := T920.setTop (mkF m 90 A923 [(.int v3), (.int (0 : Int32)), (.int p1)])) (fun t k => XS.iloadN X920.here hx rfl (hb hby at_89) rfl k) ?_
  obtain ⟨r927, T927, L927, X927, hQ927, st927⟩ := own_callS (W := 0) X920 hx hZ e920 hown (y := (⟨"com/example/tuneless/tuneless/problem/OneMaxEvaluatePinLaw", "bit", "(III)I"⟩ : MethodName)) (hw _ (List.mem_of_getElem? (i := 206) rfl)) (hw _ (List.mem_of_getElem? (i := 207) rfl)) (hw _ (List.mem_of_getElem? (i := 199) rfl)) (hw _ (List.mem_of_getElem? (i := 208) rfl)) (by decide) (rm44 l Z a0 hw [] p1 v3 T758.heap n0 Z767 ) (by decide) (by decide) (by decide) (by decide) (g := (mkF m 90 A923 [(.int v3), (.int (0 : Int32)), (.int p1)])) rfl (by rw [hml]; rfl) (argsL := [(.int p1), (.int (0 : Int32)), (.int v3)]) (rest := []) rfl (lenOf pd_28 rfl) rfl (by show 2 * 0 + _ ≤ _; exact Nat.le_of_eq rfl) (hb hby at_90)
  obtain ⟨r930, v928, v929, hv928, hv929, hc931, rfl, N927, e927⟩ := hQ927
  have N927_ := Fr.app N920_ N927
  refine Go.st (S' := T927.setTop (mkF m 93 A923 [(.int r930)])) st927 ?_
  have hu932 : v586 = r930 := by
    refine Decidable.byContradiction fun hc933 => ?_
    have rv2 := rng32 v2
    have wv2 := c_mask p0 (7 : Int32) 3 (by decide) (by decide)
    rw [← hv2] at wv2
    have rv3 := rng32 v3
    have wv3 := c_iadd v2 (1 : Int32)
    rw [← hv3] at wv3
    have rv584 := rng32 v584
    have wv584 := own_ushr0 p1
    rw [← hv584] at wv584
    have rv585 := rng32 v585
    have wv585 := c_mask v584 (1 : Int32) 1 (by decide) (by decide)
    rw [← hv585] at wv585
    have rv928 := rng32 v928
    have wv928 := own_ushr0 p1
    rw [← hv928] at wv928
    have rv929 := rng32 v929
    have wv929 := c_mask v928 (1 : Int32) 1 (by decide) (by decide)
    rw [← hv929] at wv929
    have rv586 := rng32 v586
    have wv586 := c_mask r587 (1 : Int32) 1 (by decide) (by decide)
    rw [← hv586] at wv586
    have rp0 := rng32 p0
    have rp1 := rng32 p1
    have rr587 := rng32 r587
    have rr930 := rng32 r930
    have lI0 : (0 : Int32).toInt = 0 := by decide
    have lI1 : (1 : Int32).toInt = 1 := by decide
    have lI7 : (7 : Int32).toInt = 7 := by decide
    have lI8 : (8 : Int32).toInt = 8 := by decide
    simp only [Int32.lt_iff_toInt_lt, Int64.lt_iff_toInt_lt, ← Int32.toInt_inj, ← Int64.toInt_inj] at hra_n hrb_n hc589 hc931 hc933
    omega
  obtain rfl : v586 = r930 := hu932
  refine Go.st (S' := T927.setTop (mkF m 94 A923 [(.int p1), (.int v586)])) (fun t k => XS.iloadN X927.here hx rfl (hb hby at_93) rfl k) ?_
  refine Go.st (S' := T927.setTop (mkF m 95 A923 [(.int (1 : Int32)), (.int p1), (.int v586)])) (fun t k => XS.iconst X927.here hx rfl (hb hby at_94) k) ?_
  refine Go.st (S' := T927.setTop (mkF m 96 A923 [(.int v3), (.int (1 : Int32)), (.int p1), (.int v586)])) (fun t k => XS.iloadN X927.here hx rfl (hb hby at_95) rfl k) ?_
  obtain ⟨r937, T937, L937, X937, hQ937, st937⟩ := own_callS (W := 1) X927 hx hZ e927 hown (y := (⟨"com/example/tuneless/tuneless/problem/OneMaxEvaluatePinLaw", "bit", "(III)I"⟩ : MethodName)) (hw _ (List.mem_of_getElem? (i := 206) rfl)) (hw _ (List.mem_of_getElem? (i := 207) rfl)) (hw _ (List.mem_of_getElem? (i := 199) rfl)) (hw _ (List.mem_of_getElem? (i := 208) rfl)) (by decide) (rm45 l Z a0 hw [] p1 v3 T758.heap n0 Z767 ) (by decide) (by decide) (by decide) (by decide) (g := (mkF m 96 A923 [(.int v3), (.int (1 : Int32)), (.int p1), (.int v586)])) rfl (by rw [hml]; rfl) (argsL := [(.int p1), (.int (1 : Int32)), (.int v3)]) (rest := [(.int v586)]) rfl (lenOf pd_28 rfl) rfl (by show 2 * 0 + _ ≤ _; exact Nat.le_of_eq rfl) (hb hby at_96)
  obtain ⟨r940, v938, v939, hv938, hv939, hc941, rfl, N937, e937⟩ := hQ937
  have N937_ := Fr.app N927_ N937
  refine Go.st (S' := T937.setTop (mkF m 99 A923 [(.int r940), (.int v586)])) st937 ?_
  have hu942 : r613 = r940 := by
    refine Decidable.byContradiction fun hc943 => ?_
    have rv2 := rng32 v2
    have wv2 := c_mask p0 (7 : Int32) 3 (by decide) (by decide)
    rw [← hv2] at wv2
    have rv3 := rng32 v3
    have wv3 := c_iadd v2 (1 : Int32)
    rw [← hv3] at wv3
    have rv609 := rng32 v609
    have wv609 := c_iushr p1 (1 : Int32) 1 (by decide) (by decide)
    rw [← hv609] at wv609
    have rv610 := rng32 v610
    have wv610 := c_mask v609 (1 : Int32) 1 (by decide) (by decide)
    rw [← hv610] at wv610
    have rv611 := rng32 v611
    have wv611 := c_mask r612 (1 : Int32) 1 (by decide) (by decide)
    rw [← hv611] at wv611
    have rv938 := rng32 v938
    have wv938 := c_iushr p1 (1 : Int32) 1 (by decide) (by decide)
    rw [← hv938] at wv938
    have rv939 := rng32 v939
    have wv939 := c_mask v938 (1 : Int32) 1 (by decide) (by decide)
    rw [← hv939] at wv939
    have rp0 := rng32 p0
    have rp1 := rng32 p1
    have rr612 := rng32 r612
    have rr613 := rng32 r613
    have rr940 := rng32 r940
    have lI0 : (0 : Int32).toInt = 0 := by decide
    have lI1 : (1 : Int32).toInt = 1 := by decide
    have lI7 : (7 : Int32).toInt = 7 := by decide
    have lI8 : (8 : Int32).toInt = 8 := by decide
    simp only [Int32.lt_iff_toInt_lt, Int64.lt_iff_toInt_lt, ← Int32.toInt_inj, ← Int64.toInt_inj] at hra_n hrb_n hc614 hc941 hc943
    omega
  obtain rfl : r613 = r940 := hu942
  refine Go.op (F := fun z => T937.setTop (mkF m 100 A923 [(.int z)])) (x := (v586 + r613)) (fun t k => XS.iadd X937.here hx rfl (hb hby at_99) rfl k) ?_
  intro v944 hv944
  refine Go.st (S' := T937.setTop (mkF m 101 A923 [(.int p1), (.int v944)])) (fun t k => XS.iloadN X937.here hx rfl (hb hby at_100) rfl k) ?_
  refine Go.st (S' := T937.setTop (mkF m 102 A923 [(.int (2 : Int32)), (.int p1), (.int v944)])) (fun t k => XS.iconst X937.here hx rfl (hb hby at_101) k) ?_
  refine Go.st (S' := T937.setTop (mkF m 103 A923 [(.int v3), (.int (2 : Int32)), (.int p1), (.int v944)])) (fun t k => XS.iloadN X937.here hx rfl (hb hby at_102) rfl k) ?_
  obtain ⟨r948, T948, L948, X948, hQ948, st948⟩ := own_callS (W := 1) X937 hx hZ e937 hown (y := (⟨"com/example/tuneless/tuneless/problem/OneMaxEvaluatePinLaw", "bit", "(III)I"⟩ : MethodName)) (hw _ (List.mem_of_getElem? (i := 206) rfl)) (hw _ (List.mem_of_getElem? (i := 207) rfl)) (hw _ (List.mem_of_getElem? (i := 199) rfl)) (hw _ (List.mem_of_getElem? (i := 208) rfl)) (by decide) (rm46 l Z a0 hw [] p1 v3 T758.heap n0 Z767 ) (by decide) (by decide) (by decide) (by decide) (g := (mkF m 103 A923 [(.int v3), (.int (2 : Int32)), (.int p1), (.int v944)])) rfl (by rw [hml]; rfl) (argsL := [(.int p1), (.int (2 : Int32)), (.int v3)]) (rest := [(.int v944)]) rfl (lenOf pd_28 rfl) rfl (by show 2 * 0 + _ ≤ _; exact Nat.le_of_eq rfl) (hb hby at_103)
  obtain ⟨r951, v949, v950, hv949, hv950, hc952, rfl, N948, e948⟩ := hQ948
  have N948_ := Fr.app N937_ N948
  refine Go.st (S' := T948.setTop (mkF m 106 A923 [(.int r951), (.int v944)])) st948 ?_
  have hu953 : r638 = r951 := by
    refine Decidable.byContradiction fun hc954 => ?_
    have rv2 := rng32 v2
    have wv2 := c_mask p0 (7 : Int32) 3 (by decide) (by decide)
    rw [← hv2] at wv2
    have rv3 := rng32 v3
    have wv3 := c_iadd v2 (1 : Int32)
    rw [← hv3] at wv3
    have rv634 := rng32 v634
    have wv634 := c_iushr p1 (2 : Int32) 2 (by decide) (by decide)
    rw [← hv634] at wv634
    have rv635 := rng32 v635
    have wv635 := c_mask v634 (1 : Int32) 1 (by decide) (by decide)
    rw [← hv635] at wv635
    have rv636 := rng32 v636
    have wv636 := c_mask r637 (1 : Int32) 1 (by decide) (by decide)
    rw [← hv636] at wv636
    have rv949 := rng32 v949
    have wv949 := c_iushr p1 (2 : Int32) 2 (by decide) (by decide)
    rw [← hv949] at wv949
    have rv950 := rng32 v950
    have wv950 := c_mask v949 (1 : Int32) 1 (by decide) (by decide)
    rw [← hv950] at wv950
    have rp0 := rng32 p0
    have rp1 := rng32 p1
    have rr637 := rng32 r637
    have rr638 := rng32 r638
    have rr951 := rng32 r951
    have lI0 : (0 : Int32).toInt = 0 := by decide
    have lI1 : (1 : Int32).toInt = 1 := by decide
    have lI2 : (2 : Int32).toInt = 2 := by decide
    have lI7 : (7 : Int32).toInt = 7 := by decide
    have lI8 : (8 : Int32).toInt = 8 := by decide
    simp only [Int32.lt_iff_toInt_lt, Int64.lt_iff_toInt_lt, ← Int32.toInt_inj, ← Int64.toInt_inj] at hra_n hrb_n hc639 hc952 hc954
    omega
  obtain rfl : r638 = r951 := hu953
  refine Go.op (F := fun z => T948.setTop (mkF m 107 A923 [(.int z)])) (x := (v944 + r638)) (fun t k => XS.iadd X948.here hx rfl (hb hby at_106) rfl k) ?_
  intro v955 hv955
  refine Go.st (S' := T948.setTop (mkF m 108 A923 [(.int p1), (.int v955)])) (fun t k => XS.iloadN X948.here hx rfl (hb hby at_107) rfl k) ?_
  refine Go.st (S' := T948.setTop (mkF m 109 A923 [(.int (3 : Int32)), (.int p1), (.int v955)])) (fun t k => XS.iconst X948.here hx rfl (hb hby at_108) k) ?_
  refine Go.st (S' := T948.setTop (mkF m 110 A923 [(.int v3), (.int (3 : Int32)), (.int p1), (.int v955)])) (fun t k => XS.iloadN X948.here hx rfl (hb hby at_109) rfl k) ?_
  obtain ⟨r959, T959, L959, X959, hQ959, st959⟩ := own_callS (W := 1) X948 hx hZ e948 hown (y := (⟨"com/example/tuneless/tuneless/problem/OneMaxEvaluatePinLaw", "bit", "(III)I"⟩ : MethodName)) (hw _ (List.mem_of_getElem? (i := 206) rfl)) (hw _ (List.mem_of_getElem? (i := 207) rfl)) (hw _ (List.mem_of_getElem? (i := 199) rfl)) (hw _ (List.mem_of_getElem? (i := 208) rfl)) (by decide) (rm47 l Z a0 hw [] p1 v3 T758.heap n0 Z767 ) (by decide) (by decide) (by decide) (by decide) (g := (mkF m 110 A923 [(.int v3), (.int (3 : Int32)), (.int p1), (.int v955)])) rfl (by rw [hml]; rfl) (argsL := [(.int p1), (.int (3 : Int32)), (.int v3)]) (rest := [(.int v955)]) rfl (lenOf pd_28 rfl) rfl (by show 2 * 0 + _ ≤ _; exact Nat.le_of_eq rfl) (hb hby at_110)
  obtain ⟨r962, v960, v961, hv960, hv961, hc963, rfl, N959, e959⟩ := hQ959
  have N959_ := Fr.app N948_ N959
  refine Go.st (S' := T959.setTop (mkF m 113 A923 [(.int r962), (.int v955)])) st959 ?_
  have hu964 : r663 = r962 := by
    refine Decidable.byContradiction fun hc965 => ?_
    have rv2 := rng32 v2
    have wv2 := c_mask p0 (7 : Int32) 3 (by decide) (by decide)
    rw [← hv2] at wv2
    have rv3 := rng32 v3
    have wv3 := c_iadd v2 (1 : Int32)
    rw [← hv3] at wv3
    have rv659 := rng32 v659
    have wv659 := c_iushr p1 (3 : Int32) 3 (by decide) (by decide)
    rw [← hv659] at wv659
    have rv660 := rng32 v660
    have wv660 := c_mask v659 (1 : Int32) 1 (by decide) (by decide)
    rw [← hv660] at wv660
    have rv661 := rng32 v661
    have wv661 := c_mask r662 (1 : Int32) 1 (by decide) (by decide)
    rw [← hv661] at wv661
    have rv960 := rng32 v960
    have wv960 := c_iushr p1 (3 : Int32) 3 (by decide) (by decide)
    rw [← hv960] at wv960
    have rv961 := rng32 v961
    have wv961 := c_mask v960 (1 : Int32) 1 (by decide) (by decide)
    rw [← hv961] at wv961
    have rp0 := rng32 p0
    have rp1 := rng32 p1
    have rr662 := rng32 r662
    have rr663 := rng32 r663
    have rr962 := rng32 r962
    have lI0 : (0 : Int32).toInt = 0 := by decide
    have lI1 : (1 : Int32).toInt = 1 := by decide
    have lI3 : (3 : Int32).toInt = 3 := by decide
    have lI7 : (7 : Int32).toInt = 7 := by decide
    have lI8 : (8 : Int32).toInt = 8 := by decide
    simp only [Int32.lt_iff_toInt_lt, Int64.lt_iff_toInt_lt, ← Int32.toInt_inj, ← Int64.toInt_inj] at hra_n hrb_n hc664 hc963 hc965
    omega
  obtain rfl : r663 = r962 := hu964
  refine Go.op (F := fun z => T959.setTop (mkF m 114 A923 [(.int z)])) (x := (v955 + r663)) (fun t k => XS.iadd X959.here hx rfl (hb hby at_113) rfl k) ?_
  intro v966 hv966
  refine Go.st (S' := T959.setTop (mkF m 115 A923 [(.int p1), (.int v966)])) (fun t k => XS.iloadN X959.here hx rfl (hb hby at_114) rfl k) ?_
  refine Go.st (S' := T959.setTop (mkF m 116 A923 [(.int (4 : Int32)), (.int p1), (.int v966)])) (fun t k => XS.iconst X959.here hx rfl (hb hby at_115) k) ?_
  refine Go.st (S' := T959.setTop (mkF m 117 A923 [(.int v3), (.int (4 : Int32)), (.int p1), (.int v966)])) (fun t k => XS.iloadN X959.here hx rfl (hb hby at_116) rfl k) ?_
  obtain ⟨r970, T970, L970, X970, hQ970, st970⟩ := own_callS (W := 1) X959 hx hZ e959 hown (y := (⟨"com/example/tuneless/tuneless/problem/OneMaxEvaluatePinLaw", "bit", "(III)I"⟩ : MethodName)) (hw _ (List.mem_of_getElem? (i := 206) rfl)) (hw _ (List.mem_of_getElem? (i := 207) rfl)) (hw _ (List.mem_of_getElem? (i := 199) rfl)) (hw _ (List.mem_of_getElem? (i := 208) rfl)) (by decide) (rm48 l Z a0 hw [] p1 v3 T758.heap n0 Z767 ) (by decide) (by decide) (by decide) (by decide) (g := (mkF m 117 A923 [(.int v3), (.int (4 : Int32)), (.int p1), (.int v966)])) rfl (by rw [hml]; rfl) (argsL := [(.int p1), (.int (4 : Int32)), (.int v3)]) (rest := [(.int v966)]) rfl (lenOf pd_28 rfl) rfl (by show 2 * 0 + _ ≤ _; exact Nat.le_of_eq rfl) (hb hby at_117)
  obtain ⟨r973, v971, v972, hv971, hv972, hc974, rfl, N970, e970⟩ := hQ970
  have N970_ := Fr.app N959_ N970
  refine Go.st (S' := T970.setTop (mkF m 120 A923 [(.int r973), (.int v966)])) st970 ?_
  have hu975 : r688 = r973 := by
    refine Decidable.byContradiction fun hc976 => ?_
    have rv2 := rng32 v2
    have wv2 := c_mask p0 (7 : Int32) 3 (by decide) (by decide)
    rw [← hv2] at wv2
    have rv3 := rng32 v3
    have wv3 := c_iadd v2 (1 : Int32)
    rw [← hv3] at wv3
    have rv684 := rng32 v684
    have wv684 := c_iushr p1 (4 : Int32) 4 (by decide) (by decide)
    rw [← hv684] at wv684
    have rv685 := rng32 v685
    have wv685 := c_mask v684 (1 : Int32) 1 (by decide) (by decide)
    rw [← hv685] at wv685
    have rv686 := rng32 v686
    have wv686 := c_mask r687 (1 : Int32) 1 (by decide) (by decide)
    rw [← hv686] at wv686
    have rv971 := rng32 v971
    have wv971 := c_iushr p1 (4 : Int32) 4 (by decide) (by decide)
    rw [← hv971] at wv971
    have rv972 := rng32 v972
    have wv972 := c_mask v971 (1 : Int32) 1 (by decide) (by decide)
    rw [← hv972] at wv972
    have rp0 := rng32 p0
    have rp1 := rng32 p1
    have rr687 := rng32 r687
    have rr688 := rng32 r688
    have rr973 := rng32 r973
    have lI0 : (0 : Int32).toInt = 0 := by decide
    have lI1 : (1 : Int32).toInt = 1 := by decide
    have lI4 : (4 : Int32).toInt = 4 := by decide
    have lI7 : (7 : Int32).toInt = 7 := by decide
    have lI8 : (8 : Int32).toInt = 8 := by decide
    simp only [Int32.lt_iff_toInt_lt, Int64.lt_iff_toInt_lt, ← Int32.toInt_inj, ← Int64.toInt_inj] at hra_n hrb_n hc689 hc974 hc976
    omega
  obtain rfl : r688 = r973 := hu975
  refine Go.op (F := fun z => T970.setTop (mkF m 121 A923 [(.int z)])) (x := (v966 + r688)) (fun t k => XS.iadd X970.here hx rfl (hb hby at_120) rfl k) ?_
  intro v977 hv977
  refine Go.st (S' := T970.setTop (mkF m 122 A923 [(.int p1), (.int v977)])) (fun t k => XS.iloadN X970.here hx rfl (hb hby at_121) rfl k) ?_
  refine Go.st (S' := T970.setTop (mkF m 123 A923 [(.int (5 : Int32)), (.int p1), (.int v977)])) (fun t k => XS.iconst X970.here hx rfl (hb hby at_122) k) ?_
  refine Go.st (S' := T970.setTop (mkF m 124 A923 [(.int v3), (.int (5 : Int32)), (.int p1), (.int v977)])) (fun t k => XS.iloadN X970.here hx rfl (hb hby at_123) rfl k) ?_
  obtain ⟨r981, T981, L981, X981, hQ981, st981⟩ := own_callS (W := 1) X970 hx hZ e970 hown (y := (⟨"com/example/tuneless/tuneless/problem/OneMaxEvaluatePinLaw", "bit", "(III)I"⟩ : MethodName)) (hw _ (List.mem_of_getElem? (i := 206) rfl)) (hw _ (List.mem_of_getElem? (i := 207) rfl)) (hw _ (List.mem_of_getElem? (i := 199) rfl)) (hw _ (List.mem_of_getElem? (i := 208) rfl)) (by decide) (rm49 l Z a0 hw [] p1 v3 T758.heap n0 Z767 ) (by decide) (by decide) (by decide) (by decide) (g := (mkF m 124 A923 [(.int v3), (.int (5 : Int32)), (.int p1), (.int v977)])) rfl (by rw [hml]; rfl) (argsL := [(.int p1), (.int (5 : Int32)), (.int v3)]) (rest := [(.int v977)]) rfl (lenOf pd_28 rfl) rfl (by show 2 * 0 + _ ≤ _; exact Nat.le_of_eq rfl) (hb hby at_124)
  obtain ⟨r984, v982, v983, hv982, hv983, hc985, rfl, N981, e981⟩ := hQ981
  have N981_ := Fr.app N970_ N981
  refine Go.st (S' := T981.setTop (mkF m 127 A923 [(.int r984), (.int v977)])) st981 ?_
  have hu986 : r713 = r984 := by
    refine Decidable.byContradiction fun hc987 => ?_
    have rv2 := rng32 v2
    have wv2 := c_mask p0 (7 : Int32) 3 (by decide) (by decide)
    rw [← hv2] at wv2
    have rv3 := rng32 v3
    have wv3 := c_iadd v2 (1 : Int32)
    rw [← hv3] at wv3
    have rv709 := rng32 v709
    have wv709 := c_iushr p1 (5 : Int32) 5 (by decide) (by decide)
    rw [← hv709] at wv709
    have rv710 := rng32 v710
    have wv710 := c_mask v709 (1 : Int32) 1 (by decide) (by decide)
    rw [← hv710] at wv710
    have rv711 := rng32 v711
    have wv711 := c_mask r712 (1 : Int32) 1 (by decide) (by decide)
    rw [← hv711] at wv711
    have rv982 := rng32 v982
    have wv982 := c_iushr p1 (5 : Int32) 5 (by decide) (by decide)
    rw [← hv982] at wv982
    have rv983 := rng32 v983
    have wv983 := c_mask v982 (1 : Int32) 1 (by decide) (by decide)
    rw [← hv983] at wv983
    have rp0 := rng32 p0
    have rp1 := rng32 p1
    have rr712 := rng32 r712
    have rr713 := rng32 r713
    have rr984 := rng32 r984
    have lI0 : (0 : Int32).toInt = 0 := by decide
    have lI1 : (1 : Int32).toInt = 1 := by decide
    have lI5 : (5 : Int32).toInt = 5 := by decide
    have lI7 : (7 : Int32).toInt = 7 := by decide
    have lI8 : (8 : Int32).toInt = 8 := by decide
    simp only [Int32.lt_iff_toInt_lt, Int64.lt_iff_toInt_lt, ← Int32.toInt_inj, ← Int64.toInt_inj] at hra_n hrb_n hc714 hc985 hc987
    omega
  obtain rfl : r713 = r984 := hu986
  refine Go.op (F := fun z => T981.setTop (mkF m 128 A923 [(.int z)])) (x := (v977 + r713)) (fun t k => XS.iadd X981.here hx rfl (hb hby at_127) rfl k) ?_
  intro v988 hv988
  refine Go.st (S' := T981.setTop (mkF m 129 A923 [(.int p1), (.int v988)])) (fun t k => XS.iloadN X981.here hx rfl (hb hby at_128) rfl k) ?_
  refine Go.st (S' := T981.setTop (mkF m 131 A923 [(.int (6 : Int32)), (.int p1), (.int v988)])) (fun t k => XS.bipush X981.here hx rfl (hb hby at_129) k) ?_
  refine Go.st (S' := T981.setTop (mkF m 132 A923 [(.int v3), (.int (6 : Int32)), (.int p1), (.int v988)])) (fun t k => XS.iloadN X981.here hx rfl (hb hby at_131) rfl k) ?_
  obtain ⟨r992, T992, L992, X992, hQ992, st992⟩ := own_callS (W := 1) X981 hx hZ e981 hown (y := (⟨"com/example/tuneless/tuneless/problem/OneMaxEvaluatePinLaw", "bit", "(III)I"⟩ : MethodName)) (hw _ (List.mem_of_getElem? (i := 206) rfl)) (hw _ (List.mem_of_getElem? (i := 207) rfl)) (hw _ (List.mem_of_getElem? (i := 199) rfl)) (hw _ (List.mem_of_getElem? (i := 208) rfl)) (by decide) (rm50 l Z a0 hw [] p1 v3 T758.heap n0 Z767 ) (by decide) (by decide) (by decide) (by decide) (g := (mkF m 132 A923 [(.int v3), (.int (6 : Int32)), (.int p1), (.int v988)])) rfl (by rw [hml]; rfl) (argsL := [(.int p1), (.int (6 : Int32)), (.int v3)]) (rest := [(.int v988)]) rfl (lenOf pd_28 rfl) rfl (by show 2 * 0 + _ ≤ _; exact Nat.le_of_eq rfl) (hb hby at_132)
  obtain ⟨r995, v993, v994, hv993, hv994, hc996, rfl, N992, e992⟩ := hQ992
  have N992_ := Fr.app N981_ N992
  refine Go.st (S' := T992.setTop (mkF m 135 A923 [(.int r995), (.int v988)])) st992 ?_
  have hu997 : r738 = r995 := by
    refine Decidable.byContradiction fun hc998 => ?_
    have rv2 := rng32 v2
    have wv2 := c_mask p0 (7 : Int32) 3 (by decide) (by decide)
    rw [← hv2] at wv2
    have rv3 := rng32 v3
    have wv3 := c_iadd v2 (1 : Int32)
    rw [← hv3] at wv3
    have rv734 := rng32 v734
    have wv734 := c_iushr p1 (6 : Int32) 6 (by decide) (by decide)
    rw [← hv734] at wv734
    have rv735 := rng32 v735
    have wv735 := c_mask v734 (1 : Int32) 1 (by decide) (by decide)
    rw [← hv735] at wv735
    have rv736 := rng32 v736
    have wv736 := c_mask r737 (1 : Int32) 1 (by decide) (by decide)
    rw [← hv736] at wv736
    have rv993 := rng32 v993
    have wv993 := c_iushr p1 (6 : Int32) 6 (by decide) (by decide)
    rw [← hv993] at wv993
    have rv994 := rng32 v994
    have wv994 := c_mask v993 (1 : Int32) 1 (by decide) (by decide)
    rw [← hv994] at wv994
    have rp0 := rng32 p0
    have rp1 := rng32 p1
    have rr737 := rng32 r737
    have rr738 := rng32 r738
    have rr995 := rng32 r995
    have lI0 : (0 : Int32).toInt = 0 := by decide
    have lI1 : (1 : Int32).toInt = 1 := by decide
    have lI6 : (6 : Int32).toInt = 6 := by decide
    have lI7 : (7 : Int32).toInt = 7 := by decide
    have lI8 : (8 : Int32).toInt = 8 := by decide
    simp only [Int32.lt_iff_toInt_lt, Int64.lt_iff_toInt_lt, ← Int32.toInt_inj, ← Int64.toInt_inj] at hra_n hrb_n hc739 hc996 hc998
    omega
  obtain rfl : r738 = r995 := hu997
  refine Go.op (F := fun z => T992.setTop (mkF m 136 A923 [(.int z)])) (x := (v988 + r738)) (fun t k => XS.iadd X992.here hx rfl (hb hby at_135) rfl k) ?_
  intro v999 hv999
  refine Go.st (S' := T992.setTop (mkF m 137 A923 [(.int p1), (.int v999)])) (fun t k => XS.iloadN X992.here hx rfl (hb hby at_136) rfl k) ?_
  refine Go.st (S' := T992.setTop (mkF m 139 A923 [(.int (7 : Int32)), (.int p1), (.int v999)])) (fun t k => XS.bipush X992.here hx rfl (hb hby at_137) k) ?_
  refine Go.st (S' := T992.setTop (mkF m 140 A923 [(.int v3), (.int (7 : Int32)), (.int p1), (.int v999)])) (fun t k => XS.iloadN X992.here hx rfl (hb hby at_139) rfl k) ?_
  obtain ⟨r1003, T1003, L1003, X1003, hQ1003, st1003⟩ := own_callS (W := 1) X992 hx hZ e992 hown (y := (⟨"com/example/tuneless/tuneless/problem/OneMaxEvaluatePinLaw", "bit", "(III)I"⟩ : MethodName)) (hw _ (List.mem_of_getElem? (i := 206) rfl)) (hw _ (List.mem_of_getElem? (i := 207) rfl)) (hw _ (List.mem_of_getElem? (i := 199) rfl)) (hw _ (List.mem_of_getElem? (i := 208) rfl)) (by decide) (rm51 l Z a0 hw [] p1 v3 T758.heap n0 Z767 ) (by decide) (by decide) (by decide) (by decide) (g := (mkF m 140 A923 [(.int v3), (.int (7 : Int32)), (.int p1), (.int v999)])) rfl (by rw [hml]; rfl) (argsL := [(.int p1), (.int (7 : Int32)), (.int v3)]) (rest := [(.int v999)]) rfl (lenOf pd_28 rfl) rfl (by show 2 * 0 + _ ≤ _; exact Nat.le_of_eq rfl) (hb hby at_140)
  obtain ⟨r1006, v1004, v1005, hv1004, hv1005, hc1007, rfl, N1003, e1003⟩ := hQ1003
  have N1003_ := Fr.app N992_ N1003
  refine Go.st (S' := T1003.setTop (mkF m 143 A923 [(.int r1006), (.int v999)])) st1003 ?_
  have hu1008 : r763 = r1006 := by
    refine Decidable.byContradiction fun hc1009 => ?_
    have rv2 := rng32 v2
    have wv2 := c_mask p0 (7 : Int32) 3 (by decide) (by decide)
    rw [← hv2] at wv2
    have rv3 := rng32 v3
    have wv3 := c_iadd v2 (1 : Int32)
    rw [← hv3] at wv3
    have rv759 := rng32 v759
    have wv759 := c_iushr p1 (7 : Int32) 7 (by decide) (by decide)
    rw [← hv759] at wv759
    have rv760 := rng32 v760
    have wv760 := c_mask v759 (1 : Int32) 1 (by decide) (by decide)
    rw [← hv760] at wv760
    have rv761 := rng32 v761
    have wv761 := c_mask r762 (1 : Int32) 1 (by decide) (by decide)
    rw [← hv761] at wv761
    have rv1004 := rng32 v1004
    have wv1004 := c_iushr p1 (7 : Int32) 7 (by decide) (by decide)
    rw [← hv1004] at wv1004
    have rv1005 := rng32 v1005
    have wv1005 := c_mask v1004 (1 : Int32) 1 (by decide) (by decide)
    rw [← hv1005] at wv1005
    have rp0 := rng32 p0
    have rp1 := rng32 p1
    have rr1006 := rng32 r1006
    have rr762 := rng32 r762
    have rr763 := rng32 r763
    have lI0 : (0 : Int32).toInt = 0 := by decide
    have lI1 : (1 : Int32).toInt = 1 := by decide
    have lI7 : (7 : Int32).toInt = 7 := by decide
    have lI8 : (8 : Int32).toInt = 8 := by decide
    simp only [Int32.lt_iff_toInt_lt, Int64.lt_iff_toInt_lt, ← Int32.toInt_inj, ← Int64.toInt_inj] at hra_n hrb_n hc764 hc1007 hc1009
    omega
  obtain rfl : r763 = r1006 := hu1008
  refine Go.op (F := fun z => T1003.setTop (mkF m 144 A923 [(.int z)])) (x := (v999 + r763)) (fun t k => XS.iadd X1003.here hx rfl (hb hby at_143) rfl k) ?_
  intro v1010 hv1010
  let A1011 : Array Slot := #[.val (.int p0), .val (.int p1), .val (.int v3), .val (.ref b5), .val (.ref b561), .val (.double (FP.l2d r921)), .second, .val (.int v1010), .unset]
  refine Go.st (S' := T1003.setTop (mkF m 146 A1011 [])) (fun t k => XS.istore X1003.here hx rfl (hb hby at_144) rfl (l' := A1011) rfl k) ?_
  refine Go.st (S' := T1003.setTop (mkF m 148 A1011 [(.ref b561)])) (fun t k => XS.aload X1003.here hx rfl (hb hby at_146) rfl rfl k) ?_
  refine Go.st (S' := T1003.setTop (mkF m 149 A1011 [(.int (0 : Int32)), (.ref b561)])) (fun t k => XS.iconst X1003.here hx rfl (hb hby at_148) k) ?_
  refine Go.st (S' := T1003.setTop (mkF m 150 A1011 [(.int p1), (.int (0 : Int32)), (.ref b561)])) (fun t k => XS.iloadN X1003.here hx rfl (hb hby at_149) rfl k) ?_
  obtain ⟨r1025, T1025, L1025, X1025, hQ1025, st1025⟩ := own_callS (W := 0) X1003 hx hZ e1003 hown (y := (⟨"com/example/tuneless/tuneless/problem/OneMaxEvaluatePinLaw", "same", "([ZII)Z"⟩ : MethodName)) (hw _ (List.mem_of_getElem? (i := 209) rfl)) (hw _ (List.mem_of_getElem? (i := 210) rfl)) (hw _ (List.mem_of_getElem? (i := 199) rfl)) (hw _ (List.mem_of_getElem? (i := 211) rfl)) (by decide) (rm52 l Z a0 hw [] b561 p1 k561 v3 v586 r613 r638 r663 r688 r713 r738 r763 T758.heap n0 Z767 (hra_n) (hrb_n) (f765)) (by decide) (by decide) (by decide) (by decide) (g := (mkF m 150 A1011 [(.int p1), (.int (0 : Int32)), (.ref b561)])) rfl (by rw [hml]; rfl) (argsL := [(.ref b561), (.int (0 : Int32)), (.int p1)]) (rest := []) rfl (lenOf pd_29 rfl) rfl (by show 2 * 0 + _ ≤ _; exact Nat.le_of_eq rfl) (hb hby at_150)
  obtain ⟨r1028, r1029, v1026, v1027, hv1026, hv1027, hc1030, rfl, N1025, e1025⟩ := hQ1025
  have N1025_ := Fr.app N1003_ N1025
  refine Go.st (S' := T1025.setTop (mkF m 153 A1011 [(.int r1029)])) st1025 ?_
  by_cases hc1172 : (r1029 = (0 : Int32))
  · exfalso
    have rv2 := rng32 v2
    have wv2 := c_mask p0 (7 : Int32) 3 (by decide) (by decide)
    rw [← hv2] at wv2
    have rv3 := rng32 v3
    have wv3 := c_iadd v2 (1 : Int32)
    rw [← hv3] at wv3
    have rv584 := rng32 v584
    have wv584 := own_ushr0 p1
    rw [← hv584] at wv584
    have rv585 := rng32 v585
    have wv585 := c_mask v584 (1 : Int32) 1 (by decide) (by decide)
    rw [← hv585] at wv585
    have rv586 := rng32 v586
    have wv586 := c_mask r587 (1 : Int32) 1 (by decide) (by decide)
    rw [← hv586] at wv586
    have rv928 := rng32 v928
    have wv928 := own_ushr0 p1
    rw [← hv928] at wv928
    have rv929 := rng32 v929
    have wv929 := c_mask v928 (1 : Int32) 1 (by decide) (by decide)
    rw [← hv929] at wv929
    have rv1026 := rng32 v1026
    have wv1026 := own_ushr0 p1
    rw [← hv1026] at wv1026
    have rv1027 := rng32 v1027
    have wv1027 := c_mask v1026 (1 : Int32) 1 (by decide) (by decide)
    rw [← hv1027] at wv1027
    have rp0 := rng32 p0
    have rp1 := rng32 p1
    have rr1028 := rng32 r1028
    have rr1029 := rng32 r1029
    have rr587 := rng32 r587
    have lI0 : (0 : Int32).toInt = 0 := by decide
    have lI1 : (1 : Int32).toInt = 1 := by decide
    have lI7 : (7 : Int32).toInt = 7 := by decide
    have lI8 : (8 : Int32).toInt = 8 := by decide
    simp only [Int32.lt_iff_toInt_lt, Int64.lt_iff_toInt_lt, ← Int32.toInt_inj, ← Int64.toInt_inj] at hra_n hrb_n hc589 hc931 hc1030 hc1172
    omega
  · refine Go.st (S' := T1025.setTop (mkF m 156 A1011 [])) (fun t k => XS.ifNo X1025.here hx rfl (hb hby at_153) rfl ((if0 _ _).trans (feq hc1172).1) k) ?_
    refine Go.st (S' := T1025.setTop (mkF m 158 A1011 [(.ref b561)])) (fun t k => XS.aload X1025.here hx rfl (hb hby at_156) rfl rfl k) ?_
    refine Go.st (S' := T1025.setTop (mkF m 159 A1011 [(.int (1 : Int32)), (.ref b561)])) (fun t k => XS.iconst X1025.here hx rfl (hb hby at_158) k) ?_
    refine Go.st (S' := T1025.setTop (mkF m 160 A1011 [(.int p1), (.int (1 : Int32)), (.ref b561)])) (fun t k => XS.iloadN X1025.here hx rfl (hb hby at_159) rfl k) ?_
    obtain ⟨r1173, T1173, L1173, X1173, hQ1173, st1173⟩ := own_callS (W := 0) X1025 hx hZ e1025 hown (y := (⟨"com/example/tuneless/tuneless/problem/OneMaxEvaluatePinLaw", "same", "([ZII)Z"⟩ : MethodName)) (hw _ (List.mem_of_getElem? (i := 209) rfl)) (hw _ (List.mem_of_getElem? (i := 210) rfl)) (hw _ (List.mem_of_getElem? (i := 199) rfl)) (hw _ (List.mem_of_getElem? (i := 211) rfl)) (by decide) (rm53 l Z a0 hw [] b561 p1 k561 v3 v586 r613 r638 r663 r688 r713 r738 r763 T758.heap n0 Z767 (hra_n) (hrb_n) (f765)) (by decide) (by decide) (by decide) (by decide) (g := (mkF m 160 A1011 [(.int p1), (.int (1 : Int32)), (.ref b561)])) rfl (by rw [hml]; rfl) (argsL := [(.ref b561), (.int (1 : Int32)), (.int p1)]) (rest := []) rfl (lenOf pd_29 rfl) rfl (by show 2 * 0 + _ ≤ _; exact Nat.le_of_eq rfl) (hb hby at_160)
    obtain ⟨r1176, r1177, v1174, v1175, hv1174, hv1175, hc1178, rfl, N1173, e1173⟩ := hQ1173
    have N1173_ := Fr.app N1025_ N1173
    refine Go.st (S' := T1173.setTop (mkF m 163 A1011 [(.int r1177)])) st1173 ?_
    by_cases hc1222 : (r1177 = (0 : Int32))
    · exfalso
      have rv2 := rng32 v2
      have wv2 := c_mask p0 (7 : Int32) 3 (by decide) (by decide)
      rw [← hv2] at wv2
      have rv3 := rng32 v3
      have wv3 := c_iadd v2 (1 : Int32)
      rw [← hv3] at wv3
      have rv609 := rng32 v609
      have wv609 := c_iushr p1 (1 : Int32) 1 (by decide) (by decide)
      rw [← hv609] at wv609
      have rv610 := rng32 v610
      have wv610 := c_mask v609 (1 : Int32) 1 (by decide) (by decide)
      rw [← hv610] at wv610
      have rv611 := rng32 v611
      have wv611 := c_mask r612 (1 : Int32) 1 (by decide) (by decide)
      rw [← hv611] at wv611
      have rv938 := rng32 v938
      have wv938 := c_iushr p1 (1 : Int32) 1 (by decide) (by decide)
      rw [← hv938] at wv938
      have rv939 := rng32 v939
      have wv939 := c_mask v938 (1 : Int32) 1 (by decide) (by decide)
      rw [← hv939] at wv939
      have rv1174 := rng32 v1174
      have wv1174 := c_iushr p1 (1 : Int32) 1 (by decide) (by decide)
      rw [← hv1174] at wv1174
      have rv1175 := rng32 v1175
      have wv1175 := c_mask v1174 (1 : Int32) 1 (by decide) (by decide)
      rw [← hv1175] at wv1175
      have rp0 := rng32 p0
      have rp1 := rng32 p1
      have rr1176 := rng32 r1176
      have rr1177 := rng32 r1177
      have rr612 := rng32 r612
      have rr613 := rng32 r613
      have lI0 : (0 : Int32).toInt = 0 := by decide
      have lI1 : (1 : Int32).toInt = 1 := by decide
      have lI7 : (7 : Int32).toInt = 7 := by decide
      have lI8 : (8 : Int32).toInt = 8 := by decide
      simp only [Int32.lt_iff_toInt_lt, Int64.lt_iff_toInt_lt, ← Int32.toInt_inj, ← Int64.toInt_inj] at hra_n hrb_n hc614 hc941 hc1178 hc1222
      omega
    · refine Go.st (S' := T1173.setTop (mkF m 166 A1011 [])) (fun t k => XS.ifNo X1173.here hx rfl (hb hby at_163) rfl ((if0 _ _).trans (feq hc1222).1) k) ?_
      refine Go.st (S' := T1173.setTop (mkF m 168 A1011 [(.ref b561)])) (fun t k => XS.aload X1173.here hx rfl (hb hby at_166) rfl rfl k) ?_
      refine Go.st (S' := T1173.setTop (mkF m 169 A1011 [(.int (2 : Int32)), (.ref b561)])) (fun t k => XS.iconst X1173.here hx rfl (hb hby at_168) k) ?_
      refine Go.st (S' := T1173.setTop (mkF m 170 A1011 [(.int p1), (.int (2 : Int32)), (.ref b561)])) (fun t k => XS.iloadN X1173.here hx rfl (hb hby at_169) rfl k) ?_
      obtain ⟨r1223, T1223, L1223, X1223, hQ1223, st1223⟩ := own_callS (W := 0) X1173 hx hZ e1173 hown (y := (⟨"com/example/tuneless/tuneless/problem/OneMaxEvaluatePinLaw", "same", "([ZII)Z"⟩ : MethodName)) (hw _ (List.mem_of_getElem? (i := 209) rfl)) (hw _ (List.mem_of_getElem? (i := 210) rfl)) (hw _ (List.mem_of_getElem? (i := 199) rfl)) (hw _ (List.mem_of_getElem? (i := 211) rfl)) (by decide) (rm54 l Z a0 hw [] b561 p1 k561 v3 v586 r613 r638 r663 r688 r713 r738 r763 T758.heap n0 Z767 (hra_n) (hrb_n) (f765)) (by decide) (by decide) (by decide) (by decide) (g := (mkF m 170 A1011 [(.int p1), (.int (2 : Int32)), (.ref b561)])) rfl (by rw [hml]; rfl) (argsL := [(.ref b561), (.int (2 : Int32)), (.int p1)]) (rest := []) rfl (lenOf pd_29 rfl) rfl (by show 2 * 0 + _ ≤ _; exact Nat.le_of_eq rfl) (hb hby at_170)
      obtain ⟨r1226, r1227, v1224, v1225, hv1224, hv1225, hc1228, rfl, N1223, e1223⟩ := hQ1223
      have N1223_ := Fr.app N1173_ N1223
      refine Go.st (S' := T1223.setTop (mkF m 173 A1011 [(.int r1227)])) st1223 ?_
      by_cases hc1265 : (r1227 = (0 : Int32))
      · exfalso
        have rv2 := rng32 v2
        have wv2 := c_mask p0 (7 : Int32) 3 (by decide) (by decide)
        rw [← hv2] at wv2
        have rv3 := rng32 v3
        have wv3 := c_iadd v2 (1 : Int32)
        rw [← hv3] at wv3
        have rv634 := rng32 v634
        have wv634 := c_iushr p1 (2 : Int32) 2 (by decide) (by decide)
        rw [← hv634] at wv634
        have rv635 := rng32 v635
        have wv635 := c_mask v634 (1 : Int32) 1 (by decide) (by decide)
        rw [← hv635] at wv635
        have rv636 := rng32 v636
        have wv636 := c_mask r637 (1 : Int32) 1 (by decide) (by decide)
        rw [← hv636] at wv636
        have rv949 := rng32 v949
        have wv949 := c_iushr p1 (2 : Int32) 2 (by decide) (by decide)
        rw [← hv949] at wv949
        have rv950 := rng32 v950
        have wv950 := c_mask v949 (1 : Int32) 1 (by decide) (by decide)
        rw [← hv950] at wv950
        have rv1224 := rng32 v1224
        have wv1224 := c_iushr p1 (2 : Int32) 2 (by decide) (by decide)
        rw [← hv1224] at wv1224
        have rv1225 := rng32 v1225
        have wv1225 := c_mask v1224 (1 : Int32) 1 (by decide) (by decide)
        rw [← hv1225] at wv1225
        have rp0 := rng32 p0
        have rp1 := rng32 p1
        have rr1226 := rng32 r1226
        have rr1227 := rng32 r1227
        have rr637 := rng32 r637
        have rr638 := rng32 r638
        have lI0 : (0 : Int32).toInt = 0 := by decide
        have lI1 : (1 : Int32).toInt = 1 := by decide
        have lI2 : (2 : Int32).toInt = 2 := by decide
        have lI7 : (7 : Int32).toInt = 7 := by decide
        have lI8 : (8 : Int32).toInt = 8 := by decide
        simp only [Int32.lt_iff_toInt_lt, Int64.lt_iff_toInt_lt, ← Int32.toInt_inj, ← Int64.toInt_inj] at hra_n hrb_n hc639 hc952 hc1228 hc1265
        omega
      · refine Go.st (S' := T1223.setTop (mkF m 176 A1011 [])) (fun t k => XS.ifNo X1223.here hx rfl (hb hby at_173) rfl ((if0 _ _).trans (feq hc1265).1) k) ?_
        refine Go.st (S' := T1223.setTop (mkF m 178 A1011 [(.ref b561)])) (fun t k => XS.aload X1223.here hx rfl (hb hby at_176) rfl rfl k) ?_
        refine Go.st (S' := T1223.setTop (mkF m 179 A1011 [(.int (3 : Int32)), (.ref b561)])) (fun t k => XS.iconst X1223.here hx rfl (hb hby at_178) k) ?_
        refine Go.st (S' := T1223.setTop (mkF m 180 A1011 [(.int p1), (.int (3 : Int32)), (.ref b561)])) (fun t k => XS.iloadN X1223.here hx rfl (hb hby at_179) rfl k) ?_
        obtain ⟨r1266, T1266, L1266, X1266, hQ1266, st1266⟩ := own_callS (W := 0) X1223 hx hZ e1223 hown (y := (⟨"com/example/tuneless/tuneless/problem/OneMaxEvaluatePinLaw", "same", "([ZII)Z"⟩ : MethodName)) (hw _ (List.mem_of_getElem? (i := 209) rfl)) (hw _ (List.mem_of_getElem? (i := 210) rfl)) (hw _ (List.mem_of_getElem? (i := 199) rfl)) (hw _ (List.mem_of_getElem? (i := 211) rfl)) (by decide) (rm55 l Z a0 hw [] b561 p1 k561 v3 v586 r613 r638 r663 r688 r713 r738 r763 T758.heap n0 Z767 (hra_n) (hrb_n) (f765)) (by decide) (by decide) (by decide) (by decide) (g := (mkF m 180 A1011 [(.int p1), (.int (3 : Int32)), (.ref b561)])) rfl (by rw [hml]; rfl) (argsL := [(.ref b561), (.int (3 : Int32)), (.int p1)]) (rest := []) rfl (lenOf pd_29 rfl) rfl (by show 2 * 0 + _ ≤ _; exact Nat.le_of_eq rfl) (hb hby at_180)
        obtain ⟨r1269, r1270, v1267, v1268, hv1267, hv1268, hc1271, rfl, N1266, e1266⟩ := hQ1266
        have N1266_ := Fr.app N1223_ N1266
        refine Go.st (S' := T1266.setTop (mkF m 183 A1011 [(.int r1270)])) st1266 ?_
        by_cases hc1301 : (r1270 = (0 : Int32))
        · exfalso
          have rv2 := rng32 v2
          have wv2 := c_mask p0 (7 : Int32) 3 (by decide) (by decide)
          rw [← hv2] at wv2
          have rv3 := rng32 v3
          have wv3 := c_iadd v2 (1 : Int32)
          rw [← hv3] at wv3
          have rv659 := rng32 v659
          have wv659 := c_iushr p1 (3 : Int32) 3 (by decide) (by decide)
          rw [← hv659] at wv659
          have rv660 := rng32 v660
          have wv660 := c_mask v659 (1 : Int32) 1 (by decide) (by decide)
          rw [← hv660] at wv660
          have rv661 := rng32 v661
          have wv661 := c_mask r662 (1 : Int32) 1 (by decide) (by decide)
          rw [← hv661] at wv661
          have rv960 := rng32 v960
          have wv960 := c_iushr p1 (3 : Int32) 3 (by decide) (by decide)
          rw [← hv960] at wv960
          have rv961 := rng32 v961
          have wv961 := c_mask v960 (1 : Int32) 1 (by decide) (by decide)
          rw [← hv961] at wv961
          have rv1267 := rng32 v1267
          have wv1267 := c_iushr p1 (3 : Int32) 3 (by decide) (by decide)
          rw [← hv1267] at wv1267
          have rv1268 := rng32 v1268
          have wv1268 := c_mask v1267 (1 : Int32) 1 (by decide) (by decide)
          rw [← hv1268] at wv1268
          have rp0 := rng32 p0
          have rp1 := rng32 p1
          have rr1269 := rng32 r1269
          have rr1270 := rng32 r1270
          have rr662 := rng32 r662
          have rr663 := rng32 r663
          have lI0 : (0 : Int32).toInt = 0 := by decide
          have lI1 : (1 : Int32).toInt = 1 := by decide
          have lI3 : (3 : Int32).toInt = 3 := by decide
          have lI7 : (7 : Int32).toInt = 7 := by decide
          have lI8 : (8 : Int32).toInt = 8 := by decide
          simp only [Int32.lt_iff_toInt_lt, Int64.lt_iff_toInt_lt, ← Int32.toInt_inj, ← Int64.toInt_inj] at hra_n hrb_n hc664 hc963 hc1271 hc1301
          omega
        · refine Go.st (S' := T1266.setTop (mkF m 186 A1011 [])) (fun t k => XS.ifNo X1266.here hx rfl (hb hby at_183) rfl ((if0 _ _).trans (feq hc1301).1) k) ?_
          refine Go.st (S' := T1266.setTop (mkF m 188 A1011 [(.ref b561)])) (fun t k => XS.aload X1266.here hx rfl (hb hby at_186) rfl rfl k) ?_
          refine Go.st (S' := T1266.setTop (mkF m 189 A1011 [(.int (4 : Int32)), (.ref b561)])) (fun t k => XS.iconst X1266.here hx rfl (hb hby at_188) k) ?_
          refine Go.st (S' := T1266.setTop (mkF m 190 A1011 [(.int p1), (.int (4 : Int32)), (.ref b561)])) (fun t k => XS.iloadN X1266.here hx rfl (hb hby at_189) rfl k) ?_
          obtain ⟨r1302, T1302, L1302, X1302, hQ1302, st1302⟩ := own_callS (W := 0) X1266 hx hZ e1266 hown (y := (⟨"com/example/tuneless/tuneless/problem/OneMaxEvaluatePinLaw", "same", "([ZII)Z"⟩ : MethodName)) (hw _ (List.mem_of_getElem? (i := 209) rfl)) (hw _ (List.mem_of_getElem? (i := 210) rfl)) (hw _ (List.mem_of_getElem? (i := 199) rfl)) (hw _ (List.mem_of_getElem? (i := 211) rfl)) (by decide) (rm56 l Z a0 hw [] b561 p1 k561 v3 v586 r613 r638 r663 r688 r713 r738 r763 T758.heap n0 Z767 (hra_n) (hrb_n) (f765)) (by decide) (by decide) (by decide) (by decide) (g := (mkF m 190 A1011 [(.int p1), (.int (4 : Int32)), (.ref b561)])) rfl (by rw [hml]; rfl) (argsL := [(.ref b561), (.int (4 : Int32)), (.int p1)]) (rest := []) rfl (lenOf pd_29 rfl) rfl (by show 2 * 0 + _ ≤ _; exact Nat.le_of_eq rfl) (hb hby at_190)
          obtain ⟨r1305, r1306, v1303, v1304, hv1303, hv1304, hc1307, rfl, N1302, e1302⟩ := hQ1302
          have N1302_ := Fr.app N1266_ N1302
          refine Go.st (S' := T1302.setTop (mkF m 193 A1011 [(.int r1306)])) st1302 ?_
          by_cases hc1330 : (r1306 = (0 : Int32))
          · exfalso
            have rv2 := rng32 v2
            have wv2 := c_mask p0 (7 : Int32) 3 (by decide) (by decide)
            rw [← hv2] at wv2
            have rv3 := rng32 v3
            have wv3 := c_iadd v2 (1 : Int32)
            rw [← hv3] at wv3
            have rv684 := rng32 v684
            have wv684 := c_iushr p1 (4 : Int32) 4 (by decide) (by decide)
            rw [← hv684] at wv684
            have rv685 := rng32 v685
            have wv685 := c_mask v684 (1 : Int32) 1 (by decide) (by decide)
            rw [← hv685] at wv685
            have rv686 := rng32 v686
            have wv686 := c_mask r687 (1 : Int32) 1 (by decide) (by decide)
            rw [← hv686] at wv686
            have rv971 := rng32 v971
            have wv971 := c_iushr p1 (4 : Int32) 4 (by decide) (by decide)
            rw [← hv971] at wv971
            have rv972 := rng32 v972
            have wv972 := c_mask v971 (1 : Int32) 1 (by decide) (by decide)
            rw [← hv972] at wv972
            have rv1303 := rng32 v1303
            have wv1303 := c_iushr p1 (4 : Int32) 4 (by decide) (by decide)
            rw [← hv1303] at wv1303
            have rv1304 := rng32 v1304
            have wv1304 := c_mask v1303 (1 : Int32) 1 (by decide) (by decide)
            rw [← hv1304] at wv1304
            have rp0 := rng32 p0
            have rp1 := rng32 p1
            have rr1305 := rng32 r1305
            have rr1306 := rng32 r1306
            have rr687 := rng32 r687
            have rr688 := rng32 r688
            have lI0 : (0 : Int32).toInt = 0 := by decide
            have lI1 : (1 : Int32).toInt = 1 := by decide
            have lI4 : (4 : Int32).toInt = 4 := by decide
            have lI7 : (7 : Int32).toInt = 7 := by decide
            have lI8 : (8 : Int32).toInt = 8 := by decide
            simp only [Int32.lt_iff_toInt_lt, Int64.lt_iff_toInt_lt, ← Int32.toInt_inj, ← Int64.toInt_inj] at hra_n hrb_n hc689 hc974 hc1307 hc1330
            omega
          · refine Go.st (S' := T1302.setTop (mkF m 196 A1011 [])) (fun t k => XS.ifNo X1302.here hx rfl (hb hby at_193) rfl ((if0 _ _).trans (feq hc1330).1) k) ?_
            refine Go.st (S' := T1302.setTop (mkF m 198 A1011 [(.ref b561)])) (fun t k => XS.aload X1302.here hx rfl (hb hby at_196) rfl rfl k) ?_
            refine Go.st (S' := T1302.setTop (mkF m 199 A1011 [(.int (5 : Int32)), (.ref b561)])) (fun t k => XS.iconst X1302.here hx rfl (hb hby at_198) k) ?_
            refine Go.st (S' := T1302.setTop (mkF m 200 A1011 [(.int p1), (.int (5 : Int32)), (.ref b561)])) (fun t k => XS.iloadN X1302.here hx rfl (hb hby at_199) rfl k) ?_
            obtain ⟨r1331, T1331, L1331, X1331, hQ1331, st1331⟩ := own_callS (W := 0) X1302 hx hZ e1302 hown (y := (⟨"com/example/tuneless/tuneless/problem/OneMaxEvaluatePinLaw", "same", "([ZII)Z"⟩ : MethodName)) (hw _ (List.mem_of_getElem? (i := 209) rfl)) (hw _ (List.mem_of_getElem? (i := 210) rfl)) (hw _ (List.mem_of_getElem? (i := 199) rfl)) (hw _ (List.mem_of_getElem? (i := 211) rfl)) (by decide) (rm57 l Z a0 hw [] b561 p1 k561 v3 v586 r613 r638 r663 r688 r713 r738 r763 T758.heap n0 Z767 (hra_n) (hrb_n) (f765)) (by decide) (by decide) (by decide) (by decide) (g := (mkF m 200 A1011 [(.int p1), (.int (5 : Int32)), (.ref b561)])) rfl (by rw [hml]; rfl) (argsL := [(.ref b561), (.int (5 : Int32)), (.int p1)]) (rest := []) rfl (lenOf pd_29 rfl) rfl (by show 2 * 0 + _ ≤ _; exact Nat.le_of_eq rfl) (hb hby at_200)
            obtain ⟨r1334, r1335, v1332, v1333, hv1332, hv1333, hc1336, rfl, N1331, e1331⟩ := hQ1331
            have N1331_ := Fr.app N1302_ N1331
            refine Go.st (S' := T1331.setTop (mkF m 203 A1011 [(.int r1335)])) st1331 ?_
            by_cases hc1352 : (r1335 = (0 : Int32))
            · exfalso
              have rv2 := rng32 v2
              have wv2 := c_mask p0 (7 : Int32) 3 (by decide) (by decide)
              rw [← hv2] at wv2
              have rv3 := rng32 v3
              have wv3 := c_iadd v2 (1 : Int32)
              rw [← hv3] at wv3
              have rv709 := rng32 v709
              have wv709 := c_iushr p1 (5 : Int32) 5 (by decide) (by decide)
              rw [← hv709] at wv709
              have rv710 := rng32 v710
              have wv710 := c_mask v709 (1 : Int32) 1 (by decide) (by decide)
              rw [← hv710] at wv710
              have rv711 := rng32 v711
              have wv711 := c_mask r712 (1 : Int32) 1 (by decide) (by decide)
              rw [← hv711] at wv711
              have rv982 := rng32 v982
              have wv982 := c_iushr p1 (5 : Int32) 5 (by decide) (by decide)
              rw [← hv982] at wv982
              have rv983 := rng32 v983
              have wv983 := c_mask v982 (1 : Int32) 1 (by decide) (by decide)
              rw [← hv983] at wv983
              have rv1332 := rng32 v1332
              have wv1332 := c_iushr p1 (5 : Int32) 5 (by decide) (by decide)
              rw [← hv1332] at wv1332
              have rv1333 := rng32 v1333
              have wv1333 := c_mask v1332 (1 : Int32) 1 (by decide) (by decide)
              rw [← hv1333] at wv1333
              have rp0 := rng32 p0
              have rp1 := rng32 p1
              have rr1334 := rng32 r1334
              have rr1335 := rng32 r1335
              have rr712 := rng32 r712
              have rr713 := rng32 r713
              have lI0 : (0 : Int32).toInt = 0 := by decide
              have lI1 : (1 : Int32).toInt = 1 := by decide
              have lI5 : (5 : Int32).toInt = 5 := by decide
              have lI7 : (7 : Int32).toInt = 7 := by decide
              have lI8 : (8 : Int32).toInt = 8 := by decide
              simp only [Int32.lt_iff_toInt_lt, Int64.lt_iff_toInt_lt, ← Int32.toInt_inj, ← Int64.toInt_inj] at hra_n hrb_n hc714 hc985 hc1336 hc1352
              omega
            · refine Go.st (S' := T1331.setTop (mkF m 206 A1011 [])) (fun t k => XS.ifNo X1331.here hx rfl (hb hby at_203) rfl ((if0 _ _).trans (feq hc1352).1) k) ?_
              refine Go.st (S' := T1331.setTop (mkF m 208 A1011 [(.ref b561)])) (fun t k => XS.aload X1331.here hx rfl (hb hby at_206) rfl rfl k) ?_
              refine Go.st (S' := T1331.setTop (mkF m 210 A1011 [(.int (6 : Int32)), (.ref b561)])) (fun t k => XS.bipush X1331.here hx rfl (hb hby at_208) k) ?_
              refine Go.st (S' := T1331.setTop (mkF m 211 A1011 [(.int p1), (.int (6 : Int32)), (.ref b561)])) (fun t k => XS.iloadN X1331.here hx rfl (hb hby at_210) rfl k) ?_
              obtain ⟨r1353, T1353, L1353, X1353, hQ1353, st1353⟩ := own_callS (W := 0) X1331 hx hZ e1331 hown (y := (⟨"com/example/tuneless/tuneless/problem/OneMaxEvaluatePinLaw", "same", "([ZII)Z"⟩ : MethodName)) (hw _ (List.mem_of_getElem? (i := 209) rfl)) (hw _ (List.mem_of_getElem? (i := 210) rfl)) (hw _ (List.mem_of_getElem? (i := 199) rfl)) (hw _ (List.mem_of_getElem? (i := 211) rfl)) (by decide) (rm58 l Z a0 hw [] b561 p1 k561 v3 v586 r613 r638 r663 r688 r713 r738 r763 T758.heap n0 Z767 (hra_n) (hrb_n) (f765)) (by decide) (by decide) (by decide) (by decide) (g := (mkF m 211 A1011 [(.int p1), (.int (6 : Int32)), (.ref b561)])) rfl (by rw [hml]; rfl) (argsL := [(.ref b561), (.int (6 : Int32)), (.int p1)]) (rest := []) rfl (lenOf pd_29 rfl) rfl (by show 2 * 0 + _ ≤ _; exact Nat.le_of_eq rfl) (hb hby at_211)
              obtain ⟨r1356, r1357, v1354, v1355, hv1354, hv1355, hc1358, rfl, N1353, e1353⟩ := hQ1353
              have N1353_ := Fr.app N1331_ N1353
              refine Go.st (S' := T1353.setTop (mkF m 214 A1011 [(.int r1357)])) st1353 ?_
              by_cases hc1367 : (r1357 = (0 : Int32))
              · exfalso
                have rv2 := rng32 v2
                have wv2 := c_mask p0 (7 : Int32) 3 (by decide) (by decide)
                rw [← hv2] at wv2
                have rv3 := rng32 v3
                have wv3 := c_iadd v2 (1 : Int32)
                rw [← hv3] at wv3
                have rv734 := rng32 v734
                have wv734 := c_iushr p1 (6 : Int32) 6 (by decide) (by decide)
                rw [← hv734] at wv734
                have rv735 := rng32 v735
                have wv735 := c_mask v734 (1 : Int32) 1 (by decide) (by decide)
                rw [← hv735] at wv735
                have rv736 := rng32 v736
                have wv736 := c_mask r737 (1 : Int32) 1 (by decide) (by decide)
                rw [← hv736] at wv736
                have rv993 := rng32 v993
                have wv993 := c_iushr p1 (6 : Int32) 6 (by decide) (by decide)
                rw [← hv993] at wv993
                have rv994 := rng32 v994
                have wv994 := c_mask v993 (1 : Int32) 1 (by decide) (by decide)
                rw [← hv994] at wv994
                have rv1354 := rng32 v1354
                have wv1354 := c_iushr p1 (6 : Int32) 6 (by decide) (by decide)
                rw [← hv1354] at wv1354
                have rv1355 := rng32 v1355
                have wv1355 := c_mask v1354 (1 : Int32) 1 (by decide) (by decide)
                rw [← hv1355] at wv1355
                have rp0 := rng32 p0
                have rp1 := rng32 p1
                have rr1356 := rng32 r1356
                have rr1357 := rng32 r1357
                have rr737 := rng32 r737
                have rr738 := rng32 r738
                have lI0 : (0 : Int32).toInt = 0 := by decide
                have lI1 : (1 : Int32).toInt = 1 := by decide
                have lI6 : (6 : Int32).toInt = 6 := by decide
                have lI7 : (7 : Int32).toInt = 7 := by decide
                have lI8 : (8 : Int32).toInt = 8 := by decide
                simp only [Int32.lt_iff_toInt_lt, Int64.lt_iff_toInt_lt, ← Int32.toInt_inj, ← Int64.toInt_inj] at hra_n hrb_n hc739 hc996 hc1358 hc1367
                omega
              · refine Go.st (S' := T1353.setTop (mkF m 217 A1011 [])) (fun t k => XS.ifNo X1353.here hx rfl (hb hby at_214) rfl ((if0 _ _).trans (feq hc1367).1) k) ?_
                refine Go.st (S' := T1353.setTop (mkF m 219 A1011 [(.ref b561)])) (fun t k => XS.aload X1353.here hx rfl (hb hby at_217) rfl rfl k) ?_
                refine Go.st (S' := T1353.setTop (mkF m 221 A1011 [(.int (7 : Int32)), (.ref b561)])) (fun t k => XS.bipush X1353.here hx rfl (hb hby at_219) k) ?_
                refine Go.st (S' := T1353.setTop (mkF m 222 A1011 [(.int p1), (.int (7 : Int32)), (.ref b561)])) (fun t k => XS.iloadN X1353.here hx rfl (hb hby at_221) rfl k) ?_
                obtain ⟨r1368, T1368, L1368, X1368, hQ1368, st1368⟩ := own_callS (W := 0) X1353 hx hZ e1353 hown (y := (⟨"com/example/tuneless/tuneless/problem/OneMaxEvaluatePinLaw", "same", "([ZII)Z"⟩ : MethodName)) (hw _ (List.mem_of_getElem? (i := 209) rfl)) (hw _ (List.mem_of_getElem? (i := 210) rfl)) (hw _ (List.mem_of_getElem? (i := 199) rfl)) (hw _ (List.mem_of_getElem? (i := 211) rfl)) (by decide) (rm59 l Z a0 hw [] b561 p1 k561 v3 v586 r613 r638 r663 r688 r713 r738 r763 T758.heap n0 Z767 (hra_n) (hrb_n) (f765)) (by decide) (by decide) (by decide) (by decide) (g := (mkF m 222 A1011 [(.int p1), (.int (7 : Int32)), (.ref b561)])) rfl (by rw [hml]; rfl) (argsL := [(.ref b561), (.int (7 : Int32)), (.int p1)]) (rest := []) rfl (lenOf pd_29 rfl) rfl (by show 2 * 0 + _ ≤ _; exact Nat.le_of_eq rfl) (hb hby at_222)
                obtain ⟨r1371, r1372, v1369, v1370, hv1369, hv1370, hc1373, rfl, N1368, e1368⟩ := hQ1368
                have N1368_ := Fr.app N1353_ N1368
                refine Go.st (S' := T1368.setTop (mkF m 225 A1011 [(.int r1372)])) st1368 ?_
                by_cases hc1375 : (r1372 = (0 : Int32))
                · exfalso
                  have rv2 := rng32 v2
                  have wv2 := c_mask p0 (7 : Int32) 3 (by decide) (by decide)
                  rw [← hv2] at wv2
                  have rv3 := rng32 v3
                  have wv3 := c_iadd v2 (1 : Int32)
                  rw [← hv3] at wv3
                  have rv759 := rng32 v759
                  have wv759 := c_iushr p1 (7 : Int32) 7 (by decide) (by decide)
                  rw [← hv759] at wv759
                  have rv760 := rng32 v760
                  have wv760 := c_mask v759 (1 : Int32) 1 (by decide) (by decide)
                  rw [← hv760] at wv760
                  have rv761 := rng32 v761
                  have wv761 := c_mask r762 (1 : Int32) 1 (by decide) (by decide)
                  rw [← hv761] at wv761
                  have rv1004 := rng32 v1004
                  have wv1004 := c_iushr p1 (7 : Int32) 7 (by decide) (by decide)
                  rw [← hv1004] at wv1004
                  have rv1005 := rng32 v1005
                  have wv1005 := c_mask v1004 (1 : Int32) 1 (by decide) (by decide)
                  rw [← hv1005] at wv1005
                  have rv1369 := rng32 v1369
                  have wv1369 := c_iushr p1 (7 : Int32) 7 (by decide) (by decide)
                  rw [← hv1369] at wv1369
                  have rv1370 := rng32 v1370
                  have wv1370 := c_mask v1369 (1 : Int32) 1 (by decide) (by decide)
                  rw [← hv1370] at wv1370
                  have rp0 := rng32 p0
                  have rp1 := rng32 p1
                  have rr1371 := rng32 r1371
                  have rr1372 := rng32 r1372
                  have rr762 := rng32 r762
                  have rr763 := rng32 r763
                  have lI0 : (0 : Int32).toInt = 0 := by decide
                  have lI1 : (1 : Int32).toInt = 1 := by decide
                  have lI7 : (7 : Int32).toInt = 7 := by decide
                  have lI8 : (8 : Int32).toInt = 8 := by decide
                  simp only [Int32.lt_iff_toInt_lt, Int64.lt_iff_toInt_lt, ← Int32.toInt_inj, ← Int64.toInt_inj] at hra_n hrb_n hc764 hc1007 hc1373 hc1375
                  omega
                · refine Go.st (S' := T1368.setTop (mkF m 228 A1011 [])) (fun t k => XS.ifNo X1368.here hx rfl (hb hby at_225) rfl ((if0 _ _).trans (feq hc1375).1) k) ?_
                  refine Go.st (S' := T1368.setTop (mkF m 229 A1011 [(.int (1 : Int32))])) (fun t k => XS.iconst X1368.here hx rfl (hb hby at_228) k) ?_
                  refine Go.st (S' := T1368.setTop (mkF m 233 A1011 [(.int (1 : Int32))])) (fun t k => XS.goto X1368.here hx rfl (pc0 := 229) (pc' := 233) rfl (hb hby at_229) (by decide) (by decide) k) ?_
                  let A1376 : Array Slot := #[.val (.int p0), .val (.int p1), .val (.int v3), .val (.ref b5), .val (.ref b561), .val (.double (FP.l2d r921)), .second, .val (.int v1010), .val (.int (1 : Int32))]
                  refine Go.st (S' := T1368.setTop (mkF m 235 A1376 [])) (fun t k => XS.istore X1368.here hx rfl (hb hby at_233) rfl (l' := A1376) rfl k) ?_
                  refine Go.st (S' := T1368.setTop (mkF m 237 A1376 [(.double (FP.l2d r921))])) (fun t k => XS.dload X1368.here hx rfl (hb hby at_235) rfl k) ?_
                  refine Go.st (S' := T1368.setTop (mkF m 239 A1376 [(.int v1010), (.double (FP.l2d r921))])) (fun t k => XS.iload X1368.here hx rfl (hb hby at_237) rfl k) ?_
                  obtain ⟨v1377, hv1377⟩ : ∃ z, z = v1010.toInt64 := ⟨_, rfl⟩
                  refine Go.st (S' := T1368.setTop (mkF m 240 A1376 [(.double (FP.l2d v1377)), (.double (FP.l2d r921))])) (fun t k => XS.i2dS X1368.here hx rfl (hb hby at_239) rfl ((i2d_w _).trans (by rw [hv1377])) k) ?_
                  have hE1378 : r921 = v1377 := by
                    have rv586 := rng32 v586
                    have wv586 := c_mask r587 (1 : Int32) 1 (by decide) (by decide)
                    rw [← hv586] at wv586
                    have rv944 := rng32 v944
                    have wv944 := c_iadd v586 r613
                    rw [← hv944] at wv944
                    have rv955 := rng32 v955
                    have wv955 := c_iadd v944 r638
                    rw [← hv955] at wv955
                    have rv966 := rng32 v966
                    have wv966 := c_iadd v955 r663
                    rw [← hv966] at wv966
                    have rv977 := rng32 v977
                    have wv977 := c_iadd v966 r688
                    rw [← hv977] at wv977
                    have rv988 := rng32 v988
                    have wv988 := c_iadd v977 r713
                    rw [← hv988] at wv988
                    have rv999 := rng32 v999
                    have wv999 := c_iadd v988 r738
                    rw [← hv999] at wv999
                    have rv1010 := rng32 v1010
                    have wv1010 := c_iadd v999 r763
                    rw [← hv1010] at wv1010
                    have rv1377 := rng64 v1377
                    have wv1377 := c_i2l v1010
                    rw [← hv1377] at wv1377
                    have rr587 := rng32 r587
                    have rr613 := rng32 r613
                    have rr638 := rng32 r638
                    have rr663 := rng32 r663
                    have rr688 := rng32 r688
                    have rr713 := rng32 r713
                    have rr738 := rng32 r738
                    have rr763 := rng32 r763
                    have lI1 : (1 : Int32).toInt = 1 := by decide
                    obtain ⟨bl0, bh0, -⟩ := id hb768
                    obtain ⟨bl1, bh1, -⟩ := id hb769
                    obtain ⟨bl2, bh2, -⟩ := id hb770
                    obtain ⟨bl3, bh3, -⟩ := id hb771
                    obtain ⟨bl4, bh4, -⟩ := id hb772
                    obtain ⟨bl5, bh5, -⟩ := id hb773
                    obtain ⟨bl6, bh6, -⟩ := id hb774
                    obtain ⟨bl7, bh7, -⟩ := id hb775
                    have hp_ := hp922
                    apply Int64.toInt_inj.mp
                    omega
                  refine Go.st (S' := T1368.setTop (mkF m 241 A1376 [(.int (0 : Int32))])) (fun t k => XS.dcmpS X1368.here hx rfl (hb hby at_240) rfl (dcmpV_eq (congrArg FP.l2d hE1378) (nn_w rfl) .l) k) ?_
                  refine Go.st (S' := T1368.setTop (mkF m 244 A1376 [])) (fun t k => XS.ifNo X1368.here hx rfl (hb hby at_241) rfl ((if0 _ _).trans (teq (by decide : ((0 : Int32) = (0 : Int32)))).2) k) ?_
                  refine Go.st (S' := T1368.setTop (mkF m 246 A1376 [(.int (1 : Int32))])) (fun t k => XS.iload X1368.here hx rfl (hb hby at_244) rfl k) ?_
                  refine Go.st (S' := T1368.setTop (mkF m 249 A1376 [])) (fun t k => XS.ifNo X1368.here hx rfl (hb hby at_246) rfl ((if0 _ _).trans (feq (by decide : (¬ ((1 : Int32) = (0 : Int32))))).1) k) ?_
                  refine Go.st (S' := T1368.setTop (mkF m 250 A1376 [(.int (1 : Int32))])) (fun t k => XS.iconst X1368.here hx rfl (hb hby at_249) k) ?_
                  refine Go.st (S' := T1368.setTop (mkF m 254 A1376 [(.int (1 : Int32))])) (fun t k => XS.goto X1368.here hx rfl (pc0 := 250) (pc' := 254) rfl (hb hby at_250) (by decide) (by decide) k) ?_
                  exact Go.retW X1368 hS512 (by rw [e1368]; exact hk767) (v := some (.int (1 : Int32))) (fun h => by rw [Bd.returns] at h; cases h) Bd.notSynchronized (fun fs hr => retN X1368 hx (t := .boolean) Bd.returns (by simp) (hb hby at_254) hr) (by decide) (by decide) ⟨rfl, N1368_⟩
set_option maxRecDepth 65536 in
set_option maxHeartbeats 40000000 in
theorem comes_1 {Post : Tables → Env → Array Value → State → Outcome → State → Prop} (hpost : ∀ tb e args s v u, (limb_1_1.after args s (.returned v) u = true ∧ limb_1_2.after args s (.returned v) u = true ∧ True) → Jvm.D.FramedW s (.returned v) u (Jvm.fieldLocs frame_1_writes args s ++ Jvm.arrayLocs frame_1_arrays args s ++ Jvm.staticLocs frame_1_statics s) 32 1216 → Post tb e args s (.returned v) u) :
    ArmFor flags0 classFile x code maxLocals ret World_1 tables_1 room_1 Calls_1 rest_1 Pre_1 Post := by
  intro l hfl _ _ p e ha hc hk s m args below hf hA hF happ hP
  obtain ⟨hcalls, hrest, hpre⟩ := hP
  obtain ⟨-, -, -, hnamed, -, -, -, hat⟩ := (Spec.applies_iff hf).mp happ
  obtain ⟨hg, hn⟩ := and_e (Cond.before_iff.mp (show (Jvm.Cond.and given_1 narrow_1).before args s = true from hpre))
  obtain ⟨h1, h2⟩ := and_e hg
  obtain ⟨w0, w1, rfl⟩ : ∃ w0 w1 : Value, args = #[w0, w1] := by
    have hs : args.size = 2 := by simpa [Cond.value, given_1] using h1
    obtain ⟨L⟩ := args
    match L, hs with
    | [w0, w1], _ => exact ⟨w0, w1, rfl⟩
  have hw := fun d (hd : d ∈ tables_1) => atoms_spec (ws := Jvm.Cond.code x code maxLocals ret :: tables_1) hat d (List.mem_cons_of_mem _ hd)
  have hfit : Fit s := fun {y c} hc i hi => by
    obtain ⟨ha, rfl⟩ := Array.getElem?_eq_some_iff.mp hc
    have q := List.all_eq_true.mp ((Array.all_eq_true_iff_forall_mem.mp hF) _ (Array.getElem_mem ha)) i (List.mem_range.mpr hi)
    simpa [Array.getElem?_eq_getElem hi] using q
  obtain ⟨q0, h2_0⟩ := and_e h2
  obtain ⟨i0, ee0⟩ := is_v q0
  obtain rfl : w0 = (.int i0) := Option.some.inj ee0
  obtain ⟨i1, ee1⟩ := is_v h2_0
  obtain rfl : w1 = (.int i1) := Option.some.inj ee1
  have hsets := (atoms_of jdkStatics_1 (show (jdkStatics_1.foldr Jvm.Cond.and restOwn_1).before _ s = true from rest_1_c_eq ▸ (show rest_1_c.before _ s = true from hrest))).1
  obtain ⟨s_Direction_MAXIMIZE, ev_s_Direction_MAXIMIZE⟩ := exa_v hn
  obtain ⟨s_String_COMPACT_STRINGS, ev_s_String_COMPACT_STRINGS⟩ := is_v (Cond.before_iff.mp (hsets _ (List.mem_of_getElem? (i := 1) rfl)))
  obtain ⟨s_Integer_DigitOnes, ev_s_Integer_DigitOnes⟩ := exa_v (Cond.before_iff.mp (hsets _ (List.mem_of_getElem? (i := 12) rfl)))
  have E_s_Direction_MAXIMIZE : Exa s s.heap s_Direction_MAXIMIZE "com/example/tuneless/tuneless/space/Direction" := Exa.start ev_s_Direction_MAXIMIZE hn
  have nz_s_String_COMPACT_STRINGS : s_String_COMPACT_STRINGS ≠ 0 := own_ne0 ev_s_String_COMPACT_STRINGS (Cond.before_iff.mp (hsets _ (List.mem_of_getElem? (i := 2) rfl)))
  obtain ⟨cl_s_Integer_DigitOnes, Ar_s_Integer_DigitOnes⟩ := own_arrX ev_s_Integer_DigitOnes (Cond.before_iff.mp (hsets _ (List.mem_of_getElem? (i := 12) rfl))) (Cond.before_iff.mp (hsets _ (List.mem_of_getElem? (i := 13) rfl))) (hw _ (List.mem_of_getElem? (i := 23) rfl))
  have E_s_Integer_DigitOnes : Exa s s.heap s_Integer_DigitOnes "[B" := Exa.start ev_s_Integer_DigitOnes (Cond.before_iff.mp (hsets _ (List.mem_of_getElem? (i := 12) rfl)))
  obtain ⟨lq_s_Integer_DigitOnes, le_s_Integer_DigitOnes⟩ := own_len ev_s_Integer_DigitOnes Ar_s_Integer_DigitOnes (own_eq_int (Cond.before_iff.mp (hsets _ (List.mem_of_getElem? (i := 13) rfl))))
  have V_s_Integer_DigitOnes : Arv s s.heap s_Integer_DigitOnes cl_s_Integer_DigitOnes.cls .byte (100 : Int32) [(.int (48 : Int32)), (.int (49 : Int32)), (.int (50 : Int32)), (.int (51 : Int32)), (.int (52 : Int32)), (.int (53 : Int32)), (.int (54 : Int32)), (.int (55 : Int32)), (.int (56 : Int32)), (.int (57 : Int32)), (.int (48 : Int32)), (.int (49 : Int32)), (.int (50 : Int32)), (.int (51 : Int32)), (.int (52 : Int32)), (.int (53 : Int32)), (.int (54 : Int32)), (.int (55 : Int32)), (.int (56 : Int32)), (.int (57 : Int32)), (.int (48 : Int32)), (.int (49 : Int32)), (.int (50 : Int32)), (.int (51 : Int32)), (.int (52 : Int32)), (.int (53 : Int32)), (.int (54 : Int32)), (.int (55 : Int32)), (.int (56 : Int32)), (.int (57 : Int32)), (.int (48 : Int32)), (.int (49 : Int32)), (.int (50 : Int32)), (.int (51 : Int32)), (.int (52 : Int32)), (.int (53 : Int32)), (.int (54 : Int32)), (.int (55 : Int32)), (.int (56 : Int32)), (.int (57 : Int32)), (.int (48 : Int32)), (.int (49 : Int32)), (.int (50 : Int32)), (.int (51 : Int32)), (.int (52 : Int32)), (.int (53 : Int32)), (.int (54 : Int32)), (.int (55 : Int32)), (.int (56 : Int32)), (.int (57 : Int32)), (.int (48 : Int32)), (.int (49 : Int32)), (.int (50 : Int32)), (.int (51 : Int32)), (.int (52 : Int32)), (.int (53 : Int32)), (.int (54 : Int32)), (.int (55 : Int32)), (.int (56 : Int32)), (.int (57 : Int32)), (.int (48 : Int32)), (.int (49 : Int32)), (.int (50 : Int32)), (.int (51 : Int32)), (.int (52 : Int32)), (.int (53 : Int32)), (.int (54 : Int32)), (.int (55 : Int32)), (.int (56 : Int32)), (.int (57 : Int32)), (.int (48 : Int32)), (.int (49 : Int32)), (.int (50 : Int32)), (.int (51 : Int32)), (.int (52 : Int32)), (.int (53 : Int32)), (.int (54 : Int32)), (.int (55 : Int32)), (.int (56 : Int32)), (.int (57 : Int32)), (.int (48 : Int32)), (.int (49 : Int32)), (.int (50 : Int32)), (.int (51 : Int32)), (.int (52 : Int32)), (.int (53 : Int32)), (.int (54 : Int32)), (.int (55 : Int32)), (.int (56 : Int32)), (.int (57 : Int32)), (.int (48 : Int32)), (.int (49 : Int32)), (.int (50 : Int32)), (.int (51 : Int32)), (.int (52 : Int32)), (.int (53 : Int32)), (.int (54 : Int32)), (.int (55 : Int32)), (.int (56 : Int32)), (.int (57 : Int32))] (.int 0) := Arv.start hfit Ar_s_Integer_DigitOnes lq_s_Integer_DigitOnes le_s_Integer_DigitOnes (by decide) rfl (own_digits (fun _ => by simpa only [Term.eval] using ev_s_Integer_DigitOnes) Ar_s_Integer_DigitOnes lq_s_Integer_DigitOnes le_s_Integer_DigitOnes (Cond.before_iff.mp (hsets _ (List.mem_of_getElem? (i := 14) rfl))) (by decide +kernel))
  obtain ⟨n, o, h1, h2, h3, _, L, rfl, ⟨rfl, N⟩, hq⟩ := rm60 l s _ hw tables_1 i0 i1 s_String_COMPACT_STRINGS s_Integer_DigitOnes cl_s_Integer_DigitOnes.cls s_Direction_MAXIMIZE s.heap s.heap.size (Nat.le_refl _) (Sta.start ev_s_String_COMPACT_STRINGS (Or.inl (Cond.before_iff.mpr (Cond.before_iff.mp (hsets _ (List.mem_of_getElem? (i := 0) rfl)))))) nz_s_String_COMPACT_STRINGS (fun _ _ z => z) (hcalls.1 ("com/example/tuneless/tuneless/problem/OneMax", 7) (by simp [consts_1])) (hsets _ (List.mem_of_getElem? (i := 2) rfl)) (Sta.start ev_s_Integer_DigitOnes (Or.inl (Cond.before_iff.mpr (Cond.before_iff.mp (hsets _ (List.mem_of_getElem? (i := 11) rfl)))))) V_s_Integer_DigitOnes (Sta.start ev_s_Direction_MAXIMIZE (Or.inr ⟨(hw _ (List.mem_of_getElem? (i := 150) rfl)), (hw _ (List.mem_of_getElem? (i := 151) rfl))⟩)) p e ha hc hk s m _ below hf ((Spec.applies_iff_loose hf).mp happ).1 ⟨rfl, State.WarmedH.refl s, rfl⟩ trivial
  refine ⟨n, _, h1, h2, h3, hpost _ _ _ _ _ _ ⟨Cond.after_iff.mpr rfl, Cond.after_iff.mpr (eq_i res_at (Term.int_eval (1)) rfl), trivial⟩ ⟨hq.1, hq.2.1, hq.2.2.1, (hq.2.2.2.sift fun y hy => Or.inr (N y hy)).mono (by decide) (by decide)⟩⟩
theorem main_1_1 : Claimed_1_1 := comes_1 fun _ _ _ _ _ _ h hF => ⟨h.1, hF⟩
theorem main_1_2 : Claimed_1_2 := comes_1 fun _ _ _ _ _ _ h hF => ⟨h.2.1, hF⟩
end Jvm.Pilot.@@N@@
namespace Jvm.Pilot.@@N@@
open Jvm Jvm.ClassFile Sem Op Lib Jvm.Free Jvm.Stand Jvm.Pilot.@@N@@.Jvm.D
/-! MADE BY PROGRAM (witnessworld.py) out of the Statement's table words and the real class files: 34 classes; the members and pool entries that the words name. The judged class is class 1, her method 4. -/
namespace start1
open Jvm.ClassFile
def u (s : String) : CpInfo := .utf8 (stringToUtf16 s)
/-- a pool by its gaps: so many unusable entries, then the entry; so many at the end -/
def gap : Nat → List CpInfo → List CpInfo
  | 0, r => r
  | n + 1, r => .unusable :: gap n r
def poolList (es : List (Nat × CpInfo)) (last : Nat) : List CpInfo := es.foldr (fun e r => gap e.1 (e.2 :: r)) (gap last [])
def pool (es : List (Nat × CpInfo)) (last : Nat) : Array CpInfo := ⟨poolList es last⟩
def fileOf (pool : Array CpInfo) (this : Nat) (attrs : Array Attribute := #[]) (ms : Array MethodInfo := #[]) (fl : Nat := 33) (sup : Nat := 0) (ifs : Array Nat := #[]) (fds : Array FieldInfo := #[]) : ClassFile where
  minorVersion := 0
  majorVersion := 65
  constantPool := pool
  accessFlags := fl
  thisClass := this
  superClass := sup
  interfaces := ifs
  fields := fds
  methods := ms
  attributes := attrs
def plain (name : String) (sup : Option ClassId) : Class where
  name := name
  kind := .ordinary
  loader := none
  accessFlags := 33
  super := sup
  interfaces := #[]
  cf := none
  fields := #[]
  methods := #[]
  instanceTypes := #[]
  staticTypes := #[]
  resolved := #[]
  callSites := []
  init := .initialized
  statics := none
  mirror := none

def pool0 : Array CpInfo := pool [(5, u "<init>"), (0, u "()V"), (1, .class_ 10), (1, u "java/lang/Object")] 113

def k0c0 : Code := { maxStack := 0, maxLocals := 1, code := object_method_1_code, exceptionTable := #[], attributes := #[] }
def k0m0 : Method := { name := "<init>", desc := "()V", sig := { parameters := [], returnType := none }, accessFlags := 1, code := some k0c0 }
/-- java/lang/Object -/
def k0 : Class := { plain "java/lang/Object" none with
  accessFlags := 33
  interfaces := #[]
  cf := some (fileOf pool0 8 #[] #[{ accessFlags := 1, nameIndex := 5, descriptorIndex := 6, attributes := #[] }] 33 0 #[] #[])
  fields := #[]
  methods := #[k0m0]
  instanceTypes := #[]
  staticTypes := #[]
  resolved := Array.replicate 124 none
  statics := none }

def pool1 : Array CpInfo := pool [(2, .class_ 4), (1, u "java/lang/Object"), (0, u "<init>"), (0, u "()V"), (0, .class_ 8), (0, u "com/example/tuneless/tuneless/problem/OneMax"), (0, .methodref 7 10), (0, .nameAndType 5 11), (0, u "(I)V"), (0, .methodref 13 14), (0, .class_ 15), (0, .nameAndType 16 17), (0, u "com/example/tuneless/tuneless/problem/OneMaxEvaluatePinLaw"), (0, u "put"), (0, u "([ZII)V"), (0, .methodref 7 19), (0, .nameAndType 20 21), (0, u "evaluate"), (0, u "([Z)D"), (0, .methodref 13 23), (0, .nameAndType 24 25), (0, u "bit"), (0, u "(III)I"), (0, .methodref 13 27), (0, .nameAndType 28 29), (0, u "same"), (0, u "([ZII)Z"), (5, u "law"), (0, u "(II)Z")] 2

def k1m0 : Method := { name := "<init>", desc := "()V", sig := { parameters := [], returnType := none }, accessFlags := 2, code := none }
def k1c1 : Code := { maxStack := 4, maxLocals := 3, code := method_2_code, exceptionTable := #[], attributes := #[] }
def k1m1 : Method := { name := "put", desc := "([ZII)V", sig := { parameters := [(.array .boolean), .int, .int], returnType := none }, accessFlags := 10, code := some k1c1 }
def k1c2 : Code := { maxStack := 2, maxLocals := 3, code := method_3_code, exceptionTable := #[], attributes := #[] }
def k1m2 : Method := { name := "bit", desc := "(III)I", sig := { parameters := [.int, .int, .int], returnType := some .int }, accessFlags := 10, code := some k1c2 }
def k1c3 : Code := { maxStack := 3, maxLocals := 3, code := method_4_code, exceptionTable := #[], attributes := #[] }
def k1m3 : Method := { name := "same", desc := "([ZII)Z", sig := { parameters := [(.array .boolean), .int, .int], returnType := some .boolean }, accessFlags := 10, code := some k1c3 }
def k1c4 : Code := { maxStack := 4, maxLocals := 9, code := code, exceptionTable := #[], attributes := #[] }
def k1m4 : Method := { name := "law", desc := "(II)Z", sig := { parameters := [.int, .int], returnType := some .boolean }, accessFlags := 9, code := some k1c4 }
/-- com/example/tuneless/tuneless/problem/OneMaxEvaluatePinLaw -/
def k1 : Class := { plain "com/example/tuneless/tuneless/problem/OneMaxEvaluatePinLaw" (some 0) with
  accessFlags := 49
  interfaces := #[]
  cf := some (fileOf pool1 13 #[] #[{ accessFlags := 2, nameIndex := 5, descriptorIndex := 6, attributes := #[] }, { accessFlags := 10, nameIndex := 16, descriptorIndex := 17, attributes := #[] }, { accessFlags := 10, nameIndex := 24, descriptorIndex := 25, attributes := #[] }, { accessFlags := 10, nameIndex := 28, descriptorIndex := 29, attributes := #[] }, { accessFlags := 9, nameIndex := 35, descriptorIndex := 36, attributes := #[] }] 49 2 #[] #[])
  fields := #[]
  methods := #[k1m0, k1m1, k1m2, k1m3, k1m4]
  instanceTypes := #[]
  staticTypes := #[]
  resolved := Array.replicate 39 none
  statics := none }

def pool2 : Array CpInfo := pool [(2, .class_ 4), (1, u "com/example/tuneless/tuneless/problem/Problem"), (25, .class_ 31), (0, u "java/lang/Object")] 17

/-- com/example/tuneless/tuneless/problem/Problem -/
def k2 : Class := { plain "com/example/tuneless/tuneless/problem/Problem" (some 0) with
  accessFlags := 1537
  interfaces := #[]
  cf := some (fileOf pool2 2 #[] #[] 1537 30 #[] #[])
  fields := #[]
  methods := #[]
  instanceTypes := #[]
  staticTypes := #[]
  resolved := Array.replicate 49 none
  statics := none }

def pool3 : Array CpInfo := pool [(1, .methodref 2 3), (0, .class_ 4), (0, .nameAndType 5 6), (0, u "java/util/OptionalDouble"), (0, u "of"), (0, u "(D)Ljava/util/OptionalDouble;"), (0, .methodref 8 9), (0, .class_ 10), (0, .nameAndType 11 12), (0, u "com/example/tuneless/tuneless/problem/Landscape"), (0, u "<init>"), (0, u "(Ljava/lang/String;ILcom/example/tuneless/tuneless/space/Direction;Ljava/util/OptionalDouble;)V"), (0, .methodref 14 15), (0, .class_ 16), (0, .nameAndType 11 17), (0, u "java/lang/Object"), (0, u "()V"), (0, .fieldref 8 19), (0, .nameAndType 20 21), (0, u "description"), (0, u "Ljava/lang/String;"), (0, .methodref 23 24), (0, .class_ 25), (0, .nameAndType 5 26), (0, u "com/example/tuneless/tuneless/space/BitStringSpace"), (0, u "(I)Lcom/example/tuneless/tuneless/space/BitStringSpace;"), (0, .fieldref 8 28), (0, .nameAndType 29 30), (0, u "space"), (0, u "Lcom/example/tuneless/tuneless/space/BitStringSpace;"), (0, .fieldref 8 32), (0, .nameAndType 33 34), (0, u "direction"), (0, u "Lcom/example/tuneless/tuneless/space/Direction;"), (0, .fieldref 8 36), (0, .nameAndType 37 38), (0, u "optimum"), (0, u "Ljava/util/OptionalDouble;"), (3, .class_ 43), (0, u "com/example/tuneless/tuneless/problem/Problem"), (0, u "(Ljava/lang/String;ILcom/example/tuneless/tuneless/space/Direction;D)V")] 10

def k3c0 : Code := { maxStack := 6, maxLocals := 6, code := prog_58_method_1_code, exceptionTable := #[], attributes := #[] }
def k3m0 : Method := { name := "<init>", desc := "(Ljava/lang/String;ILcom/example/tuneless/tuneless/space/Direction;D)V", sig := { parameters := [(.object "java/lang/String"), .int, (.object "com/example/tuneless/tuneless/space/Direction"), .double], returnType := none }, accessFlags := 4, code := some k3c0 }
def k3c1 : Code := { maxStack := 2, maxLocals := 5, code := prog_58_method_2_code, exceptionTable := #[], attributes := #[] }
def k3m1 : Method := { name := "<init>", desc := "(Ljava/lang/String;ILcom/example/tuneless/tuneless/space/Direction;Ljava/util/OptionalDouble;)V", sig := { parameters := [(.object "java/lang/String"), .int, (.object "com/example/tuneless/tuneless/space/Direction"), (.object "java/util/OptionalDouble")], returnType := none }, accessFlags := 4, code := some k3c1 }
/-- com/example/tuneless/tuneless/problem/Landscape -/
def k3 : Class := { plain "com/example/tuneless/tuneless/problem/Landscape" (some 0) with
  accessFlags := 1057
  interfaces := #[2]
  cf := some (fileOf pool3 8 #[] #[{ accessFlags := 4, nameIndex := 11, descriptorIndex := 44, attributes := #[] }, { accessFlags := 4, nameIndex := 11, descriptorIndex := 12, attributes := #[] }] 1057 14 #[42] #[{ accessFlags := 18, nameIndex := 20, descriptorIndex := 21, attributes := #[] }, { accessFlags := 18, nameIndex := 29, descriptorIndex := 30, attributes := #[] }, { accessFlags := 18, nameIndex := 33, descriptorIndex := 34, attributes := #[] }, { accessFlags := 18, nameIndex := 37, descriptorIndex := 38, attributes := #[] }])
  fields := #[{ name := "description", type := (.object "java/lang/String"), accessFlags := 18, slot := 0, constantValue := 0 }, { name := "space", type := (.object "com/example/tuneless/tuneless/space/BitStringSpace"), accessFlags := 18, slot := 1, constantValue := 0 }, { name := "direction", type := (.object "com/example/tuneless/tuneless/space/Direction"), accessFlags := 18, slot := 2, constantValue := 0 }, { name := "optimum", type := (.object "java/util/OptionalDouble"), accessFlags := 18, slot := 3, constantValue := 0 }]
  methods := #[k3m0, k3m1]
  instanceTypes := #[(.object "java/lang/String"), (.object "com/example/tuneless/tuneless/space/BitStringSpace"), (.object "com/example/tuneless/tuneless/space/Direction"), (.object "java/util/OptionalDouble")]
  staticTypes := #[]
  resolved := Array.replicate 55 none
  statics := none }

def pool4 : Array CpInfo := pool [(1, .class_ 2), (0, u "java/lang/StringBuilder"), (0, .methodref 1 4), (0, .nameAndType 5 6), (0, u "<init>"), (0, u "()V"), (0, .string 8), (0, u "onemax length="), (0, .methodref 1 10), (0, .nameAndType 11 12), (0, u "append"), (0, u "(Ljava/lang/String;)Ljava/lang/StringBuilder;"), (0, .methodref 1 14), (0, .nameAndType 11 15), (0, u "(I)Ljava/lang/StringBuilder;"), (0, .methodref 1 17), (0, .nameAndType 18 19), (0, u "toString"), (0, u "()Ljava/lang/String;"), (0, .fieldref 21 22), (0, .class_ 23), (0, .nameAndType 24 25), (0, u "com/example/tuneless/tuneless/space/Direction"), (0, u "MAXIMIZE"), (0, u "Lcom/example/tuneless/tuneless/space/Direction;"), (0, .methodref 27 28), (0, .class_ 29), (0, .nameAndType 5 30), (0, u "com/example/tuneless/tuneless/problem/Landscape"), (0, u "(Ljava/lang/String;ILcom/example/tuneless/tuneless/space/Direction;D)V"), (3, .class_ 36), (1, u "com/example/tuneless/tuneless/problem/OneMax"), (0, u "evaluate"), (0, u "([Z)D"), (0, u "(I)V")] 7

def k4c0 : Code := { maxStack := 6, maxLocals := 2, code := prog_62_method_1_code, exceptionTable := #[], attributes := #[] }
def k4m0 : Method := { name := "<init>", desc := "(I)V", sig := { parameters := [.int], returnType := none }, accessFlags := 1, code := some k4c0 }
def k4c1 : Code := { maxStack := 2, maxLocals := 7, code := prog_62_method_2_code, exceptionTable := #[], attributes := #[] }
def k4m1 : Method := { name := "evaluate", desc := "([Z)D", sig := { parameters := [(.array .boolean)], returnType := some .double }, accessFlags := 1, code := some k4c1 }
/-- com/example/tuneless/tuneless/problem/OneMax -/
def k4 : Class := { plain "com/example/tuneless/tuneless/problem/OneMax" (some 3) with
  accessFlags := 49
  interfaces := #[]
  cf := some (fileOf pool4 34 #[] #[{ accessFlags := 1, nameIndex := 5, descriptorIndex := 39, attributes := #[] }, { accessFlags := 1, nameIndex := 37, descriptorIndex := 38, attributes := #[] }] 49 27 #[] #[])
  fields := #[]
  methods := #[k4m0, k4m1]
  instanceTypes := #[(.object "java/lang/String"), (.object "com/example/tuneless/tuneless/space/BitStringSpace"), (.object "com/example/tuneless/tuneless/space/Direction"), (.object "java/util/OptionalDouble")]
  staticTypes := #[]
  resolved := Array.replicate 47 none
  statics := none }

def pool5 : Array CpInfo := pool [(1, .class_ 2), (0, u "java/lang/Appendable"), (0, .class_ 4), (0, u "java/lang/Object")] 9

/-- java/lang/Appendable -/
def k5 : Class := { plain "java/lang/Appendable" (some 0) with
  accessFlags := 1537
  interfaces := #[]
  cf := some (fileOf pool5 1 #[] #[] 1537 3 #[] #[])
  fields := #[]
  methods := #[]
  instanceTypes := #[]
  staticTypes := #[]
  resolved := Array.replicate 14 none
  statics := none }

def pool6 : Array CpInfo := pool [(2, .class_ 4), (1, u "java/lang/CharSequence"), (42, .class_ 48), (0, u "java/lang/CharSequence$1CodePointIterator"), (10, .class_ 60), (0, u "java/lang/CharSequence$1CharIterator"), (5, .class_ 67), (0, u "java/lang/Object")] 63

/-- java/lang/CharSequence -/
def k6 : Class := { plain "java/lang/CharSequence" (some 0) with
  accessFlags := 1537
  interfaces := #[]
  cf := some (fileOf pool6 2 #[.nestMembers #[47, 59]] #[] 1537 66 #[] #[])
  fields := #[]
  methods := #[]
  instanceTypes := #[]
  staticTypes := #[]
  resolved := Array.replicate 131 none
  statics := none }

def pool7 : Array CpInfo := pool [(1, .class_ 2), (0, u "java/lang/String"), (0, .methodref 4 5), (0, .class_ 6), (0, .nameAndType 7 8), (0, u "java/lang/Object"), (0, u "<init>"), (0, u "()V"), (1, .class_ 12), (1, u "java/lang/AbstractStringBuilder"), (0, u "EMPTYVALUE"), (0, u "[B"), (0, .fieldref 10 16), (0, .nameAndType 17 14), (0, u "value"), (0, .fieldref 1 19), (0, .nameAndType 20 21), (0, u "COMPACT_STRINGS"), (0, u "Z"), (0, .fieldref 10 23), (0, .nameAndType 24 25), (0, u "coder"), (0, u "B"), (6, .methodref 1 33), (0, .nameAndType 34 35), (0, u "length"), (0, u "()I"), (0, .class_ 37), (0, u "java/lang/Integer"), (2, .methodref 1 41), (0, .nameAndType 24 42), (0, u "()B"), (2, u "append"), (0, u "(Ljava/lang/String;)Ljava/lang/AbstractStringBuilder;"), (1, .class_ 49), (0, u "java/lang/CharSequence"), (19, u "(Ljava/lang/String;)V"), (5, u "maybeLatin1"), (3, .fieldref 10 80), (0, .nameAndType 81 82), (0, u "count"), (0, u "I"), (0, .methodref 10 84), (0, .nameAndType 85 86), (0, u "isLatin1"), (0, u "()Z"), (13, .methodref 10 101), (0, .nameAndType 102 103), (0, u "ensureCapacityInternal"), (0, u "(I)V"), (3, u "(I)I"), (80, u "getChars"), (19, .methodref 10 209), (0, .nameAndType 210 211), (0, u "putStringAt"), (0, u "(ILjava/lang/String;)V"), (5, u "inflateIfNeededFor"), (2, .nameAndType 221 222), (0, u "getBytes"), (0, u "([BIB)V"), (22, .methodref 36 246), (0, .nameAndType 247 107), (0, u "stringSize"), (0, .methodref 36 249), (0, .nameAndType 188 250), (0, u "(II[B)I"), (146, .methodref 10 398), (0, .nameAndType 217 69), (0, .methodref 1 220), (3, u "()[B"), (40, .class_ 445), (0, u "java/lang/Appendable"), (65, u "(I)Ljava/lang/AbstractStringBuilder;"), (40, u "getValue")] 56

def k7m0 : Method := { name := "<init>", desc := "()V", sig := { parameters := [], returnType := none }, accessFlags := 0, code := none }
def k7c1 : Code := { maxStack := 2, maxLocals := 2, code := jdk_68_method_2_code, exceptionTable := #[], attributes := #[] }
def k7m1 : Method := { name := "<init>", desc := "(I)V", sig := { parameters := [.int], returnType := none }, accessFlags := 0, code := some k7c1 }
def k7c2 : Code := { maxStack := 1, maxLocals := 1, code := jdk_68_method_6_code, exceptionTable := #[], attributes := #[] }
def k7m2 : Method := { name := "length", desc := "()I", sig := { parameters := [], returnType := some .int }, accessFlags := 1, code := some k7c2 }
def k7c3 : Code := { maxStack := 4, maxLocals := 3, code := jdk_68_method_9_code, exceptionTable := #[], attributes := #[] }
def k7m3 : Method := { name := "ensureCapacityInternal", desc := "(I)V", sig := { parameters := [.int], returnType := none }, accessFlags := 2, code := some k7c3 }
def k7c4 : Code := { maxStack := 3, maxLocals := 3, code := jdk_68_method_22_code, exceptionTable := #[], attributes := #[] }
def k7m4 : Method := { name := "append", desc := "(Ljava/lang/String;)Ljava/lang/AbstractStringBuilder;", sig := { parameters := [(.object "java/lang/String")], returnType := some (.object "java/lang/AbstractStringBuilder") }, accessFlags := 1, code := some k7c4 }
def k7c5 : Code := { maxStack := 4, maxLocals := 4, code := jdk_68_method_32_code, exceptionTable := #[], attributes := #[] }
def k7m5 : Method := { name := "append", desc := "(I)Ljava/lang/AbstractStringBuilder;", sig := { parameters := [.int], returnType := some (.object "java/lang/AbstractStringBuilder") }, accessFlags := 1, code := some k7c5 }
def k7c6 : Code := { maxStack := 1, maxLocals := 1, code := jdk_68_method_64_code, exceptionTable := #[], attributes := #[] }
def k7m6 : Method := { name := "getValue", desc := "()[B", sig := { parameters := [], returnType := some (.array .byte) }, accessFlags := 16, code := some k7c6 }
def k7c7 : Code := { maxStack := 1, maxLocals := 1, code := jdk_68_method_68_code, exceptionTable := #[], attributes := #[] }
def k7m7 : Method := { name := "isLatin1", desc := "()Z", sig := { parameters := [], returnType := some .boolean }, accessFlags := 16, code := some k7c7 }
def k7c8 : Code := { maxStack := 2, maxLocals := 2, code := jdk_68_method_71_code, exceptionTable := #[], attributes := #[] }
def k7m8 : Method := { name := "inflateIfNeededFor", desc := "(Ljava/lang/String;)V", sig := { parameters := [(.object "java/lang/String")], returnType := none }, accessFlags := 2, code := some k7c8 }
def k7c9 : Code := { maxStack := 4, maxLocals := 3, code := jdk_68_method_73_code, exceptionTable := #[], attributes := #[] }
def k7m9 : Method := { name := "putStringAt", desc := "(ILjava/lang/String;)V", sig := { parameters := [.int, (.object "java/lang/String")], returnType := none }, accessFlags := 2, code := some k7c9 }
/-- java/lang/AbstractStringBuilder -/
def k7 : Class := { plain "java/lang/AbstractStringBuilder" (some 0) with
  accessFlags := 1056
  interfaces := #[5, 6]
  cf := some (fileOf pool7 10 #[] #[{ accessFlags := 0, nameIndex := 7, descriptorIndex := 8, attributes := #[] }, { accessFlags := 0, nameIndex := 7, descriptorIndex := 103, attributes := #[] }, { accessFlags := 1, nameIndex := 34, descriptorIndex := 35, attributes := #[] }, { accessFlags := 2, nameIndex := 102, descriptorIndex := 103, attributes := #[] }, { accessFlags := 1, nameIndex := 45, descriptorIndex := 46, attributes := #[] }, { accessFlags := 1, nameIndex := 45, descriptorIndex := 511, attributes := #[] }, { accessFlags := 16, nameIndex := 552, descriptorIndex := 403, attributes := #[] }, { accessFlags := 16, nameIndex := 85, descriptorIndex := 86, attributes := #[] }, { accessFlags := 2, nameIndex := 217, descriptorIndex := 69, attributes := #[] }, { accessFlags := 2, nameIndex := 210, descriptorIndex := 211, attributes := #[] }] 1056 4 #[444, 48] #[{ accessFlags := 0, nameIndex := 17, descriptorIndex := 14, attributes := #[] }, { accessFlags := 0, nameIndex := 24, descriptorIndex := 25, attributes := #[] }, { accessFlags := 0, nameIndex := 75, descriptorIndex := 21, attributes := #[] }, { accessFlags := 0, nameIndex := 81, descriptorIndex := 82, attributes := #[] }, { accessFlags := 26, nameIndex := 13, descriptorIndex := 14, attributes := #[] }])
  fields := #[{ name := "value", type := (.array .byte), accessFlags := 0, slot := 0, constantValue := 0 }, { name := "coder", type := .byte, accessFlags := 0, slot := 1, constantValue := 0 }, { name := "maybeLatin1", type := .boolean, accessFlags := 0, slot := 2, constantValue := 0 }, { name := "count", type := .int, accessFlags := 0, slot := 3, constantValue := 0 }, { name := "EMPTYVALUE", type := (.array .byte), accessFlags := 26, slot := 0, constantValue := 0 }]
  methods := #[k7m0, k7m1, k7m2, k7m3, k7m4, k7m5, k7m6, k7m7, k7m8, k7m9]
  instanceTypes := #[(.array .byte), .byte, .boolean, .int]
  staticTypes := #[(.array .byte)]
  resolved := Array.replicate 609 none
  statics := none }

def pool8 : Array CpInfo := pool [(1, .class_ 2), (0, u "java/io/Serializable"), (0, .class_ 4), (0, u "java/lang/Object")] 2

/-- java/io/Serializable -/
def k8 : Class := { plain "java/io/Serializable" (some 0) with
  accessFlags := 1537
  interfaces := #[]
  cf := some (fileOf pool8 1 #[] #[] 1537 3 #[] #[])
  fields := #[]
  methods := #[]
  instanceTypes := #[]
  staticTypes := #[]
  resolved := Array.replicate 7 none
  statics := none }

def pool9 : Array CpInfo := pool [(1, .class_ 2), (0, u "java/lang/Comparable"), (0, .class_ 4), (0, u "java/lang/Object")] 7

/-- java/lang/Comparable -/
def k9 : Class := { plain "java/lang/Comparable" (some 0) with
  accessFlags := 1537
  interfaces := #[]
  cf := some (fileOf pool9 1 #[] #[] 1537 3 #[] #[])
  fields := #[]
  methods := #[]
  instanceTypes := #[]
  staticTypes := #[]
  resolved := Array.replicate 12 none
  statics := none }

def pool10 : Array CpInfo := pool [(1, .methodref 2 3), (0, .class_ 4), (0, .nameAndType 5 6), (0, u "java/lang/AbstractStringBuilder"), (0, u "<init>"), (0, u "(I)V"), (11, .class_ 20), (1, u "java/lang/String"), (3, .class_ 26), (1, u "java/lang/StringBuilder"), (0, u "append"), (0, u "(Ljava/lang/String;)Ljava/lang/StringBuilder;"), (0, .methodref 2 30), (0, .nameAndType 27 31), (0, u "(Ljava/lang/String;)Ljava/lang/AbstractStringBuilder;"), (21, .methodref 2 54), (0, .nameAndType 27 55), (0, u "(I)Ljava/lang/AbstractStringBuilder;"), (81, .methodref 18 138), (0, .nameAndType 5 139), (0, u "(Ljava/lang/StringBuilder;)V"), (5, u "()V"), (10, u "()I"), (111, u "(I)Ljava/lang/StringBuilder;"), (74, .methodref 2 344), (0, .nameAndType 345 156), (0, u "length"), (3, .class_ 350), (0, u "java/lang/Appendable"), (0, .class_ 352), (0, u "java/io/Serializable"), (0, .class_ 354), (0, u "java/lang/Comparable"), (0, .class_ 356), (0, u "java/lang/CharSequence"), (0, u "serialVersionUID"), (0, u "J"), (40, u "toString"), (0, u "()Ljava/lang/String;")] 21

def k10c0 : Code := { maxStack := 2, maxLocals := 1, code := jdk_67_method_1_code, exceptionTable := #[], attributes := #[] }
def k10m0 : Method := { name := "<init>", desc := "()V", sig := { parameters := [], returnType := none }, accessFlags := 1, code := some k10c0 }
def k10c1 : Code := { maxStack := 2, maxLocals := 2, code := jdk_67_method_7_code, exceptionTable := #[], attributes := #[] }
def k10m1 : Method := { name := "append", desc := "(Ljava/lang/String;)Ljava/lang/StringBuilder;", sig := { parameters := [(.object "java/lang/String")], returnType := some (.object "java/lang/StringBuilder") }, accessFlags := 1, code := some k10c1 }
def k10c2 : Code := { maxStack := 2, maxLocals := 2, code := jdk_67_method_15_code, exceptionTable := #[], attributes := #[] }
def k10m2 : Method := { name := "append", desc := "(I)Ljava/lang/StringBuilder;", sig := { parameters := [.int], returnType := some (.object "java/lang/StringBuilder") }, accessFlags := 1, code := some k10c2 }
def k10c3 : Code := { maxStack := 3, maxLocals := 1, code := jdk_67_method_42_code, exceptionTable := #[], attributes := #[] }
def k10m3 : Method := { name := "toString", desc := "()Ljava/lang/String;", sig := { parameters := [], returnType := some (.object "java/lang/String") }, accessFlags := 1, code := some k10c3 }
def k10c4 : Code := { maxStack := 1, maxLocals := 1, code := jdk_67_method_93_code, exceptionTable := #[], attributes := #[] }
def k10m4 : Method := { name := "length", desc := "()I", sig := { parameters := [], returnType := some .int }, accessFlags := 4161, code := some k10c4 }
/-- java/lang/StringBuilder -/
def k10 : Class := { plain "java/lang/StringBuilder" (some 7) with
  accessFlags := 49
  interfaces := #[5, 8, 9, 6]
  cf := some (fileOf pool10 24 #[] #[{ accessFlags := 1, nameIndex := 5, descriptorIndex := 145, attributes := #[] }, { accessFlags := 1, nameIndex := 27, descriptorIndex := 28, attributes := #[] }, { accessFlags := 1, nameIndex := 27, descriptorIndex := 268, attributes := #[] }, { accessFlags := 1, nameIndex := 399, descriptorIndex := 400, attributes := #[] }, { accessFlags := 4161, nameIndex := 345, descriptorIndex := 156, attributes := #[] }] 49 2 #[349, 351, 353, 355] #[{ accessFlags := 24, nameIndex := 357, descriptorIndex := 358, attributes := #[] }])
  fields := #[{ name := "serialVersionUID", type := .long, accessFlags := 24, slot := 0, constantValue := 0 }]
  methods := #[k10m0, k10m1, k10m2, k10m3, k10m4]
  instanceTypes := #[(.array .byte), .byte, .boolean, .int]
  staticTypes := #[.long]
  resolved := Array.replicate 422 none
  statics := none }

def pool11 : Array CpInfo := pool [(1, .class_ 2), (0, u "java/lang/constant/Constable"), (0, .class_ 4), (0, u "java/lang/Object")] 6

/-- java/lang/constant/Constable -/
def k11 : Class := { plain "java/lang/constant/Constable" (some 0) with
  accessFlags := 1537
  interfaces := #[]
  cf := some (fileOf pool11 1 #[] #[] 1537 3 #[] #[])
  fields := #[]
  methods := #[]
  instanceTypes := #[]
  staticTypes := #[]
  resolved := Array.replicate 11 none
  statics := none }

def pool12 : Array CpInfo := pool [(1, .class_ 2), (0, u "java/lang/constant/ConstantDesc"), (0, .class_ 4), (0, u "java/lang/Object")] 32

/-- java/lang/constant/ConstantDesc -/
def k12 : Class := { plain "java/lang/constant/ConstantDesc" (some 0) with
  accessFlags := 1537
  interfaces := #[]
  cf := some (fileOf pool12 1 #[] #[] 1537 3 #[] #[])
  fields := #[]
  methods := #[]
  instanceTypes := #[]
  staticTypes := #[]
  resolved := Array.replicate 37 none
  statics := none }

def pool13 : Array CpInfo := pool [(1, .methodref 2 3), (0, .class_ 4), (0, .nameAndType 5 6), (0, u "java/lang/Object"), (0, u "<init>"), (0, u "()V"), (2, .fieldref 10 11), (0, .class_ 12), (0, .nameAndType 13 14), (0, u "java/lang/String"), (0, u "value"), (0, u "[B"), (0, .fieldref 10 16), (0, .nameAndType 17 18), (0, u "coder"), (0, u "B"), (2, u "hash"), (0, u "I"), (2, u "hashIsZero"), (0, u "Z"), (11, .fieldref 10 39), (0, .nameAndType 40 26), (0, u "COMPACT_STRINGS"), (13, .methodref 55 56), (0, .class_ 57), (0, .nameAndType 58 59), (0, u "java/util/Arrays"), (0, u "copyOfRange"), (0, u "([BII)[B"), (82, u "()Z"), (50, .class_ 195), (1, u "java/lang/System"), (16, .methodref 193 213), (0, .nameAndType 214 215), (0, u "arraycopy"), (0, u "(Ljava/lang/Object;ILjava/lang/Object;II)V"), (118, u "()I"), (0, .methodref 10 336), (0, .nameAndType 17 337), (0, u "()B"), (2, u "()[B"), (148, .methodref 10 490), (0, .nameAndType 5 491), (0, u "(Ljava/lang/AbstractStringBuilder;Ljava/lang/Void;)V"), (1, .nameAndType 494 142), (0, u "isLatin1"), (11, .nameAndType 507 334), (0, u "length"), (24, u "getBytes"), (16, .methodref 550 506), (0, .class_ 551), (0, u "java/lang/AbstractStringBuilder"), (0, .methodref 550 553), (0, .nameAndType 554 340), (0, u "getValue"), (20, .class_ 576), (0, u "java/lang/CharSequence"), (22, u "CASE_INSENSITIVE_ORDER"), (0, u "Ljava/util/Comparator;"), (220, u "([BIB)V"), (225, .methodref 550 493), (53, u "serialPersistentFields"), (0, u "[Ljava/io/ObjectStreamField;"), (0, .class_ 1104), (0, u "java/lang/String$CaseInsensitiveComparator"), (1, .class_ 1107), (0, u "java/io/Serializable"), (0, .class_ 1109), (0, u "java/lang/Comparable"), (0, .class_ 1111), (0, u "java/lang/constant/Constable"), (0, .class_ 1113), (0, u "java/lang/constant/ConstantDesc"), (2, u "serialVersionUID"), (0, u "J"), (3, u "REPL"), (0, u "C"), (2, u "LATIN1"), (1, u "UTF16"), (105, u "(Ljava/lang/StringBuilder;)V")] 217

def k13m0 : Method := { name := "<init>", desc := "()V", sig := { parameters := [], returnType := none }, accessFlags := 1, code := none }
def k13c1 : Code := { maxStack := 3, maxLocals := 2, code := jdk_42_method_53_code, exceptionTable := #[], attributes := #[] }
def k13m1 : Method := { name := "<init>", desc := "(Ljava/lang/StringBuilder;)V", sig := { parameters := [(.object "java/lang/StringBuilder")], returnType := none }, accessFlags := 1, code := some k13c1 }
def k13c2 : Code := { maxStack := 2, maxLocals := 1, code := jdk_42_method_54_code, exceptionTable := #[], attributes := #[] }
def k13m2 : Method := { name := "length", desc := "()I", sig := { parameters := [], returnType := some .int }, accessFlags := 1, code := some k13c2 }
def k13c3 : Code := { maxStack := 5, maxLocals := 4, code := jdk_42_method_147_code, exceptionTable := #[], attributes := #[] }
def k13m3 : Method := { name := "getBytes", desc := "([BIB)V", sig := { parameters := [(.array .byte), .int, .byte], returnType := none }, accessFlags := 0, code := some k13c3 }
def k13c4 : Code := { maxStack := 5, maxLocals := 5, code := jdk_42_method_150_code, exceptionTable := #[], attributes := #[] }
def k13m4 : Method := { name := "<init>", desc := "(Ljava/lang/AbstractStringBuilder;Ljava/lang/Void;)V", sig := { parameters := [(.object "java/lang/AbstractStringBuilder"), (.object "java/lang/Void")], returnType := none }, accessFlags := 0, code := some k13c4 }
def k13c5 : Code := { maxStack := 1, maxLocals := 1, code := jdk_42_method_152_code, exceptionTable := #[], attributes := #[] }
def k13m5 : Method := { name := "coder", desc := "()B", sig := { parameters := [], returnType := some .byte }, accessFlags := 0, code := some k13c5 }
/-- java/lang/String -/
def k13 : Class := { plain "java/lang/String" (some 0) with
  accessFlags := 49
  interfaces := #[8, 9, 6, 11, 12]
  cf := some (fileOf pool13 10 #[.nestMembers #[1103]] #[{ accessFlags := 1, nameIndex := 5, descriptorIndex := 6, attributes := #[] }, { accessFlags := 1, nameIndex := 5, descriptorIndex := 1233, attributes := #[] }, { accessFlags := 1, nameIndex := 507, descriptorIndex := 334, attributes := #[] }, { accessFlags := 0, nameIndex := 532, descriptorIndex := 821, attributes := #[] }, { accessFlags := 0, nameIndex := 5, descriptorIndex := 491, attributes := #[] }, { accessFlags := 0, nameIndex := 17, descriptorIndex := 337, attributes := #[] }] 49 2 #[1106, 1108, 575, 1110, 1112] #[{ accessFlags := 18, nameIndex := 13, descriptorIndex := 14, attributes := #[] }, { accessFlags := 18, nameIndex := 17, descriptorIndex := 18, attributes := #[] }, { accessFlags := 2, nameIndex := 21, descriptorIndex := 22, attributes := #[] }, { accessFlags := 2, nameIndex := 25, descriptorIndex := 26, attributes := #[] }, { accessFlags := 26, nameIndex := 1116, descriptorIndex := 1117, attributes := #[] }, { accessFlags := 24, nameIndex := 40, descriptorIndex := 26, attributes := #[] }, { accessFlags := 26, nameIndex := 1101, descriptorIndex := 1102, attributes := #[] }, { accessFlags := 26, nameIndex := 1121, descriptorIndex := 1122, attributes := #[] }, { accessFlags := 25, nameIndex := 599, descriptorIndex := 600, attributes := #[] }, { accessFlags := 24, nameIndex := 1125, descriptorIndex := 18, attributes := #[] }, { accessFlags := 24, nameIndex := 1127, descriptorIndex := 18, attributes := #[] }])
  fields := #[{ name := "value", type := (.array .byte), accessFlags := 18, slot := 0, constantValue := 0 }, { name := "coder", type := .byte, accessFlags := 18, slot := 1, constantValue := 0 }, { name := "hash", type := .int, accessFlags := 2, slot := 2, constantValue := 0 }, { name := "hashIsZero", type := .boolean, accessFlags := 2, slot := 3, constantValue := 0 }, { name := "serialVersionUID", type := .long, accessFlags := 26, slot := 0, constantValue := 0 }, { name := "COMPACT_STRINGS", type := .boolean, accessFlags := 24, slot := 1, constantValue := 0 }, { name := "serialPersistentFields", type := (.array (.object "java/io/ObjectStreamField")), accessFlags := 26, slot := 2, constantValue := 0 }, { name := "REPL", type := .char, accessFlags := 26, slot := 3, constantValue := 0 }, { name := "CASE_INSENSITIVE_ORDER", type := (.object "java/util/Comparator"), accessFlags := 25, slot := 4, constantValue := 0 }, { name := "LATIN1", type := .byte, accessFlags := 24, slot := 5, constantValue := 0 }, { name := "UTF16", type := .byte, accessFlags := 24, slot := 6, constantValue := 0 }]
  methods := #[k13m0, k13m1, k13m2, k13m3, k13m4, k13m5]
  instanceTypes := #[(.array .byte), .byte, .int, .boolean]
  staticTypes := #[.long, .boolean, (.array (.object "java/io/ObjectStreamField")), .char, (.object "java/util/Comparator"), .byte, .byte]
  resolved := Array.replicate 1451 none
  statics := some 0 }

def pool14 : Array CpInfo := pool [(2, .class_ 4), (1, u "java/lang/Object"), (0, u "<init>"), (0, u "()V"), (1, .class_ 10), (1, u "java/lang/System"), (0, u "allowSecurityManager"), (0, u "I"), (16, u "cons"), (0, u "Ljava/io/Console;"), (77, .class_ 110), (1, u "java/lang/System$CallersHolder"), (43, u "initialErrStream"), (0, u "Ljava/io/PrintStream;"), (19, u "security"), (0, u "Ljava/lang/SecurityManager;"), (31, .class_ 209), (0, u "java/lang/System$1"), (7, u "props"), (0, u "Ljava/util/Properties;"), (2, u "lineSeparator"), (0, u "Ljava/lang/String;"), (96, .class_ 321), (1, u "java/lang/System$LoggerFinder"), (5, .class_ 328), (0, u "java/lang/System$Logger"), (67, u "err"), (2, u "out"), (91, u "notSupportedJnuEncoding"), (15, u "in"), (17, u "initialIn"), (0, u "Ljava/io/InputStream;"), (35, u "bootLayer"), (0, u "Ljava/lang/ModuleLayer;"), (99, .class_ 664), (0, u "java/lang/System$2"), (9, u "NEVER"), (2, u "MAYBE"), (49, u "arraycopy"), (0, u "(Ljava/lang/Object;ILjava/lang/Object;II)V"), (72, .class_ 802), (0, u "java/lang/System$Logger$Level")] 31

def k14m0 : Method := { name := "<init>", desc := "()V", sig := { parameters := [], returnType := none }, accessFlags := 2, code := none }
def k14m1 : Method := { name := "arraycopy", desc := "(Ljava/lang/Object;ILjava/lang/Object;II)V", sig := { parameters := [(.object "java/lang/Object"), .int, (.object "java/lang/Object"), .int, .int], returnType := none }, accessFlags := 265, code := none }
/-- java/lang/System -/
def k14 : Class := { plain "java/lang/System" (some 0) with
  accessFlags := 49
  interfaces := #[]
  cf := some (fileOf pool14 8 #[.nestMembers #[319, 327, 801, 108, 663, 208]] #[{ accessFlags := 2, nameIndex := 5, descriptorIndex := 6, attributes := #[] }, { accessFlags := 265, nameIndex := 727, descriptorIndex := 728, attributes := #[] }] 49 2 #[] #[{ accessFlags := 25, nameIndex := 507, descriptorIndex := 526, attributes := #[] }, { accessFlags := 25, nameIndex := 399, descriptorIndex := 155, attributes := #[] }, { accessFlags := 25, nameIndex := 396, descriptorIndex := 155, attributes := #[] }, { accessFlags := 10, nameIndex := 525, descriptorIndex := 526, attributes := #[] }, { accessFlags := 26, nameIndex := 674, descriptorIndex := 12, attributes := #[] }, { accessFlags := 26, nameIndex := 677, descriptorIndex := 12, attributes := #[] }, { accessFlags := 10, nameIndex := 11, descriptorIndex := 12, attributes := #[] }, { accessFlags := 74, nameIndex := 175, descriptorIndex := 176, attributes := #[] }, { accessFlags := 10, nameIndex := 491, descriptorIndex := 222, attributes := #[] }, { accessFlags := 74, nameIndex := 29, descriptorIndex := 30, attributes := #[] }, { accessFlags := 74, nameIndex := 154, descriptorIndex := 155, attributes := #[] }, { accessFlags := 10, nameIndex := 217, descriptorIndex := 218, attributes := #[] }, { accessFlags := 10, nameIndex := 221, descriptorIndex := 222, attributes := #[] }, { accessFlags := 8, nameIndex := 562, descriptorIndex := 563, attributes := #[] }])
  fields := #[{ name := "in", type := (.object "java/io/InputStream"), accessFlags := 25, slot := 0, constantValue := 0 }, { name := "out", type := (.object "java/io/PrintStream"), accessFlags := 25, slot := 1, constantValue := 0 }, { name := "err", type := (.object "java/io/PrintStream"), accessFlags := 25, slot := 2, constantValue := 0 }, { name := "initialIn", type := (.object "java/io/InputStream"), accessFlags := 10, slot := 3, constantValue := 0 }, { name := "NEVER", type := .int, accessFlags := 26, slot := 4, constantValue := 0 }, { name := "MAYBE", type := .int, accessFlags := 26, slot := 5, constantValue := 0 }, { name := "allowSecurityManager", type := .int, accessFlags := 10, slot := 6, constantValue := 0 }, { name := "security", type := (.object "java/lang/SecurityManager"), accessFlags := 74, slot := 7, constantValue := 0 }, { name := "notSupportedJnuEncoding", type := (.object "java/lang/String"), accessFlags := 10, slot := 8, constantValue := 0 }, { name := "cons", type := (.object "java/io/Console"), accessFlags := 74, slot := 9, constantValue := 0 }, { name := "initialErrStream", type := (.object "java/io/PrintStream"), accessFlags := 74, slot := 10, constantValue := 0 }, { name := "props", type := (.object "java/util/Properties"), accessFlags := 10, slot := 11, constantValue := 0 }, { name := "lineSeparator", type := (.object "java/lang/String"), accessFlags := 10, slot := 12, constantValue := 0 }, { name := "bootLayer", type := (.object "java/lang/ModuleLayer"), accessFlags := 8, slot := 13, constantValue := 0 }]
  methods := #[k14m0, k14m1]
  instanceTypes := #[]
  staticTypes := #[(.object "java/io/InputStream"), (.object "java/io/PrintStream"), (.object "java/io/PrintStream"), (.object "java/io/InputStream"), .int, .int, .int, (.object "java/lang/SecurityManager"), (.object "java/lang/String"), (.object "java/io/Console"), (.object "java/io/PrintStream"), (.object "java/util/Properties"), (.object "java/lang/String"), (.object "java/lang/ModuleLayer")]
  resolved := Array.replicate 834 none
  statics := none }

def pool15 : Array CpInfo := pool [(2, .class_ 4), (1, u "java/lang/Object"), (0, u "<init>"), (0, u "()V"), (1, .class_ 10), (1, u "java/lang/Number"), (2, .class_ 14), (0, u "java/io/Serializable"), (0, u "serialVersionUID"), (0, u "J")] 20

def k15m0 : Method := { name := "<init>", desc := "()V", sig := { parameters := [], returnType := none }, accessFlags := 1, code := none }
/-- java/lang/Number -/
def k15 : Class := { plain "java/lang/Number" (some 0) with
  accessFlags := 1057
  interfaces := #[8]
  cf := some (fileOf pool15 8 #[] #[{ accessFlags := 1, nameIndex := 5, descriptorIndex := 6, attributes := #[] }] 1057 2 #[13] #[{ accessFlags := 26, nameIndex := 15, descriptorIndex := 16, attributes := #[] }])
  fields := #[{ name := "serialVersionUID", type := .long, accessFlags := 26, slot := 0, constantValue := 0 }]
  methods := #[k15m0]
  instanceTypes := #[]
  staticTypes := #[.long]
  resolved := Array.replicate 37 none
  statics := none }

def pool16 : Array CpInfo := pool [(1, .class_ 2), (0, u "java/lang/Integer"), (16, u "digits"), (0, u "[C"), (33, u "(I)I"), (19, u "stringSize"), (2, u "getChars"), (0, u "(II[B)I"), (4, .fieldref 1 84), (0, .nameAndType 85 86), (0, u "DigitOnes"), (0, u "[B"), (2, u "DigitTens"), (99, .class_ 190), (0, u "java/lang/Integer$IntegerCache"), (3, u "I"), (8, .class_ 204), (0, u "java/lang/Number"), (2, u "value"), (94, u "TYPE"), (0, u "Ljava/lang/Class;"), (0, .class_ 305), (0, u "java/lang/Comparable"), (0, .class_ 307), (0, u "java/lang/constant/Constable"), (0, .class_ 309), (0, u "java/lang/constant/ConstantDesc"), (0, u "MIN_VALUE"), (1, u "MAX_VALUE"), (3, u "SIZE"), (1, u "BYTES"), (1, u "serialVersionUID"), (0, u "J")] 131

def k16c0 : Code := { maxStack := 4, maxLocals := 7, code := jdk_33_method_12_code, exceptionTable := #[], attributes := #[] }
def k16m0 : Method := { name := "getChars", desc := "(II[B)I", sig := { parameters := [.int, .int, (.array .byte)], returnType := some .int }, accessFlags := 8, code := some k16c0 }
def k16c1 : Code := { maxStack := 2, maxLocals := 4, code := jdk_33_method_13_code, exceptionTable := #[], attributes := #[] }
def k16m1 : Method := { name := "stringSize", desc := "(I)I", sig := { parameters := [.int], returnType := some .int }, accessFlags := 8, code := some k16c1 }
/-- java/lang/Integer -/
def k16 : Class := { plain "java/lang/Integer" (some 15) with
  accessFlags := 49
  interfaces := #[9, 11, 12]
  cf := some (fileOf pool16 1 #[.nestMembers #[189]] #[{ accessFlags := 8, nameIndex := 77, descriptorIndex := 78, attributes := #[] }, { accessFlags := 8, nameIndex := 74, descriptorIndex := 54, attributes := #[] }] 49 203 #[304, 306, 308] #[{ accessFlags := 25, nameIndex := 310, descriptorIndex := 194, attributes := #[] }, { accessFlags := 25, nameIndex := 312, descriptorIndex := 194, attributes := #[] }, { accessFlags := 25, nameIndex := 302, descriptorIndex := 303, attributes := #[] }, { accessFlags := 24, nameIndex := 19, descriptorIndex := 20, attributes := #[] }, { accessFlags := 24, nameIndex := 89, descriptorIndex := 86, attributes := #[] }, { accessFlags := 24, nameIndex := 85, descriptorIndex := 86, attributes := #[] }, { accessFlags := 18, nameIndex := 207, descriptorIndex := 194, attributes := #[] }, { accessFlags := 25, nameIndex := 316, descriptorIndex := 194, attributes := #[] }, { accessFlags := 25, nameIndex := 318, descriptorIndex := 194, attributes := #[] }, { accessFlags := 26, nameIndex := 320, descriptorIndex := 321, attributes := #[] }])
  fields := #[{ name := "MIN_VALUE", type := .int, accessFlags := 25, slot := 0, constantValue := 0 }, { name := "MAX_VALUE", type := .int, accessFlags := 25, slot := 1, constantValue := 0 }, { name := "TYPE", type := (.object "java/lang/Class"), accessFlags := 25, slot := 2, constantValue := 0 }, { name := "digits", type := (.array .char), accessFlags := 24, slot := 3, constantValue := 0 }, { name := "DigitTens", type := (.array .byte), accessFlags := 24, slot := 4, constantValue := 0 }, { name := "DigitOnes", type := (.array .byte), accessFlags := 24, slot := 5, constantValue := 0 }, { name := "value", type := .int, accessFlags := 18, slot := 0, constantValue := 0 }, { name := "SIZE", type := .int, accessFlags := 25, slot := 6, constantValue := 0 }, { name := "BYTES", type := .int, accessFlags := 25, slot := 7, constantValue := 0 }, { name := "serialVersionUID", type := .long, accessFlags := 26, slot := 8, constantValue := 0 }]
  methods := #[k16m0, k16m1]
  instanceTypes := #[.int]
  staticTypes := #[.int, .int, (.object "java/lang/Class"), (.array .char), (.array .byte), (.array .byte), .int, .int, .long]
  resolved := Array.replicate 453 none
  statics := some 1 }

def pool17 : Array CpInfo := pool [(2, .class_ 4), (1, u "java/lang/Object"), (0, u "<init>"), (0, u "()V"), (7, .class_ 16), (1, u "java/util/Arrays"), (57, .class_ 76), (1, u "java/util/Arrays$NaturalOrder"), (36, .class_ 115), (1, u "java/util/Arrays$LegacyMergeSort"), (1, u "Z"), (21, u "copyOfRange"), (10, .methodref 151 152), (0, .class_ 153), (0, .nameAndType 154 155), (0, u "java/lang/System"), (0, u "arraycopy"), (0, u "(Ljava/lang/Object;ILjava/lang/Object;II)V"), (148, .methodref 305 306), (0, .class_ 307), (0, .nameAndType 308 309), (0, u "java/lang/Math"), (0, u "min"), (0, u "(II)I"), (29, .methodref 14 340), (0, .nameAndType 341 342), (0, u "copyOfRangeByte"), (0, u "([BII)[B"), (0, .methodref 14 344), (0, .nameAndType 345 346), (0, u "checkLength"), (0, u "(II)V"), (28, .class_ 376), (0, u "java/util/Arrays$ArrayList"), (68, u "$assertionsDisabled"), (269, u "MIN_ARRAY_SORT_GRAN"), (0, u "I"), (2, u "INSERTIONSORT_THRESHOLD"), (255, .class_ 976), (0, u "java/util/Arrays$ArrayItr")] 52

def k17m0 : Method := { name := "<init>", desc := "()V", sig := { parameters := [], returnType := none }, accessFlags := 2, code := none }
def k17c1 : Code := { maxStack := 4, maxLocals := 2, code := jdk_65_method_131_code, exceptionTable := #[], attributes := #[] }
def k17m1 : Method := { name := "checkLength", desc := "(II)V", sig := { parameters := [.int, .int], returnType := none }, accessFlags := 10, code := some k17c1 }
def k17c2 : Code := { maxStack := 3, maxLocals := 3, code := jdk_65_method_132_code, exceptionTable := #[], attributes := #[] }
def k17m2 : Method := { name := "copyOfRange", desc := "([BII)[B", sig := { parameters := [(.array .byte), .int, .int], returnType := some (.array .byte) }, accessFlags := 9, code := some k17c2 }
def k17c3 : Code := { maxStack := 6, maxLocals := 5, code := jdk_65_method_133_code, exceptionTable := #[], attributes := #[] }
def k17m3 : Method := { name := "copyOfRangeByte", desc := "([BII)[B", sig := { parameters := [(.array .byte), .int, .int], returnType := some (.array .byte) }, accessFlags := 10, code := some k17c3 }
/-- java/util/Arrays -/
def k17 : Class := { plain "java/util/Arrays" (some 0) with
  accessFlags := 49
  interfaces := #[]
  cf := some (fileOf pool17 14 #[.nestMembers #[975, 375, 113, 74]] #[{ accessFlags := 2, nameIndex := 5, descriptorIndex := 6, attributes := #[] }, { accessFlags := 10, nameIndex := 345, descriptorIndex := 346, attributes := #[] }, { accessFlags := 9, nameIndex := 139, descriptorIndex := 342, attributes := #[] }, { accessFlags := 10, nameIndex := 341, descriptorIndex := 342, attributes := #[] }] 49 2 #[] #[{ accessFlags := 26, nameIndex := 715, descriptorIndex := 716, attributes := #[] }, { accessFlags := 26, nameIndex := 719, descriptorIndex := 716, attributes := #[] }, { accessFlags := 4120, nameIndex := 445, descriptorIndex := 117, attributes := #[] }])
  fields := #[{ name := "MIN_ARRAY_SORT_GRAN", type := .int, accessFlags := 26, slot := 0, constantValue := 0 }, { name := "INSERTIONSORT_THRESHOLD", type := .int, accessFlags := 26, slot := 1, constantValue := 0 }, { name := "$assertionsDisabled", type := .boolean, accessFlags := 4120, slot := 2, constantValue := 0 }]
  methods := #[k17m0, k17m1, k17m2, k17m3]
  instanceTypes := #[]
  staticTypes := #[.int, .int, .boolean]
  resolved := Array.replicate 1029 none
  statics := none }

def pool18 : Array CpInfo := pool [(1, .class_ 2), (0, u "java/lang/Math"), (1, .class_ 6), (1, u "java/lang/Object"), (0, u "<init>"), (0, u "()V"), (89, .class_ 100), (1, u "java/lang/Math$RandomNumberGeneratorHolder"), (71, u "negativeZeroFloatBits"), (0, u "J"), (2, u "negativeZeroDoubleBits"), (24, u "min"), (43, u "$assertionsDisabled"), (0, u "Z"), (88, u "(II)I"), (2, u "twoToTheDoubleScaleDown"), (0, u "D"), (4, u "twoToTheDoubleScaleUp"), (9, u "E"), (3, u "PI"), (2, u "TAU"), (2, u "DEGREES_TO_RADIANS"), (0, u "RADIANS_TO_DEGREES")] 94

def k18m0 : Method := { name := "<init>", desc := "()V", sig := { parameters := [], returnType := none }, accessFlags := 2, code := none }
def k18c1 : Code := { maxStack := 2, maxLocals := 2, code := jdk_29_method_69_code, exceptionTable := #[], attributes := #[] }
def k18m1 : Method := { name := "min", desc := "(II)I", sig := { parameters := [.int, .int], returnType := some .int }, accessFlags := 9, code := some k18c1 }
/-- java/lang/Math -/
def k18 : Class := { plain "java/lang/Math" (some 0) with
  accessFlags := 49
  interfaces := #[]
  cf := some (fileOf pool18 1 #[.nestMembers #[98]] #[{ accessFlags := 2, nameIndex := 7, descriptorIndex := 8, attributes := #[] }, { accessFlags := 9, nameIndex := 201, descriptorIndex := 335, attributes := #[] }] 49 4 #[] #[{ accessFlags := 25, nameIndex := 354, descriptorIndex := 339, attributes := #[] }, { accessFlags := 25, nameIndex := 358, descriptorIndex := 339, attributes := #[] }, { accessFlags := 25, nameIndex := 361, descriptorIndex := 339, attributes := #[] }, { accessFlags := 26, nameIndex := 364, descriptorIndex := 339, attributes := #[] }, { accessFlags := 26, nameIndex := 365, descriptorIndex := 339, attributes := #[] }, { accessFlags := 26, nameIndex := 172, descriptorIndex := 173, attributes := #[] }, { accessFlags := 26, nameIndex := 176, descriptorIndex := 173, attributes := #[] }, { accessFlags := 8, nameIndex := 344, descriptorIndex := 339, attributes := #[] }, { accessFlags := 8, nameIndex := 338, descriptorIndex := 339, attributes := #[] }, { accessFlags := 4120, nameIndex := 245, descriptorIndex := 246, attributes := #[] }])
  fields := #[{ name := "E", type := .double, accessFlags := 25, slot := 0, constantValue := 0 }, { name := "PI", type := .double, accessFlags := 25, slot := 1, constantValue := 0 }, { name := "TAU", type := .double, accessFlags := 25, slot := 2, constantValue := 0 }, { name := "DEGREES_TO_RADIANS", type := .double, accessFlags := 26, slot := 3, constantValue := 0 }, { name := "RADIANS_TO_DEGREES", type := .double, accessFlags := 26, slot := 4, constantValue := 0 }, { name := "negativeZeroFloatBits", type := .long, accessFlags := 26, slot := 5, constantValue := 0 }, { name := "negativeZeroDoubleBits", type := .long, accessFlags := 26, slot := 6, constantValue := 0 }, { name := "twoToTheDoubleScaleUp", type := .double, accessFlags := 8, slot := 7, constantValue := 0 }, { name := "twoToTheDoubleScaleDown", type := .double, accessFlags := 8, slot := 8, constantValue := 0 }, { name := "$assertionsDisabled", type := .boolean, accessFlags := 4120, slot := 9, constantValue := 0 }]
  methods := #[k18m0, k18m1]
  instanceTypes := #[]
  staticTypes := #[.double, .double, .double, .double, .double, .long, .long, .double, .double, .boolean]
  resolved := Array.replicate 460 none
  statics := none }

def pool19 : Array CpInfo := pool [(2, .class_ 4), (1, u "java/lang/Enum"), (0, u "name"), (0, u "Ljava/lang/String;"), (2, u "ordinal"), (0, u "I"), (1, .class_ 14), (1, u "java/lang/Object"), (4, u "hash"), (86, .class_ 108), (1, u "java/lang/Enum$EnumDesc"), (2, .class_ 112), (0, u "java/lang/constant/Constable"), (0, .class_ 114), (0, u "java/lang/Comparable"), (0, .class_ 116), (0, u "java/io/Serializable")] 87

/-- java/lang/Enum -/
def k19 : Class := { plain "java/lang/Enum" (some 0) with
  accessFlags := 1057
  interfaces := #[11, 9, 8]
  cf := some (fileOf pool19 2 #[.nestMembers #[106]] #[] 1057 12 #[111, 113, 115] #[{ accessFlags := 18, nameIndex := 5, descriptorIndex := 6, attributes := #[] }, { accessFlags := 18, nameIndex := 9, descriptorIndex := 10, attributes := #[] }, { accessFlags := 2, nameIndex := 19, descriptorIndex := 10, attributes := #[] }])
  fields := #[{ name := "name", type := (.object "java/lang/String"), accessFlags := 18, slot := 0, constantValue := 0 }, { name := "ordinal", type := .int, accessFlags := 18, slot := 1, constantValue := 0 }, { name := "hash", type := .int, accessFlags := 2, slot := 2, constantValue := 0 }]
  methods := #[]
  instanceTypes := #[(.object "java/lang/String"), .int, .int]
  staticTypes := #[]
  resolved := Array.replicate 204 none
  statics := none }

def pool20 : Array CpInfo := pool [(1, .class_ 2), (0, u "com/example/tuneless/tuneless/space/Direction"), (2, u "MAXIMIZE"), (0, u "Lcom/example/tuneless/tuneless/space/Direction;"), (2, u "MINIMIZE"), (2, u "$VALUES"), (0, u "[Lcom/example/tuneless/tuneless/space/Direction;"), (6, .class_ 22), (1, u "java/lang/Enum"), (8, u "label"), (0, u "Ljava/lang/String;")] 36

/-- com/example/tuneless/tuneless/space/Direction -/
def k20 : Class := { plain "com/example/tuneless/tuneless/space/Direction" (some 19) with
  accessFlags := 16433
  interfaces := #[]
  cf := some (fileOf pool20 1 #[] #[] 16433 20 #[] #[{ accessFlags := 16409, nameIndex := 5, descriptorIndex := 6, attributes := #[] }, { accessFlags := 16409, nameIndex := 9, descriptorIndex := 6, attributes := #[] }, { accessFlags := 18, nameIndex := 31, descriptorIndex := 32, attributes := #[] }, { accessFlags := 4122, nameIndex := 12, descriptorIndex := 13, attributes := #[] }])
  fields := #[{ name := "MAXIMIZE", type := (.object "com/example/tuneless/tuneless/space/Direction"), accessFlags := 16409, slot := 0, constantValue := 0 }, { name := "MINIMIZE", type := (.object "com/example/tuneless/tuneless/space/Direction"), accessFlags := 16409, slot := 1, constantValue := 0 }, { name := "label", type := (.object "java/lang/String"), accessFlags := 18, slot := 3, constantValue := 0 }, { name := "$VALUES", type := (.array (.object "com/example/tuneless/tuneless/space/Direction")), accessFlags := 4122, slot := 2, constantValue := 0 }]
  methods := #[]
  instanceTypes := #[(.object "java/lang/String"), .int, .int, (.object "java/lang/String")]
  staticTypes := #[(.object "com/example/tuneless/tuneless/space/Direction"), (.object "com/example/tuneless/tuneless/space/Direction"), (.array (.object "com/example/tuneless/tuneless/space/Direction"))]
  resolved := Array.replicate 69 none
  statics := some 2 }

def pool21 : Array CpInfo := pool [(1, .methodref 2 3), (0, .class_ 4), (0, .nameAndType 5 6), (0, u "java/lang/Object"), (0, u "<init>"), (0, u "()V"), (0, .fieldref 8 9), (0, .class_ 10), (0, .nameAndType 11 12), (0, u "java/util/OptionalDouble"), (0, u "isPresent"), (0, u "Z"), (4, .fieldref 8 18), (0, .nameAndType 19 20), (0, u "value"), (0, u "D"), (2, u "EMPTY"), (0, u "Ljava/util/OptionalDouble;"), (0, .methodref 8 26), (0, .nameAndType 5 27), (0, u "(D)V"), (21, u "of"), (53, u "(D)Ljava/util/OptionalDouble;")] 40

def k21m0 : Method := { name := "<init>", desc := "()V", sig := { parameters := [], returnType := none }, accessFlags := 2, code := none }
def k21c1 : Code := { maxStack := 3, maxLocals := 3, code := jdk_2648_method_3_code, exceptionTable := #[], attributes := #[] }
def k21m1 : Method := { name := "<init>", desc := "(D)V", sig := { parameters := [.double], returnType := none }, accessFlags := 2, code := some k21c1 }
def k21c2 : Code := { maxStack := 4, maxLocals := 2, code := jdk_2648_method_4_code, exceptionTable := #[], attributes := #[] }
def k21m2 : Method := { name := "of", desc := "(D)Ljava/util/OptionalDouble;", sig := { parameters := [.double], returnType := some (.object "java/util/OptionalDouble") }, accessFlags := 9, code := some k21c2 }
/-- java/util/OptionalDouble -/
def k21 : Class := { plain "java/util/OptionalDouble" (some 0) with
  accessFlags := 49
  interfaces := #[]
  cf := some (fileOf pool21 8 #[] #[{ accessFlags := 2, nameIndex := 5, descriptorIndex := 6, attributes := #[] }, { accessFlags := 2, nameIndex := 5, descriptorIndex := 27, attributes := #[] }, { accessFlags := 9, nameIndex := 49, descriptorIndex := 103, attributes := #[] }] 49 2 #[] #[{ accessFlags := 26, nameIndex := 23, descriptorIndex := 24, attributes := #[] }, { accessFlags := 18, nameIndex := 11, descriptorIndex := 12, attributes := #[] }, { accessFlags := 18, nameIndex := 19, descriptorIndex := 20, attributes := #[] }])
  fields := #[{ name := "EMPTY", type := (.object "java/util/OptionalDouble"), accessFlags := 26, slot := 0, constantValue := 0 }, { name := "isPresent", type := .boolean, accessFlags := 18, slot := 0, constantValue := 0 }, { name := "value", type := .double, accessFlags := 18, slot := 1, constantValue := 0 }]
  methods := #[k21m0, k21m1, k21m2]
  instanceTypes := #[.boolean, .double]
  staticTypes := #[(.object "java/util/OptionalDouble")]
  resolved := Array.replicate 144 none
  statics := none }

def pool22 : Array CpInfo := pool [(1, .class_ 2), (0, u "com/example/tuneless/tuneless/space/SearchSpace"), (0, .class_ 4), (0, u "java/lang/Object")] 16

/-- com/example/tuneless/tuneless/space/SearchSpace -/
def k22 : Class := { plain "com/example/tuneless/tuneless/space/SearchSpace" (some 0) with
  accessFlags := 1537
  interfaces := #[]
  cf := some (fileOf pool22 1 #[] #[] 1537 3 #[] #[])
  fields := #[]
  methods := #[]
  instanceTypes := #[]
  staticTypes := #[]
  resolved := Array.replicate 21 none
  statics := none }

def pool23 : Array CpInfo := pool [(1, .methodref 2 3), (0, .class_ 4), (0, .nameAndType 5 6), (0, u "java/lang/Object"), (0, u "<init>"), (0, u "()V"), (0, .fieldref 8 9), (0, .class_ 10), (0, .nameAndType 11 12), (0, u "com/example/tuneless/tuneless/space/BitStringSpace"), (0, u "length"), (0, u "I"), (21, .methodref 8 35), (0, .nameAndType 5 36), (0, u "(I)V"), (61, .class_ 99), (0, u "com/example/tuneless/tuneless/space/SearchSpace"), (0, u "MIN_LENGTH"), (2, u "MAX_LENGTH"), (3, u "of"), (0, u "(I)Lcom/example/tuneless/tuneless/space/BitStringSpace;")] 12

def k23c0 : Code := { maxStack := 2, maxLocals := 2, code := prog_69_method_1_code, exceptionTable := #[], attributes := #[] }
def k23m0 : Method := { name := "<init>", desc := "(I)V", sig := { parameters := [.int], returnType := none }, accessFlags := 2, code := some k23c0 }
def k23c1 : Code := { maxStack := 4, maxLocals := 1, code := prog_69_method_2_code, exceptionTable := #[], attributes := #[] }
def k23m1 : Method := { name := "of", desc := "(I)Lcom/example/tuneless/tuneless/space/BitStringSpace;", sig := { parameters := [.int], returnType := some (.object "com/example/tuneless/tuneless/space/BitStringSpace") }, accessFlags := 9, code := some k23c1 }
/-- com/example/tuneless/tuneless/space/BitStringSpace -/
def k23 : Class := { plain "com/example/tuneless/tuneless/space/BitStringSpace" (some 0) with
  accessFlags := 49
  interfaces := #[22]
  cf := some (fileOf pool23 8 #[] #[{ accessFlags := 2, nameIndex := 5, descriptorIndex := 36, attributes := #[] }, { accessFlags := 9, nameIndex := 107, descriptorIndex := 108, attributes := #[] }] 49 2 #[98] #[{ accessFlags := 25, nameIndex := 100, descriptorIndex := 12, attributes := #[] }, { accessFlags := 25, nameIndex := 103, descriptorIndex := 12, attributes := #[] }, { accessFlags := 18, nameIndex := 11, descriptorIndex := 12, attributes := #[] }])
  fields := #[{ name := "MIN_LENGTH", type := .int, accessFlags := 25, slot := 0, constantValue := 0 }, { name := "MAX_LENGTH", type := .int, accessFlags := 25, slot := 1, constantValue := 0 }, { name := "length", type := .int, accessFlags := 18, slot := 0, constantValue := 0 }]
  methods := #[k23m0, k23m1]
  instanceTypes := #[.int]
  staticTypes := #[.int, .int]
  resolved := Array.replicate 121 none
  statics := none }

def pool24 : Array CpInfo := pool [(4, .class_ 6), (1, u "java/lang/Object"), (0, u "<init>"), (0, u "()V"), (5, .class_ 16), (1, u "java/lang/StringLatin1"), (104, u "$assertionsDisabled"), (0, u "Z"), (98, .class_ 223), (1, u "java/lang/StringLatin1$LinesSpliterator"), (166, .class_ 391), (0, u "java/lang/StringLatin1$CharsSpliterator")] 3

def k24m0 : Method := { name := "<init>", desc := "()V", sig := { parameters := [], returnType := none }, accessFlags := 0, code := none }
/-- java/lang/StringLatin1 -/
def k24 : Class := { plain "java/lang/StringLatin1" (some 0) with
  accessFlags := 48
  interfaces := #[]
  cf := some (fileOf pool24 14 #[.nestMembers #[390, 221]] #[{ accessFlags := 0, nameIndex := 7, descriptorIndex := 8, attributes := #[] }] 48 4 #[] #[{ accessFlags := 4120, nameIndex := 121, descriptorIndex := 122, attributes := #[] }])
  fields := #[{ name := "$assertionsDisabled", type := .boolean, accessFlags := 4120, slot := 0, constantValue := 0 }]
  methods := #[k24m0]
  instanceTypes := #[]
  staticTypes := #[.boolean]
  resolved := Array.replicate 395 none
  statics := none }

def pool25 : Array CpInfo := pool [(2, .class_ 4), (1, u "java/lang/Object"), (0, u "<init>"), (0, u "()V"), (17, .class_ 26), (1, u "jdk/internal/util/Preconditions"), (28, .class_ 56), (0, u "jdk/internal/util/Preconditions$4"), (57, .class_ 115), (0, u "jdk/internal/util/Preconditions$1"), (7, u "SIOOBE_FORMATTER"), (0, u "Ljava/util/function/BiFunction;"), (0, .class_ 126), (0, u "jdk/internal/util/Preconditions$2"), (3, u "AIOOBE_FORMATTER"), (0, .class_ 132), (0, u "jdk/internal/util/Preconditions$3"), (3, u "IOOBE_FORMATTER")] 57

def k25m0 : Method := { name := "<init>", desc := "()V", sig := { parameters := [], returnType := none }, accessFlags := 1, code := none }
/-- jdk/internal/util/Preconditions -/
def k25 : Class := { plain "jdk/internal/util/Preconditions" (some 0) with
  accessFlags := 33
  interfaces := #[]
  cf := some (fileOf pool25 24 #[.nestMembers #[55, 131, 125, 114]] #[{ accessFlags := 1, nameIndex := 5, descriptorIndex := 6, attributes := #[] }] 33 2 #[] #[{ accessFlags := 25, nameIndex := 123, descriptorIndex := 124, attributes := #[] }, { accessFlags := 25, nameIndex := 130, descriptorIndex := 124, attributes := #[] }, { accessFlags := 25, nameIndex := 136, descriptorIndex := 124, attributes := #[] }])
  fields := #[{ name := "SIOOBE_FORMATTER", type := (.object "java/util/function/BiFunction"), accessFlags := 25, slot := 0, constantValue := 0 }, { name := "AIOOBE_FORMATTER", type := (.object "java/util/function/BiFunction"), accessFlags := 25, slot := 1, constantValue := 0 }, { name := "IOOBE_FORMATTER", type := (.object "java/util/function/BiFunction"), accessFlags := 25, slot := 2, constantValue := 0 }]
  methods := #[k25m0]
  instanceTypes := #[]
  staticTypes := #[(.object "java/util/function/BiFunction"), (.object "java/util/function/BiFunction"), (.object "java/util/function/BiFunction")]
  resolved := Array.replicate 194 none
  statics := some 3 }

def pool26 : Array CpInfo := pool [(9, u "<init>"), (6, .class_ 18), (1, u "java/lang/Object"), (0, u "()V"), (1, .class_ 23), (1, u "jdk/internal/util/ArraysSupport"), (0, u "LOG2_ARRAY_LONG_INDEX_SCALE"), (0, u "I"), (2, u "U"), (0, u "Ljdk/internal/misc/Unsafe;"), (8, u "BIG_ENDIAN"), (0, u "Z"), (8, u "LOG2_BYTE_BIT_SIZE"), (4, u "LOG2_ARRAY_INT_INDEX_SCALE"), (54, u "JLA"), (0, u "Ljdk/internal/access/JavaLangAccess;"), (11, u "LOG2_ARRAY_BOOLEAN_INDEX_SCALE"), (9, u "LOG2_ARRAY_BYTE_INDEX_SCALE"), (5, u "LOG2_ARRAY_CHAR_INDEX_SCALE"), (5, u "LOG2_ARRAY_SHORT_INDEX_SCALE"), (18, u "LOG2_ARRAY_FLOAT_INDEX_SCALE"), (24, u "LOG2_ARRAY_DOUBLE_INDEX_SCALE"), (89, u "T_BOOLEAN"), (2, u "T_CHAR"), (1, u "T_FLOAT"), (1, u "T_DOUBLE"), (1, u "T_BYTE"), (1, u "T_SHORT"), (1, u "T_INT"), (1, u "T_LONG"), (1, u "SOFT_MAX_ARRAY_LENGTH")] 83

def k26m0 : Method := { name := "<init>", desc := "()V", sig := { parameters := [], returnType := none }, accessFlags := 2, code := none }
/-- jdk/internal/util/ArraysSupport -/
def k26 : Class := { plain "jdk/internal/util/ArraysSupport" (some 0) with
  accessFlags := 33
  interfaces := #[]
  cf := some (fileOf pool26 21 #[] #[{ accessFlags := 2, nameIndex := 9, descriptorIndex := 19, attributes := #[] }] 33 16 #[] #[{ accessFlags := 24, nameIndex := 28, descriptorIndex := 29, attributes := #[] }, { accessFlags := 26, nameIndex := 38, descriptorIndex := 39, attributes := #[] }, { accessFlags := 25, nameIndex := 121, descriptorIndex := 25, attributes := #[] }, { accessFlags := 25, nameIndex := 131, descriptorIndex := 25, attributes := #[] }, { accessFlags := 25, nameIndex := 137, descriptorIndex := 25, attributes := #[] }, { accessFlags := 25, nameIndex := 143, descriptorIndex := 25, attributes := #[] }, { accessFlags := 25, nameIndex := 53, descriptorIndex := 25, attributes := #[] }, { accessFlags := 25, nameIndex := 24, descriptorIndex := 25, attributes := #[] }, { accessFlags := 25, nameIndex := 162, descriptorIndex := 25, attributes := #[] }, { accessFlags := 25, nameIndex := 187, descriptorIndex := 25, attributes := #[] }, { accessFlags := 26, nameIndex := 48, descriptorIndex := 25, attributes := #[] }, { accessFlags := 25, nameIndex := 277, descriptorIndex := 25, attributes := #[] }, { accessFlags := 25, nameIndex := 280, descriptorIndex := 25, attributes := #[] }, { accessFlags := 25, nameIndex := 282, descriptorIndex := 25, attributes := #[] }, { accessFlags := 25, nameIndex := 284, descriptorIndex := 25, attributes := #[] }, { accessFlags := 25, nameIndex := 286, descriptorIndex := 25, attributes := #[] }, { accessFlags := 25, nameIndex := 288, descriptorIndex := 25, attributes := #[] }, { accessFlags := 25, nameIndex := 290, descriptorIndex := 25, attributes := #[] }, { accessFlags := 25, nameIndex := 292, descriptorIndex := 25, attributes := #[] }, { accessFlags := 26, nameIndex := 108, descriptorIndex := 109, attributes := #[] }, { accessFlags := 25, nameIndex := 294, descriptorIndex := 25, attributes := #[] }])
  fields := #[{ name := "U", type := (.object "jdk/internal/misc/Unsafe"), accessFlags := 24, slot := 0, constantValue := 0 }, { name := "BIG_ENDIAN", type := .boolean, accessFlags := 26, slot := 1, constantValue := 0 }, { name := "LOG2_ARRAY_BOOLEAN_INDEX_SCALE", type := .int, accessFlags := 25, slot := 2, constantValue := 0 }, { name := "LOG2_ARRAY_BYTE_INDEX_SCALE", type := .int, accessFlags := 25, slot := 3, constantValue := 0 }, { name := "LOG2_ARRAY_CHAR_INDEX_SCALE", type := .int, accessFlags := 25, slot := 4, constantValue := 0 }, { name := "LOG2_ARRAY_SHORT_INDEX_SCALE", type := .int, accessFlags := 25, slot := 5, constantValue := 0 }, { name := "LOG2_ARRAY_INT_INDEX_SCALE", type := .int, accessFlags := 25, slot := 6, constantValue := 0 }, { name := "LOG2_ARRAY_LONG_INDEX_SCALE", type := .int, accessFlags := 25, slot := 7, constantValue := 0 }, { name := "LOG2_ARRAY_FLOAT_INDEX_SCALE", type := .int, accessFlags := 25, slot := 8, constantValue := 0 }, { name := "LOG2_ARRAY_DOUBLE_INDEX_SCALE", type := .int, accessFlags := 25, slot := 9, constantValue := 0 }, { name := "LOG2_BYTE_BIT_SIZE", type := .int, accessFlags := 26, slot := 10, constantValue := 0 }, { name := "T_BOOLEAN", type := .int, accessFlags := 25, slot := 11, constantValue := 0 }, { name := "T_CHAR", type := .int, accessFlags := 25, slot := 12, constantValue := 0 }, { name := "T_FLOAT", type := .int, accessFlags := 25, slot := 13, constantValue := 0 }, { name := "T_DOUBLE", type := .int, accessFlags := 25, slot := 14, constantValue := 0 }, { name := "T_BYTE", type := .int, accessFlags := 25, slot := 15, constantValue := 0 }, { name := "T_SHORT", type := .int, accessFlags := 25, slot := 16, constantValue := 0 }, { name := "T_INT", type := .int, accessFlags := 25, slot := 17, constantValue := 0 }, { name := "T_LONG", type := .int, accessFlags := 25, slot := 18, constantValue := 0 }, { name := "JLA", type := (.object "jdk/internal/access/JavaLangAccess"), accessFlags := 26, slot := 19, constantValue := 0 }, { name := "SOFT_MAX_ARRAY_LENGTH", type := .int, accessFlags := 25, slot := 20, constantValue := 0 }]
  methods := #[k26m0]
  instanceTypes := #[]
  staticTypes := #[(.object "jdk/internal/misc/Unsafe"), .boolean, .int, .int, .int, .int, .int, .int, .int, .int, .int, .int, .int, .int, .int, .int, .int, .int, .int, (.object "jdk/internal/access/JavaLangAccess"), .int]
  resolved := Array.replicate 378 none
  statics := none }

def pool27 : Array CpInfo := pool [(1, u "java/lang/Cloneable"), (0, .class_ 1), (0, u "java/lang/Object"), (0, .class_ 3)] 3

/-- java/lang/Cloneable -/
def k27 : Class := { plain "java/lang/Cloneable" (some 0) with
  accessFlags := 1537
  interfaces := #[]
  cf := some (fileOf pool27 2 #[] #[] 1537 4 #[] #[])
  fields := #[]
  methods := #[]
  instanceTypes := #[]
  staticTypes := #[]
  resolved := Array.replicate 8 none
  statics := none }

/-- the primitive boolean -/
def k28 : Class := { plain "boolean" none with kind := .primitive 'Z', accessFlags := 0x411 }
/-- [Z -/
def k29 : Class := { plain "[Z" (some 0) with kind := .array 28 .boolean, interfaces := #[27, 8], accessFlags := 1041 }

/-- the primitive byte -/
def k30 : Class := { plain "byte" none with kind := .primitive 'B', accessFlags := 0x411 }
/-- [B -/
def k31 : Class := { plain "[B" (some 0) with kind := .array 30 .byte, interfaces := #[27, 8], accessFlags := 1041 }

/-- the primitive int -/
def k32 : Class := { plain "int" none with kind := .primitive 'I', accessFlags := 0x411 }
/-- [I -/
def k33 : Class := { plain "[I" (some 0) with kind := .array 32 .int, interfaces := #[27, 8], accessFlags := 1041 }

def heap : Heap := #[{ cls := 13, slots := #[.long 0, .int 1, .null, .int 0, .null, .int 0, .int 0], vm := .statics 13 },
  { cls := 16, slots := #[.int 0, .int 0, .null, .null, .ref 6, .ref 5, .int 0, .int 0, .long 0], vm := .statics 16 },
  { cls := 20, slots := #[.ref 4, .null, .null], vm := .statics 20 },
  { cls := 25, slots := #[.null, .null, .null], vm := .statics 25 },
  { cls := 20, slots := #[.null, .int 0, .int 0, .null], vm := .none },
  { cls := 31, slots := #[.int 48, .int 49, .int 50, .int 51, .int 52, .int 53, .int 54, .int 55, .int 56, .int 57, .int 48, .int 49, .int 50, .int 51, .int 52, .int 53, .int 54, .int 55, .int 56, .int 57, .int 48, .int 49, .int 50, .int 51, .int 52, .int 53, .int 54, .int 55, .int 56, .int 57, .int 48, .int 49, .int 50, .int 51, .int 52, .int 53, .int 54, .int 55, .int 56, .int 57, .int 48, .int 49, .int 50, .int 51, .int 52, .int 53, .int 54, .int 55, .int 56, .int 57, .int 48, .int 49, .int 50, .int 51, .int 52, .int 53, .int 54, .int 55, .int 56, .int 57, .int 48, .int 49, .int 50, .int 51, .int 52, .int 53, .int 54, .int 55, .int 56, .int 57, .int 48, .int 49, .int 50, .int 51, .int 52, .int 53, .int 54, .int 55, .int 56, .int 57, .int 48, .int 49, .int 50, .int 51, .int 52, .int 53, .int 54, .int 55, .int 56, .int 57, .int 48, .int 49, .int 50, .int 51, .int 52, .int 53, .int 54, .int 55, .int 56, .int 57], vm := .none },
  { cls := 31, slots := #[.int 48, .int 48, .int 48, .int 48, .int 48, .int 48, .int 48, .int 48, .int 48, .int 48, .int 49, .int 49, .int 49, .int 49, .int 49, .int 49, .int 49, .int 49, .int 49, .int 49, .int 50, .int 50, .int 50, .int 50, .int 50, .int 50, .int 50, .int 50, .int 50, .int 50, .int 51, .int 51, .int 51, .int 51, .int 51, .int 51, .int 51, .int 51, .int 51, .int 51, .int 52, .int 52, .int 52, .int 52, .int 52, .int 52, .int 52, .int 52, .int 52, .int 52, .int 53, .int 53, .int 53, .int 53, .int 53, .int 53, .int 53, .int 53, .int 53, .int 53, .int 54, .int 54, .int 54, .int 54, .int 54, .int 54, .int 54, .int 54, .int 54, .int 54, .int 55, .int 55, .int 55, .int 55, .int 55, .int 55, .int 55, .int 55, .int 55, .int 55, .int 56, .int 56, .int 56, .int 56, .int 56, .int 56, .int 56, .int 56, .int 56, .int 56, .int 57, .int 57, .int 57, .int 57, .int 57, .int 57, .int 57, .int 57, .int 57, .int 57], vm := .none }]
def classes : Array Class := #[k0, k1, k2, k3, k4, k5, k6, k7, k8, k9, k10, k11, k12, k13, k14, k15, k16, k17, k18, k19, k20, k21, k22, k23, k24, k25, k26, k27, k28, k29, k30, k31, k32, k33]
def interned : List (Array UInt16 × Addr) := []
def slotsUsed : Nat := 226
def theMethod : MethodId := ⟨1, 4⟩
def args0 : Array Value := #[.int 5, .int 3]
def aboutOver (below : List Frame) : State where
  vm := { classes := classes, interned := interned.toArray }
  heap := heap
  slotsUsed := slotsUsed
  threads := #[{ frames := .invoking theMethod args0 :: below }]
def below0 : List Frame := [.native { method := ⟨0, 0⟩, args := #[] }]
def about1 : State := aboutOver below0
def p0 : Program := .bare "" "" ""
def e0 : Env := launch0.env 0 0 0
theorem w_frames : about1.frames = Frame.invoking theMethod args0 :: below0 := rfl
set_option maxRecDepth 65536 in
theorem w_args : argsFit about1.vm theMethod args0 = true := by decide +kernel
set_option maxRecDepth 65536 in
theorem w_heap : heapFits about1 = true := by decide +kernel
set_option maxRecDepth 65536 in
theorem w_runnable : about1.curStatus? = some .runnable := by decide +kernel
set_option maxRecDepth 65536 in
theorem w_alone : about1.alone = true := by decide +kernel
set_option maxRecDepth 65536 in
theorem w_named : about1.methodNamed? x = some theMethod := by decide +kernel
set_option maxRecDepth 65536 in
theorem w_hears : about1.hears theMethod below0 = true := by decide +kernel
set_option maxRecDepth 65536 in
theorem w_ripe : about1.ripe theMethod args0 below0 = true := by decide +kernel
theorem w_running : about1.status = .running := rfl
set_option maxRecDepth 65536 in
theorem w_room : about1.hasRoom e0.platform room_1 = true :=
  launch0.hasRoom_least _ room_1 (by decide +kernel) (by decide +kernel) (by decide +kernel) (by decide +kernel) (by decide +kernel) (by decide +kernel)
theorem allAtoms_all (ts : List Jvm.Cond) (a : Array Jvm.Value) (st : Jvm.State) : (allAtoms ts).before a st = ts.all (fun c => c.before a st) := by
  induction ts with
  | nil => rfl
  | cons c t ih =>
    show (Jvm.Cond.and c (allAtoms t)).before a st = _
    rw [Jvm.Cond.before_and, ih, List.all_cons]
def words1 : List Jvm.Cond := Jvm.Cond.code x code maxLocals ret :: tables_1
/-- a 'code' word, met by the world's own term for the bytes: nothing is compared byte by byte -/
theorem code_word {y : MethodName} {bytes : ByteArray} {mx : Nat} {rt : Option FieldType} {a : Array Value} {s : State} {m : MethodId} {meth : Method} {c : Code} (h1 : s.methodNamed? y = some m) (h2 : s.vm.method? m = some meth) (h3 : meth.code = some c) (h4 : c.code = bytes)
    (h5 : (c.maxLocals == mx && c.exceptionTable.isEmpty && decide (c.maxStack ≤ mostOperands) && decide (meth.sig.returnType = rt) && !meth.locks && decide (parseMethodDescriptor y.desc = some meth.sig)) = true) : (Jvm.Cond.code y bytes mx rt).before a s = true := by
  simp only [Bool.and_eq_true, beq_iff_eq, Bool.not_eq_true', decide_eq_true_eq] at h5
  obtain ⟨⟨⟨⟨⟨g1, g2⟩, g3⟩, g4⟩, g5⟩, g6⟩ := h5
  simp [Cond.before, Cond.holds, Cond.value, h1, h2, h3, h4, g1, g2, g3, g4, g5, g6]
def isCode : Jvm.Cond → Bool
  | .code _ _ _ _ => true
  | _ => false
theorem all_split {L : List Jvm.Cond} {P : Jvm.Cond → Bool} (h1 : L.all (fun c => isCode c || P c) = true) (h2 : ∀ c ∈ L.filter isCode, P c = true) : L.all P = true := by
  refine List.all_eq_true.mpr fun c hc => ?_
  have h := List.all_eq_true.mp h1 c hc
  rcases Bool.eq_false_or_eq_true (isCode c) with hi | hi
  · exact h2 c (List.mem_filter.mpr ⟨hc, hi⟩)
  · simpa [hi] using h
set_option maxRecDepth 65536 in
theorem w_c0 : (Jvm.Cond.code x code maxLocals ret).before args0 about1 = true := code_word (m := ⟨1, 4⟩) (meth := k1m4) (c := k1c4) (by decide +kernel) rfl rfl rfl (by decide +kernel)
set_option maxRecDepth 65536 in
theorem w_c1 : (Jvm.Cond.code ({ cls := "com/example/tuneless/tuneless/problem/OneMax", name := "<init>", desc := "(I)V" } : Jvm.MethodName) prog_62_method_1_code (2 : Nat) (Option.none : Option Jvm.ClassFile.FieldType)).before args0 about1 = true := code_word (m := ⟨4, 0⟩) (meth := k4m0) (c := k4c0) (by decide +kernel) rfl rfl rfl (by decide +kernel)
set_option maxRecDepth 65536 in
theorem w_c2 : (Jvm.Cond.code ({ cls := "java/lang/StringBuilder", name := "<init>", desc := "()V" } : Jvm.MethodName) jdk_67_method_1_code (1 : Nat) (Option.none : Option Jvm.ClassFile.FieldType)).before args0 about1 = true := code_word (m := ⟨10, 0⟩) (meth := k10m0) (c := k10c0) (by decide +kernel) rfl rfl rfl (by decide +kernel)
set_option maxRecDepth 65536 in
theorem w_c3 : (Jvm.Cond.code ({ cls := "java/lang/AbstractStringBuilder", name := "<init>", desc := "(I)V" } : Jvm.MethodName) jdk_68_method_2_code (2 : Nat) (Option.none : Option Jvm.ClassFile.FieldType)).before args0 about1 = true := code_word (m := ⟨7, 1⟩) (meth := k7m1) (c := k7c1) (by decide +kernel) rfl rfl rfl (by decide +kernel)
set_option maxRecDepth 65536 in
theorem w_c4 : (Jvm.Cond.code ({ cls := "java/lang/Object", name := "<init>", desc := "()V" } : Jvm.MethodName) object_method_1_code (1 : Nat) (Option.none : Option Jvm.ClassFile.FieldType)).before args0 about1 = true := code_word (m := ⟨0, 0⟩) (meth := k0m0) (c := k0c0) (by decide +kernel) rfl rfl rfl (by decide +kernel)
set_option maxRecDepth 65536 in
theorem w_c5 : (Jvm.Cond.code ({ cls := "java/lang/StringBuilder", name := "append", desc := "(Ljava/lang/String;)Ljava/lang/StringBuilder;" } : Jvm.MethodName) jdk_67_method_7_code (2 : Nat) (Option.some (Jvm.ClassFile.FieldType.object "java/lang/StringBuilder"))).before args0 about1 = true := code_word (m := ⟨10, 1⟩) (meth := k10m1) (c := k10c1) (by decide +kernel) rfl rfl rfl (by decide +kernel)
set_option maxRecDepth 65536 in
theorem w_c6 : (Jvm.Cond.code ({ cls := "java/lang/AbstractStringBuilder", name := "append", desc := "(Ljava/lang/String;)Ljava/lang/AbstractStringBuilder;" } : Jvm.MethodName) jdk_68_method_22_code (3 : Nat) (Option.some (Jvm.ClassFile.FieldType.object "java/lang/AbstractStringBuilder"))).before args0 about1 = true := code_word (m := ⟨7, 4⟩) (meth := k7m4) (c := k7c4) (by decide +kernel) rfl rfl rfl (by decide +kernel)
set_option maxRecDepth 65536 in
theorem w_c7 : (Jvm.Cond.code ({ cls := "java/lang/String", name := "length", desc := "()I" } : Jvm.MethodName) jdk_42_method_54_code (1 : Nat) (Option.some Jvm.ClassFile.FieldType.int)).before args0 about1 = true := code_word (m := ⟨13, 2⟩) (meth := k13m2) (c := k13c2) (by decide +kernel) rfl rfl rfl (by decide +kernel)
set_option maxRecDepth 65536 in
theorem w_c8 : (Jvm.Cond.code ({ cls := "java/lang/String", name := "coder", desc := "()B" } : Jvm.MethodName) jdk_42_method_152_code (1 : Nat) (Option.some Jvm.ClassFile.FieldType.byte)).before args0 about1 = true := code_word (m := ⟨13, 5⟩) (meth := k13m5) (c := k13c5) (by decide +kernel) rfl rfl rfl (by decide +kernel)
set_option maxRecDepth 65536 in
theorem w_c9 : (Jvm.Cond.code ({ cls := "java/lang/AbstractStringBuilder", name := "ensureCapacityInternal", desc := "(I)V" } : Jvm.MethodName) jdk_68_method_9_code (3 : Nat) (Option.none : Option Jvm.ClassFile.FieldType)).before args0 about1 = true := code_word (m := ⟨7, 3⟩) (meth := k7m3) (c := k7c3) (by decide +kernel) rfl rfl rfl (by decide +kernel)
set_option maxRecDepth 65536 in
theorem w_c10 : (Jvm.Cond.code ({ cls := "java/lang/AbstractStringBuilder", name := "putStringAt", desc := "(ILjava/lang/String;)V" } : Jvm.MethodName) jdk_68_method_73_code (3 : Nat) (Option.none : Option Jvm.ClassFile.FieldType)).before args0 about1 = true := code_word (m := ⟨7, 9⟩) (meth := k7m9) (c := k7c9) (by decide +kernel) rfl rfl rfl (by decide +kernel)
set_option maxRecDepth 65536 in
theorem w_c11 : (Jvm.Cond.code ({ cls := "java/lang/AbstractStringBuilder", name := "inflateIfNeededFor", desc := "(Ljava/lang/String;)V" } : Jvm.MethodName) jdk_68_method_71_code (2 : Nat) (Option.none : Option Jvm.ClassFile.FieldType)).before args0 about1 = true := code_word (m := ⟨7, 8⟩) (meth := k7m8) (c := k7c8) (by decide +kernel) rfl rfl rfl (by decide +kernel)
set_option maxRecDepth 65536 in
theorem w_c12 : (Jvm.Cond.code ({ cls := "java/lang/String", name := "getBytes", desc := "([BIB)V" } : Jvm.MethodName) jdk_42_method_147_code (4 : Nat) (Option.none : Option Jvm.ClassFile.FieldType)).before args0 about1 = true := code_word (m := ⟨13, 3⟩) (meth := k13m3) (c := k13c3) (by decide +kernel) rfl rfl rfl (by decide +kernel)
set_option maxRecDepth 65536 in
theorem w_c13 : (Jvm.Cond.code ({ cls := "java/lang/StringBuilder", name := "append", desc := "(I)Ljava/lang/StringBuilder;" } : Jvm.MethodName) jdk_67_method_15_code (2 : Nat) (Option.some (Jvm.ClassFile.FieldType.object "java/lang/StringBuilder"))).before args0 about1 = true := code_word (m := ⟨10, 2⟩) (meth := k10m2) (c := k10c2) (by decide +kernel) rfl rfl rfl (by decide +kernel)
set_option maxRecDepth 65536 in
theorem w_c14 : (Jvm.Cond.code ({ cls := "java/lang/AbstractStringBuilder", name := "append", desc := "(I)Ljava/lang/AbstractStringBuilder;" } : Jvm.MethodName) jdk_68_method_32_code (4 : Nat) (Option.some (Jvm.ClassFile.FieldType.object "java/lang/AbstractStringBuilder"))).before args0 about1 = true := code_word (m := ⟨7, 5⟩) (meth := k7m5) (c := k7c5) (by decide +kernel) rfl rfl rfl (by decide +kernel)
set_option maxRecDepth 65536 in
theorem w_c15 : (Jvm.Cond.code ({ cls := "java/lang/Integer", name := "stringSize", desc := "(I)I" } : Jvm.MethodName) jdk_33_method_13_code (4 : Nat) (Option.some Jvm.ClassFile.FieldType.int)).before args0 about1 = true := code_word (m := ⟨16, 1⟩) (meth := k16m1) (c := k16c1) (by decide +kernel) rfl rfl rfl (by decide +kernel)
set_option maxRecDepth 65536 in
theorem w_c16 : (Jvm.Cond.code ({ cls := "java/lang/AbstractStringBuilder", name := "isLatin1", desc := "()Z" } : Jvm.MethodName) jdk_68_method_68_code (1 : Nat) (Option.some Jvm.ClassFile.FieldType.boolean)).before args0 about1 = true := code_word (m := ⟨7, 7⟩) (meth := k7m7) (c := k7c7) (by decide +kernel) rfl rfl rfl (by decide +kernel)
set_option maxRecDepth 65536 in
theorem w_c17 : (Jvm.Cond.code ({ cls := "java/lang/Integer", name := "getChars", desc := "(II[B)I" } : Jvm.MethodName) jdk_33_method_12_code (7 : Nat) (Option.some Jvm.ClassFile.FieldType.int)).before args0 about1 = true := code_word (m := ⟨16, 0⟩) (meth := k16m0) (c := k16c0) (by decide +kernel) rfl rfl rfl (by decide +kernel)
set_option maxRecDepth 65536 in
theorem w_c18 : (Jvm.Cond.code ({ cls := "java/lang/StringBuilder", name := "toString", desc := "()Ljava/lang/String;" } : Jvm.MethodName) jdk_67_method_42_code (1 : Nat) (Option.some (Jvm.ClassFile.FieldType.object "java/lang/String"))).before args0 about1 = true := code_word (m := ⟨10, 3⟩) (meth := k10m3) (c := k10c3) (by decide +kernel) rfl rfl rfl (by decide +kernel)
set_option maxRecDepth 65536 in
theorem w_c19 : (Jvm.Cond.code ({ cls := "java/lang/String", name := "<init>", desc := "(Ljava/lang/StringBuilder;)V" } : Jvm.MethodName) jdk_42_method_53_code (2 : Nat) (Option.none : Option Jvm.ClassFile.FieldType)).before args0 about1 = true := code_word (m := ⟨13, 1⟩) (meth := k13m1) (c := k13c1) (by decide +kernel) rfl rfl rfl (by decide +kernel)
set_option maxRecDepth 65536 in
theorem w_c20 : (Jvm.Cond.code ({ cls := "java/lang/String", name := "<init>", desc := "(Ljava/lang/AbstractStringBuilder;Ljava/lang/Void;)V" } : Jvm.MethodName) jdk_42_method_150_code (5 : Nat) (Option.none : Option Jvm.ClassFile.FieldType)).before args0 about1 = true := code_word (m := ⟨13, 4⟩) (meth := k13m4) (c := k13c4) (by decide +kernel) rfl rfl rfl (by decide +kernel)
set_option maxRecDepth 65536 in
theorem w_c21 : (Jvm.Cond.code ({ cls := "java/lang/AbstractStringBuilder", name := "getValue", desc := "()[B" } : Jvm.MethodName) jdk_68_method_64_code (1 : Nat) (Option.some (Jvm.ClassFile.FieldType.array Jvm.ClassFile.FieldType.byte))).before args0 about1 = true := code_word (m := ⟨7, 6⟩) (meth := k7m6) (c := k7c6) (by decide +kernel) rfl rfl rfl (by decide +kernel)
set_option maxRecDepth 65536 in
theorem w_c22 : (Jvm.Cond.code ({ cls := "java/lang/StringBuilder", name := "length", desc := "()I" } : Jvm.MethodName) jdk_67_method_93_code (1 : Nat) (Option.some Jvm.ClassFile.FieldType.int)).before args0 about1 = true := code_word (m := ⟨10, 4⟩) (meth := k10m4) (c := k10c4) (by decide +kernel) rfl rfl rfl (by decide +kernel)
set_option maxRecDepth 65536 in
theorem w_c23 : (Jvm.Cond.code ({ cls := "java/lang/AbstractStringBuilder", name := "length", desc := "()I" } : Jvm.MethodName) jdk_68_method_6_code (1 : Nat) (Option.some Jvm.ClassFile.FieldType.int)).before args0 about1 = true := code_word (m := ⟨7, 2⟩) (meth := k7m2) (c := k7c2) (by decide +kernel) rfl rfl rfl (by decide +kernel)
set_option maxRecDepth 65536 in
theorem w_c24 : (Jvm.Cond.code ({ cls := "java/util/Arrays", name := "copyOfRange", desc := "([BII)[B" } : Jvm.MethodName) jdk_65_method_132_code (3 : Nat) (Option.some (Jvm.ClassFile.FieldType.array Jvm.ClassFile.FieldType.byte))).before args0 about1 = true := code_word (m := ⟨17, 2⟩) (meth := k17m2) (c := k17c2) (by decide +kernel) rfl rfl rfl (by decide +kernel)
set_option maxRecDepth 65536 in
theorem w_c25 : (Jvm.Cond.code ({ cls := "java/util/Arrays", name := "copyOfRangeByte", desc := "([BII)[B" } : Jvm.MethodName) jdk_65_method_133_code (5 : Nat) (Option.some (Jvm.ClassFile.FieldType.array Jvm.ClassFile.FieldType.byte))).before args0 about1 = true := code_word (m := ⟨17, 3⟩) (meth := k17m3) (c := k17c3) (by decide +kernel) rfl rfl rfl (by decide +kernel)
set_option maxRecDepth 65536 in
theorem w_c26 : (Jvm.Cond.code ({ cls := "java/util/Arrays", name := "checkLength", desc := "(II)V" } : Jvm.MethodName) jdk_65_method_131_code (2 : Nat) (Option.none : Option Jvm.ClassFile.FieldType)).before args0 about1 = true := code_word (m := ⟨17, 1⟩) (meth := k17m1) (c := k17c1) (by decide +kernel) rfl rfl rfl (by decide +kernel)
set_option maxRecDepth 65536 in
theorem w_c27 : (Jvm.Cond.code ({ cls := "java/lang/Math", name := "min", desc := "(II)I" } : Jvm.MethodName) jdk_29_method_69_code (2 : Nat) (Option.some Jvm.ClassFile.FieldType.int)).before args0 about1 = true := code_word (m := ⟨18, 1⟩) (meth := k18m1) (c := k18c1) (by decide +kernel) rfl rfl rfl (by decide +kernel)
set_option maxRecDepth 65536 in
theorem w_c28 : (Jvm.Cond.code ({ cls := "com/example/tuneless/tuneless/problem/Landscape", name := "<init>", desc := "(Ljava/lang/String;ILcom/example/tuneless/tuneless/space/Direction;D)V" } : Jvm.MethodName) prog_58_method_1_code (6 : Nat) (Option.none : Option Jvm.ClassFile.FieldType)).before args0 about1 = true := code_word (m := ⟨3, 0⟩) (meth := k3m0) (c := k3c0) (by decide +kernel) rfl rfl rfl (by decide +kernel)
set_option maxRecDepth 65536 in
theorem w_c29 : (Jvm.Cond.code ({ cls := "java/util/OptionalDouble", name := "of", desc := "(D)Ljava/util/OptionalDouble;" } : Jvm.MethodName) jdk_2648_method_4_code (2 : Nat) (Option.some (Jvm.ClassFile.FieldType.object "java/util/OptionalDouble"))).before args0 about1 = true := code_word (m := ⟨21, 2⟩) (meth := k21m2) (c := k21c2) (by decide +kernel) rfl rfl rfl (by decide +kernel)
set_option maxRecDepth 65536 in
theorem w_c30 : (Jvm.Cond.code ({ cls := "java/util/OptionalDouble", name := "<init>", desc := "(D)V" } : Jvm.MethodName) jdk_2648_method_3_code (3 : Nat) (Option.none : Option Jvm.ClassFile.FieldType)).before args0 about1 = true := code_word (m := ⟨21, 1⟩) (meth := k21m1) (c := k21c1) (by decide +kernel) rfl rfl rfl (by decide +kernel)
set_option maxRecDepth 65536 in
theorem w_c31 : (Jvm.Cond.code ({ cls := "com/example/tuneless/tuneless/problem/Landscape", name := "<init>", desc := "(Ljava/lang/String;ILcom/example/tuneless/tuneless/space/Direction;Ljava/util/OptionalDouble;)V" } : Jvm.MethodName) prog_58_method_2_code (5 : Nat) (Option.none : Option Jvm.ClassFile.FieldType)).before args0 about1 = true := code_word (m := ⟨3, 1⟩) (meth := k3m1) (c := k3c1) (by decide +kernel) rfl rfl rfl (by decide +kernel)
set_option maxRecDepth 65536 in
theorem w_c32 : (Jvm.Cond.code ({ cls := "com/example/tuneless/tuneless/space/BitStringSpace", name := "of", desc := "(I)Lcom/example/tuneless/tuneless/space/BitStringSpace;" } : Jvm.MethodName) prog_69_method_2_code (1 : Nat) (Option.some (Jvm.ClassFile.FieldType.object "com/example/tuneless/tuneless/space/BitStringSpace"))).before args0 about1 = true := code_word (m := ⟨23, 1⟩) (meth := k23m1) (c := k23c1) (by decide +kernel) rfl rfl rfl (by decide +kernel)
set_option maxRecDepth 65536 in
theorem w_c33 : (Jvm.Cond.code ({ cls := "com/example/tuneless/tuneless/space/BitStringSpace", name := "<init>", desc := "(I)V" } : Jvm.MethodName) prog_69_method_1_code (2 : Nat) (Option.none : Option Jvm.ClassFile.FieldType)).before args0 about1 = true := code_word (m := ⟨23, 0⟩) (meth := k23m0) (c := k23c0) (by decide +kernel) rfl rfl rfl (by decide +kernel)
set_option maxRecDepth 65536 in
theorem w_c34 : (Jvm.Cond.code ({ cls := "com/example/tuneless/tuneless/problem/OneMaxEvaluatePinLaw", name := "put", desc := "([ZII)V" } : Jvm.MethodName) method_2_code (3 : Nat) (Option.none : Option Jvm.ClassFile.FieldType)).before args0 about1 = true := code_word (m := ⟨1, 1⟩) (meth := k1m1) (c := k1c1) (by decide +kernel) rfl rfl rfl (by decide +kernel)
set_option maxRecDepth 65536 in
theorem w_c35 : (Jvm.Cond.code ({ cls := "com/example/tuneless/tuneless/problem/OneMax", name := "evaluate", desc := "([Z)D" } : Jvm.MethodName) prog_62_method_2_code (7 : Nat) (Option.some Jvm.ClassFile.FieldType.double)).before args0 about1 = true := code_word (m := ⟨4, 1⟩) (meth := k4m1) (c := k4c1) (by decide +kernel) rfl rfl rfl (by decide +kernel)
set_option maxRecDepth 65536 in
theorem w_c36 : (Jvm.Cond.code ({ cls := "com/example/tuneless/tuneless/problem/OneMaxEvaluatePinLaw", name := "bit", desc := "(III)I" } : Jvm.MethodName) method_3_code (3 : Nat) (Option.some Jvm.ClassFile.FieldType.int)).before args0 about1 = true := code_word (m := ⟨1, 2⟩) (meth := k1m2) (c := k1c2) (by decide +kernel) rfl rfl rfl (by decide +kernel)
set_option maxRecDepth 65536 in
theorem w_c37 : (Jvm.Cond.code ({ cls := "com/example/tuneless/tuneless/problem/OneMaxEvaluatePinLaw", name := "same", desc := "([ZII)Z" } : Jvm.MethodName) method_4_code (3 : Nat) (Option.some Jvm.ClassFile.FieldType.boolean)).before args0 about1 = true := code_word (m := ⟨1, 3⟩) (meth := k1m3) (c := k1c3) (by decide +kernel) rfl rfl rfl (by decide +kernel)
def codes1 : List Jvm.Cond := [Jvm.Cond.code x code maxLocals ret, Jvm.Cond.code ({ cls := "com/example/tuneless/tuneless/problem/OneMax", name := "<init>", desc := "(I)V" } : Jvm.MethodName) prog_62_method_1_code (2 : Nat) (Option.none : Option Jvm.ClassFile.FieldType), Jvm.Cond.code ({ cls := "java/lang/StringBuilder", name := "<init>", desc := "()V" } : Jvm.MethodName) jdk_67_method_1_code (1 : Nat) (Option.none : Option Jvm.ClassFile.FieldType), Jvm.Cond.code ({ cls := "java/lang/AbstractStringBuilder", name := "<init>", desc := "(I)V" } : Jvm.MethodName) jdk_68_method_2_code (2 : Nat) (Option.none : Option Jvm.ClassFile.FieldType), Jvm.Cond.code ({ cls := "java/lang/Object", name := "<init>", desc := "()V" } : Jvm.MethodName) object_method_1_code (1 : Nat) (Option.none : Option Jvm.ClassFile.FieldType), Jvm.Cond.code ({ cls := "java/lang/StringBuilder", name := "append", desc := "(Ljava/lang/String;)Ljava/lang/StringBuilder;" } : Jvm.MethodName) jdk_67_method_7_code (2 : Nat) (Option.some (Jvm.ClassFile.FieldType.object "java/lang/StringBuilder")), Jvm.Cond.code ({ cls := "java/lang/AbstractStringBuilder", name := "append", desc := "(Ljava/lang/String;)Ljava/lang/AbstractStringBuilder;" } : Jvm.MethodName) jdk_68_method_22_code (3 : Nat) (Option.some (Jvm.ClassFile.FieldType.object "java/lang/AbstractStringBuilder")), Jvm.Cond.code ({ cls := "java/lang/String", name := "length", desc := "()I" } : Jvm.MethodName) jdk_42_method_54_code (1 : Nat) (Option.some Jvm.ClassFile.FieldType.int), Jvm.Cond.code ({ cls := "java/lang/String", name := "coder", desc := "()B" } : Jvm.MethodName) jdk_42_method_152_code (1 : Nat) (Option.some Jvm.ClassFile.FieldType.byte), Jvm.Cond.code ({ cls := "java/lang/AbstractStringBuilder", name := "ensureCapacityInternal", desc := "(I)V" } : Jvm.MethodName) jdk_68_method_9_code (3 : Nat) (Option.none : Option Jvm.ClassFile.FieldType), Jvm.Cond.code ({ cls := "java/lang/AbstractStringBuilder", name := "putStringAt", desc := "(ILjava/lang/String;)V" } : Jvm.MethodName) jdk_68_method_73_code (3 : Nat) (Option.none : Option Jvm.ClassFile.FieldType), Jvm.Cond.code ({ cls := "java/lang/AbstractStringBuilder", name := "inflateIfNeededFor", desc := "(Ljava/lang/String;)V" } : Jvm.MethodName) jdk_68_method_71_code (2 : Nat) (Option.none : Option Jvm.ClassFile.FieldType), Jvm.Cond.code ({ cls := "java/lang/String", name := "getBytes", desc := "([BIB)V" } : Jvm.MethodName) jdk_42_method_147_code (4 : Nat) (Option.none : Option Jvm.ClassFile.FieldType), Jvm.Cond.code ({ cls := "java/lang/StringBuilder", name := "append", desc := "(I)Ljava/lang/StringBuilder;" } : Jvm.MethodName) jdk_67_method_15_code (2 : Nat) (Option.some (Jvm.ClassFile.FieldType.object "java/lang/StringBuilder")), Jvm.Cond.code ({ cls := "java/lang/AbstractStringBuilder", name := "append", desc := "(I)Ljava/lang/AbstractStringBuilder;" } : Jvm.MethodName) jdk_68_method_32_code (4 : Nat) (Option.some (Jvm.ClassFile.FieldType.object "java/lang/AbstractStringBuilder")), Jvm.Cond.code ({ cls := "java/lang/Integer", name := "stringSize", desc := "(I)I" } : Jvm.MethodName) jdk_33_method_13_code (4 : Nat) (Option.some Jvm.ClassFile.FieldType.int), Jvm.Cond.code ({ cls := "java/lang/AbstractStringBuilder", name := "isLatin1", desc := "()Z" } : Jvm.MethodName) jdk_68_method_68_code (1 : Nat) (Option.some Jvm.ClassFile.FieldType.boolean), Jvm.Cond.code ({ cls := "java/lang/Integer", name := "getChars", desc := "(II[B)I" } : Jvm.MethodName) jdk_33_method_12_code (7 : Nat) (Option.some Jvm.ClassFile.FieldType.int), Jvm.Cond.code ({ cls := "java/lang/StringBuilder", name := "toString", desc := "()Ljava/lang/String;" } : Jvm.MethodName) jdk_67_method_42_code (1 : Nat) (Option.some (Jvm.ClassFile.FieldType.object "java/lang/String")), Jvm.Cond.code ({ cls := "java/lang/String", name := "<init>", desc := "(Ljava/lang/StringBuilder;)V" } : Jvm.MethodName) jdk_42_method_53_code (2 : Nat) (Option.none : Option Jvm.ClassFile.FieldType), Jvm.Cond.code ({ cls := "java/lang/String", name := "<init>", desc := "(Ljava/lang/AbstractStringBuilder;Ljava/lang/Void;)V" } : Jvm.MethodName) jdk_42_method_150_code (5 : Nat) (Option.none : Option Jvm.ClassFile.FieldType), Jvm.Cond.code ({ cls := "java/lang/AbstractStringBuilder", name := "getValue", desc := "()[B" } : Jvm.MethodName) jdk_68_method_64_code (1 : Nat) (Option.some (Jvm.ClassFile.FieldType.array Jvm.ClassFile.FieldType.byte)), Jvm.Cond.code ({ cls := "java/lang/StringBuilder", name := "length", desc := "()I" } : Jvm.MethodName) jdk_67_method_93_code (1 : Nat) (Option.some Jvm.ClassFile.FieldType.int), Jvm.Cond.code ({ cls := "java/lang/AbstractStringBuilder", name := "length", desc := "()I" } : Jvm.MethodName) jdk_68_method_6_code (1 : Nat) (Option.some Jvm.ClassFile.FieldType.int), Jvm.Cond.code ({ cls := "java/util/Arrays", name := "copyOfRange", desc := "([BII)[B" } : Jvm.MethodName) jdk_65_method_132_code (3 : Nat) (Option.some (Jvm.ClassFile.FieldType.array Jvm.ClassFile.FieldType.byte)), Jvm.Cond.code ({ cls := "java/util/Arrays", name := "copyOfRangeByte", desc := "([BII)[B" } : Jvm.MethodName) jdk_65_method_133_code (5 : Nat) (Option.some (Jvm.ClassFile.FieldType.array Jvm.ClassFile.FieldType.byte)), Jvm.Cond.code ({ cls := "java/util/Arrays", name := "checkLength", desc := "(II)V" } : Jvm.MethodName) jdk_65_method_131_code (2 : Nat) (Option.none : Option Jvm.ClassFile.FieldType), Jvm.Cond.code ({ cls := "java/lang/Math", name := "min", desc := "(II)I" } : Jvm.MethodName) jdk_29_method_69_code (2 : Nat) (Option.some Jvm.ClassFile.FieldType.int), Jvm.Cond.code ({ cls := "com/example/tuneless/tuneless/problem/Landscape", name := "<init>", desc := "(Ljava/lang/String;ILcom/example/tuneless/tuneless/space/Direction;D)V" } : Jvm.MethodName) prog_58_method_1_code (6 : Nat) (Option.none : Option Jvm.ClassFile.FieldType), Jvm.Cond.code ({ cls := "java/util/OptionalDouble", name := "of", desc := "(D)Ljava/util/OptionalDouble;" } : Jvm.MethodName) jdk_2648_method_4_code (2 : Nat) (Option.some (Jvm.ClassFile.FieldType.object "java/util/OptionalDouble")), Jvm.Cond.code ({ cls := "java/util/OptionalDouble", name := "<init>", desc := "(D)V" } : Jvm.MethodName) jdk_2648_method_3_code (3 : Nat) (Option.none : Option Jvm.ClassFile.FieldType), Jvm.Cond.code ({ cls := "com/example/tuneless/tuneless/problem/Landscape", name := "<init>", desc := "(Ljava/lang/String;ILcom/example/tuneless/tuneless/space/Direction;Ljava/util/OptionalDouble;)V" } : Jvm.MethodName) prog_58_method_2_code (5 : Nat) (Option.none : Option Jvm.ClassFile.FieldType), Jvm.Cond.code ({ cls := "com/example/tuneless/tuneless/space/BitStringSpace", name := "of", desc := "(I)Lcom/example/tuneless/tuneless/space/BitStringSpace;" } : Jvm.MethodName) prog_69_method_2_code (1 : Nat) (Option.some (Jvm.ClassFile.FieldType.object "com/example/tuneless/tuneless/space/BitStringSpace")), Jvm.Cond.code ({ cls := "com/example/tuneless/tuneless/space/BitStringSpace", name := "<init>", desc := "(I)V" } : Jvm.MethodName) prog_69_method_1_code (2 : Nat) (Option.none : Option Jvm.ClassFile.FieldType), Jvm.Cond.code ({ cls := "com/example/tuneless/tuneless/problem/OneMaxEvaluatePinLaw", name := "put", desc := "([ZII)V" } : Jvm.MethodName) method_2_code (3 : Nat) (Option.none : Option Jvm.ClassFile.FieldType), Jvm.Cond.code ({ cls := "com/example/tuneless/tuneless/problem/OneMax", name := "evaluate", desc := "([Z)D" } : Jvm.MethodName) prog_62_method_2_code (7 : Nat) (Option.some Jvm.ClassFile.FieldType.double), Jvm.Cond.code ({ cls := "com/example/tuneless/tuneless/problem/OneMaxEvaluatePinLaw", name := "bit", desc := "(III)I" } : Jvm.MethodName) method_3_code (3 : Nat) (Option.some Jvm.ClassFile.FieldType.int), Jvm.Cond.code ({ cls := "com/example/tuneless/tuneless/problem/OneMaxEvaluatePinLaw", name := "same", desc := "([ZII)Z" } : Jvm.MethodName) method_4_code (3 : Nat) (Option.some Jvm.ClassFile.FieldType.boolean)]
set_option maxRecDepth 65536 in
theorem codes_eq : words1.filter isCode = codes1 := rfl
theorem w_codes : ∀ c ∈ words1.filter isCode, c.before args0 about1 = true := by
  rw [codes_eq]
  intro c hc
  simp only [codes1, List.mem_cons, List.not_mem_nil, or_false] at hc
  rcases hc with rfl | rfl | rfl | rfl | rfl | rfl | rfl | rfl | rfl | rfl | rfl | rfl | rfl | rfl | rfl | rfl | rfl | rfl | rfl | rfl | rfl | rfl | rfl | rfl | rfl | rfl | rfl | rfl | rfl | rfl | rfl | rfl | rfl | rfl | rfl | rfl | rfl | rfl
  · exact w_c0
  · exact w_c1
  · exact w_c2
  · exact w_c3
  · exact w_c4
  · exact w_c5
  · exact w_c6
  · exact w_c7
  · exact w_c8
  · exact w_c9
  · exact w_c10
  · exact w_c11
  · exact w_c12
  · exact w_c13
  · exact w_c14
  · exact w_c15
  · exact w_c16
  · exact w_c17
  · exact w_c18
  · exact w_c19
  · exact w_c20
  · exact w_c21
  · exact w_c22
  · exact w_c23
  · exact w_c24
  · exact w_c25
  · exact w_c26
  · exact w_c27
  · exact w_c28
  · exact w_c29
  · exact w_c30
  · exact w_c31
  · exact w_c32
  · exact w_c33
  · exact w_c34
  · exact w_c35
  · exact w_c36
  · exact w_c37
set_option maxRecDepth 65536 in
theorem w_t1 : (words1.take 24).all (fun c => isCode c || c.before args0 about1) = true := by decide +kernel
set_option maxRecDepth 65536 in
theorem w_t2 : ((words1.drop 24).take 24).all (fun c => isCode c || c.before args0 about1) = true := by decide +kernel
set_option maxRecDepth 65536 in
theorem w_t3 : (((words1.drop 24).drop 24).take 24).all (fun c => isCode c || c.before args0 about1) = true := by decide +kernel
set_option maxRecDepth 65536 in
theorem w_t4 : ((((words1.drop 24).drop 24).drop 24).take 24).all (fun c => isCode c || c.before args0 about1) = true := by decide +kernel
set_option maxRecDepth 65536 in
theorem w_t5 : (((((words1.drop 24).drop 24).drop 24).drop 24).take 24).all (fun c => isCode c || c.before args0 about1) = true := by decide +kernel
set_option maxRecDepth 65536 in
theorem w_t6 : ((((((words1.drop 24).drop 24).drop 24).drop 24).drop 24).take 24).all (fun c => isCode c || c.before args0 about1) = true := by decide +kernel
set_option maxRecDepth 65536 in
theorem w_t7 : (((((((words1.drop 24).drop 24).drop 24).drop 24).drop 24).drop 24).take 24).all (fun c => isCode c || c.before args0 about1) = true := by decide +kernel
set_option maxRecDepth 65536 in
theorem w_t8 : ((((((((words1.drop 24).drop 24).drop 24).drop 24).drop 24).drop 24).drop 24).take 24).all (fun c => isCode c || c.before args0 about1) = true := by decide +kernel
set_option maxRecDepth 65536 in
theorem w_t9 : ((((((((words1.drop 24).drop 24).drop 24).drop 24).drop 24).drop 24).drop 24).drop 24).all (fun c => isCode c || c.before args0 about1) = true := by decide +kernel
theorem w_tables : (allAtoms (Jvm.Cond.code x code maxLocals ret :: tables_1)).before args0 about1 = true := by
  rw [allAtoms_all]
  show words1.all (fun c => c.before args0 about1) = true
  refine all_split ?_ w_codes
  rw [← List.take_append_drop 24 words1, List.all_append, w_t1, ← List.take_append_drop 24 (words1.drop 24), List.all_append, w_t2, ← List.take_append_drop 24 ((words1.drop 24).drop 24), List.all_append, w_t3, ← List.take_append_drop 24 (((words1.drop 24).drop 24).drop 24), List.all_append, w_t4, ← List.take_append_drop 24 ((((words1.drop 24).drop 24).drop 24).drop 24), List.all_append, w_t5, ← List.take_append_drop 24 (((((words1.drop 24).drop 24).drop 24).drop 24).drop 24), List.all_append, w_t6, ← List.take_append_drop 24 ((((((words1.drop 24).drop 24).drop 24).drop 24).drop 24).drop 24), List.all_append, w_t7, ← List.take_append_drop 24 (((((((words1.drop 24).drop 24).drop 24).drop 24).drop 24).drop 24).drop 24), List.all_append, w_t8, w_t9]
  rfl
set_option maxRecDepth 65536 in
theorem w_rest : rest_1_c.before args0 about1 = true := by decide +kernel
set_option maxRecDepth 65536 in
theorem w_case : (Jvm.Cond.and given_1 narrow_1).before args0 about1 = true := by decide +kernel
set_option maxRecDepth 65536 in
theorem w_consts : constsHeld consts_1 about1 := Jvm.Lit.constsHeldB_iff.mp (by decide +kernel)
theorem w_applies : (headSpec (Jvm.Cond.code x code maxLocals ret :: tables_1) room_1).applies x e0.platform about1 = true :=
  (Spec.applies_iff w_frames).mpr ⟨w_running, w_runnable, w_alone, w_named, w_hears, w_ripe, w_room, w_tables⟩
theorem atStart : AtStart classFile x code maxLocals ret World_1 tables_1 room_1 Calls_1 rest_1 Pre_1 launch0 p0 e0 about1 theMethod args0 below0 :=
  ⟨lists_1, trivial, launch0.admits_env _ _ _, launch0.least_env, fairChoices_fair.cas, fairChoices_fair.clock, w_frames, w_args, w_heap, w_applies, ⟨w_consts, trivial⟩, w_rest, w_case⟩
end start1
theorem witness_1 : WitnessClaimed_1 := ⟨start1.p0, start1.e0, start1.about1, start1.theMethod, start1.args0, start1.below0, start1.atStart⟩
end Jvm.Pilot.@@N@@
