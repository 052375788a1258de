import JvmDerived
import JvmDerived.Pilot.@@N@@Statement
import JvmDerived.Pilot.@@N@@Code
set_option linter.unusedVariables false
set_option linter.unusedSimpArgs false
namespace Jvm.RoadKit
open Sem ClassFile Op Lib Jvm.Stand Jvm.Free Jvm.LawKit
section New
variable {p : Program} {l : Launch} {e : Env} {R : Room} {s : State} {m : MethodId} {args : Array Value} {below : List Frame} {meth : Method} {c : Code} {T : State} {locs : List Loc} {cells slots : Nat}
theorem retI (X : Stand p l e R s m args below meth c T locs cells slots) (hx : p.tables.exec = Jvm.exec) {pc : Nat} {Ls : Array Slot} {z : Int32} {rest : List Value} (hret : meth.sig.returnType = some .int) (hd : decode c.code pc = .ok (.ireturn, 1)) {fs : List Frame}
    (hl : ∀ (f : JFrame) (acts : List Action), f.method = m → f.locked = none → f.entered = [] → (doReturn e (T.setTop f) acts (some (.int z))).1 = T.setFrames fs) : Steps p.tables e below (T.setTop (mkF m pc Ls (.int z :: rest))) (T.setFrames fs) := retOut X hx hret rfl (Or.inl ⟨rfl, Or.inl rfl, _, rfl⟩) hd hl
end New
end Jvm.RoadKit
namespace Jvm.Pilot.@@N@@
open Jvm Jvm.ClassFile Sem Op Lib Jvm.Free Jvm.Stand Jvm.LawKit Jvm.RoadKit Bundle Jvm.Pilot.@@N@@.Jvm.D
section OwnKit
variable {p : Program} {l : Launch} {e : Env} {R : Room} {s : State} {m : MethodId} {args : Array Value} {below : List Frame} {meth : Method} {c : Code} {T : State} {locs : List Loc} {cells slots : Nat} {Z : State} {a0 : Array Value} {h : Heap}
def Go (p : Program) (e : Env) (below : List Frame) (Q : Outcome → State → Prop) (S : State) : Prop := ∃ s₂ o, Steps p.tables e below S s₂ ∧ s₂.status = .running ∧ Ended s₂ below o ∧ Q o s₂
theorem Go.of {Q : Outcome → State → Prop} {S : State} (k : Go p e below Q S) : ∃ s₂ o, Steps p.tables e below S s₂ ∧ s₂.status = .running ∧ Ended s₂ below o ∧ Q o s₂ := k
theorem Go.st {Q : Outcome → State → Prop} {S S' : State} (h : ∀ t, Steps p.tables e below S' t → Steps p.tables e below S t) (k : Go p e below Q S') : Go p e below Q S := by
  obtain ⟨s2, o, h1, h2⟩ := k; exact ⟨s2, o, h _ h1, h2⟩
theorem Go.op {α : Type} {Q : Outcome → State → Prop} {S : State} {F : α → State} {x : α} (h : ∀ t, Steps p.tables e below (F x) t → Steps p.tables e below S t) (k : ∀ z, z = x → Go p e below Q (F z)) : Go p e below Q S := Go.st h (k x rfl)
theorem Go.join {α : Type} {Q : Outcome → State → Prop} {S : State} (C : α → Prop) (F : α → State) (k : ∀ r, C r → Go p e below Q (F r)) (j : (∀ r, C r → Go p e below Q (F r)) → Go p e below Q S) : Go p e below Q S := j k
theorem Go.joinT {α : Type} {Q : Outcome → State → Prop} {S : State} (X : Stand p l e R s m args below meth c T locs cells slots) (eT : T.heap = h) (C : α → Prop) (F : State → α → State) (k : ∀ T', Stand p l e R s m args below meth c T' locs cells slots → T'.heap = h → ∀ r, C r → Go p e below Q (F T' r)) (j : (∀ T', Stand p l e R s m args below meth c T' locs cells slots → T'.heap = h → ∀ r, C r → Go p e below Q (F T' r)) → Go p e below Q S) : Go p e below Q S := j k
theorem Go.loop {α : Type} {Q : Outcome → State → Prop} (I : Nat → α → Prop) (F : α → State) (k0 : Nat) (x0 : α) (h0 : I k0 x0) (step : ∀ k x, I k x → (∀ k' x', k' < k → I k' x' → Go p e below Q (F x')) → Go p e below Q (F x)) : Go p e below Q (F x0) := by
  have H : ∀ k x, I k x → Go p e below Q (F x) := by
    intro k
    induction k using Nat.strongRecOn with
    | _ k ih => intro x hx; exact step k x hx fun k' x' hk hx' => ih k' hk x' hx'
  exact H k0 x0 h0
theorem Go.ret {Qn : Option Value → Heap → List Loc → Prop} {rc rs : Nat} (X : Stand p l e R s m args below meth c T locs cells slots) {v : Option Value} (hv : meth.sig.returnType = none → v = none) (hlk : meth.locks = false) {f : JFrame}
    (st : ∀ fs, (∀ (f : JFrame) (acts : List Action), f.method = m → f.locked = none → f.entered = [] → (doReturn e (T.setTop f) acts v).1 = T.setFrames fs) → Steps p.tables e below (T.setTop f) (T.setFrames fs))
    (hc : cells ≤ rc) (hs : slots ≤ rs) (hQ : Qn v T.heap locs) : Go p e below (fun o U' => ∃ v L, o = .returned v ∧ Qn v U'.heap L ∧ FrameEnd s o U' L rc rs) (T.setTop f) := by
  obtain ⟨fs, hr, hrun, hended, hW, hsame⟩ := X.leave (v := v) hv hlk
  exact ⟨_, _, st fs hr, hrun, hended, v, locs, rfl, hQ, ⟨_, rfl⟩, hW, hsame.mono hc hs⟩
abbrev Con (l : Launch) (Z : State) (y : MethodName) (bytes : ByteArray) (maxL : Nat) (ret : Option FieldType) (ws : List Jvm.Cond) (rm : Room) (as' : Array Value) (h : Heap) (rc rs : Nat) (Q : Option Value → Heap → List Loc → Prop) : Prop :=
  MetFree l y (head1 (Jvm.Cond.code y bytes maxL ret :: ws) rm) (fun a U => a = as' ∧ Z.Warmed39 U.vm ∧ U.heap = h) (fun _ _ _ _ _ => True) (fun _ U o U' => ∃ v L, o = .returned v ∧ Q v U'.heap L ∧ FrameEnd U o U' L rc rs)
theorem own_eh {a : Addr} {cl : Cell} (eT : T.heap = h) (q : h[a]? = some cl) : T.heap[a]? = some cl := by rw [eT]; exact q
theorem own_callS {own : String} {index : Nat} {y : MethodName} {bytes : ByteArray} {maxL : Nat} {ret : Option FieldType} {rm : Room} {as' : Array Value} {Q : Option Value → Heap → List Loc → Prop} {W : Nat} {g : JFrame} {argsL rest : List Value}
    (X : Stand p l e R s m args below meth c T locs cells slots) (hx : p.tables.exec = Jvm.exec) (hZ : Z.Warmed39 s.vm) (eT : T.heap = h) (hown : s.vm.findClass own = some m.cls)
    (w1 : (Jvm.Cond.methodLink own index y).before a0 Z = true) (w2 : (Jvm.Cond.static y).before a0 Z = true) (w3 : (Jvm.Cond.initialized y.cls).before a0 Z = true) (w4 : (Jvm.Cond.code y bytes maxL ret).before a0 Z = true)
    (hy : y.cls ≠ "java/lang/invoke/MethodHandle" ∧ y.cls ≠ "java/lang/invoke/VarHandle")
    (hM : Con l Z y bytes maxL ret [] rm as' h rm.cells rm.slots Q)
    (hf : rm.frames + 1 ≤ R.frames) (hl : W + (maxL + 11) + rm.locals ≤ R.locals) (hc : cells + rm.cells ≤ R.cells) (hs : slots + rm.slots ≤ R.slots)
    (hg : g.method = m) (hsize : g.locals.size = c.maxLocals) (has : argsL.toArray = as') (hlen : ∀ sig, parseMethodDescriptor y.desc = some sig → argsL.length = sig.parameters.length)
    (hstack : g.stack = argsL.reverse ++ rest) (hW : 2 * g.monitorRoom + (rest.map fun v => v.category).sum ≤ W) (hdg : decode c.code g.pc = .ok (.invokestatic index, 3)) :
    ∃ v T' L, Stand p l e R s m args below meth c T' (locs ++ L) (cells + rm.cells) (slots + rm.slots) ∧ Q v T'.heap L ∧ ∀ target, Steps p.tables e below (T'.setTop { g with pc := g.pc + 3, stack := v.toList ++ rest }) target → Steps p.tables e below (T.setTop g) target := by
  obtain ⟨v, _, ⟨T', L', k', n'⟩, -, X', ⟨L, hQ, l', y', z'⟩, st⟩ := Jvm.LawKit.callS X hx (y := y) hown (mvT hZ w1) (mvT hZ w2) (mvT hZ w3) (mvT hZ w4) hy (backOf (W := W) hM hZ w4 w3 hf hl) (g := g) hg hsize (argsL := argsL) (rest := rest) hlen hstack hW hdg (fun _ _ => ⟨has, eT, hc, hs⟩)
  dsimp only [Pt.U, Pt.locs, Pt.cells, Pt.slots] at X' l' y' z' st hQ
  subst l' y' z'
  exact ⟨v, T', L, X', hQ, st⟩
theorem own_callI {own : String} {index : Nat} {y : MethodName} {bytes : ByteArray} {maxL : Nat} {rm : Room} {as' : Array Value} {Q : Option Value → Heap → List Loc → Prop} {W : Nat} {g : JFrame} {a : Addr} {argsL rest : List Value}
    (X : Stand p l e R s m args below meth c T locs cells slots) (hx : p.tables.exec = Jvm.exec) (hZ : Z.Warmed39 s.vm) (eT : T.heap = h) (hown : s.vm.findClass own = some m.cls) (hyn : y.name = "<init>")
    (w1 : (Jvm.Cond.methodLink own index y).before a0 Z = true) (w2 : (Jvm.Cond.instanceMethod y).before a0 Z = true) (w3 : (Jvm.Cond.initialized y.cls).before a0 Z = true) (w4 : (Jvm.Cond.code y bytes maxL none).before a0 Z = true)
    (hy : y.cls ≠ "java/lang/invoke/MethodHandle" ∧ y.cls ≠ "java/lang/invoke/VarHandle")
    (hM : Con l Z y bytes maxL none [] rm as' h rm.cells rm.slots Q)
    (hf : rm.frames + 1 ≤ R.frames) (hl : W + (maxL + 11) + rm.locals ≤ R.locals) (hc : cells + rm.cells ≤ R.cells) (hs : slots + rm.slots ≤ R.slots)
    (hg : g.method = m) (hsize : g.locals.size = c.maxLocals) (has : (Value.ref a :: argsL).toArray = as') (hlen : ∀ sig, parseMethodDescriptor y.desc = some sig → argsL.length = sig.parameters.length)
    (hstack : g.stack = argsL.reverse ++ .ref a :: rest) (hW : 2 * g.monitorRoom + (rest.map fun v => v.category).sum ≤ W) (hdg : decode c.code g.pc = .ok (.invokespecial index, 3)) :
    ∃ v T' L, Stand p l e R s m args below meth c T' (locs ++ L) (cells + rm.cells) (slots + rm.slots) ∧ Q v T'.heap L ∧ ∀ target, Steps p.tables e below (T'.setTop { g with pc := g.pc + 3, stack := v.toList ++ rest }) target → Steps p.tables e below (T.setTop g) target := by
  obtain ⟨v, _, ⟨T', L', k', n'⟩, -, X', ⟨L, hQ, l', y', z'⟩, st⟩ := X.specialBack hx (y := y) hyn hown (mvT hZ w1) (mvT hZ w2) (mvT hZ w4) hy (backOf (W := W) hM hZ w4 w3 hf hl) (g := g) hg hsize (Steps.refl _) (a := a) (argsL := argsL) (rest := rest) hlen hstack hW hdg (fun _ _ => ⟨has, eT, hc, hs⟩)
  dsimp only [Pt.U, Pt.locs, Pt.cells, Pt.slots] at X' l' y' z' st hQ
  subst l' y' z'
  exact ⟨v, T', L, X', hQ, fun _ k => st.trans k⟩
theorem own_callV {own C : String} {index : Nat} {y z : MethodName} {bytes : ByteArray} {maxL : Nat} {ret : Option FieldType} {rm : Room} {as' : Array Value} {Q : Option Value → Heap → List Loc → Prop} {W : Nat} {g : JFrame} {a : Addr} {argsL rest : List Value}
    (X : Stand p l e R s m args below meth c T locs cells slots) (hx : p.tables.exec = Jvm.exec) (hZ : Z.Warmed39 s.vm) (eT : T.heap = h) (hown : s.vm.findClass own = some m.cls)
    (w1 : (Jvm.Cond.methodLink own index y).before a0 Z = true) (w2 : (Jvm.Cond.declares y).before a0 Z = true) (nf : NotFace s y) (w5 : (Jvm.Cond.selects C y z).before a0 Z = true) (w6 : (Jvm.Cond.instanceMethod z).before a0 Z = true) (w3 : (Jvm.Cond.initialized z.cls).before a0 Z = true) (w4 : (Jvm.Cond.code z bytes maxL ret).before a0 Z = true)
    (hy : y.cls ≠ "java/lang/invoke/MethodHandle" ∧ y.cls ≠ "java/lang/invoke/VarHandle") (E : Exa Z h a C)
    (hM : Con l Z z bytes maxL ret [] rm as' h rm.cells rm.slots Q)
    (hf : rm.frames + 1 ≤ R.frames) (hl : W + (maxL + 11) + rm.locals ≤ R.locals) (hc : cells + rm.cells ≤ R.cells) (hs : slots + rm.slots ≤ R.slots)
    (hg : g.method = m) (hsize : g.locals.size = c.maxLocals) (has : (Value.ref a :: argsL).toArray = as') (hlen : ∀ sig, parseMethodDescriptor y.desc = some sig → argsL.length = sig.parameters.length)
    (hstack : g.stack = argsL.reverse ++ .ref a :: rest) (hW : 2 * g.monitorRoom + (rest.map fun v => v.category).sum ≤ W) (hdg : decode c.code g.pc = .ok (.invokevirtual index, 3)) :
    ∃ v T' L, Stand p l e R s m args below meth c T' (locs ++ L) (cells + rm.cells) (slots + rm.slots) ∧ Q v T'.heap L ∧ ∀ target, Steps p.tables e below (T'.setTop { g with pc := g.pc + 3, stack := v.toList ++ rest }) target → Steps p.tables e below (T.setTop g) target := by
  obtain ⟨cq, kq, qa, qb, qc⟩ := isOf hZ eT E
  obtain ⟨v, _, ⟨T', L', k', n'⟩, -, X', ⟨L, hQ, l', y', z'⟩, st⟩ := X.virtualBack hx (y := y) (z := z) hown (mvT hZ w1) (mvT hZ w2) nf (mvT hZ w5) (mvT hZ w6) hy (backOf (W := W) hM hZ w4 w3 hf hl) qa qc (g := g) hg hsize (Steps.refl _) (argsL := argsL) (rest := rest) hlen hstack hW hdg (fun _ _ => ⟨has, eT, hc, hs⟩)
  dsimp only [Pt.U, Pt.locs, Pt.cells, Pt.slots] at X' l' y' z' st hQ
  subst l' y' z'
  exact ⟨v, T', L, X', hQ, fun _ k => st.trans k⟩
theorem own_sta_keep {C n d : String} {w : Value} {h h' : Heap} {ws : List Addr} (F : Sta Z h C n d w) (K : Keep h h' ws) (q : ∀ x ∈ ws, ∃ cl : Cell, h[x]? = some cl ∧ cl.vm.isStatics = false) : Sta Z h' C n d w := by
  obtain ⟨cf, i, k, f, st, cell, h1, h2, h3, h4, h5, h6, h7⟩ := F
  refine ⟨cf, i, k, f, st, cell, h1, h2, h3, h4, K.2.1 st cell h5 fun z => ?_, h6, h7⟩
  obtain ⟨cl, q1, q2⟩ := q st z
  cases h5.symm.trans q1
  rw [h6] at q2; cases q2
theorem own_exa_plain {a : Addr} {C : String} {h : Heap} (F : Exa Z h a C) : ∃ cl : Cell, h[a]? = some cl ∧ cl.vm.isStatics = false := by
  obtain ⟨cell, k, h1, -, -, h4, -⟩ := F; exact ⟨cell, h1, h4⟩
theorem own_arv_plain {a : Addr} {k : ClassId} {ty : FieldType} {z : Int32} {vs : List Value} {dv : Value} {h : Heap} (F : Arv Z h a k ty z vs dv) : ∃ cl : Cell, h[a]? = some cl ∧ cl.vm.isStatics = false := by
  obtain ⟨cell, A, -⟩ := F; exact ⟨cell, A.1, A.plain⟩
theorem own_getR {own O n d : String} {index : Nat} {a : Addr} {v : Value} {g : JFrame} {rest : List Value} (X : Stand p l e R s m args below meth c T locs cells slots) (hx : p.tables.exec = Jvm.exec) (hZ : Z.Warmed39 s.vm) (hown : s.vm.findClass own = some m.cls)
    (w : (Jvm.Cond.fieldRef own index O n d).before a0 Z = true) (eT : T.heap = h) (F : Fld Z h a O n d v) (hg : g.method = m) (hs : g.stack = .ref a :: rest) (hd : decode c.code g.pc = .ok (.getfield index, 3)) :
    ∀ target, Steps p.tables e below (T.setTop { g with pc := g.pc + 3, stack := v :: rest }) target → Steps p.tables e below (T.setTop g) target := by
  have hU : Z.Warmed39 T.vm := wtrans hZ X.warmed
  have w2 := Cond.fieldRef_warmed39 hU w
  have hc : (Z.setVm T.vm).vm.findClass own = some m.cls := by
    show T.vm.findClass own = some m.cls
    rw [X.warmed.alike.findClass]; exact hown
  obtain ⟨c1, k1, i1, f1, hf1, hr⟩ := Cond.fieldRef_spec hc w2
  obtain ⟨cell, cf, k, i, f, h1, h2, h3, h4, -, -, h7⟩ := F
  obtain ⟨k', hi, -⟩ := State.fieldFound?_setVm (s := Z) hU.alike h2
  cases hi.symm.trans hf1
  intro t kk
  exact (X.getfieldR hx hg hr h3 hs (by rw [eT]; exact h1) h4 h7 hd (Steps.refl _)).trans kk
theorem own_callP {own C : String} {index : Nat} {y : MethodName} {bytes : ByteArray} {maxL : Nat} {ret : Option FieldType} {rm : Room} {as' : Array Value} {Q : Option Value → Heap → List Loc → Prop} {W : Nat} {g : JFrame} {a : Addr} {argsL rest : List Value}
    (X : Stand p l e R s m args below meth c T locs cells slots) (hx : p.tables.exec = Jvm.exec) (hZ : Z.Warmed39 s.vm) (eT : T.heap = h) (hown : s.vm.findClass own = some m.cls)
    (w1 : (Jvm.Cond.methodLink own index y).before a0 Z = true) (w2 : (Jvm.Cond.instanceMethod y).before a0 Z = true) (w5 : (Jvm.Cond.selects y.cls y y).before a0 Z = true) (w6 : (Jvm.Cond.privateMethod y).before a0 Z = true) (w3 : (Jvm.Cond.initialized y.cls).before a0 Z = true) (w4 : (Jvm.Cond.code y bytes maxL ret).before a0 Z = true)
    (hy : y.cls ≠ "java/lang/invoke/MethodHandle" ∧ y.cls ≠ "java/lang/invoke/VarHandle") (E : Exa Z h a C)
    (hM : Con l Z y bytes maxL ret [] rm as' h rm.cells rm.slots Q)
    (hf : rm.frames + 1 ≤ R.frames) (hl : W + (maxL + 11) + rm.locals ≤ R.locals) (hc : cells + rm.cells ≤ R.cells) (hs : slots + rm.slots ≤ R.slots)
    (hg : g.method = m) (hsize : g.locals.size = c.maxLocals) (has : (Value.ref a :: argsL).toArray = as') (hlen : ∀ sig, parseMethodDescriptor y.desc = some sig → argsL.length = sig.parameters.length)
    (hstack : g.stack = argsL.reverse ++ .ref a :: rest) (hW : 2 * g.monitorRoom + (rest.map fun v => v.category).sum ≤ W) (hdg : decode c.code g.pc = .ok (.invokevirtual index, 3)) :
    ∃ v T' L, Stand p l e R s m args below meth c T' (locs ++ L) (cells + rm.cells) (slots + rm.slots) ∧ Q v T'.heap L ∧ ∀ target, Steps p.tables e below (T'.setTop { g with pc := g.pc + 3, stack := v.toList ++ rest }) target → Steps p.tables e below (T.setTop g) target := by
  obtain ⟨cq, q1, q2⟩ := E.cell
  obtain ⟨v, _, ⟨T', L', k', n'⟩, -, X', ⟨L, hQ, l', y', z'⟩, st⟩ := X.privateBack hx (y := y) hown (mvT hZ w1) (mvT hZ w2) (mvT hZ w5) (Cond.privateMethod_at (mvP hZ w6 (args := #[]))) (mvT hZ w4) hy (backOf (W := W) hM hZ w4 w3 hf hl) (g := g) hg hsize (Steps.refl _) (a := a) (by rw [eT]; exact q1) q2 (argsL := argsL) (rest := rest) hlen hstack hW hdg (fun _ _ => ⟨has, eT, hc, hs⟩)
  dsimp only [Pt.U, Pt.locs, Pt.cells, Pt.slots] at X' l' y' z' st hQ
  subst l' y' z'
  exact ⟨v, T', L, X', hQ, fun _ k => st.trans k⟩
theorem own_callF {own C : String} {index count : Nat} {xi y : MethodName} {bytes : ByteArray} {maxL : Nat} {ret : Option FieldType} {rm : Room} {as' : Array Value} {Q : Option Value → Heap → List Loc → Prop} {W : Nat} {g : JFrame} {a : Addr} {argsL rest : List Value}
    (X : Stand p l e R s m args below meth c T locs cells slots) (hx : p.tables.exec = Jvm.exec) (hZ : Z.Warmed39 s.vm) (eT : T.heap = h) (hown : s.vm.findClass own = some m.cls)
    (w1 : (Jvm.Cond.methodLink own index xi).before a0 Z = true) (w2 : (Jvm.Cond.declares xi).before a0 Z = true) (w7 : (Jvm.Cond.interfaceMethod xi.cls xi.cls xi.name xi.desc).before args s = true) (w5 : (Jvm.Cond.selects C xi y).before a0 Z = true) (w6 : (Jvm.Cond.instanceMethod y).before a0 Z = true)
    (w8 : (Jvm.Cond.publicMethod y).before a0 Z = true) (w9 : (Jvm.Cond.unhidden C xi.name xi.desc).before a0 Z = true) (w10 : (Jvm.Cond.castable C xi.cls).before a0 Z = true) (w3 : (Jvm.Cond.initialized y.cls).before a0 Z = true) (w4 : (Jvm.Cond.code y bytes maxL ret).before a0 Z = true)
    (hy : xi.cls ≠ "java/lang/invoke/MethodHandle" ∧ xi.cls ≠ "java/lang/invoke/VarHandle") (E : Exa Z h a C)
    (hM : Con l Z y bytes maxL ret [] rm as' h rm.cells rm.slots Q)
    (hf : rm.frames + 1 ≤ R.frames) (hl : W + (maxL + 11) + rm.locals ≤ R.locals) (hc : cells + rm.cells ≤ R.cells) (hs : slots + rm.slots ≤ R.slots)
    (hg : g.method = m) (hsize : g.locals.size = c.maxLocals) (has : (Value.ref a :: argsL).toArray = as') (hlen : ∀ sig, parseMethodDescriptor xi.desc = some sig → argsL.length = sig.parameters.length)
    (hstack : g.stack = argsL.reverse ++ .ref a :: rest) (hW : 2 * g.monitorRoom + (rest.map fun v => v.category).sum ≤ W) (hdg : decode c.code g.pc = .ok (.invokeinterface index count, 5)) :
    ∃ v T' L, Stand p l e R s m args below meth c T' (locs ++ L) (cells + rm.cells) (slots + rm.slots) ∧ Q v T'.heap L ∧ ∀ target, Steps p.tables e below (T'.setTop { g with pc := g.pc + 5, stack := v.toList ++ rest }) target → Steps p.tables e below (T.setTop g) target := by
  obtain ⟨cq, kq, qa, qb, qc⟩ := isOf hZ eT E
  obtain ⟨v, _, ⟨T', L', k', n'⟩, -, X', ⟨L, hQ, l', y', z'⟩, st⟩ := X.interfaceBack hx (xi := xi) (y := y) hown (mvT hZ w1) (mvT hZ w2) w7 (mvT hZ w5) (mvT hZ w6) (mvT hZ w8) (mvT hZ w9) (mvT hZ w10) hy (backOf (W := W) hM hZ w4 w3 hf hl) qa qb qc (g := g) hg hsize (Steps.refl _) (argsL := argsL) (rest := rest) hlen hstack hW hdg (fun _ _ => ⟨has, eT, hc, hs⟩)
  dsimp only [Pt.U, Pt.locs, Pt.cells, Pt.slots] at X' l' y' z' st hQ
  subst l' y' z'
  exact ⟨v, T', L, X', hQ, fun _ k => st.trans k⟩
theorem own_ns_root {O K : String} {n : Nat} (w : (Jvm.Cond.noSuperclass O).before a0 Z = true) (wk : (Jvm.Cond.instantiable K n).before a0 Z = true) (hn : O ≠ K) : NS Z O K := by
  obtain ⟨c, k, h1, h2, h3, -, -⟩ := Cond.noSuperclass_spec w
  obtain ⟨t, kt, g1, -⟩ := Cond.instantiable_spec wk
  have ne := ids_ne h1 g1 hn
  refine ⟨c, t, h1, g1, fun fuel => ?_⟩
  cases fuel with
  | zero => rfl
  | succ f => simp [Vm.isSubclassAux, ne, h2, h3]
theorem own_ns_no {C S K : String} {n : Nat} (w : (Jvm.Cond.superclass C S).before a0 Z = true) (wk : (Jvm.Cond.instantiable K n).before a0 Z = true) (hN : NS Z C K) (hn : C ≠ K) : ∃ c t, Z.vm.findClass C = some c ∧ Z.vm.findClass K = some t ∧ Z.vm.assignable c t = false := by
  obtain ⟨c, t, h0, g0, n3⟩ := hN
  obtain ⟨p, k, kp, h1, h2, h3, h4, h5, -, h7⟩ := Cond.superclass_spec h0 w
  obtain ⟨t', kt, g1, g2, g3, g4, -⟩ := Cond.instantiable_spec wk
  cases g0.symm.trans g1
  have g7 : kt.isInterface = false := by
    cases hq : kt.isInterface
    · rfl
    · simp [hq] at g4
  have ne := ids_ne h0 g0 hn
  refine ⟨c, t, h0, g0, ?_⟩
  show Z.vm.assignableAux (255 + 1) c t = false
  simp [Vm.assignableAux, ne, h2, g2, h5, g3, g7, Vm.isSubclass, n3]
end OwnKit
theorem dmethod_2_code_0 : decode method_2_code 0 = .ok (.iload 4, 2) := by decide +kernel
theorem dmethod_2_code_2 : decode method_2_code 2 = .ok (.ifCond .ne 9, 3) := by decide +kernel
theorem dmethod_2_code_5 : decode method_2_code 5 = .ok (.lload_n 2, 1) := by decide +kernel
theorem dmethod_2_code_6 : decode method_2_code 6 = .ok (.ldc2_w 9, 3) := by decide +kernel
theorem dmethod_2_code_9 : decode method_2_code 9 = .ok (.land, 1) := by decide +kernel
theorem dmethod_2_code_10 : decode method_2_code 10 = .ok (.lreturn, 1) := by decide +kernel
theorem dmethod_2_code_11 : decode method_2_code 11 = .ok (.lload_n 2, 1) := by decide +kernel
theorem dmethod_2_code_12 : decode method_2_code 12 = .ok (.ldc2_w 11, 3) := by decide +kernel
theorem dmethod_2_code_15 : decode method_2_code 15 = .ok (.land, 1) := by decide +kernel
theorem dmethod_2_code_16 : decode method_2_code 16 = .ok (.lconst 1, 1) := by decide +kernel
theorem dmethod_2_code_17 : decode method_2_code 17 = .ok (.lsub, 1) := by decide +kernel
theorem dmethod_2_code_18 : decode method_2_code 18 = .ok (.lstore 5, 2) := by decide +kernel
theorem dmethod_2_code_20 : decode method_2_code 20 = .ok (.lload_n 0, 1) := by decide +kernel
theorem dmethod_2_code_21 : decode method_2_code 21 = .ok (.lload 5, 2) := by decide +kernel
theorem dmethod_2_code_23 : decode method_2_code 23 = .ok (.ladd, 1) := by decide +kernel
theorem dmethod_2_code_24 : decode method_2_code 24 = .ok (.lstore 7, 2) := by decide +kernel
theorem dmethod_2_code_26 : decode method_2_code 26 = .ok (.lload 7, 2) := by decide +kernel
theorem dmethod_2_code_28 : decode method_2_code 28 = .ok (.lconst 0, 1) := by decide +kernel
theorem dmethod_2_code_29 : decode method_2_code 29 = .ok (.lcmp, 1) := by decide +kernel
theorem dmethod_2_code_30 : decode method_2_code 30 = .ok (.ifCond .ge 7, 3) := by decide +kernel
theorem dmethod_2_code_33 : decode method_2_code 33 = .ok (.lload_n 0, 1) := by decide +kernel
theorem dmethod_2_code_34 : decode method_2_code 34 = .ok (.goto 5, 3) := by decide +kernel
theorem dmethod_2_code_37 : decode method_2_code 37 = .ok (.lload 7, 2) := by decide +kernel
theorem dmethod_2_code_39 : decode method_2_code 39 = .ok (.lreturn, 1) := by decide +kernel
theorem dprog_46_method_1_code_0 : decode prog_46_method_1_code 0 = .ok (.aload_n 0, 1) := by decide +kernel
theorem dprog_46_method_1_code_1 : decode prog_46_method_1_code 1 = .ok (.invokespecial 1, 3) := by decide +kernel
theorem dprog_46_method_1_code_4 : decode prog_46_method_1_code 4 = .ok (.aload_n 0, 1) := by decide +kernel
theorem dprog_46_method_1_code_5 : decode prog_46_method_1_code 5 = .ok (.lload_n 1, 1) := by decide +kernel
theorem dprog_46_method_1_code_6 : decode prog_46_method_1_code 6 = .ok (.putfield 7, 3) := by decide +kernel
theorem dprog_46_method_1_code_9 : decode prog_46_method_1_code 9 = .ok (.return_, 1) := by decide +kernel
theorem dprog_46_method_2_code_0 : decode prog_46_method_2_code 0 = .ok (.lload_n 1, 1) := by decide +kernel
theorem dprog_46_method_2_code_1 : decode prog_46_method_2_code 1 = .ok (.aload_n 0, 1) := by decide +kernel
theorem dprog_46_method_2_code_2 : decode prog_46_method_2_code 2 = .ok (.getfield 7, 3) := by decide +kernel
theorem dprog_46_method_2_code_5 : decode prog_46_method_2_code 5 = .ok (.lcmp, 1) := by decide +kernel
theorem dprog_46_method_2_code_6 : decode prog_46_method_2_code 6 = .ok (.ifCond .gt 7, 3) := by decide +kernel
theorem dprog_46_method_2_code_9 : decode prog_46_method_2_code 9 = .ok (.iconst 1, 1) := by decide +kernel
theorem dprog_46_method_2_code_10 : decode prog_46_method_2_code 10 = .ok (.goto 4, 3) := by decide +kernel
theorem dprog_46_method_2_code_13 : decode prog_46_method_2_code 13 = .ok (.iconst 0, 1) := by decide +kernel
theorem dprog_46_method_2_code_14 : decode prog_46_method_2_code 14 = .ok (.istore_n 3, 1) := by decide +kernel
theorem dprog_46_method_2_code_15 : decode prog_46_method_2_code 15 = .ok (.iload_n 3, 1) := by decide +kernel
theorem dprog_46_method_2_code_16 : decode prog_46_method_2_code 16 = .ok (.ifCond .eq 13, 3) := by decide +kernel
theorem dprog_46_method_2_code_19 : decode prog_46_method_2_code 19 = .ok (.aload_n 0, 1) := by decide +kernel
theorem dprog_46_method_2_code_20 : decode prog_46_method_2_code 20 = .ok (.dup, 1) := by decide +kernel
theorem dprog_46_method_2_code_21 : decode prog_46_method_2_code 21 = .ok (.getfield 7, 3) := by decide +kernel
theorem dprog_46_method_2_code_24 : decode prog_46_method_2_code 24 = .ok (.lload_n 1, 1) := by decide +kernel
theorem dprog_46_method_2_code_25 : decode prog_46_method_2_code 25 = .ok (.lsub, 1) := by decide +kernel
theorem dprog_46_method_2_code_26 : decode prog_46_method_2_code 26 = .ok (.putfield 7, 3) := by decide +kernel
theorem dprog_46_method_2_code_29 : decode prog_46_method_2_code 29 = .ok (.iload_n 3, 1) := by decide +kernel
theorem dprog_46_method_2_code_30 : decode prog_46_method_2_code 30 = .ok (.ireturn, 1) := by decide +kernel
theorem pn_0 : plainName "com/example/signbound/signbound/expr/BudgetTakePinLaw" = true := by first | (simp [plainName, overriddenIn]; done) | decide +kernel
theorem pn_1 : plainName "com/example/signbound/signbound/expr/PostOrder$Budget" = true := by first | (simp [plainName, overriddenIn]; done) | decide +kernel
theorem pd_0 : parseMethodDescriptor "(JJZ)J" = some ⟨[.long, .long, .boolean], some .long⟩ := by decide +kernel
theorem pd_1 : parseMethodDescriptor "(J)V" = some ⟨[.long], none⟩ := by decide +kernel
theorem pd_2 : parseMethodDescriptor "(J)Z" = some ⟨[.long], some .boolean⟩ := by decide +kernel
theorem ef_1 (m : MethodId) (q0 : Int64) (q1 : Int64) (p2 : Int32) : entryFrame m #[(.long q0), (.long q1), (.int p2)] 9 = mkF m 0 #[.val (.long q0), .second, .val (.long q1), .second, .val (.int p2), .unset, .unset, .unset, .unset] [] := by first | (simp [entryFrame, mkF, argsToLocals, Value.category, maxLocals]; done) | rfl
def Q1 (Z : State) (q0 : Int64) (q1 : Int64) (p2 : Int32) (h0 : Heap) (n0 : Nat) (v : Option Value) (h : Heap) (L : List Loc) : Prop := (∃ (rv1 : Int64) (v11 : Int64) (v12 : Int64) (v13 : Int64) (v15 : Int64), v11 = (q1 &&& (9223372036854775807 : Int64)) ∧ v12 = (q1 &&& (3 : Int64)) ∧ v13 = (v12 - (1 : Int64)) ∧ v15 = (q0 + v13) ∧ (((p2 = (0 : Int32)) ∧ (rv1 = v11)) ∨ ((¬ (p2 = (0 : Int32))) ∧ (v15 < (0 : Int64)) ∧ (rv1 = q0)) ∨ ((¬ (p2 = (0 : Int32))) ∧ (¬ (v15 < (0 : Int64))) ∧ (rv1 = v15))) ∧ v = some (.long rv1) ∧ Fr n0 L ∧ h = h0)
set_option maxRecDepth 65536 in
set_option maxHeartbeats 40000000 in
theorem rm1 (l : Launch) (Z : State) (a0 : Array Value) (hw : ∀ d ∈ tables_1, d.before a0 Z = true) (ws : List Jvm.Cond) (q0 : Int64) (q1 : Int64) (p2 : Int32) (h0 : Heap) (n0 : Nat) (Z0 : n0 ≤ h0.size)  :
    Con l Z (⟨"com/example/signbound/signbound/expr/BudgetTakePinLaw", "pick", "(JJZ)J"⟩ : MethodName) method_2_code 9 (some .long) ws ({ frames := 0, cells := 0, slots := 0, locals := 0 } : Room) #[(.long q0), (.long q1), (.int p2)] h0 0 0 (Q1 Z q0 q1 p2 h0 n0) := by
  refine MetFree.of_bodySF (plainFor_of_name pn_0) hisR ?_
  intro p e s m args below meth c s₁ Bd hml0 hP hK
  obtain ⟨rfl, hZ, hh⟩ := hP
  have hx := Bd.exec
  have hby := Bd.bytes
  have hml : c.maxLocals = 9 := hml0
  have hown : s.vm.findClass "com/example/signbound/signbound/expr/BudgetTakePinLaw" = some m.cls := findClass_of_methodNamed Bd.named
  have hnm := (name_of_methodNamed Bd.named Bd.method).1
  have X0 : Stand p l e ({ frames := 0, cells := 0, slots := 0, locals := 0 } : Room) s m #[(.long q0), (.long q1), (.int p2)] below meth c s₁ [] 0 0 := Stand.of_body Bd
  have e0 : s₁.heap = h0 := by rw [← hh, Bd.state]; rfl
  have N0 := Fr.nil n0
  refine Go.of ?_
  refine Go.st (S' := s₁.setTop (mkF m 0 #[.val (.long q0), .second, .val (.long q1), .second, .val (.int p2), .unset, .unset, .unset, .unset] [])) (fun t k => castTop (ef_1 m q0 q1 p2) k) ?_
  let A9 : Array Slot := #[.val (.long q0), .second, .val (.long q1), .second, .val (.int p2), .unset, .unset, .unset, .unset]
  refine Go.st (S' := s₁.setTop (mkF m 2 A9 [(.int p2)])) (fun t k => XS.iload X0.here hx rfl (hb hby dmethod_2_code_0) rfl k) ?_
  by_cases hc10 : (p2 = (0 : Int32))
  · refine Go.st (S' := s₁.setTop (mkF m 5 A9 [])) (fun t k => XS.ifNo X0.here hx rfl (hb hby dmethod_2_code_2) rfl ((if0 _ _).trans (teq hc10).2) k) ?_
    refine Go.st (S' := s₁.setTop (mkF m 6 A9 [(.long q1)])) (fun t k => XS.lloadN X0.here hx rfl (hb hby dmethod_2_code_5) rfl k) ?_
    refine Go.st (S' := s₁.setTop (mkF m 9 A9 [(.long (9223372036854775807 : Int64)), (.long q1)])) (fun t k => X0.ldc2Long hx hown (mvT hZ (hw _ (List.mem_of_getElem? (i := 0) rfl))) (g := (mkF m 6 A9 [(.long q1)])) rfl (hb hby dmethod_2_code_6) t k) ?_
    refine Go.op (F := fun z => s₁.setTop (mkF m 10 A9 [(.long z)])) (x := (q1 &&& (9223372036854775807 : Int64))) (fun t k => XS.land X0.here hx rfl (hb hby dmethod_2_code_9) rfl k) ?_
    intro v11 hv11
    exact Go.ret X0 (v := some (.long v11)) (fun h => by rw [Bd.returns] at h; cases h) Bd.notSynchronized (fun fs hr => retOut X0 hx Bd.returns rfl (Or.inr (Or.inl ⟨rfl, rfl, _, rfl⟩)) (hb hby dmethod_2_code_10) hr) (by decide) (by decide) (⟨v11, v11, _, _, _, hv11, rfl, rfl, rfl, (Or.inl ⟨hc10, rfl⟩), rfl, N0, (e0)⟩)
  · refine Go.st (S' := s₁.setTop (mkF m 11 A9 [])) (fun t k => XS.ifYes X0.here hx rfl (pc0 := 2) (pc' := 11) rfl (hb hby dmethod_2_code_2) rfl ((if0 _ _).trans (feq hc10).2) (by decide) (by decide) k) ?_
    refine Go.st (S' := s₁.setTop (mkF m 12 A9 [(.long q1)])) (fun t k => XS.lloadN X0.here hx rfl (hb hby dmethod_2_code_11) rfl k) ?_
    refine Go.st (S' := s₁.setTop (mkF m 15 A9 [(.long (3 : Int64)), (.long q1)])) (fun t k => X0.ldc2Long hx hown (mvT hZ (hw _ (List.mem_of_getElem? (i := 21) rfl))) (g := (mkF m 12 A9 [(.long q1)])) rfl (hb hby dmethod_2_code_12) t k) ?_
    refine Go.op (F := fun z => s₁.setTop (mkF m 16 A9 [(.long z)])) (x := (q1 &&& (3 : Int64))) (fun t k => XS.land X0.here hx rfl (hb hby dmethod_2_code_15) rfl k) ?_
    intro v12 hv12
    refine Go.st (S' := s₁.setTop (mkF m 17 A9 [(.long (1 : Int64)), (.long v12)])) (fun t k => XS.lconst X0.here hx rfl (hb hby dmethod_2_code_16) k) ?_
    refine Go.op (F := fun z => s₁.setTop (mkF m 18 A9 [(.long z)])) (x := (v12 - (1 : Int64))) (fun t k => XS.lsub X0.here hx rfl (hb hby dmethod_2_code_17) rfl k) ?_
    intro v13 hv13
    let A14 : Array Slot := #[.val (.long q0), .second, .val (.long q1), .second, .val (.int p2), .val (.long v13), .second, .unset, .unset]
    refine Go.st (S' := s₁.setTop (mkF m 20 A14 [])) (fun t k => XS.lstore X0.here hx rfl (hb hby dmethod_2_code_18) rfl (l' := A14) rfl k) ?_
    refine Go.st (S' := s₁.setTop (mkF m 21 A14 [(.long q0)])) (fun t k => XS.lloadN X0.here hx rfl (hb hby dmethod_2_code_20) rfl k) ?_
    refine Go.st (S' := s₁.setTop (mkF m 23 A14 [(.long v13), (.long q0)])) (fun t k => XS.lload X0.here hx rfl (hb hby dmethod_2_code_21) rfl k) ?_
    refine Go.op (F := fun z => s₁.setTop (mkF m 24 A14 [(.long z)])) (x := (q0 + v13)) (fun t k => XS.ladd X0.here hx rfl (hb hby dmethod_2_code_23) rfl k) ?_
    intro v15 hv15
    let A16 : Array Slot := #[.val (.long q0), .second, .val (.long q1), .second, .val (.int p2), .val (.long v13), .second, .val (.long v15), .second]
    refine Go.st (S' := s₁.setTop (mkF m 26 A16 [])) (fun t k => XS.lstore X0.here hx rfl (hb hby dmethod_2_code_24) rfl (l' := A16) rfl k) ?_
    refine Go.st (S' := s₁.setTop (mkF m 28 A16 [(.long v15)])) (fun t k => XS.lload X0.here hx rfl (hb hby dmethod_2_code_26) rfl k) ?_
    refine Go.st (S' := s₁.setTop (mkF m 29 A16 [(.long (0 : Int64)), (.long v15)])) (fun t k => XS.lconst X0.here hx rfl (hb hby dmethod_2_code_28) k) ?_
    refine Go.op (F := fun z => s₁.setTop (mkF m 30 A16 [(.int z)])) (x := (lcmpW v15 (0 : Int64))) (fun t k => XS.lcmp X0.here hx rfl (hb hby dmethod_2_code_29) rfl k) ?_
    intro v17 hv17
    by_cases hc18 : (v15 < (0 : Int64))
    · refine Go.st (S' := s₁.setTop (mkF m 33 A16 [])) (fun t k => XS.ifNo X0.here hx rfl (hb hby dmethod_2_code_30) rfl ((if0 _ _).trans (tlt (by rw [hv17]; exact (lw_lt _ _).2 hc18)).2.1) k) ?_
      refine Go.st (S' := s₁.setTop (mkF m 34 A16 [(.long q0)])) (fun t k => XS.lloadN X0.here hx rfl (hb hby dmethod_2_code_33) rfl k) ?_
      refine Go.st (S' := s₁.setTop (mkF m 39 A16 [(.long q0)])) (fun t k => XS.goto X0.here hx rfl (pc0 := 34) (pc' := 39) rfl (hb hby dmethod_2_code_34) (by decide) (by decide) k) ?_
      exact Go.ret X0 (v := some (.long q0)) (fun h => by rw [Bd.returns] at h; cases h) Bd.notSynchronized (fun fs hr => retOut X0 hx Bd.returns rfl (Or.inr (Or.inl ⟨rfl, rfl, _, rfl⟩)) (hb hby dmethod_2_code_39) hr) (by decide) (by decide) (⟨q0, _, v12, v13, v15, rfl, hv12, hv13, hv15, (Or.inr (Or.inl ⟨hc10, hc18, rfl⟩)), rfl, N0, (e0)⟩)
    · refine Go.st (S' := s₁.setTop (mkF m 37 A16 [])) (fun t k => XS.ifYes X0.here hx rfl (pc0 := 30) (pc' := 37) rfl (hb hby dmethod_2_code_30) rfl ((if0 _ _).trans (flt (by rw [hv17]; exact fun z => hc18 ((lw_lt _ _).1 z))).2.1) (by decide) (by decide) k) ?_
      refine Go.st (S' := s₁.setTop (mkF m 39 A16 [(.long v15)])) (fun t k => XS.lload X0.here hx rfl (hb hby dmethod_2_code_37) rfl k) ?_
      exact Go.ret X0 (v := some (.long v15)) (fun h => by rw [Bd.returns] at h; cases h) Bd.notSynchronized (fun fs hr => retOut X0 hx Bd.returns rfl (Or.inr (Or.inl ⟨rfl, rfl, _, rfl⟩)) (hb hby dmethod_2_code_39) hr) (by decide) (by decide) (⟨v15, _, v12, v13, v15, rfl, hv12, hv13, hv15, (Or.inr (Or.inr ⟨hc10, hc18, rfl⟩)), rfl, N0, (e0)⟩)
theorem ef_2 (m : MethodId) (o0 : Addr) (q1 : Int64) : entryFrame m #[(.ref o0), (.long q1)] 3 = mkF m 0 #[.val (.ref o0), .val (.long q1), .second] [] := by first | (simp [entryFrame, mkF, argsToLocals, Value.category, maxLocals]; done) | rfl
def Q2 (Z : State) (o0 : Addr) (q1 : Int64) (u_o0_left : Value) (h0 : Heap) (n0 : Nat) (v : Option Value) (h : Heap) (L : List Loc) : Prop := (v = none ∧ Fr n0 L ∧ Keep h0 h [o0] ∧ Exa Z h o0 "com/example/signbound/signbound/expr/PostOrder$Budget" ∧ Fld Z h o0 "com/example/signbound/signbound/expr/PostOrder$Budget" "left" "J" (.long q1))
set_option maxRecDepth 65536 in
set_option maxHeartbeats 40000000 in
theorem rm2 (l : Launch) (Z : State) (a0 : Array Value) (hw : ∀ d ∈ tables_1, d.before a0 Z = true) (ws : List Jvm.Cond) (o0 : Addr) (q1 : Int64) (u_o0_left : Value) (h0 : Heap) (n0 : Nat) (Z0 : n0 ≤ h0.size) (E_o0 : Exa Z h0 o0 "com/example/signbound/signbound/expr/PostOrder$Budget") (F_o0_left : Fld Z h0 o0 "com/example/signbound/signbound/expr/PostOrder$Budget" "left" "J" u_o0_left) (g_o0 : n0 ≤ o0) :
    Con l Z (⟨"com/example/signbound/signbound/expr/PostOrder$Budget", "<init>", "(J)V"⟩ : MethodName) prog_46_method_1_code 3 none ws ({ frames := 1, cells := 0, slots := 0, locals := 12 } : Room) #[(.ref o0), (.long q1)] h0 0 0 (Q2 Z o0 q1 u_o0_left h0 n0) := by
  refine MetFree.of_bodySF (plainFor_of_name pn_1) hisR ?_
  intro p e s m args below meth c s₁ Bd hml0 hP hK
  obtain ⟨rfl, hZ, hh⟩ := hP
  have hx := Bd.exec
  have hby := Bd.bytes
  have hml : c.maxLocals = 3 := hml0
  have hown : s.vm.findClass "com/example/signbound/signbound/expr/PostOrder$Budget" = some m.cls := findClass_of_methodNamed Bd.named
  have hnm := (name_of_methodNamed Bd.named Bd.method).1
  have X0 : Stand p l e ({ frames := 1, cells := 0, slots := 0, locals := 12 } : Room) s m #[(.ref o0), (.long q1)] below meth c s₁ [] 0 0 := Stand.of_body Bd
  have e0 : s₁.heap = h0 := by rw [← hh, Bd.state]; rfl
  have N0 := Fr.nil n0
  refine Go.of ?_
  refine Go.st (S' := s₁.setTop (mkF m 0 #[.val (.ref o0), .val (.long q1), .second] [])) (fun t k => castTop (ef_2 m o0 q1) k) ?_
  refine Go.st (S' := s₁.setTop (mkF m 1 #[.val (.ref o0), .val (.long q1), .second] [(.ref o0)])) (fun t k => XS.aloadN X0.here hx rfl (hb hby dprog_46_method_1_code_0) rfl rfl k) ?_
  obtain ⟨T29, X29, e29, st29⟩ := initO X0 hx hZ hown (hw _ (List.mem_of_getElem? (i := 11) rfl)) (hw _ (List.mem_of_getElem? (i := 12) rfl)) (hw _ (List.mem_of_getElem? (i := 13) rfl)) e0 (g := (mkF m 1 #[.val (.ref o0), .val (.long q1), .second] [(.ref o0)])) rfl (by rw [hml]; rfl) rfl (hb hby dprog_46_method_1_code_1) (by decide) (W := 0) (by show 2 * 0 + _ ≤ _; exact Nat.le_of_eq rfl) (by decide)
  refine Go.st (S' := T29.setTop (mkF m 4 #[.val (.ref o0), .val (.long q1), .second] [])) st29 ?_
  refine Go.st (S' := T29.setTop (mkF m 5 #[.val (.ref o0), .val (.long q1), .second] [(.ref o0)])) (fun t k => XS.aloadN X29.here hx rfl (hb hby dprog_46_method_1_code_4) rfl rfl k) ?_
  refine Go.st (S' := T29.setTop (mkF m 6 #[.val (.ref o0), .val (.long q1), .second] [(.long q1), (.ref o0)])) (fun t k => XS.lloadN X29.here hx rfl (hb hby dprog_46_method_1_code_5) rfl k) ?_
  obtain ⟨T30, h30, X30, e30, W30, st30⟩ := putF X29 hx hZ hown (host := "") (Or.inl (hw _ (List.mem_of_getElem? (i := 14) rfl))) Via.refl e29 F_o0_left E_o0 (Or.inl (hw _ (List.mem_of_getElem? (i := 15) rfl))) (hw _ (List.mem_of_getElem? (i := 6) rfl)) (ty := .long) (by decide) rfl rfl (g := (mkF m 6 #[.val (.ref o0), .val (.long q1), .second] [(.long q1), (.ref o0)])) rfl rfl (hb hby dprog_46_method_1_code_6)
  have Fw30 := (F_o0_left).same W30
  have N30 := Fr.snoc X30 N0 g_o0
  have Z31 : n0 ≤ h30.size := Nat.le_trans Z0 (Keep.of_wr W30).1
  have K31 : Keep h0 h30 [o0] := (Keep.refl h0 [o0]).wr W30 (Or.inl (by simp))
  refine Go.st (S' := T30.setTop (mkF m 9 #[.val (.ref o0), .val (.long q1), .second] [])) st30 ?_
  have f32 := ((E_o0).wr W30)
  exact Go.ret X30 (v := none) (fun _ => rfl) Bd.notSynchronized (fun fs hr => X30.returnOut hx Bd.returns (hb hby dprog_46_method_1_code_9) hr) (by decide) (by decide) (by rw [e30]; exact ⟨rfl, N30, K31, f32, Fw30⟩)
theorem ef_3 (m : MethodId) (o0 : Addr) (q1 : Int64) : entryFrame m #[(.ref o0), (.long q1)] 4 = mkF m 0 #[.val (.ref o0), .val (.long q1), .second, .unset] [] := by first | (simp [entryFrame, mkF, argsToLocals, Value.category, maxLocals]; done) | rfl
def Q3 (Z : State) (o0 : Addr) (q1 : Int64) (u_o0_left : Int64) (h0 : Heap) (n0 : Nat) (v : Option Value) (h : Heap) (L : List Loc) : Prop := (∃ (rv3 : Int32) (fv3_0 : Int64) (v44 : Int64), v44 = (u_o0_left - q1) ∧ (((u_o0_left < q1) ∧ (rv3 = (0 : Int32)) ∧ (fv3_0 = u_o0_left)) ∨ ((¬ (u_o0_left < q1)) ∧ (rv3 = (1 : Int32)) ∧ (fv3_0 = v44))) ∧ v = some (.int rv3) ∧ Fr n0 L ∧ Keep h0 h [o0] ∧ Fld Z h o0 "com/example/signbound/signbound/expr/PostOrder$Budget" "left" "J" (.long fv3_0) ∧ Exa Z h o0 "com/example/signbound/signbound/expr/PostOrder$Budget")
set_option maxRecDepth 65536 in
set_option maxHeartbeats 40000000 in
theorem rm3 (l : Launch) (Z : State) (a0 : Array Value) (hw : ∀ d ∈ tables_1, d.before a0 Z = true) (ws : List Jvm.Cond) (o0 : Addr) (q1 : Int64) (u_o0_left : Int64) (h0 : Heap) (n0 : Nat) (Z0 : n0 ≤ h0.size) (F_o0_left : Fld Z h0 o0 "com/example/signbound/signbound/expr/PostOrder$Budget" "left" "J" (.long u_o0_left)) (E_o0 : Exa Z h0 o0 "com/example/signbound/signbound/expr/PostOrder$Budget") (g_o0 : n0 ≤ o0) :
    Con l Z (⟨"com/example/signbound/signbound/expr/PostOrder$Budget", "take", "(J)Z"⟩ : MethodName) prog_46_method_2_code 4 (some .boolean) ws ({ frames := 0, cells := 0, slots := 0, locals := 0 } : Room) #[(.ref o0), (.long q1)] h0 0 0 (Q3 Z o0 q1 u_o0_left h0 n0) := by
  refine MetFree.of_bodySF (plainFor_of_name pn_1) hisR ?_
  intro p e s m args below meth c s₁ Bd hml0 hP hK
  obtain ⟨rfl, hZ, hh⟩ := hP
  have hx := Bd.exec
  have hby := Bd.bytes
  have hml : c.maxLocals = 4 := hml0
  have hown : s.vm.findClass "com/example/signbound/signbound/expr/PostOrder$Budget" = some m.cls := findClass_of_methodNamed Bd.named
  have hnm := (name_of_methodNamed Bd.named Bd.method).1
  have X0 : Stand p l e ({ frames := 0, cells := 0, slots := 0, locals := 0 } : Room) s m #[(.ref o0), (.long q1)] below meth c s₁ [] 0 0 := Stand.of_body Bd
  have e0 : s₁.heap = h0 := by rw [← hh, Bd.state]; rfl
  have N0 := Fr.nil n0
  refine Go.of ?_
  refine Go.st (S' := s₁.setTop (mkF m 0 #[.val (.ref o0), .val (.long q1), .second, .unset] [])) (fun t k => castTop (ef_3 m o0 q1) k) ?_
  refine Go.st (S' := s₁.setTop (mkF m 1 #[.val (.ref o0), .val (.long q1), .second, .unset] [(.long q1)])) (fun t k => XS.lloadN X0.here hx rfl (hb hby dprog_46_method_2_code_0) rfl k) ?_
  refine Go.st (S' := s₁.setTop (mkF m 2 #[.val (.ref o0), .val (.long q1), .second, .unset] [(.ref o0), (.long q1)])) (fun t k => XS.aloadN X0.here hx rfl (hb hby dprog_46_method_2_code_1) rfl rfl k) ?_
  obtain ⟨T38, X38, e38, st38⟩ := getF X0 hx hZ hown (host := "") (Or.inl (hw _ (List.mem_of_getElem? (i := 14) rfl))) Via.refl e0 F_o0_left (g := (mkF m 2 #[.val (.ref o0), .val (.long q1), .second, .unset] [(.ref o0), (.long q1)])) rfl rfl (hb hby dprog_46_method_2_code_2)
  refine Go.st (S' := T38.setTop (mkF m 5 #[.val (.ref o0), .val (.long q1), .second, .unset] [(.long u_o0_left), (.long q1)])) st38 ?_
  refine Go.op (F := fun z => T38.setTop (mkF m 6 #[.val (.ref o0), .val (.long q1), .second, .unset] [(.int z)])) (x := (lcmpW q1 u_o0_left)) (fun t k => XS.lcmp X38.here hx rfl (hb hby dprog_46_method_2_code_5) rfl k) ?_
  intro v39 hv39
  by_cases hc40 : (u_o0_left < q1)
  · refine Go.st (S' := T38.setTop (mkF m 13 #[.val (.ref o0), .val (.long q1), .second, .unset] [])) (fun t k => XS.ifYes X38.here hx rfl (pc0 := 6) (pc' := 13) rfl (hb hby dprog_46_method_2_code_6) rfl ((if0 _ _).trans (tlt (by rw [hv39]; exact (lw_gt _ _).2 hc40)).2.2.1) (by decide) (by decide) k) ?_
    refine Go.st (S' := T38.setTop (mkF m 14 #[.val (.ref o0), .val (.long q1), .second, .unset] [(.int (0 : Int32))])) (fun t k => XS.iconst X38.here hx rfl (hb hby dprog_46_method_2_code_13) k) ?_
    let A41 : Array Slot := #[.val (.ref o0), .val (.long q1), .second, .val (.int (0 : Int32))]
    refine Go.st (S' := T38.setTop (mkF m 15 A41 [])) (fun t k => XS.istoreN X38.here hx rfl (hb hby dprog_46_method_2_code_14) rfl (l' := A41) rfl k) ?_
    refine Go.st (S' := T38.setTop (mkF m 16 A41 [(.int (0 : Int32))])) (fun t k => XS.iloadN X38.here hx rfl (hb hby dprog_46_method_2_code_15) rfl k) ?_
    refine Go.st (S' := T38.setTop (mkF m 29 A41 [])) (fun t k => XS.ifYes X38.here hx rfl (pc0 := 16) (pc' := 29) rfl (hb hby dprog_46_method_2_code_16) rfl ((if0 _ _).trans (teq (by decide : ((0 : Int32) = (0 : Int32)))).1) (by decide) (by decide) k) ?_
    refine Go.st (S' := T38.setTop (mkF m 30 A41 [(.int (0 : Int32))])) (fun t k => XS.iloadN X38.here hx rfl (hb hby dprog_46_method_2_code_29) rfl k) ?_
    exact Go.ret X38 (v := some (.int (0 : Int32))) (fun h => by rw [Bd.returns] at h; cases h) Bd.notSynchronized (fun fs hr => retN X38 hx (t := .boolean) Bd.returns (by simp) (hb hby dprog_46_method_2_code_30) hr) (by decide) (by decide) (by rw [e38]; exact ⟨(0 : Int32), u_o0_left, _, rfl, (Or.inl ⟨hc40, rfl, rfl⟩), rfl, N0, (Keep.refl h0 [o0]), F_o0_left, E_o0⟩)
  · refine Go.st (S' := T38.setTop (mkF m 9 #[.val (.ref o0), .val (.long q1), .second, .unset] [])) (fun t k => XS.ifNo X38.here hx rfl (hb hby dprog_46_method_2_code_6) rfl ((if0 _ _).trans (flt (by rw [hv39]; exact fun z => hc40 ((lw_gt _ _).1 z))).2.2.1) k) ?_
    refine Go.st (S' := T38.setTop (mkF m 10 #[.val (.ref o0), .val (.long q1), .second, .unset] [(.int (1 : Int32))])) (fun t k => XS.iconst X38.here hx rfl (hb hby dprog_46_method_2_code_9) k) ?_
    refine Go.st (S' := T38.setTop (mkF m 14 #[.val (.ref o0), .val (.long q1), .second, .unset] [(.int (1 : Int32))])) (fun t k => XS.goto X38.here hx rfl (pc0 := 10) (pc' := 14) rfl (hb hby dprog_46_method_2_code_10) (by decide) (by decide) k) ?_
    let A42 : Array Slot := #[.val (.ref o0), .val (.long q1), .second, .val (.int (1 : Int32))]
    refine Go.st (S' := T38.setTop (mkF m 15 A42 [])) (fun t k => XS.istoreN X38.here hx rfl (hb hby dprog_46_method_2_code_14) rfl (l' := A42) rfl k) ?_
    refine Go.st (S' := T38.setTop (mkF m 16 A42 [(.int (1 : Int32))])) (fun t k => XS.iloadN X38.here hx rfl (hb hby dprog_46_method_2_code_15) rfl k) ?_
    refine Go.st (S' := T38.setTop (mkF m 19 A42 [])) (fun t k => XS.ifNo X38.here hx rfl (hb hby dprog_46_method_2_code_16) rfl ((if0 _ _).trans (feq (by decide : (¬ ((1 : Int32) = (0 : Int32))))).1) k) ?_
    refine Go.st (S' := T38.setTop (mkF m 20 A42 [(.ref o0)])) (fun t k => XS.aloadN X38.here hx rfl (hb hby dprog_46_method_2_code_19) rfl rfl k) ?_
    refine Go.st (S' := T38.setTop (mkF m 21 A42 [(.ref o0), (.ref o0)])) (fun t k => XS.dup X38.here hx rfl (hb hby dprog_46_method_2_code_20) rfl rfl k) ?_
    obtain ⟨T43, X43, e43, st43⟩ := getF X38 hx hZ hown (host := "") (Or.inl (hw _ (List.mem_of_getElem? (i := 14) rfl))) Via.refl e38 F_o0_left (g := (mkF m 21 A42 [(.ref o0), (.ref o0)])) rfl rfl (hb hby dprog_46_method_2_code_21)
    refine Go.st (S' := T43.setTop (mkF m 24 A42 [(.long u_o0_left), (.ref o0)])) st43 ?_
    refine Go.st (S' := T43.setTop (mkF m 25 A42 [(.long q1), (.long u_o0_left), (.ref o0)])) (fun t k => XS.lloadN X43.here hx rfl (hb hby dprog_46_method_2_code_24) rfl k) ?_
    refine Go.op (F := fun z => T43.setTop (mkF m 26 A42 [(.long z), (.ref o0)])) (x := (u_o0_left - q1)) (fun t k => XS.lsub X43.here hx rfl (hb hby dprog_46_method_2_code_25) rfl k) ?_
    intro v44 hv44
    obtain ⟨T45, h45, X45, e45, W45, st45⟩ := putF X43 hx hZ hown (host := "") (Or.inl (hw _ (List.mem_of_getElem? (i := 14) rfl))) Via.refl e43 F_o0_left E_o0 (Or.inl (hw _ (List.mem_of_getElem? (i := 15) rfl))) (hw _ (List.mem_of_getElem? (i := 6) rfl)) (ty := .long) (by decide) rfl rfl (g := (mkF m 26 A42 [(.long v44), (.ref o0)])) rfl rfl (hb hby dprog_46_method_2_code_26)
    have Fw45 := (F_o0_left).same W45
    have N45 := Fr.snoc X45 N0 g_o0
    have Z46 : n0 ≤ h45.size := Nat.le_trans Z0 (Keep.of_wr W45).1
    have K46 : Keep h0 h45 [o0] := (Keep.refl h0 [o0]).wr W45 (Or.inl (by simp))
    refine Go.st (S' := T45.setTop (mkF m 29 A42 [])) st45 ?_
    refine Go.st (S' := T45.setTop (mkF m 30 A42 [(.int (1 : Int32))])) (fun t k => XS.iloadN X45.here hx rfl (hb hby dprog_46_method_2_code_29) rfl k) ?_
    have f47 := ((E_o0).wr W45)
    exact Go.ret X45 (v := some (.int (1 : Int32))) (fun h => by rw [Bd.returns] at h; cases h) Bd.notSynchronized (fun fs hr => retN X45 hx (t := .boolean) Bd.returns (by simp) (hb hby dprog_46_method_2_code_30) hr) (by decide) (by decide) (by rw [e45]; exact ⟨(1 : Int32), v44, v44, hv44, (Or.inr ⟨hc40, rfl, rfl⟩), rfl, N45, K46, Fw45, f47⟩)
theorem ef_4 (m : MethodId) (q0 : Int64) (q1 : Int64) (q2 : Int64) (p3 : Int32) : entryFrame m #[(.long q0), (.long q1), (.long q2), (.int p3)] maxLocals = mkF m 0 #[.val (.long q0), .second, .val (.long q1), .second, .val (.long q2), .second, .val (.int p3), .unset, .unset, .unset, .unset, .unset, .unset, .unset, .unset, .unset, .unset, .unset, .unset, .unset, .unset, .unset, .unset, .unset] [] := by first | (simp [entryFrame, mkF, argsToLocals, Value.category, maxLocals]; done) | rfl
def Q4 (Z : State) (q0 : Int64) (q1 : Int64) (q2 : Int64) (p3 : Int32) (h0 : Heap) (n0 : Nat) (v : Option Value) (h : Heap) (L : List Loc) : Prop := v = some (.int 1) ∧ Fr n0 L
set_option maxRecDepth 65536 in
set_option maxHeartbeats 40000000 in
theorem rm4 (l : Launch) (Z : State) (a0 : Array Value) (hw : ∀ d ∈ tables_1, d.before a0 Z = true) (ws : List Jvm.Cond) (q0 : Int64) (q1 : Int64) (q2 : Int64) (p3 : Int32) (h0 : Heap) (n0 : Nat) (Z0 : n0 ≤ h0.size)  :
    Con l Z x code maxLocals ret ws room_1 #[(.long q0), (.long q1), (.long q2), (.int p3)] h0 1 1 (Q4 Z q0 q1 q2 p3 h0 n0) := by
  refine MetFree.of_bodySF (plainFor_of_name pn_0) hisR ?_
  intro p e s m args below meth c s₁ Bd hml0 hP hK
  obtain ⟨rfl, hZ, hh⟩ := hP
  have hx := Bd.exec
  have hby := Bd.bytes
  have hml : c.maxLocals = 24 := hml0
  have hown : s.vm.findClass "com/example/signbound/signbound/expr/BudgetTakePinLaw" = some m.cls := findClass_of_methodNamed Bd.named
  have hnm := (name_of_methodNamed Bd.named Bd.method).1
  have X0 : Stand p l e room_1 s m #[(.long q0), (.long q1), (.long q2), (.int p3)] below meth c s₁ [] 0 0 := Stand.of_body Bd
  have e0 : s₁.heap = h0 := by rw [← hh, Bd.state]; rfl
  have N0 := Fr.nil n0
  refine Go.of ?_
  refine Go.st (S' := s₁.setTop (mkF m 0 #[.val (.long q0), .second, .val (.long q1), .second, .val (.long q2), .second, .val (.int p3), .unset, .unset, .unset, .unset, .unset, .unset, .unset, .unset, .unset, .unset, .unset, .unset, .unset, .unset, .unset, .unset, .unset] [])) (fun t k => castTop (ef_4 m q0 q1 q2 p3) k) ?_
  let A1 : Array Slot := #[.val (.long q0), .second, .val (.long q1), .second, .val (.long q2), .second, .val (.int p3), .unset, .unset, .unset, .unset, .unset, .unset, .unset, .unset, .unset, .unset, .unset, .unset, .unset, .unset, .unset, .unset, .unset]
  refine Go.st (S' := s₁.setTop (mkF m 1 A1 [(.long q0)])) (fun t k => XS.lloadN X0.here hx rfl (hb hby at_0) rfl k) ?_
  refine Go.st (S' := s₁.setTop (mkF m 4 A1 [(.long (9223372036854775807 : Int64)), (.long q0)])) (fun t k => X0.ldc2Long hx hown (mvT hZ (hw _ (List.mem_of_getElem? (i := 0) rfl))) (g := (mkF m 1 A1 [(.long q0)])) rfl (hb hby at_1) t k) ?_
  refine Go.op (F := fun z => s₁.setTop (mkF m 5 A1 [(.long z)])) (x := (q0 &&& (9223372036854775807 : Int64))) (fun t k => XS.land X0.here hx rfl (hb hby at_4) rfl k) ?_
  intro v2 hv2
  let A3 : Array Slot := #[.val (.long q0), .second, .val (.long q1), .second, .val (.long q2), .second, .val (.int p3), .val (.long v2), .second, .unset, .unset, .unset, .unset, .unset, .unset, .unset, .unset, .unset, .unset, .unset, .unset, .unset, .unset, .unset]
  refine Go.st (S' := s₁.setTop (mkF m 7 A3 [])) (fun t k => XS.lstore X0.here hx rfl (hb hby at_5) rfl (l' := A3) rfl k) ?_
  refine Go.st (S' := s₁.setTop (mkF m 9 A3 [(.long v2)])) (fun t k => XS.lload X0.here hx rfl (hb hby at_7) rfl k) ?_
  refine Go.st (S' := s₁.setTop (mkF m 10 A3 [(.long q1), (.long v2)])) (fun t k => XS.lloadN X0.here hx rfl (hb hby at_9) rfl k) ?_
  refine Go.st (S' := s₁.setTop (mkF m 12 A3 [(.int p3), (.long q1), (.long v2)])) (fun t k => XS.iload X0.here hx rfl (hb hby at_10) rfl k) ?_
  refine Go.st (S' := s₁.setTop (mkF m 13 A3 [(.int (1 : Int32)), (.int p3), (.long q1), (.long v2)])) (fun t k => XS.iconst X0.here hx rfl (hb hby at_12) k) ?_
  refine Go.op (F := fun z => s₁.setTop (mkF m 14 A3 [(.int z), (.long q1), (.long v2)])) (x := (p3 &&& (1 : Int32))) (fun t k => XS.iand X0.here hx rfl (hb hby at_13) rfl k) ?_
  intro v4 hv4
  refine Go.join (α := Int32) (fun r => (((v4 = (0 : Int32)) ∧ (r = (0 : Int32))) ∨ ((¬ (v4 = (0 : Int32))) ∧ (r = (1 : Int32))))) (fun r => s₁.setTop (mkF m 22 A3 [(.int r), (.long q1), (.long v2)])) ?_ ?_
  · intro r7 hc8
    obtain ⟨r19, T19, L19, X19, hQ19, st19⟩ := own_callS (W := 0) X0 hx hZ e0 hown (y := (⟨"com/example/signbound/signbound/expr/BudgetTakePinLaw", "pick", "(JJZ)J"⟩ : MethodName)) (hw _ (List.mem_of_getElem? (i := 1) rfl)) (hw _ (List.mem_of_getElem? (i := 2) rfl)) (hw _ (List.mem_of_getElem? (i := 3) rfl)) (hw _ (List.mem_of_getElem? (i := 4) rfl)) (by decide) (rm1 l Z a0 hw [] v2 q1 r7 h0 n0 Z0 ) (by decide) (by decide) (by decide) (by decide) (g := (mkF m 22 A3 [(.int r7), (.long q1), (.long v2)])) rfl (by rw [hml]; rfl) (argsL := [(.long v2), (.long q1), (.int r7)]) (rest := []) rfl (lenOf pd_0 rfl) rfl (by show 2 * 0 + _ ≤ _; exact Nat.le_of_eq rfl) (hb hby at_22)
    obtain ⟨r24, v20, v21, v22, v23, hv20, hv21, hv22, hv23, hc25, rfl, N19, e19⟩ := hQ19
    have N19_ := Fr.app N0 N19
    refine Go.st (S' := T19.setTop (mkF m 25 A3 [(.long r24)])) st19 ?_
    let A26 : Array Slot := #[.val (.long q0), .second, .val (.long q1), .second, .val (.long q2), .second, .val (.int p3), .val (.long v2), .second, .val (.long r24), .second, .unset, .unset, .unset, .unset, .unset, .unset, .unset, .unset, .unset, .unset, .unset, .unset, .unset]
    refine Go.st (S' := T19.setTop (mkF m 27 A26 [])) (fun t k => XS.lstore X19.here hx rfl (hb hby at_25) rfl (l' := A26) rfl k) ?_
    obtain ⟨T27, h27, X27, e27, E27, A27, D27, -, st27⟩ := newO X19 hx hZ hown (hw _ (List.mem_of_getElem? (i := 5) rfl)) (hw _ (List.mem_of_getElem? (i := 6) rfl)) (hw _ (List.mem_of_getElem? (i := 7) rfl)) e19 (g := (mkF m 27 A26 [])) rfl (hb hby at_27) (by decide) (by decide)
    obtain ⟨b27, gg27⟩ : ∃ z, z = h0.size := ⟨_, rfl⟩
    rw [← gg27] at A27 D27 st27
    have g_b27 : n0 ≤ b27 := Nat.le_trans Z0 (Nat.le_of_eq gg27.symm)
    have sz_b27 : h0.size ≤ b27 := Nat.le_trans (Keep.refl h0 []).1 (Nat.le_of_eq gg27.symm)
    have Z28 : n0 ≤ h27.size := Nat.le_trans Z0 E27.1
    have K28 : Keep h0 h27 [] := (Keep.refl h0 []).ext E27
    have Fb27_left : Fld Z h27 b27 "com/example/signbound/signbound/expr/PostOrder$Budget" "left" "J" (.long (0 : Int64)) := D27 (Or.inl (hw _ (List.mem_of_getElem? (i := 15) rfl))) (ty := .long) (by decide)
    refine Go.st (S' := T27.setTop (mkF m 30 A26 [(.ref b27)])) st27 ?_
    refine Go.st (S' := T27.setTop (mkF m 31 A26 [(.ref b27), (.ref b27)])) (fun t k => XS.dup X27.here hx rfl (hb hby at_30) rfl rfl k) ?_
    refine Go.st (S' := T27.setTop (mkF m 33 A26 [(.long v2), (.ref b27), (.ref b27)])) (fun t k => XS.lload X27.here hx rfl (hb hby at_31) rfl k) ?_
    obtain ⟨r33, T33, L33, X33, hQ33, st33⟩ := own_callI (W := 1) (a := b27) X27 hx hZ e27 hown (y := (⟨"com/example/signbound/signbound/expr/PostOrder$Budget", "<init>", "(J)V"⟩ : MethodName)) rfl (hw _ (List.mem_of_getElem? (i := 8) rfl)) (hw _ (List.mem_of_getElem? (i := 9) rfl)) (hw _ (List.mem_of_getElem? (i := 7) rfl)) (hw _ (List.mem_of_getElem? (i := 10) rfl)) (by decide) (rm2 l Z a0 hw [] b27 v2 ((.long (0 : Int64))) h27 n0 Z28 (A27) (Fb27_left) (g_b27)) (by decide) (by decide) (by decide) (by decide) (g := (mkF m 33 A26 [(.long v2), (.ref b27), (.ref b27)])) rfl (by rw [hml]; rfl) (argsL := [(.long v2)]) (rest := [(.ref b27)]) rfl (lenOf pd_1 rfl) rfl (by show 2 * 0 + _ ≤ _; exact Nat.le_of_eq rfl) (hb hby at_33)
    obtain ⟨rfl, N33, K33_, f34, f35⟩ := hQ33
    have N33_ := Fr.app N19_ N33
    have Z36 : n0 ≤ T33.heap.size := Nat.le_trans Z28 K33_.1
    have K36 : Keep h0 T33.heap [] := K28.trans K33_ (allS (Or.inr sz_b27) all0)
    refine Go.st (S' := T33.setTop (mkF m 36 A26 [(.ref b27)])) st33 ?_
    let A37 : Array Slot := #[.val (.long q0), .second, .val (.long q1), .second, .val (.long q2), .second, .val (.int p3), .val (.long v2), .second, .val (.long r24), .second, .val (.ref b27), .unset, .unset, .unset, .unset, .unset, .unset, .unset, .unset, .unset, .unset, .unset, .unset]
    refine Go.st (S' := T33.setTop (mkF m 38 A37 [])) (fun t k => XS.astore X33.here hx rfl (hb hby at_36) rfl rfl (l' := A37) rfl k) ?_
    refine Go.st (S' := T33.setTop (mkF m 40 A37 [(.ref b27)])) (fun t k => XS.aload X33.here hx rfl (hb hby at_38) rfl rfl k) ?_
    refine Go.st (S' := T33.setTop (mkF m 42 A37 [(.long r24), (.ref b27)])) (fun t k => XS.lload X33.here hx rfl (hb hby at_40) rfl k) ?_
    obtain ⟨r48, T48, L48, X48, hQ48, st48⟩ := own_callV (W := 0) (a := b27) (C := "com/example/signbound/signbound/expr/PostOrder$Budget") X33 hx hZ rfl hown (y := (⟨"com/example/signbound/signbound/expr/PostOrder$Budget", "take", "(J)Z"⟩ : MethodName)) (z := (⟨"com/example/signbound/signbound/expr/PostOrder$Budget", "take", "(J)Z"⟩ : MethodName)) (hw _ (List.mem_of_getElem? (i := 16) rfl)) (hw _ (List.mem_of_getElem? (i := 17) rfl)) (notFace_of_selects (args := #[]) (mvT hZ (hw _ (List.mem_of_getElem? (i := 19) rfl)))) (hw _ (List.mem_of_getElem? (i := 19) rfl)) (hw _ (List.mem_of_getElem? (i := 18) rfl)) (hw _ (List.mem_of_getElem? (i := 7) rfl)) (hw _ (List.mem_of_getElem? (i := 20) rfl)) (by decide) (f34) (rm3 l Z a0 hw [] b27 r24 v2 T33.heap n0 Z36 (f35) (f34) (g_b27)) (by decide) (by decide) (by decide) (by decide) (g := (mkF m 42 A37 [(.long r24), (.ref b27)])) rfl (by rw [hml]; rfl) (argsL := [(.long r24)]) (rest := []) rfl (lenOf pd_2 rfl) rfl (by show 2 * 0 + _ ≤ _; exact Nat.le_of_eq rfl) (hb hby at_42)
    obtain ⟨r50, r51, v49, hv49, hc52, rfl, N48, K48_, f53, f54⟩ := hQ48
    have N48_ := Fr.app N33_ N48
    have Z55 : n0 ≤ T48.heap.size := Nat.le_trans Z36 K48_.1
    have K55 : Keep h0 T48.heap [] := K36.trans K48_ (allS (Or.inr sz_b27) all0)
    refine Go.st (S' := T48.setTop (mkF m 45 A37 [(.int r50)])) st48 ?_
    let A56 : Array Slot := #[.val (.long q0), .second, .val (.long q1), .second, .val (.long q2), .second, .val (.int p3), .val (.long v2), .second, .val (.long r24), .second, .val (.ref b27), .val (.int r50), .unset, .unset, .unset, .unset, .unset, .unset, .unset, .unset, .unset, .unset, .unset]
    refine Go.st (S' := T48.setTop (mkF m 47 A56 [])) (fun t k => XS.istore X48.here hx rfl (hb hby at_45) rfl (l' := A56) rfl k) ?_
    refine Go.st (S' := T48.setTop (mkF m 49 A56 [(.long r24)])) (fun t k => XS.lload X48.here hx rfl (hb hby at_47) rfl k) ?_
    refine Go.st (S' := T48.setTop (mkF m 51 A56 [(.long v2), (.long r24)])) (fun t k => XS.lload X48.here hx rfl (hb hby at_49) rfl k) ?_
    refine Go.op (F := fun z => T48.setTop (mkF m 52 A56 [(.int z)])) (x := (lcmpW r24 v2)) (fun t k => XS.lcmp X48.here hx rfl (hb hby at_51) rfl k) ?_
    intro v57 hv57
    refine Go.join (α := Int32) (fun r => (((v2 < r24) ∧ (r = (0 : Int32))) ∨ ((¬ (v2 < r24)) ∧ (r = (1 : Int32))))) (fun r => T48.setTop (mkF m 60 A56 [(.int r)])) ?_ ?_
    · intro r60 hc61
      let A62 : Array Slot := #[.val (.long q0), .second, .val (.long q1), .second, .val (.long q2), .second, .val (.int p3), .val (.long v2), .second, .val (.long r24), .second, .val (.ref b27), .val (.int r50), .val (.int r60), .unset, .unset, .unset, .unset, .unset, .unset, .unset, .unset, .unset, .unset]
      refine Go.st (S' := T48.setTop (mkF m 62 A62 [])) (fun t k => XS.istore X48.here hx rfl (hb hby at_60) rfl (l' := A62) rfl k) ?_
      have hu63 : r50 = r60 := by
        refine Decidable.byContradiction fun hc64 => ?_
        first
          | have rv2 := rng64 v2
            have wv2 := c_maskL q0 (9223372036854775807 : Int64) 63 (by decide) (by decide)
            rw [← hv2] at wv2
            have rv49 := rng64 v49
            have wv49 := c_lsub v2 r24
            rw [← hv49] at wv49
            have rq0 := rng64 q0
            have rr24 := rng64 r24
            have rr50 := rng32 r50
            have rr51 := rng64 r51
            have rr60 := rng32 r60
            have lI0 : (0 : Int32).toInt = 0 := by decide
            have lI1 : (1 : Int32).toInt = 1 := by decide
            have lJ9223372036854775807 : (9223372036854775807 : Int64).toInt = 9223372036854775807 := by decide
            simp only [Int32.lt_iff_toInt_lt, Int64.lt_iff_toInt_lt, ← Int32.toInt_inj, ← Int64.toInt_inj] at hc52 hc61 hc64
            omega
          | have rv20 := rng64 v20
            have wv20 := c_maskL q1 (9223372036854775807 : Int64) 63 (by decide) (by decide)
            rw [← hv20] at wv20
            have rv2 := rng64 v2
            have wv2 := c_maskL q0 (9223372036854775807 : Int64) 63 (by decide) (by decide)
            rw [← hv2] at wv2
            have rv21 := rng64 v21
            have wv21 := c_maskL q1 (3 : Int64) 2 (by decide) (by decide)
            rw [← hv21] at wv21
            have rv22 := rng64 v22
            have wv22 := c_lsub v21 (1 : Int64)
            rw [← hv22] at wv22
            have rv23 := rng64 v23
            have wv23 := c_ladd v2 v22
            rw [← hv23] at wv23
            have rv49 := rng64 v49
            have wv49 := c_lsub v2 r24
            rw [← hv49] at wv49
            have rq0 := rng64 q0
            have rq1 := rng64 q1
            have rr24 := rng64 r24
            have rr50 := rng32 r50
            have rr51 := rng64 r51
            have rr60 := rng32 r60
            have rr7 := rng32 r7
            have lI0 : (0 : Int32).toInt = 0 := by decide
            have lI1 : (1 : Int32).toInt = 1 := by decide
            have lJ0 : (0 : Int64).toInt = 0 := by decide
            have lJ1 : (1 : Int64).toInt = 1 := by decide
            have lJ3 : (3 : Int64).toInt = 3 := by decide
            have lJ9223372036854775807 : (9223372036854775807 : Int64).toInt = 9223372036854775807 := by decide
            simp only [Int32.lt_iff_toInt_lt, Int64.lt_iff_toInt_lt, ← Int32.toInt_inj, ← Int64.toInt_inj] at hc25 hc52 hc61 hc64
            omega
          | have rv4 := rng32 v4
            have wv4 := c_mask p3 (1 : Int32) 1 (by decide) (by decide)
            rw [← hv4] at wv4
            have rv20 := rng64 v20
            have wv20 := c_maskL q1 (9223372036854775807 : Int64) 63 (by decide) (by decide)
            rw [← hv20] at wv20
            have rv2 := rng64 v2
            have wv2 := c_maskL q0 (9223372036854775807 : Int64) 63 (by decide) (by decide)
            rw [← hv2] at wv2
            have rv21 := rng64 v21
            have wv21 := c_maskL q1 (3 : Int64) 2 (by decide) (by decide)
            rw [← hv21] at wv21
            have rv22 := rng64 v22
            have wv22 := c_lsub v21 (1 : Int64)
            rw [← hv22] at wv22
            have rv23 := rng64 v23
            have wv23 := c_ladd v2 v22
            rw [← hv23] at wv23
            have rv49 := rng64 v49
            have wv49 := c_lsub v2 r24
            rw [← hv49] at wv49
            have rp3 := rng32 p3
            have rq0 := rng64 q0
            have rq1 := rng64 q1
            have rr24 := rng64 r24
            have rr50 := rng32 r50
            have rr51 := rng64 r51
            have rr60 := rng32 r60
            have rr7 := rng32 r7
            have lI0 : (0 : Int32).toInt = 0 := by decide
            have lI1 : (1 : Int32).toInt = 1 := by decide
            have lJ0 : (0 : Int64).toInt = 0 := by decide
            have lJ1 : (1 : Int64).toInt = 1 := by decide
            have lJ3 : (3 : Int64).toInt = 3 := by decide
            have lJ9223372036854775807 : (9223372036854775807 : Int64).toInt = 9223372036854775807 := by decide
            simp only [Int32.lt_iff_toInt_lt, Int64.lt_iff_toInt_lt, ← Int32.toInt_inj, ← Int64.toInt_inj] at hc8 hc25 hc52 hc61 hc64
            omega
      obtain rfl : r50 = r60 := hu63
      let A65 : Array Slot := #[.val (.long q0), .second, .val (.long q1), .second, .val (.long q2), .second, .val (.int p3), .val (.long v2), .second, .val (.long r24), .second, .val (.ref b27), .val (.int r50), .val (.int r50), .unset, .unset, .unset, .unset, .unset, .unset, .unset, .unset, .unset, .unset]
      refine Go.st (S' := T48.setTop (mkF m 64 A65 [(.int r50)])) (fun t k => XS.iload X48.here hx rfl (hb hby at_62) rfl k) ?_
      refine Go.join (α := Int64) (fun r => (((r50 = (0 : Int32)) ∧ (r = v2)) ∨ ((¬ (r50 = (0 : Int32))) ∧ (r = v49)))) (fun r => T48.setTop (mkF m 77 A65 [(.long r)])) ?_ ?_
      · intro r70 hc71
        let A72 : Array Slot := #[.val (.long q0), .second, .val (.long q1), .second, .val (.long q2), .second, .val (.int p3), .val (.long v2), .second, .val (.long r24), .second, .val (.ref b27), .val (.int r50), .val (.int r50), .val (.long r70), .second, .unset, .unset, .unset, .unset, .unset, .unset, .unset, .unset]
        refine Go.st (S' := T48.setTop (mkF m 79 A72 [])) (fun t k => XS.lstore X48.here hx rfl (hb hby at_77) rfl (l' := A72) rfl k) ?_
        have hu73 : r51 = r70 := by
          refine Decidable.byContradiction fun hc74 => ?_
          first
            | have rv2 := rng64 v2
              have wv2 := c_maskL q0 (9223372036854775807 : Int64) 63 (by decide) (by decide)
              rw [← hv2] at wv2
              have rv49 := rng64 v49
              have wv49 := c_lsub v2 r24
              rw [← hv49] at wv49
              have rq0 := rng64 q0
              have rr24 := rng64 r24
              have rr50 := rng32 r50
              have rr51 := rng64 r51
              have rr70 := rng64 r70
              have lI0 : (0 : Int32).toInt = 0 := by decide
              have lI1 : (1 : Int32).toInt = 1 := by decide
              have lJ9223372036854775807 : (9223372036854775807 : Int64).toInt = 9223372036854775807 := by decide
              simp only [Int32.lt_iff_toInt_lt, Int64.lt_iff_toInt_lt, ← Int32.toInt_inj, ← Int64.toInt_inj] at hc52 hc71 hc74
              omega
            | have rv20 := rng64 v20
              have wv20 := c_maskL q1 (9223372036854775807 : Int64) 63 (by decide) (by decide)
              rw [← hv20] at wv20
              have rv2 := rng64 v2
              have wv2 := c_maskL q0 (9223372036854775807 : Int64) 63 (by decide) (by decide)
              rw [← hv2] at wv2
              have rv21 := rng64 v21
              have wv21 := c_maskL q1 (3 : Int64) 2 (by decide) (by decide)
              rw [← hv21] at wv21
              have rv22 := rng64 v22
              have wv22 := c_lsub v21 (1 : Int64)
              rw [← hv22] at wv22
              have rv23 := rng64 v23
              have wv23 := c_ladd v2 v22
              rw [← hv23] at wv23
              have rv49 := rng64 v49
              have wv49 := c_lsub v2 r24
              rw [← hv49] at wv49
              have rq0 := rng64 q0
              have rq1 := rng64 q1
              have rr24 := rng64 r24
              have rr50 := rng32 r50
              have rr51 := rng64 r51
              have rr7 := rng32 r7
              have rr70 := rng64 r70
              have lI0 : (0 : Int32).toInt = 0 := by decide
              have lI1 : (1 : Int32).toInt = 1 := by decide
              have lJ0 : (0 : Int64).toInt = 0 := by decide
              have lJ1 : (1 : Int64).toInt = 1 := by decide
              have lJ3 : (3 : Int64).toInt = 3 := by decide
              have lJ9223372036854775807 : (9223372036854775807 : Int64).toInt = 9223372036854775807 := by decide
              simp only [Int32.lt_iff_toInt_lt, Int64.lt_iff_toInt_lt, ← Int32.toInt_inj, ← Int64.toInt_inj] at hc25 hc52 hc61 hc71 hc74
              omega
            | have rv4 := rng32 v4
              have wv4 := c_mask p3 (1 : Int32) 1 (by decide) (by decide)
              rw [← hv4] at wv4
              have rv20 := rng64 v20
              have wv20 := c_maskL q1 (9223372036854775807 : Int64) 63 (by decide) (by decide)
              rw [← hv20] at wv20
              have rv2 := rng64 v2
              have wv2 := c_maskL q0 (9223372036854775807 : Int64) 63 (by decide) (by decide)
              rw [← hv2] at wv2
              have rv21 := rng64 v21
              have wv21 := c_maskL q1 (3 : Int64) 2 (by decide) (by decide)
              rw [← hv21] at wv21
              have rv22 := rng64 v22
              have wv22 := c_lsub v21 (1 : Int64)
              rw [← hv22] at wv22
              have rv23 := rng64 v23
              have wv23 := c_ladd v2 v22
              rw [← hv23] at wv23
              have rv49 := rng64 v49
              have wv49 := c_lsub v2 r24
              rw [← hv49] at wv49
              have rp3 := rng32 p3
              have rq0 := rng64 q0
              have rq1 := rng64 q1
              have rr24 := rng64 r24
              have rr50 := rng32 r50
              have rr51 := rng64 r51
              have rr7 := rng32 r7
              have rr70 := rng64 r70
              have lI0 : (0 : Int32).toInt = 0 := by decide
              have lI1 : (1 : Int32).toInt = 1 := by decide
              have lJ0 : (0 : Int64).toInt = 0 := by decide
              have lJ1 : (1 : Int64).toInt = 1 := by decide
              have lJ3 : (3 : Int64).toInt = 3 := by decide
              have lJ9223372036854775807 : (9223372036854775807 : Int64).toInt = 9223372036854775807 := by decide
              simp only [Int32.lt_iff_toInt_lt, Int64.lt_iff_toInt_lt, ← Int32.toInt_inj, ← Int64.toInt_inj] at hc8 hc25 hc52 hc61 hc71 hc74
              omega
        obtain rfl : r51 = r70 := hu73
        let A75 : Array Slot := #[.val (.long q0), .second, .val (.long q1), .second, .val (.long q2), .second, .val (.int p3), .val (.long v2), .second, .val (.long r24), .second, .val (.ref b27), .val (.int r50), .val (.int r50), .val (.long r51), .second, .unset, .unset, .unset, .unset, .unset, .unset, .unset, .unset]
        refine Go.st (S' := T48.setTop (mkF m 81 A75 [(.long r51)])) (fun t k => XS.lload X48.here hx rfl (hb hby at_79) rfl k) ?_
        refine Go.st (S' := T48.setTop (mkF m 83 A75 [(.long q2), (.long r51)])) (fun t k => XS.lload X48.here hx rfl (hb hby at_81) rfl k) ?_
        refine Go.st (S' := T48.setTop (mkF m 85 A75 [(.int p3), (.long q2), (.long r51)])) (fun t k => XS.iload X48.here hx rfl (hb hby at_83) rfl k) ?_
        refine Go.st (S' := T48.setTop (mkF m 86 A75 [(.int (2 : Int32)), (.int p3), (.long q2), (.long r51)])) (fun t k => XS.iconst X48.here hx rfl (hb hby at_85) k) ?_
        refine Go.op (F := fun z => T48.setTop (mkF m 87 A75 [(.int z), (.long q2), (.long r51)])) (x := (p3 &&& (2 : Int32))) (fun t k => XS.iand X48.here hx rfl (hb hby at_86) rfl k) ?_
        intro v76 hv76
        refine Go.join (α := Int32) (fun r => (((v76 = (0 : Int32)) ∧ (r = (0 : Int32))) ∨ ((¬ (v76 = (0 : Int32))) ∧ (r = (1 : Int32))))) (fun r => T48.setTop (mkF m 95 A75 [(.int r), (.long q2), (.long r51)])) ?_ ?_
        · intro r79 hc80
          obtain ⟨r81, T81, L81, X81, hQ81, st81⟩ := own_callS (W := 0) X48 hx hZ rfl hown (y := (⟨"com/example/signbound/signbound/expr/BudgetTakePinLaw", "pick", "(JJZ)J"⟩ : MethodName)) (hw _ (List.mem_of_getElem? (i := 1) rfl)) (hw _ (List.mem_of_getElem? (i := 2) rfl)) (hw _ (List.mem_of_getElem? (i := 3) rfl)) (hw _ (List.mem_of_getElem? (i := 4) rfl)) (by decide) (rm1 l Z a0 hw [] r51 q2 r79 T48.heap n0 Z55 ) (by decide) (by decide) (by decide) (by decide) (g := (mkF m 95 A75 [(.int r79), (.long q2), (.long r51)])) rfl (by rw [hml]; rfl) (argsL := [(.long r51), (.long q2), (.int r79)]) (rest := []) rfl (lenOf pd_0 rfl) rfl (by show 2 * 0 + _ ≤ _; exact Nat.le_of_eq rfl) (hb hby at_95)
          obtain ⟨r86, v82, v83, v84, v85, hv82, hv83, hv84, hv85, hc87, rfl, N81, e81⟩ := hQ81
          have N81_ := Fr.app N48_ N81
          refine Go.st (S' := T81.setTop (mkF m 98 A75 [(.long r86)])) st81 ?_
          let A88 : Array Slot := #[.val (.long q0), .second, .val (.long q1), .second, .val (.long q2), .second, .val (.int p3), .val (.long v2), .second, .val (.long r24), .second, .val (.ref b27), .val (.int r50), .val (.int r50), .val (.long r51), .second, .val (.long r86), .second, .unset, .unset, .unset, .unset, .unset, .unset]
          refine Go.st (S' := T81.setTop (mkF m 100 A88 [])) (fun t k => XS.lstore X81.here hx rfl (hb hby at_98) rfl (l' := A88) rfl k) ?_
          refine Go.st (S' := T81.setTop (mkF m 102 A88 [(.ref b27)])) (fun t k => XS.aload X81.here hx rfl (hb hby at_100) rfl rfl k) ?_
          refine Go.st (S' := T81.setTop (mkF m 104 A88 [(.long r86), (.ref b27)])) (fun t k => XS.lload X81.here hx rfl (hb hby at_102) rfl k) ?_
          obtain ⟨r89, T89, L89, X89, hQ89, st89⟩ := own_callV (W := 0) (a := b27) (C := "com/example/signbound/signbound/expr/PostOrder$Budget") X81 hx hZ e81 hown (y := (⟨"com/example/signbound/signbound/expr/PostOrder$Budget", "take", "(J)Z"⟩ : MethodName)) (z := (⟨"com/example/signbound/signbound/expr/PostOrder$Budget", "take", "(J)Z"⟩ : MethodName)) (hw _ (List.mem_of_getElem? (i := 16) rfl)) (hw _ (List.mem_of_getElem? (i := 17) rfl)) (notFace_of_selects (args := #[]) (mvT hZ (hw _ (List.mem_of_getElem? (i := 19) rfl)))) (hw _ (List.mem_of_getElem? (i := 19) rfl)) (hw _ (List.mem_of_getElem? (i := 18) rfl)) (hw _ (List.mem_of_getElem? (i := 7) rfl)) (hw _ (List.mem_of_getElem? (i := 20) rfl)) (by decide) (f54) (rm3 l Z a0 hw [] b27 r86 r51 T48.heap n0 Z55 (f53) (f54) (g_b27)) (by decide) (by decide) (by decide) (by decide) (g := (mkF m 104 A88 [(.long r86), (.ref b27)])) rfl (by rw [hml]; rfl) (argsL := [(.long r86)]) (rest := []) rfl (lenOf pd_2 rfl) rfl (by show 2 * 0 + _ ≤ _; exact Nat.le_of_eq rfl) (hb hby at_104)
          obtain ⟨r91, r92, v90, hv90, hc93, rfl, N89, K89_, f94, f95⟩ := hQ89
          have N89_ := Fr.app N81_ N89
          have Z96 : n0 ≤ T89.heap.size := Nat.le_trans Z55 K89_.1
          have K96 : Keep h0 T89.heap [] := K55.trans K89_ (allS (Or.inr sz_b27) all0)
          refine Go.st (S' := T89.setTop (mkF m 107 A88 [(.int r91)])) st89 ?_
          let A97 : Array Slot := #[.val (.long q0), .second, .val (.long q1), .second, .val (.long q2), .second, .val (.int p3), .val (.long v2), .second, .val (.long r24), .second, .val (.ref b27), .val (.int r50), .val (.int r50), .val (.long r51), .second, .val (.long r86), .second, .val (.int r91), .unset, .unset, .unset, .unset, .unset]
          refine Go.st (S' := T89.setTop (mkF m 109 A97 [])) (fun t k => XS.istore X89.here hx rfl (hb hby at_107) rfl (l' := A97) rfl k) ?_
          refine Go.st (S' := T89.setTop (mkF m 111 A97 [(.long r86)])) (fun t k => XS.lload X89.here hx rfl (hb hby at_109) rfl k) ?_
          refine Go.st (S' := T89.setTop (mkF m 113 A97 [(.long r51), (.long r86)])) (fun t k => XS.lload X89.here hx rfl (hb hby at_111) rfl k) ?_
          refine Go.op (F := fun z => T89.setTop (mkF m 114 A97 [(.int z)])) (x := (lcmpW r86 r51)) (fun t k => XS.lcmp X89.here hx rfl (hb hby at_113) rfl k) ?_
          intro v98 hv98
          refine Go.join (α := Int32) (fun r => (((r51 < r86) ∧ (r = (0 : Int32))) ∨ ((¬ (r51 < r86)) ∧ (r = (1 : Int32))))) (fun r => T89.setTop (mkF m 122 A97 [(.int r)])) ?_ ?_
          · intro r101 hc102
            let A103 : Array Slot := #[.val (.long q0), .second, .val (.long q1), .second, .val (.long q2), .second, .val (.int p3), .val (.long v2), .second, .val (.long r24), .second, .val (.ref b27), .val (.int r50), .val (.int r50), .val (.long r51), .second, .val (.long r86), .second, .val (.int r91), .val (.int r101), .unset, .unset, .unset, .unset]
            refine Go.st (S' := T89.setTop (mkF m 124 A103 [])) (fun t k => XS.istore X89.here hx rfl (hb hby at_122) rfl (l' := A103) rfl k) ?_
            have hu104 : r91 = r101 := by
              refine Decidable.byContradiction fun hc105 => ?_
              first
                | have rv90 := rng64 v90
                  have wv90 := c_lsub r51 r86
                  rw [← hv90] at wv90
                  have rr101 := rng32 r101
                  have rr51 := rng64 r51
                  have rr86 := rng64 r86
                  have rr91 := rng32 r91
                  have rr92 := rng64 r92
                  have lI0 : (0 : Int32).toInt = 0 := by decide
                  have lI1 : (1 : Int32).toInt = 1 := by decide
                  simp only [Int32.lt_iff_toInt_lt, Int64.lt_iff_toInt_lt, ← Int32.toInt_inj, ← Int64.toInt_inj] at hc93 hc102 hc105
                  omega
                | have rv2 := rng64 v2
                  have wv2 := c_maskL q0 (9223372036854775807 : Int64) 63 (by decide) (by decide)
                  rw [← hv2] at wv2
                  have rv49 := rng64 v49
                  have wv49 := c_lsub v2 r24
                  rw [← hv49] at wv49
                  have rv82 := rng64 v82
                  have wv82 := c_maskL q2 (9223372036854775807 : Int64) 63 (by decide) (by decide)
                  rw [← hv82] at wv82
                  have rv83 := rng64 v83
                  have wv83 := c_maskL q2 (3 : Int64) 2 (by decide) (by decide)
                  rw [← hv83] at wv83
                  have rv84 := rng64 v84
                  have wv84 := c_lsub v83 (1 : Int64)
                  rw [← hv84] at wv84
                  have rv85 := rng64 v85
                  have wv85 := c_ladd r51 v84
                  rw [← hv85] at wv85
                  have rv90 := rng64 v90
                  have wv90 := c_lsub r51 r86
                  rw [← hv90] at wv90
                  have rq0 := rng64 q0
                  have rq2 := rng64 q2
                  have rr101 := rng32 r101
                  have rr24 := rng64 r24
                  have rr50 := rng32 r50
                  have rr51 := rng64 r51
                  have rr79 := rng32 r79
                  have rr86 := rng64 r86
                  have rr91 := rng32 r91
                  have rr92 := rng64 r92
                  have lI0 : (0 : Int32).toInt = 0 := by decide
                  have lI1 : (1 : Int32).toInt = 1 := by decide
                  have lJ0 : (0 : Int64).toInt = 0 := by decide
                  have lJ1 : (1 : Int64).toInt = 1 := by decide
                  have lJ3 : (3 : Int64).toInt = 3 := by decide
                  have lJ9223372036854775807 : (9223372036854775807 : Int64).toInt = 9223372036854775807 := by decide
                  simp only [Int32.lt_iff_toInt_lt, Int64.lt_iff_toInt_lt, ← Int32.toInt_inj, ← Int64.toInt_inj] at hc52 hc71 hc87 hc93 hc102 hc105
                  omega
                | have rv20 := rng64 v20
                  have wv20 := c_maskL q1 (9223372036854775807 : Int64) 63 (by decide) (by decide)
                  rw [← hv20] at wv20
                  have rv2 := rng64 v2
                  have wv2 := c_maskL q0 (9223372036854775807 : Int64) 63 (by decide) (by decide)
                  rw [← hv2] at wv2
                  have rv21 := rng64 v21
                  have wv21 := c_maskL q1 (3 : Int64) 2 (by decide) (by decide)
                  rw [← hv21] at wv21
                  have rv22 := rng64 v22
                  have wv22 := c_lsub v21 (1 : Int64)
                  rw [← hv22] at wv22
                  have rv23 := rng64 v23
                  have wv23 := c_ladd v2 v22
                  rw [← hv23] at wv23
                  have rv49 := rng64 v49
                  have wv49 := c_lsub v2 r24
                  rw [← hv49] at wv49
                  have rv76 := rng32 v76
                  have wv76 := c_and p3 (2 : Int32) (by decide)
                  rw [← hv76] at wv76
                  have rv82 := rng64 v82
                  have wv82 := c_maskL q2 (9223372036854775807 : Int64) 63 (by decide) (by decide)
                  rw [← hv82] at wv82
                  have rv83 := rng64 v83
                  have wv83 := c_maskL q2 (3 : Int64) 2 (by decide) (by decide)
                  rw [← hv83] at wv83
                  have rv84 := rng64 v84
                  have wv84 := c_lsub v83 (1 : Int64)
                  rw [← hv84] at wv84
                  have rv85 := rng64 v85
                  have wv85 := c_ladd r51 v84
                  rw [← hv85] at wv85
                  have rv90 := rng64 v90
                  have wv90 := c_lsub r51 r86
                  rw [← hv90] at wv90
                  have rp3 := rng32 p3
                  have rq0 := rng64 q0
                  have rq1 := rng64 q1
                  have rq2 := rng64 q2
                  have rr101 := rng32 r101
                  have rr24 := rng64 r24
                  have rr50 := rng32 r50
                  have rr51 := rng64 r51
                  have rr7 := rng32 r7
                  have rr79 := rng32 r79
                  have rr86 := rng64 r86
                  have rr91 := rng32 r91
                  have rr92 := rng64 r92
                  have lI0 : (0 : Int32).toInt = 0 := by decide
                  have lI1 : (1 : Int32).toInt = 1 := by decide
                  have lI2 : (2 : Int32).toInt = 2 := by decide
                  have lJ0 : (0 : Int64).toInt = 0 := by decide
                  have lJ1 : (1 : Int64).toInt = 1 := by decide
                  have lJ3 : (3 : Int64).toInt = 3 := by decide
                  have lJ9223372036854775807 : (9223372036854775807 : Int64).toInt = 9223372036854775807 := by decide
                  simp only [Int32.lt_iff_toInt_lt, Int64.lt_iff_toInt_lt, ← Int32.toInt_inj, ← Int64.toInt_inj] at hc25 hc52 hc61 hc71 hc80 hc87 hc93 hc102 hc105
                  omega
                | have rv4 := rng32 v4
                  have wv4 := c_mask p3 (1 : Int32) 1 (by decide) (by decide)
                  rw [← hv4] at wv4
                  have rv20 := rng64 v20
                  have wv20 := c_maskL q1 (9223372036854775807 : Int64) 63 (by decide) (by decide)
                  rw [← hv20] at wv20
                  have rv2 := rng64 v2
                  have wv2 := c_maskL q0 (9223372036854775807 : Int64) 63 (by decide) (by decide)
                  rw [← hv2] at wv2
                  have rv21 := rng64 v21
                  have wv21 := c_maskL q1 (3 : Int64) 2 (by decide) (by decide)
                  rw [← hv21] at wv21
                  have rv22 := rng64 v22
                  have wv22 := c_lsub v21 (1 : Int64)
                  rw [← hv22] at wv22
                  have rv23 := rng64 v23
                  have wv23 := c_ladd v2 v22
                  rw [← hv23] at wv23
                  have rv49 := rng64 v49
                  have wv49 := c_lsub v2 r24
                  rw [← hv49] at wv49
                  have rv76 := rng32 v76
                  have wv76 := c_and p3 (2 : Int32) (by decide)
                  rw [← hv76] at wv76
                  have rv82 := rng64 v82
                  have wv82 := c_maskL q2 (9223372036854775807 : Int64) 63 (by decide) (by decide)
                  rw [← hv82] at wv82
                  have rv83 := rng64 v83
                  have wv83 := c_maskL q2 (3 : Int64) 2 (by decide) (by decide)
                  rw [← hv83] at wv83
                  have rv84 := rng64 v84
                  have wv84 := c_lsub v83 (1 : Int64)
                  rw [← hv84] at wv84
                  have rv85 := rng64 v85
                  have wv85 := c_ladd r51 v84
                  rw [← hv85] at wv85
                  have rv90 := rng64 v90
                  have wv90 := c_lsub r51 r86
                  rw [← hv90] at wv90
                  have rp3 := rng32 p3
                  have rq0 := rng64 q0
                  have rq1 := rng64 q1
                  have rq2 := rng64 q2
                  have rr101 := rng32 r101
                  have rr24 := rng64 r24
                  have rr50 := rng32 r50
                  have rr51 := rng64 r51
                  have rr7 := rng32 r7
                  have rr79 := rng32 r79
                  have rr86 := rng64 r86
                  have rr91 := rng32 r91
                  have rr92 := rng64 r92
                  have lI0 : (0 : Int32).toInt = 0 := by decide
                  have lI1 : (1 : Int32).toInt = 1 := by decide
                  have lI2 : (2 : Int32).toInt = 2 := by decide
                  have lJ0 : (0 : Int64).toInt = 0 := by decide
                  have lJ1 : (1 : Int64).toInt = 1 := by decide
                  have lJ3 : (3 : Int64).toInt = 3 := by decide
                  have lJ9223372036854775807 : (9223372036854775807 : Int64).toInt = 9223372036854775807 := by decide
                  simp only [Int32.lt_iff_toInt_lt, Int64.lt_iff_toInt_lt, ← Int32.toInt_inj, ← Int64.toInt_inj] at hc8 hc25 hc52 hc61 hc71 hc80 hc87 hc93 hc102 hc105
                  omega
            obtain rfl : r91 = r101 := hu104
            let A106 : Array Slot := #[.val (.long q0), .second, .val (.long q1), .second, .val (.long q2), .second, .val (.int p3), .val (.long v2), .second, .val (.long r24), .second, .val (.ref b27), .val (.int r50), .val (.int r50), .val (.long r51), .second, .val (.long r86), .second, .val (.int r91), .val (.int r91), .unset, .unset, .unset, .unset]
            refine Go.st (S' := T89.setTop (mkF m 126 A106 [(.int r91)])) (fun t k => XS.iload X89.here hx rfl (hb hby at_124) rfl k) ?_
            refine Go.join (α := Int64) (fun r => (((r91 = (0 : Int32)) ∧ (r = r51)) ∨ ((¬ (r91 = (0 : Int32))) ∧ (r = v90)))) (fun r => T89.setTop (mkF m 139 A106 [(.long r)])) ?_ ?_
            · intro r111 hc112
              let A113 : Array Slot := #[.val (.long q0), .second, .val (.long q1), .second, .val (.long q2), .second, .val (.int p3), .val (.long v2), .second, .val (.long r24), .second, .val (.ref b27), .val (.int r50), .val (.int r50), .val (.long r51), .second, .val (.long r86), .second, .val (.int r91), .val (.int r91), .val (.long r111), .second, .unset, .unset]
              refine Go.st (S' := T89.setTop (mkF m 141 A113 [])) (fun t k => XS.lstore X89.here hx rfl (hb hby at_139) rfl (l' := A113) rfl k) ?_
              have hu114 : r92 = r111 := by
                refine Decidable.byContradiction fun hc115 => ?_
                first
                  | have rv90 := rng64 v90
                    have wv90 := c_lsub r51 r86
                    rw [← hv90] at wv90
                    have rr111 := rng64 r111
                    have rr51 := rng64 r51
                    have rr86 := rng64 r86
                    have rr91 := rng32 r91
                    have rr92 := rng64 r92
                    have lI0 : (0 : Int32).toInt = 0 := by decide
                    have lI1 : (1 : Int32).toInt = 1 := by decide
                    simp only [Int32.lt_iff_toInt_lt, Int64.lt_iff_toInt_lt, ← Int32.toInt_inj, ← Int64.toInt_inj] at hc93 hc112 hc115
                    omega
                  | have rv2 := rng64 v2
                    have wv2 := c_maskL q0 (9223372036854775807 : Int64) 63 (by decide) (by decide)
                    rw [← hv2] at wv2
                    have rv49 := rng64 v49
                    have wv49 := c_lsub v2 r24
                    rw [← hv49] at wv49
                    have rv82 := rng64 v82
                    have wv82 := c_maskL q2 (9223372036854775807 : Int64) 63 (by decide) (by decide)
                    rw [← hv82] at wv82
                    have rv83 := rng64 v83
                    have wv83 := c_maskL q2 (3 : Int64) 2 (by decide) (by decide)
                    rw [← hv83] at wv83
                    have rv84 := rng64 v84
                    have wv84 := c_lsub v83 (1 : Int64)
                    rw [← hv84] at wv84
                    have rv85 := rng64 v85
                    have wv85 := c_ladd r51 v84
                    rw [← hv85] at wv85
                    have rv90 := rng64 v90
                    have wv90 := c_lsub r51 r86
                    rw [← hv90] at wv90
                    have rq0 := rng64 q0
                    have rq2 := rng64 q2
                    have rr111 := rng64 r111
                    have rr24 := rng64 r24
                    have rr50 := rng32 r50
                    have rr51 := rng64 r51
                    have rr79 := rng32 r79
                    have rr86 := rng64 r86
                    have rr91 := rng32 r91
                    have rr92 := rng64 r92
                    have lI0 : (0 : Int32).toInt = 0 := by decide
                    have lI1 : (1 : Int32).toInt = 1 := by decide
                    have lJ0 : (0 : Int64).toInt = 0 := by decide
                    have lJ1 : (1 : Int64).toInt = 1 := by decide
                    have lJ3 : (3 : Int64).toInt = 3 := by decide
                    have lJ9223372036854775807 : (9223372036854775807 : Int64).toInt = 9223372036854775807 := by decide
                    simp only [Int32.lt_iff_toInt_lt, Int64.lt_iff_toInt_lt, ← Int32.toInt_inj, ← Int64.toInt_inj] at hc52 hc71 hc87 hc93 hc102 hc112 hc115
                    omega
                  | have rv20 := rng64 v20
                    have wv20 := c_maskL q1 (9223372036854775807 : Int64) 63 (by decide) (by decide)
                    rw [← hv20] at wv20
                    have rv2 := rng64 v2
                    have wv2 := c_maskL q0 (9223372036854775807 : Int64) 63 (by decide) (by decide)
                    rw [← hv2] at wv2
                    have rv21 := rng64 v21
                    have wv21 := c_maskL q1 (3 : Int64) 2 (by decide) (by decide)
                    rw [← hv21] at wv21
                    have rv22 := rng64 v22
                    have wv22 := c_lsub v21 (1 : Int64)
                    rw [← hv22] at wv22
                    have rv23 := rng64 v23
                    have wv23 := c_ladd v2 v22
                    rw [← hv23] at wv23
                    have rv49 := rng64 v49
                    have wv49 := c_lsub v2 r24
                    rw [← hv49] at wv49
                    have rv76 := rng32 v76
                    have wv76 := c_and p3 (2 : Int32) (by decide)
                    rw [← hv76] at wv76
                    have rv82 := rng64 v82
                    have wv82 := c_maskL q2 (9223372036854775807 : Int64) 63 (by decide) (by decide)
                    rw [← hv82] at wv82
                    have rv83 := rng64 v83
                    have wv83 := c_maskL q2 (3 : Int64) 2 (by decide) (by decide)
                    rw [← hv83] at wv83
                    have rv84 := rng64 v84
                    have wv84 := c_lsub v83 (1 : Int64)
                    rw [← hv84] at wv84
                    have rv85 := rng64 v85
                    have wv85 := c_ladd r51 v84
                    rw [← hv85] at wv85
                    have rv90 := rng64 v90
                    have wv90 := c_lsub r51 r86
                    rw [← hv90] at wv90
                    have rp3 := rng32 p3
                    have rq0 := rng64 q0
                    have rq1 := rng64 q1
                    have rq2 := rng64 q2
                    have rr111 := rng64 r111
                    have rr24 := rng64 r24
                    have rr50 := rng32 r50
                    have rr51 := rng64 r51
                    have rr7 := rng32 r7
                    have rr79 := rng32 r79
                    have rr86 := rng64 r86
                    have rr91 := rng32 r91
                    have rr92 := rng64 r92
                    have lI0 : (0 : Int32).toInt = 0 := by decide
                    have lI1 : (1 : Int32).toInt = 1 := by decide
                    have lI2 : (2 : Int32).toInt = 2 := by decide
                    have lJ0 : (0 : Int64).toInt = 0 := by decide
                    have lJ1 : (1 : Int64).toInt = 1 := by decide
                    have lJ3 : (3 : Int64).toInt = 3 := by decide
                    have lJ9223372036854775807 : (9223372036854775807 : Int64).toInt = 9223372036854775807 := by decide
                    simp only [Int32.lt_iff_toInt_lt, Int64.lt_iff_toInt_lt, ← Int32.toInt_inj, ← Int64.toInt_inj] at hc25 hc52 hc61 hc71 hc80 hc87 hc93 hc102 hc112 hc115
                    omega
                  | have rv4 := rng32 v4
                    have wv4 := c_mask p3 (1 : Int32) 1 (by decide) (by decide)
                    rw [← hv4] at wv4
                    have rv20 := rng64 v20
                    have wv20 := c_maskL q1 (9223372036854775807 : Int64) 63 (by decide) (by decide)
                    rw [← hv20] at wv20
                    have rv2 := rng64 v2
                    have wv2 := c_maskL q0 (9223372036854775807 : Int64) 63 (by decide) (by decide)
                    rw [← hv2] at wv2
                    have rv21 := rng64 v21
                    have wv21 := c_maskL q1 (3 : Int64) 2 (by decide) (by decide)
                    rw [← hv21] at wv21
                    have rv22 := rng64 v22
                    have wv22 := c_lsub v21 (1 : Int64)
                    rw [← hv22] at wv22
                    have rv23 := rng64 v23
                    have wv23 := c_ladd v2 v22
                    rw [← hv23] at wv23
                    have rv49 := rng64 v49
                    have wv49 := c_lsub v2 r24
                    rw [← hv49] at wv49
                    have rv76 := rng32 v76
                    have wv76 := c_and p3 (2 : Int32) (by decide)
                    rw [← hv76] at wv76
                    have rv82 := rng64 v82
                    have wv82 := c_maskL q2 (9223372036854775807 : Int64) 63 (by decide) (by decide)
                    rw [← hv82] at wv82
                    have rv83 := rng64 v83
                    have wv83 := c_maskL q2 (3 : Int64) 2 (by decide) (by decide)
                    rw [← hv83] at wv83
                    have rv84 := rng64 v84
                    have wv84 := c_lsub v83 (1 : Int64)
                    rw [← hv84] at wv84
                    have rv85 := rng64 v85
                    have wv85 := c_ladd r51 v84
                    rw [← hv85] at wv85
                    have rv90 := rng64 v90
                    have wv90 := c_lsub r51 r86
                    rw [← hv90] at wv90
                    have rp3 := rng32 p3
                    have rq0 := rng64 q0
                    have rq1 := rng64 q1
                    have rq2 := rng64 q2
                    have rr111 := rng64 r111
                    have rr24 := rng64 r24
                    have rr50 := rng32 r50
                    have rr51 := rng64 r51
                    have rr7 := rng32 r7
                    have rr79 := rng32 r79
                    have rr86 := rng64 r86
                    have rr91 := rng32 r91
                    have rr92 := rng64 r92
                    have lI0 : (0 : Int32).toInt = 0 := by decide
                    have lI1 : (1 : Int32).toInt = 1 := by decide
                    have lI2 : (2 : Int32).toInt = 2 := by decide
                    have lJ0 : (0 : Int64).toInt = 0 := by decide
                    have lJ1 : (1 : Int64).toInt = 1 := by decide
                    have lJ3 : (3 : Int64).toInt = 3 := by decide
                    have lJ9223372036854775807 : (9223372036854775807 : Int64).toInt = 9223372036854775807 := by decide
                    simp only [Int32.lt_iff_toInt_lt, Int64.lt_iff_toInt_lt, ← Int32.toInt_inj, ← Int64.toInt_inj] at hc8 hc25 hc52 hc61 hc71 hc80 hc87 hc93 hc102 hc112 hc115
                    omega
              obtain rfl : r92 = r111 := hu114
              let A116 : Array Slot := #[.val (.long q0), .second, .val (.long q1), .second, .val (.long q2), .second, .val (.int p3), .val (.long v2), .second, .val (.long r24), .second, .val (.ref b27), .val (.int r50), .val (.int r50), .val (.long r51), .second, .val (.long r86), .second, .val (.int r91), .val (.int r91), .val (.long r92), .second, .unset, .unset]
              refine Go.st (S' := T89.setTop (mkF m 143 A116 [(.ref b27)])) (fun t k => XS.aload X89.here hx rfl (hb hby at_141) rfl rfl k) ?_
              refine Go.st (S' := T89.setTop (mkF m 145 A116 [(.long r92), (.ref b27)])) (fun t k => XS.lload X89.here hx rfl (hb hby at_143) rfl k) ?_
              obtain ⟨r117, T117, L117, X117, hQ117, st117⟩ := own_callV (W := 0) (a := b27) (C := "com/example/signbound/signbound/expr/PostOrder$Budget") X89 hx hZ rfl hown (y := (⟨"com/example/signbound/signbound/expr/PostOrder$Budget", "take", "(J)Z"⟩ : MethodName)) (z := (⟨"com/example/signbound/signbound/expr/PostOrder$Budget", "take", "(J)Z"⟩ : MethodName)) (hw _ (List.mem_of_getElem? (i := 16) rfl)) (hw _ (List.mem_of_getElem? (i := 17) rfl)) (notFace_of_selects (args := #[]) (mvT hZ (hw _ (List.mem_of_getElem? (i := 19) rfl)))) (hw _ (List.mem_of_getElem? (i := 19) rfl)) (hw _ (List.mem_of_getElem? (i := 18) rfl)) (hw _ (List.mem_of_getElem? (i := 7) rfl)) (hw _ (List.mem_of_getElem? (i := 20) rfl)) (by decide) (f95) (rm3 l Z a0 hw [] b27 r92 r92 T89.heap n0 Z96 (f94) (f95) (g_b27)) (by decide) (by decide) (by decide) (by decide) (g := (mkF m 145 A116 [(.long r92), (.ref b27)])) rfl (by rw [hml]; rfl) (argsL := [(.long r92)]) (rest := []) rfl (lenOf pd_2 rfl) rfl (by show 2 * 0 + _ ≤ _; exact Nat.le_of_eq rfl) (hb hby at_145)
              obtain ⟨r119, r120, v118, hv118, hc121, rfl, N117, K117_, f122, f123⟩ := hQ117
              have N117_ := Fr.app N89_ N117
              have Z124 : n0 ≤ T117.heap.size := Nat.le_trans Z96 K117_.1
              have K124 : Keep h0 T117.heap [] := K96.trans K117_ (allS (Or.inr sz_b27) all0)
              refine Go.st (S' := T117.setTop (mkF m 148 A116 [(.int r119)])) st117 ?_
              let A125 : Array Slot := #[.val (.long q0), .second, .val (.long q1), .second, .val (.long q2), .second, .val (.int p3), .val (.long v2), .second, .val (.long r24), .second, .val (.ref b27), .val (.int r50), .val (.int r50), .val (.long r51), .second, .val (.long r86), .second, .val (.int r91), .val (.int r91), .val (.long r92), .second, .val (.int r119), .unset]
              refine Go.st (S' := T117.setTop (mkF m 150 A125 [])) (fun t k => XS.istore X117.here hx rfl (hb hby at_148) rfl (l' := A125) rfl k) ?_
              refine Go.st (S' := T117.setTop (mkF m 152 A125 [(.ref b27)])) (fun t k => XS.aload X117.here hx rfl (hb hby at_150) rfl rfl k) ?_
              refine Go.st (S' := T117.setTop (mkF m 153 A125 [(.long (1 : Int64)), (.ref b27)])) (fun t k => XS.lconst X117.here hx rfl (hb hby at_152) k) ?_
              obtain ⟨r126, T126, L126, X126, hQ126, st126⟩ := own_callV (W := 0) (a := b27) (C := "com/example/signbound/signbound/expr/PostOrder$Budget") X117 hx hZ rfl hown (y := (⟨"com/example/signbound/signbound/expr/PostOrder$Budget", "take", "(J)Z"⟩ : MethodName)) (z := (⟨"com/example/signbound/signbound/expr/PostOrder$Budget", "take", "(J)Z"⟩ : MethodName)) (hw _ (List.mem_of_getElem? (i := 16) rfl)) (hw _ (List.mem_of_getElem? (i := 17) rfl)) (notFace_of_selects (args := #[]) (mvT hZ (hw _ (List.mem_of_getElem? (i := 19) rfl)))) (hw _ (List.mem_of_getElem? (i := 19) rfl)) (hw _ (List.mem_of_getElem? (i := 18) rfl)) (hw _ (List.mem_of_getElem? (i := 7) rfl)) (hw _ (List.mem_of_getElem? (i := 20) rfl)) (by decide) (f123) (rm3 l Z a0 hw [] b27 (1 : Int64) r120 T117.heap n0 Z124 (f122) (f123) (g_b27)) (by decide) (by decide) (by decide) (by decide) (g := (mkF m 153 A125 [(.long (1 : Int64)), (.ref b27)])) rfl (by rw [hml]; rfl) (argsL := [(.long (1 : Int64))]) (rest := []) rfl (lenOf pd_2 rfl) rfl (by show 2 * 0 + _ ≤ _; exact Nat.le_of_eq rfl) (hb hby at_153)
              obtain ⟨r128, r129, v127, hv127, hc130, rfl, N126, K126_, f131, f132⟩ := hQ126
              have N126_ := Fr.app N117_ N126
              have Z133 : n0 ≤ T126.heap.size := Nat.le_trans Z124 K126_.1
              have K133 : Keep h0 T126.heap [] := K124.trans K126_ (allS (Or.inr sz_b27) all0)
              refine Go.st (S' := T126.setTop (mkF m 156 A125 [(.int r128)])) st126 ?_
              let A134 : Array Slot := #[.val (.long q0), .second, .val (.long q1), .second, .val (.long q2), .second, .val (.int p3), .val (.long v2), .second, .val (.long r24), .second, .val (.ref b27), .val (.int r50), .val (.int r50), .val (.long r51), .second, .val (.long r86), .second, .val (.int r91), .val (.int r91), .val (.long r92), .second, .val (.int r119), .val (.int r128)]
              refine Go.st (S' := T126.setTop (mkF m 158 A134 [])) (fun t k => XS.istore X126.here hx rfl (hb hby at_156) rfl (l' := A134) rfl k) ?_
              refine Go.st (S' := T126.setTop (mkF m 160 A134 [(.int r50)])) (fun t k => XS.iload X126.here hx rfl (hb hby at_158) rfl k) ?_
              refine Go.st (S' := T126.setTop (mkF m 162 A134 [(.int r50), (.int r50)])) (fun t k => XS.iload X126.here hx rfl (hb hby at_160) rfl k) ?_
              refine Go.st (S' := T126.setTop (mkF m 165 A134 [])) (fun t k => XS.icmpNo X126.here hx rfl (hb hby at_162) rfl (teq (rfl : r50 = r50)).2 k) ?_
              refine Go.st (S' := T126.setTop (mkF m 167 A134 [(.int r91)])) (fun t k => XS.iload X126.here hx rfl (hb hby at_165) rfl k) ?_
              refine Go.st (S' := T126.setTop (mkF m 169 A134 [(.int r91), (.int r91)])) (fun t k => XS.iload X126.here hx rfl (hb hby at_167) rfl k) ?_
              refine Go.st (S' := T126.setTop (mkF m 172 A134 [])) (fun t k => XS.icmpNo X126.here hx rfl (hb hby at_169) rfl (teq (rfl : r91 = r91)).2 k) ?_
              refine Go.st (S' := T126.setTop (mkF m 174 A134 [(.int r119)])) (fun t k => XS.iload X126.here hx rfl (hb hby at_172) rfl k) ?_
              by_cases hc135 : (r119 = (0 : Int32))
              · exfalso
                first
                  | have rv118 := rng64 v118
                    have wv118 := c_lsub r92 r92
                    rw [← hv118] at wv118
                    have rr119 := rng32 r119
                    have rr120 := rng64 r120
                    have rr92 := rng64 r92
                    have lI0 : (0 : Int32).toInt = 0 := by decide
                    have lI1 : (1 : Int32).toInt = 1 := by decide
                    simp only [Int32.lt_iff_toInt_lt, Int64.lt_iff_toInt_lt, ← Int32.toInt_inj, ← Int64.toInt_inj] at hc121 hc135
                    omega
                  | have rv90 := rng64 v90
                    have wv90 := c_lsub r51 r86
                    rw [← hv90] at wv90
                    have rv118 := rng64 v118
                    have wv118 := c_lsub r92 r92
                    rw [← hv118] at wv118
                    have rv127 := rng64 v127
                    have wv127 := c_lsub r120 (1 : Int64)
                    rw [← hv127] at wv127
                    have rr119 := rng32 r119
                    have rr120 := rng64 r120
                    have rr128 := rng32 r128
                    have rr129 := rng64 r129
                    have rr51 := rng64 r51
                    have rr86 := rng64 r86
                    have rr91 := rng32 r91
                    have rr92 := rng64 r92
                    have lI0 : (0 : Int32).toInt = 0 := by decide
                    have lI1 : (1 : Int32).toInt = 1 := by decide
                    have lJ1 : (1 : Int64).toInt = 1 := by decide
                    simp only [Int32.lt_iff_toInt_lt, Int64.lt_iff_toInt_lt, ← Int32.toInt_inj, ← Int64.toInt_inj] at hc93 hc112 hc121 hc130 hc135
                    omega
                  | have rv2 := rng64 v2
                    have wv2 := c_maskL q0 (9223372036854775807 : Int64) 63 (by decide) (by decide)
                    rw [← hv2] at wv2
                    have rv49 := rng64 v49
                    have wv49 := c_lsub v2 r24
                    rw [← hv49] at wv49
                    have rv82 := rng64 v82
                    have wv82 := c_maskL q2 (9223372036854775807 : Int64) 63 (by decide) (by decide)
                    rw [← hv82] at wv82
                    have rv83 := rng64 v83
                    have wv83 := c_maskL q2 (3 : Int64) 2 (by decide) (by decide)
                    rw [← hv83] at wv83
                    have rv84 := rng64 v84
                    have wv84 := c_lsub v83 (1 : Int64)
                    rw [← hv84] at wv84
                    have rv85 := rng64 v85
                    have wv85 := c_ladd r51 v84
                    rw [← hv85] at wv85
                    have rv90 := rng64 v90
                    have wv90 := c_lsub r51 r86
                    rw [← hv90] at wv90
                    have rv118 := rng64 v118
                    have wv118 := c_lsub r92 r92
                    rw [← hv118] at wv118
                    have rv127 := rng64 v127
                    have wv127 := c_lsub r120 (1 : Int64)
                    rw [← hv127] at wv127
                    have rq0 := rng64 q0
                    have rq2 := rng64 q2
                    have rr119 := rng32 r119
                    have rr120 := rng64 r120
                    have rr128 := rng32 r128
                    have rr129 := rng64 r129
                    have rr24 := rng64 r24
                    have rr50 := rng32 r50
                    have rr51 := rng64 r51
                    have rr79 := rng32 r79
                    have rr86 := rng64 r86
                    have rr91 := rng32 r91
                    have rr92 := rng64 r92
                    have lI0 : (0 : Int32).toInt = 0 := by decide
                    have lI1 : (1 : Int32).toInt = 1 := by decide
                    have lJ0 : (0 : Int64).toInt = 0 := by decide
                    have lJ1 : (1 : Int64).toInt = 1 := by decide
                    have lJ3 : (3 : Int64).toInt = 3 := by decide
                    have lJ9223372036854775807 : (9223372036854775807 : Int64).toInt = 9223372036854775807 := by decide
                    simp only [Int32.lt_iff_toInt_lt, Int64.lt_iff_toInt_lt, ← Int32.toInt_inj, ← Int64.toInt_inj] at hc52 hc71 hc87 hc93 hc102 hc112 hc121 hc130 hc135
                    omega
                  | have rv4 := rng32 v4
                    have wv4 := c_mask p3 (1 : Int32) 1 (by decide) (by decide)
                    rw [← hv4] at wv4
                    have rv20 := rng64 v20
                    have wv20 := c_maskL q1 (9223372036854775807 : Int64) 63 (by decide) (by decide)
                    rw [← hv20] at wv20
                    have rv2 := rng64 v2
                    have wv2 := c_maskL q0 (9223372036854775807 : Int64) 63 (by decide) (by decide)
                    rw [← hv2] at wv2
                    have rv21 := rng64 v21
                    have wv21 := c_maskL q1 (3 : Int64) 2 (by decide) (by decide)
                    rw [← hv21] at wv21
                    have rv22 := rng64 v22
                    have wv22 := c_lsub v21 (1 : Int64)
                    rw [← hv22] at wv22
                    have rv23 := rng64 v23
                    have wv23 := c_ladd v2 v22
                    rw [← hv23] at wv23
                    have rv49 := rng64 v49
                    have wv49 := c_lsub v2 r24
                    rw [← hv49] at wv49
                    have rv76 := rng32 v76
                    have wv76 := c_and p3 (2 : Int32) (by decide)
                    rw [← hv76] at wv76
                    have rv82 := rng64 v82
                    have wv82 := c_maskL q2 (9223372036854775807 : Int64) 63 (by decide) (by decide)
                    rw [← hv82] at wv82
                    have rv83 := rng64 v83
                    have wv83 := c_maskL q2 (3 : Int64) 2 (by decide) (by decide)
                    rw [← hv83] at wv83
                    have rv84 := rng64 v84
                    have wv84 := c_lsub v83 (1 : Int64)
                    rw [← hv84] at wv84
                    have rv85 := rng64 v85
                    have wv85 := c_ladd r51 v84
                    rw [← hv85] at wv85
                    have rv90 := rng64 v90
                    have wv90 := c_lsub r51 r86
                    rw [← hv90] at wv90
                    have rv118 := rng64 v118
                    have wv118 := c_lsub r92 r92
                    rw [← hv118] at wv118
                    have rv127 := rng64 v127
                    have wv127 := c_lsub r120 (1 : Int64)
                    rw [← hv127] at wv127
                    have rp3 := rng32 p3
                    have rq0 := rng64 q0
                    have rq1 := rng64 q1
                    have rq2 := rng64 q2
                    have rr119 := rng32 r119
                    have rr120 := rng64 r120
                    have rr128 := rng32 r128
                    have rr129 := rng64 r129
                    have rr24 := rng64 r24
                    have rr50 := rng32 r50
                    have rr51 := rng64 r51
                    have rr7 := rng32 r7
                    have rr79 := rng32 r79
                    have rr86 := rng64 r86
                    have rr91 := rng32 r91
                    have rr92 := rng64 r92
                    have lI0 : (0 : Int32).toInt = 0 := by decide
                    have lI1 : (1 : Int32).toInt = 1 := by decide
                    have lI2 : (2 : Int32).toInt = 2 := by decide
                    have lJ0 : (0 : Int64).toInt = 0 := by decide
                    have lJ1 : (1 : Int64).toInt = 1 := by decide
                    have lJ3 : (3 : Int64).toInt = 3 := by decide
                    have lJ9223372036854775807 : (9223372036854775807 : Int64).toInt = 9223372036854775807 := by decide
                    simp only [Int32.lt_iff_toInt_lt, Int64.lt_iff_toInt_lt, ← Int32.toInt_inj, ← Int64.toInt_inj] at hc8 hc25 hc52 hc61 hc71 hc80 hc87 hc93 hc102 hc112 hc121 hc130 hc135
                    omega
              · refine Go.st (S' := T126.setTop (mkF m 177 A134 [])) (fun t k => XS.ifNo X126.here hx rfl (hb hby at_174) rfl ((if0 _ _).trans (feq hc135).1) k) ?_
                refine Go.st (S' := T126.setTop (mkF m 179 A134 [(.int r128)])) (fun t k => XS.iload X126.here hx rfl (hb hby at_177) rfl k) ?_
                by_cases hc136 : (r128 = (0 : Int32))
                · refine Go.st (S' := T126.setTop (mkF m 182 A134 [])) (fun t k => XS.ifNo X126.here hx rfl (hb hby at_179) rfl ((if0 _ _).trans (teq hc136).2) k) ?_
                  refine Go.st (S' := T126.setTop (mkF m 183 A134 [(.int (1 : Int32))])) (fun t k => XS.iconst X126.here hx rfl (hb hby at_182) k) ?_
                  refine Go.st (S' := T126.setTop (mkF m 187 A134 [(.int (1 : Int32))])) (fun t k => XS.goto X126.here hx rfl (pc0 := 183) (pc' := 187) rfl (hb hby at_183) (by decide) (by decide) k) ?_
                  exact Go.ret X126 (v := some (.int (1 : Int32))) (fun h => by rw [Bd.returns] at h; cases h) Bd.notSynchronized (fun fs hr => retN X126 hx (t := .boolean) Bd.returns (by simp) (hb hby at_187) hr) (by decide) (by decide) ⟨rfl, N126_⟩
                · exfalso
                  first
                    | have rv127 := rng64 v127
                      have wv127 := c_lsub r120 (1 : Int64)
                      rw [← hv127] at wv127
                      have rr120 := rng64 r120
                      have rr128 := rng32 r128
                      have rr129 := rng64 r129
                      have lI0 : (0 : Int32).toInt = 0 := by decide
                      have lI1 : (1 : Int32).toInt = 1 := by decide
                      have lJ1 : (1 : Int64).toInt = 1 := by decide
                      simp only [Int32.lt_iff_toInt_lt, Int64.lt_iff_toInt_lt, ← Int32.toInt_inj, ← Int64.toInt_inj] at hc130 hc136
                      omega
                    | have rv118 := rng64 v118
                      have wv118 := c_lsub r92 r92
                      rw [← hv118] at wv118
                      have rv127 := rng64 v127
                      have wv127 := c_lsub r120 (1 : Int64)
                      rw [← hv127] at wv127
                      have rr119 := rng32 r119
                      have rr120 := rng64 r120
                      have rr128 := rng32 r128
                      have rr129 := rng64 r129
                      have rr92 := rng64 r92
                      have lI0 : (0 : Int32).toInt = 0 := by decide
                      have lI1 : (1 : Int32).toInt = 1 := by decide
                      have lJ1 : (1 : Int64).toInt = 1 := by decide
                      simp only [Int32.lt_iff_toInt_lt, Int64.lt_iff_toInt_lt, ← Int32.toInt_inj, ← Int64.toInt_inj] at hc121 hc130 hc136
                      omega
                    | have rv90 := rng64 v90
                      have wv90 := c_lsub r51 r86
                      rw [← hv90] at wv90
                      have rv118 := rng64 v118
                      have wv118 := c_lsub r92 r92
                      rw [← hv118] at wv118
                      have rv127 := rng64 v127
                      have wv127 := c_lsub r120 (1 : Int64)
                      rw [← hv127] at wv127
                      have rr119 := rng32 r119
                      have rr120 := rng64 r120
                      have rr128 := rng32 r128
                      have rr129 := rng64 r129
                      have rr51 := rng64 r51
                      have rr86 := rng64 r86
                      have rr91 := rng32 r91
                      have rr92 := rng64 r92
                      have lI0 : (0 : Int32).toInt = 0 := by decide
                      have lI1 : (1 : Int32).toInt = 1 := by decide
                      have lJ1 : (1 : Int64).toInt = 1 := by decide
                      simp only [Int32.lt_iff_toInt_lt, Int64.lt_iff_toInt_lt, ← Int32.toInt_inj, ← Int64.toInt_inj] at hc93 hc112 hc121 hc130 hc135 hc136
                      omega
                    | have rv4 := rng32 v4
                      have wv4 := c_mask p3 (1 : Int32) 1 (by decide) (by decide)
                      rw [← hv4] at wv4
                      have rv20 := rng64 v20
                      have wv20 := c_maskL q1 (9223372036854775807 : Int64) 63 (by decide) (by decide)
                      rw [← hv20] at wv20
                      have rv2 := rng64 v2
                      have wv2 := c_maskL q0 (9223372036854775807 : Int64) 63 (by decide) (by decide)
                      rw [← hv2] at wv2
                      have rv21 := rng64 v21
                      have wv21 := c_maskL q1 (3 : Int64) 2 (by decide) (by decide)
                      rw [← hv21] at wv21
                      have rv22 := rng64 v22
                      have wv22 := c_lsub v21 (1 : Int64)
                      rw [← hv22] at wv22
                      have rv23 := rng64 v23
                      have wv23 := c_ladd v2 v22
                      rw [← hv23] at wv23
                      have rv49 := rng64 v49
                      have wv49 := c_lsub v2 r24
                      rw [← hv49] at wv49
                      have rv76 := rng32 v76
                      have wv76 := c_and p3 (2 : Int32) (by decide)
                      rw [← hv76] at wv76
                      have rv82 := rng64 v82
                      have wv82 := c_maskL q2 (9223372036854775807 : Int64) 63 (by decide) (by decide)
                      rw [← hv82] at wv82
                      have rv83 := rng64 v83
                      have wv83 := c_maskL q2 (3 : Int64) 2 (by decide) (by decide)
                      rw [← hv83] at wv83
                      have rv84 := rng64 v84
                      have wv84 := c_lsub v83 (1 : Int64)
                      rw [← hv84] at wv84
                      have rv85 := rng64 v85
                      have wv85 := c_ladd r51 v84
                      rw [← hv85] at wv85
                      have rv90 := rng64 v90
                      have wv90 := c_lsub r51 r86
                      rw [← hv90] at wv90
                      have rv118 := rng64 v118
                      have wv118 := c_lsub r92 r92
                      rw [← hv118] at wv118
                      have rv127 := rng64 v127
                      have wv127 := c_lsub r120 (1 : Int64)
                      rw [← hv127] at wv127
                      have rp3 := rng32 p3
                      have rq0 := rng64 q0
                      have rq1 := rng64 q1
                      have rq2 := rng64 q2
                      have rr119 := rng32 r119
                      have rr120 := rng64 r120
                      have rr128 := rng32 r128
                      have rr129 := rng64 r129
                      have rr24 := rng64 r24
                      have rr50 := rng32 r50
                      have rr51 := rng64 r51
                      have rr7 := rng32 r7
                      have rr79 := rng32 r79
                      have rr86 := rng64 r86
                      have rr91 := rng32 r91
                      have rr92 := rng64 r92
                      have lI0 : (0 : Int32).toInt = 0 := by decide
                      have lI1 : (1 : Int32).toInt = 1 := by decide
                      have lI2 : (2 : Int32).toInt = 2 := by decide
                      have lJ0 : (0 : Int64).toInt = 0 := by decide
                      have lJ1 : (1 : Int64).toInt = 1 := by decide
                      have lJ3 : (3 : Int64).toInt = 3 := by decide
                      have lJ9223372036854775807 : (9223372036854775807 : Int64).toInt = 9223372036854775807 := by decide
                      simp only [Int32.lt_iff_toInt_lt, Int64.lt_iff_toInt_lt, ← Int32.toInt_inj, ← Int64.toInt_inj] at hc8 hc25 hc52 hc61 hc71 hc80 hc87 hc93 hc102 hc112 hc121 hc130 hc135 hc136
                      omega
            · intro J137
              by_cases hc138 : (r91 = (0 : Int32))
              · refine Go.st (S' := T89.setTop (mkF m 137 A106 [])) (fun t k => XS.ifYes X89.here hx rfl (pc0 := 126) (pc' := 137) rfl (hb hby at_126) rfl ((if0 _ _).trans (teq hc138).1) (by decide) (by decide) k) ?_
                refine Go.st (S' := T89.setTop (mkF m 139 A106 [(.long r51)])) (fun t k => XS.lload X89.here hx rfl (hb hby at_137) rfl k) ?_
                exact J137 (r51) (Or.inl ⟨hc138, rfl⟩)
              · refine Go.st (S' := T89.setTop (mkF m 129 A106 [])) (fun t k => XS.ifNo X89.here hx rfl (hb hby at_126) rfl ((if0 _ _).trans (feq hc138).1) k) ?_
                refine Go.st (S' := T89.setTop (mkF m 131 A106 [(.long r51)])) (fun t k => XS.lload X89.here hx rfl (hb hby at_129) rfl k) ?_
                refine Go.st (S' := T89.setTop (mkF m 133 A106 [(.long r86), (.long r51)])) (fun t k => XS.lload X89.here hx rfl (hb hby at_131) rfl k) ?_
                refine Go.op (F := fun z => T89.setTop (mkF m 134 A106 [(.long z)])) (x := (r51 - r86)) (fun t k => XS.lsub X89.here hx rfl (hb hby at_133) rfl k) ?_
                intro v139 hv139
                obtain rfl : v90 = v139 := hv90.trans hv139.symm
                refine Go.st (S' := T89.setTop (mkF m 139 A106 [(.long v90)])) (fun t k => XS.goto X89.here hx rfl (pc0 := 134) (pc' := 139) rfl (hb hby at_134) (by decide) (by decide) k) ?_
                exact J137 (v90) (Or.inr ⟨hc138, rfl⟩)
          · intro J140
            by_cases hc141 : (r51 < r86)
            · refine Go.st (S' := T89.setTop (mkF m 121 A97 [])) (fun t k => XS.ifYes X89.here hx rfl (pc0 := 114) (pc' := 121) rfl (hb hby at_114) rfl ((if0 _ _).trans (tlt (by rw [hv98]; exact (lw_gt _ _).2 hc141)).2.2.1) (by decide) (by decide) k) ?_
              refine Go.st (S' := T89.setTop (mkF m 122 A97 [(.int (0 : Int32))])) (fun t k => XS.iconst X89.here hx rfl (hb hby at_121) k) ?_
              exact J140 ((0 : Int32)) (Or.inl ⟨hc141, rfl⟩)
            · refine Go.st (S' := T89.setTop (mkF m 117 A97 [])) (fun t k => XS.ifNo X89.here hx rfl (hb hby at_114) rfl ((if0 _ _).trans (flt (by rw [hv98]; exact fun z => hc141 ((lw_gt _ _).1 z))).2.2.1) k) ?_
              refine Go.st (S' := T89.setTop (mkF m 118 A97 [(.int (1 : Int32))])) (fun t k => XS.iconst X89.here hx rfl (hb hby at_117) k) ?_
              refine Go.st (S' := T89.setTop (mkF m 122 A97 [(.int (1 : Int32))])) (fun t k => XS.goto X89.here hx rfl (pc0 := 118) (pc' := 122) rfl (hb hby at_118) (by decide) (by decide) k) ?_
              exact J140 ((1 : Int32)) (Or.inr ⟨hc141, rfl⟩)
        · intro J142
          by_cases hc143 : (v76 = (0 : Int32))
          · refine Go.st (S' := T48.setTop (mkF m 94 A75 [(.long q2), (.long r51)])) (fun t k => XS.ifYes X48.here hx rfl (pc0 := 87) (pc' := 94) rfl (hb hby at_87) rfl ((if0 _ _).trans (teq hc143).1) (by decide) (by decide) k) ?_
            refine Go.st (S' := T48.setTop (mkF m 95 A75 [(.int (0 : Int32)), (.long q2), (.long r51)])) (fun t k => XS.iconst X48.here hx rfl (hb hby at_94) k) ?_
            exact J142 ((0 : Int32)) (Or.inl ⟨hc143, rfl⟩)
          · refine Go.st (S' := T48.setTop (mkF m 90 A75 [(.long q2), (.long r51)])) (fun t k => XS.ifNo X48.here hx rfl (hb hby at_87) rfl ((if0 _ _).trans (feq hc143).1) k) ?_
            refine Go.st (S' := T48.setTop (mkF m 91 A75 [(.int (1 : Int32)), (.long q2), (.long r51)])) (fun t k => XS.iconst X48.here hx rfl (hb hby at_90) k) ?_
            refine Go.st (S' := T48.setTop (mkF m 95 A75 [(.int (1 : Int32)), (.long q2), (.long r51)])) (fun t k => XS.goto X48.here hx rfl (pc0 := 91) (pc' := 95) rfl (hb hby at_91) (by decide) (by decide) k) ?_
            exact J142 ((1 : Int32)) (Or.inr ⟨hc143, rfl⟩)
      · intro J144
        by_cases hc145 : (r50 = (0 : Int32))
        · refine Go.st (S' := T48.setTop (mkF m 75 A65 [])) (fun t k => XS.ifYes X48.here hx rfl (pc0 := 64) (pc' := 75) rfl (hb hby at_64) rfl ((if0 _ _).trans (teq hc145).1) (by decide) (by decide) k) ?_
          refine Go.st (S' := T48.setTop (mkF m 77 A65 [(.long v2)])) (fun t k => XS.lload X48.here hx rfl (hb hby at_75) rfl k) ?_
          exact J144 (v2) (Or.inl ⟨hc145, rfl⟩)
        · refine Go.st (S' := T48.setTop (mkF m 67 A65 [])) (fun t k => XS.ifNo X48.here hx rfl (hb hby at_64) rfl ((if0 _ _).trans (feq hc145).1) k) ?_
          refine Go.st (S' := T48.setTop (mkF m 69 A65 [(.long v2)])) (fun t k => XS.lload X48.here hx rfl (hb hby at_67) rfl k) ?_
          refine Go.st (S' := T48.setTop (mkF m 71 A65 [(.long r24), (.long v2)])) (fun t k => XS.lload X48.here hx rfl (hb hby at_69) rfl k) ?_
          refine Go.op (F := fun z => T48.setTop (mkF m 72 A65 [(.long z)])) (x := (v2 - r24)) (fun t k => XS.lsub X48.here hx rfl (hb hby at_71) rfl k) ?_
          intro v146 hv146
          obtain rfl : v49 = v146 := hv49.trans hv146.symm
          refine Go.st (S' := T48.setTop (mkF m 77 A65 [(.long v49)])) (fun t k => XS.goto X48.here hx rfl (pc0 := 72) (pc' := 77) rfl (hb hby at_72) (by decide) (by decide) k) ?_
          exact J144 (v49) (Or.inr ⟨hc145, rfl⟩)
    · intro J147
      by_cases hc148 : (v2 < r24)
      · refine Go.st (S' := T48.setTop (mkF m 59 A56 [])) (fun t k => XS.ifYes X48.here hx rfl (pc0 := 52) (pc' := 59) rfl (hb hby at_52) rfl ((if0 _ _).trans (tlt (by rw [hv57]; exact (lw_gt _ _).2 hc148)).2.2.1) (by decide) (by decide) k) ?_
        refine Go.st (S' := T48.setTop (mkF m 60 A56 [(.int (0 : Int32))])) (fun t k => XS.iconst X48.here hx rfl (hb hby at_59) k) ?_
        exact J147 ((0 : Int32)) (Or.inl ⟨hc148, rfl⟩)
      · refine Go.st (S' := T48.setTop (mkF m 55 A56 [])) (fun t k => XS.ifNo X48.here hx rfl (hb hby at_52) rfl ((if0 _ _).trans (flt (by rw [hv57]; exact fun z => hc148 ((lw_gt _ _).1 z))).2.2.1) k) ?_
        refine Go.st (S' := T48.setTop (mkF m 56 A56 [(.int (1 : Int32))])) (fun t k => XS.iconst X48.here hx rfl (hb hby at_55) k) ?_
        refine Go.st (S' := T48.setTop (mkF m 60 A56 [(.int (1 : Int32))])) (fun t k => XS.goto X48.here hx rfl (pc0 := 56) (pc' := 60) rfl (hb hby at_56) (by decide) (by decide) k) ?_
        exact J147 ((1 : Int32)) (Or.inr ⟨hc148, rfl⟩)
  · intro J149
    by_cases hc150 : (v4 = (0 : Int32))
    · refine Go.st (S' := s₁.setTop (mkF m 21 A3 [(.long q1), (.long v2)])) (fun t k => XS.ifYes X0.here hx rfl (pc0 := 14) (pc' := 21) rfl (hb hby at_14) rfl ((if0 _ _).trans (teq hc150).1) (by decide) (by decide) k) ?_
      refine Go.st (S' := s₁.setTop (mkF m 22 A3 [(.int (0 : Int32)), (.long q1), (.long v2)])) (fun t k => XS.iconst X0.here hx rfl (hb hby at_21) k) ?_
      exact J149 ((0 : Int32)) (Or.inl ⟨hc150, rfl⟩)
    · refine Go.st (S' := s₁.setTop (mkF m 17 A3 [(.long q1), (.long v2)])) (fun t k => XS.ifNo X0.here hx rfl (hb hby at_14) rfl ((if0 _ _).trans (feq hc150).1) k) ?_
      refine Go.st (S' := s₁.setTop (mkF m 18 A3 [(.int (1 : Int32)), (.long q1), (.long v2)])) (fun t k => XS.iconst X0.here hx rfl (hb hby at_17) k) ?_
      refine Go.st (S' := s₁.setTop (mkF m 22 A3 [(.int (1 : Int32)), (.long q1), (.long v2)])) (fun t k => XS.goto X0.here hx rfl (pc0 := 18) (pc' := 22) rfl (hb hby at_18) (by decide) (by decide) k) ?_
      exact J149 ((1 : Int32)) (Or.inr ⟨hc150, rfl⟩)
set_option maxRecDepth 65536 in
set_option maxHeartbeats 40000000 in
theorem comes_1 {Post : Tables → Env → Array Value → State → Outcome → State → Prop} (hpost : ∀ tb e args s v u, (limb_1_1.after args s (.returned v) u = true ∧ limb_1_2.after args s (.returned v) u = true ∧ True) → FrameEnd s (.returned v) u (Jvm.fieldLocs frame_1_writes args s ++ Jvm.arrayLocs frame_1_arrays args s ++ Jvm.staticLocs frame_1_statics s) 16 128 → Post tb e args s (.returned v) u) :
    ArmFor flags0 classFile x code maxLocals ret World_1 tables_1 room_1 Calls_1 rest_1 Pre_1 Post := by
  intro l hfl _ _ p e ha hc hk s m args below hf hA hF happ hP
  obtain ⟨hcalls, hrest, hpre⟩ := hP
  obtain ⟨-, -, -, hnamed, -, -, -, hat⟩ := (Spec.applies_iff hf).mp happ
  obtain ⟨hg, hn⟩ := and_e (Cond.before_iff.mp (show (Jvm.Cond.and given_1 narrow_1).before args s = true from hpre))
  obtain ⟨h1, h2⟩ := and_e hg
  obtain ⟨w0, w1, w2, w3, rfl⟩ : ∃ w0 w1 w2 w3 : Value, args = #[w0, w1, w2, w3] := by
    have hs : args.size = 4 := by simpa [Cond.value, given_1] using h1
    obtain ⟨L⟩ := args
    match L, hs with
    | [w0, w1, w2, w3], _ => exact ⟨w0, w1, w2, w3, rfl⟩
  have hw := fun d (hd : d ∈ tables_1) => atoms_spec (ws := Jvm.Cond.code x code maxLocals ret :: tables_1) hat d (List.mem_cons_of_mem _ hd)
  have hfit : Fit s := fun {y c} hc i hi => by
    obtain ⟨ha, rfl⟩ := Array.getElem?_eq_some_iff.mp hc
    have q := List.all_eq_true.mp ((Array.all_eq_true_iff_forall_mem.mp hF) _ (Array.getElem_mem ha)) i (List.mem_range.mpr hi)
    simpa [Array.getElem?_eq_getElem hi] using q
  obtain ⟨q0, h2_0⟩ := and_e h2
  obtain ⟨i0, ee0⟩ := isL_v q0
  obtain rfl : w0 = (.long i0) := Option.some.inj ee0
  obtain ⟨q1, h2_1⟩ := and_e h2_0
  obtain ⟨i1, ee1⟩ := isL_v q1
  obtain rfl : w1 = (.long i1) := Option.some.inj ee1
  obtain ⟨q2, h2_2⟩ := and_e h2_1
  obtain ⟨i2, ee2⟩ := isL_v q2
  obtain rfl : w2 = (.long i2) := Option.some.inj ee2
  obtain ⟨i3, ee3⟩ := is_v h2_2
  obtain rfl : w3 = (.int i3) := Option.some.inj ee3
  obtain ⟨n, o, h1, h2, h3, _, L, rfl, ⟨rfl, N⟩, hq⟩ := rm4 l s _ hw tables_1 i0 i1 i2 i3 s.heap s.heap.size (Nat.le_refl _)  p e ha hc hk s m _ below hf ((Spec.applies_iff_loose hf).mp happ).1 ⟨rfl, State.Warmed39.refl s, rfl⟩ trivial
  refine ⟨n, _, h1, h2, h3, hpost _ _ _ _ _ _ ⟨Cond.after_iff.mpr rfl, Cond.after_iff.mpr (eq_i res_at (Term.int_eval (1)) rfl), trivial⟩ ⟨hq.1, hq.2.1, (hq.2.2.sift fun y hy => Or.inr (N y hy)).mono (by decide) (by decide)⟩⟩
theorem main_1_1 : Claimed_1_1 := comes_1 fun _ _ _ _ _ _ h hF => ⟨h.1, hF⟩
theorem main_1_2 : Claimed_1_2 := comes_1 fun _ _ _ _ _ _ h hF => ⟨h.2.1, hF⟩
end Jvm.Pilot.@@N@@
namespace Jvm.Pilot.@@N@@
open Jvm Jvm.ClassFile Sem Op Lib Jvm.Free Jvm.Stand Jvm.Pilot.@@N@@.Jvm.D
/-! MADE BY PROGRAM (witnessworld.py) out of the Statement's table words and the real class files: 9 classes; the members and pool entries that the words name. The judged class is class 1, her method 2. -/
namespace start1
open Jvm.ClassFile
def u (s : String) : CpInfo := .utf8 (stringToUtf16 s)
/-- a pool by its gaps: so many unusable entries, then the entry; so many at the end -/
def gap : Nat → List CpInfo → List CpInfo
  | 0, r => r
  | n + 1, r => .unusable :: gap n r
def poolList (es : List (Nat × CpInfo)) (last : Nat) : List CpInfo := es.foldr (fun e r => gap e.1 (e.2 :: r)) (gap last [])
def pool (es : List (Nat × CpInfo)) (last : Nat) : Array CpInfo := ⟨poolList es last⟩
def fileOf (pool : Array CpInfo) (this : Nat) (attrs : Array Attribute := #[]) (ms : Array MethodInfo := #[]) (fl : Nat := 33) (sup : Nat := 0) (ifs : Array Nat := #[]) (fds : Array FieldInfo := #[]) : ClassFile where
  minorVersion := 0
  majorVersion := 65
  constantPool := pool
  accessFlags := fl
  thisClass := this
  superClass := sup
  interfaces := ifs
  fields := fds
  methods := ms
  attributes := attrs
def plain (name : String) (sup : Option ClassId) : Class where
  name := name
  kind := .ordinary
  loader := none
  accessFlags := 33
  super := sup
  interfaces := #[]
  cf := none
  fields := #[]
  methods := #[]
  instanceTypes := #[]
  staticTypes := #[]
  resolved := #[]
  callSites := []
  init := .initialized
  statics := none
  mirror := none

def pool0 : Array CpInfo := pool [(5, u "<init>"), (0, u "()V"), (1, .class_ 10), (1, u "java/lang/Object")] 113

def k0c0 : Code := { maxStack := 0, maxLocals := 1, code := object_method_1_code, exceptionTable := #[], attributes := #[] }
def k0m0 : Method := { name := "<init>", desc := "()V", sig := { parameters := [], returnType := none }, accessFlags := 1, code := some k0c0 }
/-- java/lang/Object -/
def k0 : Class := { plain "java/lang/Object" none with
  accessFlags := 33
  interfaces := #[]
  cf := some (fileOf pool0 8 #[] #[{ accessFlags := 1, nameIndex := 5, descriptorIndex := 6, attributes := #[] }] 33 0 #[] #[])
  fields := #[]
  methods := #[k0m0]
  instanceTypes := #[]
  staticTypes := #[]
  resolved := Array.replicate 124 none
  statics := none }

def pool1 : Array CpInfo := pool [(2, .class_ 4), (1, u "java/lang/Object"), (0, u "<init>"), (0, u "()V"), (2, .long 9223372036854775807), (1, .long 3), (1, .methodref 14 15), (0, .class_ 16), (0, .nameAndType 17 18), (0, u "com/example/signbound/signbound/expr/BudgetTakePinLaw"), (0, u "pick"), (0, u "(JJZ)J"), (0, .class_ 20), (0, u "com/example/signbound/signbound/expr/PostOrder$Budget"), (0, .methodref 19 22), (0, .nameAndType 5 23), (0, u "(J)V"), (0, .methodref 19 25), (0, .nameAndType 26 27), (0, u "take"), (0, u "(J)Z"), (3, u "law"), (0, u "(JJJI)Z")] 6

def k1m0 : Method := { name := "<init>", desc := "()V", sig := { parameters := [], returnType := none }, accessFlags := 2, code := none }
def k1c1 : Code := { maxStack := 4, maxLocals := 9, code := method_2_code, exceptionTable := #[], attributes := #[] }
def k1m1 : Method := { name := "pick", desc := "(JJZ)J", sig := { parameters := [.long, .long, .boolean], returnType := some .long }, accessFlags := 10, code := some k1c1 }
def k1c2 : Code := { maxStack := 6, maxLocals := 24, code := code, exceptionTable := #[], attributes := #[] }
def k1m2 : Method := { name := "law", desc := "(JJJI)Z", sig := { parameters := [.long, .long, .long, .int], returnType := some .boolean }, accessFlags := 9, code := some k1c2 }
/-- com/example/signbound/signbound/expr/BudgetTakePinLaw -/
def k1 : Class := { plain "com/example/signbound/signbound/expr/BudgetTakePinLaw" (some 0) with
  accessFlags := 49
  interfaces := #[]
  cf := some (fileOf pool1 14 #[] #[{ accessFlags := 2, nameIndex := 5, descriptorIndex := 6, attributes := #[] }, { accessFlags := 10, nameIndex := 17, descriptorIndex := 18, attributes := #[] }, { accessFlags := 9, nameIndex := 31, descriptorIndex := 32, attributes := #[] }] 49 2 #[] #[])
  fields := #[]
  methods := #[k1m0, k1m1, k1m2]
  instanceTypes := #[]
  staticTypes := #[]
  resolved := Array.replicate 39 none
  statics := none }

def pool2 : Array CpInfo := pool [(1, .methodref 2 3), (0, .class_ 4), (0, .nameAndType 5 6), (0, u "java/lang/Object"), (0, u "<init>"), (0, u "()V"), (0, .fieldref 8 9), (0, .class_ 10), (0, .nameAndType 11 12), (0, u "com/example/signbound/signbound/expr/PostOrder$Budget"), (0, u "left"), (0, u "J"), (0, u "(J)V"), (2, u "take"), (0, u "(J)Z"), (5, .class_ 24), (0, u "com/example/signbound/signbound/expr/PostOrder")] 2

def k2c0 : Code := { maxStack := 3, maxLocals := 3, code := prog_46_method_1_code, exceptionTable := #[], attributes := #[] }
def k2m0 : Method := { name := "<init>", desc := "(J)V", sig := { parameters := [.long], returnType := none }, accessFlags := 1, code := some k2c0 }
def k2c1 : Code := { maxStack := 5, maxLocals := 4, code := prog_46_method_2_code, exceptionTable := #[], attributes := #[] }
def k2m1 : Method := { name := "take", desc := "(J)Z", sig := { parameters := [.long], returnType := some .boolean }, accessFlags := 1, code := some k2c1 }
/-- com/example/signbound/signbound/expr/PostOrder$Budget -/
def k2 : Class := { plain "com/example/signbound/signbound/expr/PostOrder$Budget" (some 0) with
  accessFlags := 49
  interfaces := #[]
  cf := some (fileOf pool2 8 #[.nestHost 23] #[{ accessFlags := 1, nameIndex := 5, descriptorIndex := 13, attributes := #[] }, { accessFlags := 1, nameIndex := 16, descriptorIndex := 17, attributes := #[] }] 49 2 #[] #[{ accessFlags := 2, nameIndex := 11, descriptorIndex := 12, attributes := #[] }])
  fields := #[{ name := "left", type := .long, accessFlags := 2, slot := 0, constantValue := 0 }]
  methods := #[k2m0, k2m1]
  instanceTypes := #[.long]
  staticTypes := #[]
  resolved := Array.replicate 27 none
  statics := none }

def pool3 : Array CpInfo := pool [(1, u "java/lang/Cloneable"), (0, .class_ 1), (0, u "java/lang/Object"), (0, .class_ 3)] 3

/-- java/lang/Cloneable -/
def k3 : Class := { plain "java/lang/Cloneable" (some 0) with
  accessFlags := 1537
  interfaces := #[]
  cf := some (fileOf pool3 2 #[] #[] 1537 4 #[] #[])
  fields := #[]
  methods := #[]
  instanceTypes := #[]
  staticTypes := #[]
  resolved := Array.replicate 8 none
  statics := none }

def pool4 : Array CpInfo := pool [(1, u "java/io/Serializable"), (0, .class_ 1), (0, u "java/lang/Object"), (0, .class_ 3)] 3

/-- java/io/Serializable -/
def k4 : Class := { plain "java/io/Serializable" (some 0) with
  accessFlags := 1537
  interfaces := #[]
  cf := some (fileOf pool4 2 #[] #[] 1537 4 #[] #[])
  fields := #[]
  methods := #[]
  instanceTypes := #[]
  staticTypes := #[]
  resolved := Array.replicate 8 none
  statics := none }

/-- the primitive byte -/
def k5 : Class := { plain "byte" none with kind := .primitive 'B', accessFlags := 0x411 }
/-- [B -/
def k6 : Class := { plain "[B" (some 0) with kind := .array 5 .byte, interfaces := #[3, 4], accessFlags := 1041 }

/-- the primitive int -/
def k7 : Class := { plain "int" none with kind := .primitive 'I', accessFlags := 0x411 }
/-- [I -/
def k8 : Class := { plain "[I" (some 0) with kind := .array 7 .int, interfaces := #[3, 4], accessFlags := 1041 }

def heap : Heap := #[]
def classes : Array Class := #[k0, k1, k2, k3, k4, k5, k6, k7, k8]
def interned : List (Array UInt16 × Addr) := []
def slotsUsed : Nat := 0
def theMethod : MethodId := ⟨1, 2⟩
def args0 : Array Value := #[.long 50, .long 7, .long 3, .int 1]
def aboutOver (below : List Frame) : State where
  vm := { classes := classes, interned := interned.toArray }
  heap := heap
  slotsUsed := slotsUsed
  threads := #[{ frames := .invoking theMethod args0 :: below }]
def below0 : List Frame := [.native { method := ⟨0, 0⟩, args := #[] }]
def about1 : State := aboutOver below0
def p0 : Program := .bare "" "" ""
def e0 : Env := launch0.env 0 0 0
theorem w_frames : about1.frames = Frame.invoking theMethod args0 :: below0 := rfl
set_option maxRecDepth 65536 in
theorem w_args : argsFit about1.vm theMethod args0 = true := by decide +kernel
set_option maxRecDepth 65536 in
theorem w_heap : heapFits about1 = true := by decide +kernel
set_option maxRecDepth 65536 in
theorem w_runnable : about1.curStatus? = some .runnable := by decide +kernel
set_option maxRecDepth 65536 in
theorem w_alone : about1.alone = true := by decide +kernel
set_option maxRecDepth 65536 in
theorem w_named : about1.methodNamed? x = some theMethod := by decide +kernel
set_option maxRecDepth 65536 in
theorem w_hears : about1.hears theMethod below0 = true := by decide +kernel
set_option maxRecDepth 65536 in
theorem w_ripe : about1.ripe theMethod args0 below0 = true := by decide +kernel
theorem w_running : about1.status = .running := rfl
set_option maxRecDepth 65536 in
theorem w_room : about1.hasRoom e0.platform room_1 = true :=
  launch0.hasRoom_least _ room_1 (by decide +kernel) (by decide +kernel) (by decide +kernel) (by decide +kernel) (by decide +kernel) (by decide +kernel)
theorem allAtoms_all (ts : List Jvm.Cond) (a : Array Jvm.Value) (st : Jvm.State) : (allAtoms ts).before a st = ts.all (fun c => c.before a st) := by
  induction ts with
  | nil => rfl
  | cons c t ih =>
    show (Jvm.Cond.and c (allAtoms t)).before a st = _
    rw [Jvm.Cond.before_and, ih, List.all_cons]
def words1 : List Jvm.Cond := Jvm.Cond.code x code maxLocals ret :: tables_1
/-- a 'code' word, met by the world's own term for the bytes: nothing is compared byte by byte -/
theorem code_word {y : MethodName} {bytes : ByteArray} {mx : Nat} {rt : Option FieldType} {a : Array Value} {s : State} {m : MethodId} {meth : Method} {c : Code} (h1 : s.methodNamed? y = some m) (h2 : s.vm.method? m = some meth) (h3 : meth.code = some c) (h4 : c.code = bytes)
    (h5 : (c.maxLocals == mx && c.exceptionTable.isEmpty && decide (c.maxStack ≤ mostOperands) && decide (meth.sig.returnType = rt) && !meth.locks && decide (parseMethodDescriptor y.desc = some meth.sig)) = true) : (Jvm.Cond.code y bytes mx rt).before a s = true := by
  simp only [Bool.and_eq_true, beq_iff_eq, Bool.not_eq_true', decide_eq_true_eq] at h5
  obtain ⟨⟨⟨⟨⟨g1, g2⟩, g3⟩, g4⟩, g5⟩, g6⟩ := h5
  simp [Cond.before, Cond.holds, Cond.value, h1, h2, h3, h4, g1, g2, g3, g4, g5, g6]
def isCode : Jvm.Cond → Bool
  | .code _ _ _ _ => true
  | _ => false
theorem all_split {L : List Jvm.Cond} {P : Jvm.Cond → Bool} (h1 : L.all (fun c => isCode c || P c) = true) (h2 : ∀ c ∈ L.filter isCode, P c = true) : L.all P = true := by
  refine List.all_eq_true.mpr fun c hc => ?_
  have h := List.all_eq_true.mp h1 c hc
  rcases Bool.eq_false_or_eq_true (isCode c) with hi | hi
  · exact h2 c (List.mem_filter.mpr ⟨hc, hi⟩)
  · simpa [hi] using h
set_option maxRecDepth 65536 in
theorem w_c0 : (Jvm.Cond.code x code maxLocals ret).before args0 about1 = true := code_word (m := ⟨1, 2⟩) (meth := k1m2) (c := k1c2) (by decide +kernel) rfl rfl rfl (by decide +kernel)
set_option maxRecDepth 65536 in
theorem w_c1 : (Jvm.Cond.code ({ cls := "com/example/signbound/signbound/expr/BudgetTakePinLaw", name := "pick", desc := "(JJZ)J" } : Jvm.MethodName) method_2_code (9 : Nat) (Option.some Jvm.ClassFile.FieldType.long)).before args0 about1 = true := code_word (m := ⟨1, 1⟩) (meth := k1m1) (c := k1c1) (by decide +kernel) rfl rfl rfl (by decide +kernel)
set_option maxRecDepth 65536 in
theorem w_c2 : (Jvm.Cond.code ({ cls := "com/example/signbound/signbound/expr/PostOrder$Budget", name := "<init>", desc := "(J)V" } : Jvm.MethodName) prog_46_method_1_code (3 : Nat) (Option.none : Option Jvm.ClassFile.FieldType)).before args0 about1 = true := code_word (m := ⟨2, 0⟩) (meth := k2m0) (c := k2c0) (by decide +kernel) rfl rfl rfl (by decide +kernel)
set_option maxRecDepth 65536 in
theorem w_c3 : (Jvm.Cond.code ({ cls := "java/lang/Object", name := "<init>", desc := "()V" } : Jvm.MethodName) object_method_1_code (1 : Nat) (Option.none : Option Jvm.ClassFile.FieldType)).before args0 about1 = true := code_word (m := ⟨0, 0⟩) (meth := k0m0) (c := k0c0) (by decide +kernel) rfl rfl rfl (by decide +kernel)
set_option maxRecDepth 65536 in
theorem w_c4 : (Jvm.Cond.code ({ cls := "com/example/signbound/signbound/expr/PostOrder$Budget", name := "take", desc := "(J)Z" } : Jvm.MethodName) prog_46_method_2_code (4 : Nat) (Option.some Jvm.ClassFile.FieldType.boolean)).before args0 about1 = true := code_word (m := ⟨2, 1⟩) (meth := k2m1) (c := k2c1) (by decide +kernel) rfl rfl rfl (by decide +kernel)
def codes1 : List Jvm.Cond := [Jvm.Cond.code x code maxLocals ret, Jvm.Cond.code ({ cls := "com/example/signbound/signbound/expr/BudgetTakePinLaw", name := "pick", desc := "(JJZ)J" } : Jvm.MethodName) method_2_code (9 : Nat) (Option.some Jvm.ClassFile.FieldType.long), Jvm.Cond.code ({ cls := "com/example/signbound/signbound/expr/PostOrder$Budget", name := "<init>", desc := "(J)V" } : Jvm.MethodName) prog_46_method_1_code (3 : Nat) (Option.none : Option Jvm.ClassFile.FieldType), Jvm.Cond.code ({ cls := "java/lang/Object", name := "<init>", desc := "()V" } : Jvm.MethodName) object_method_1_code (1 : Nat) (Option.none : Option Jvm.ClassFile.FieldType), Jvm.Cond.code ({ cls := "com/example/signbound/signbound/expr/PostOrder$Budget", name := "take", desc := "(J)Z" } : Jvm.MethodName) prog_46_method_2_code (4 : Nat) (Option.some Jvm.ClassFile.FieldType.boolean)]
set_option maxRecDepth 65536 in
theorem codes_eq : words1.filter isCode = codes1 := rfl
theorem w_codes : ∀ c ∈ words1.filter isCode, c.before args0 about1 = true := by
  rw [codes_eq]
  intro c hc
  simp only [codes1, List.mem_cons, List.not_mem_nil, or_false] at hc
  rcases hc with rfl | rfl | rfl | rfl | rfl
  · exact w_c0
  · exact w_c1
  · exact w_c2
  · exact w_c3
  · exact w_c4
set_option maxRecDepth 65536 in
theorem w_t1 : words1.all (fun c => isCode c || c.before args0 about1) = true := by decide +kernel
theorem w_tables : (allAtoms (Jvm.Cond.code x code maxLocals ret :: tables_1)).before args0 about1 = true := by
  rw [allAtoms_all]
  show words1.all (fun c => c.before args0 about1) = true
  refine all_split ?_ w_codes
  rw [w_t1]
set_option maxRecDepth 65536 in
theorem w_case : (Jvm.Cond.and given_1 narrow_1).before args0 about1 = true := by decide +kernel
theorem w_applies : (headSpec (Jvm.Cond.code x code maxLocals ret :: tables_1) room_1).applies x e0.platform about1 = true :=
  (Spec.applies_iff w_frames).mpr ⟨w_running, w_runnable, w_alone, w_named, w_hears, w_ripe, w_room, w_tables⟩
theorem atStart : AtStart classFile x code maxLocals ret World_1 tables_1 room_1 Calls_1 rest_1 Pre_1 launch0 p0 e0 about1 theMethod args0 below0 :=
  ⟨lists_1, trivial, launch0.admits_env _ _ _, launch0.least_env, fairChoices_fair.cas, fairChoices_fair.clock, w_frames, w_args, w_heap, w_applies, trivial, trivial, w_case⟩
end start1
theorem witness_1 : WitnessClaimed_1 := ⟨start1.p0, start1.e0, start1.about1, start1.theMethod, start1.args0, start1.below0, start1.atStart⟩
end Jvm.Pilot.@@N@@
