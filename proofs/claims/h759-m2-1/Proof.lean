import JvmDerived
import JvmDerived.Pilot.@@N@@Statement
import JvmDerived.Pilot.@@N@@Code
set_option linter.unusedVariables false
set_option linter.unusedSimpArgs false
namespace Jvm.RoadKit
open Sem ClassFile Op Lib Jvm.Stand Jvm.Free Jvm.LawKit
section New
variable {p : Program} {l : Launch} {e : Env} {R : Room} {s : State} {m : MethodId} {args : Array Value} {below : List Frame} {meth : Method} {c : Code} {T : State} {locs : List Loc} {cells slots : Nat}
theorem retI (X : Stand p l e R s m args below meth c T locs cells slots) (hx : p.tables.exec = Jvm.exec) {pc : Nat} {Ls : Array Slot} {z : Int32} {rest : List Value} (hret : meth.sig.returnType = some .int) (hd : decode c.code pc = .ok (.ireturn, 1)) {fs : List Frame}
    (hl : ∀ (f : JFrame) (acts : List Action), f.method = m → f.locked = none → f.entered = [] → (doReturn e (T.setTop f) acts (some (.int z))).1 = T.setFrames fs) : Steps p.tables e below (T.setTop (mkF m pc Ls (.int z :: rest))) (T.setFrames fs) := retOut X hx hret rfl (Or.inl ⟨rfl, Or.inl rfl, _, rfl⟩) hd hl
end New
end Jvm.RoadKit
namespace Jvm.Pilot.@@N@@
open Jvm Jvm.ClassFile Sem Op Lib Jvm.Free Jvm.Stand Jvm.LawKit Jvm.RoadKit Bundle Jvm.Pilot.@@N@@.Jvm.D
section OwnKit
variable {p : Program} {l : Launch} {e : Env} {R : Room} {s : State} {m : MethodId} {args : Array Value} {below : List Frame} {meth : Method} {c : Code} {T : State} {locs : List Loc} {cells slots : Nat} {Z : State} {a0 : Array Value} {h : Heap}
def Go (p : Program) (e : Env) (below : List Frame) (Q : Outcome → State → Prop) (S : State) : Prop := ∃ s₂ o, Steps p.tables e below S s₂ ∧ s₂.status = .running ∧ Ended s₂ below o ∧ Q o s₂
theorem Go.of {Q : Outcome → State → Prop} {S : State} (k : Go p e below Q S) : ∃ s₂ o, Steps p.tables e below S s₂ ∧ s₂.status = .running ∧ Ended s₂ below o ∧ Q o s₂ := k
theorem Go.st {Q : Outcome → State → Prop} {S S' : State} (h : ∀ t, Steps p.tables e below S' t → Steps p.tables e below S t) (k : Go p e below Q S') : Go p e below Q S := by
  obtain ⟨s2, o, h1, h2⟩ := k; exact ⟨s2, o, h _ h1, h2⟩
theorem Go.op {α : Type} {Q : Outcome → State → Prop} {S : State} {F : α → State} {x : α} (h : ∀ t, Steps p.tables e below (F x) t → Steps p.tables e below S t) (k : ∀ z, z = x → Go p e below Q (F z)) : Go p e below Q S := Go.st h (k x rfl)
theorem Go.join {α : Type} {Q : Outcome → State → Prop} {S : State} (C : α → Prop) (F : α → State) (k : ∀ r, C r → Go p e below Q (F r)) (j : (∀ r, C r → Go p e below Q (F r)) → Go p e below Q S) : Go p e below Q S := j k
theorem Go.joinT {α : Type} {Q : Outcome → State → Prop} {S : State} (X : Stand p l e R s m args below meth c T locs cells slots) (eT : T.heap = h) (C : α → Prop) (F : State → α → State) (k : ∀ T', Stand p l e R s m args below meth c T' locs cells slots → T'.heap = h → ∀ r, C r → Go p e below Q (F T' r)) (j : (∀ T', Stand p l e R s m args below meth c T' locs cells slots → T'.heap = h → ∀ r, C r → Go p e below Q (F T' r)) → Go p e below Q S) : Go p e below Q S := j k
theorem Go.loop {α : Type} {Q : Outcome → State → Prop} (I : Nat → α → Prop) (F : α → State) (k0 : Nat) (x0 : α) (h0 : I k0 x0) (step : ∀ k x, I k x → (∀ k' x', k' < k → I k' x' → Go p e below Q (F x')) → Go p e below Q (F x)) : Go p e below Q (F x0) := by
  have H : ∀ k x, I k x → Go p e below Q (F x) := by
    intro k
    induction k using Nat.strongRecOn with
    | _ k ih => intro x hx; exact step k x hx fun k' x' hk hx' => ih k' hk x' hx'
  exact H k0 x0 h0
theorem Go.ret {Qn : Option Value → Heap → List Loc → Prop} {rc rs : Nat} (X : Stand p l e R s m args below meth c T locs cells slots) {v : Option Value} (hv : meth.sig.returnType = none → v = none) (hlk : meth.locks = false) {f : JFrame}
    (st : ∀ fs, (∀ (f : JFrame) (acts : List Action), f.method = m → f.locked = none → f.entered = [] → (doReturn e (T.setTop f) acts v).1 = T.setFrames fs) → Steps p.tables e below (T.setTop f) (T.setFrames fs))
    (hc : cells ≤ rc) (hs : slots ≤ rs) (hQ : Qn v T.heap locs) : Go p e below (fun o U' => ∃ v L, o = .returned v ∧ Qn v U'.heap L ∧ FrameEnd s o U' L rc rs) (T.setTop f) := by
  obtain ⟨fs, hr, hrun, hended, hW, hsame⟩ := X.leave (v := v) hv hlk
  exact ⟨_, _, st fs hr, hrun, hended, v, locs, rfl, hQ, ⟨_, rfl⟩, hW, hsame.mono hc hs⟩
abbrev Con (l : Launch) (Z : State) (y : MethodName) (bytes : ByteArray) (maxL : Nat) (ret : Option FieldType) (ws : List Jvm.Cond) (rm : Room) (as' : Array Value) (h : Heap) (rc rs : Nat) (Q : Option Value → Heap → List Loc → Prop) : Prop :=
  MetFree l y (head1 (Jvm.Cond.code y bytes maxL ret :: ws) rm) (fun a U => a = as' ∧ Z.Warmed39 U.vm ∧ U.heap = h) (fun _ _ _ _ _ => True) (fun _ U o U' => ∃ v L, o = .returned v ∧ Q v U'.heap L ∧ FrameEnd U o U' L rc rs)
theorem own_eh {a : Addr} {cl : Cell} (eT : T.heap = h) (q : h[a]? = some cl) : T.heap[a]? = some cl := by rw [eT]; exact q
theorem own_callS {own : String} {index : Nat} {y : MethodName} {bytes : ByteArray} {maxL : Nat} {ret : Option FieldType} {rm : Room} {as' : Array Value} {Q : Option Value → Heap → List Loc → Prop} {W : Nat} {g : JFrame} {argsL rest : List Value}
    (X : Stand p l e R s m args below meth c T locs cells slots) (hx : p.tables.exec = Jvm.exec) (hZ : Z.Warmed39 s.vm) (eT : T.heap = h) (hown : s.vm.findClass own = some m.cls)
    (w1 : (Jvm.Cond.methodLink own index y).before a0 Z = true) (w2 : (Jvm.Cond.static y).before a0 Z = true) (w3 : (Jvm.Cond.initialized y.cls).before a0 Z = true) (w4 : (Jvm.Cond.code y bytes maxL ret).before a0 Z = true)
    (hy : y.cls ≠ "java/lang/invoke/MethodHandle" ∧ y.cls ≠ "java/lang/invoke/VarHandle")
    (hM : Con l Z y bytes maxL ret [] rm as' h rm.cells rm.slots Q)
    (hf : rm.frames + 1 ≤ R.frames) (hl : W + (maxL + 11) + rm.locals ≤ R.locals) (hc : cells + rm.cells ≤ R.cells) (hs : slots + rm.slots ≤ R.slots)
    (hg : g.method = m) (hsize : g.locals.size = c.maxLocals) (has : argsL.toArray = as') (hlen : ∀ sig, parseMethodDescriptor y.desc = some sig → argsL.length = sig.parameters.length)
    (hstack : g.stack = argsL.reverse ++ rest) (hW : 2 * g.monitorRoom + (rest.map fun v => v.category).sum ≤ W) (hdg : decode c.code g.pc = .ok (.invokestatic index, 3)) :
    ∃ v T' L, Stand p l e R s m args below meth c T' (locs ++ L) (cells + rm.cells) (slots + rm.slots) ∧ Q v T'.heap L ∧ ∀ target, Steps p.tables e below (T'.setTop { g with pc := g.pc + 3, stack := v.toList ++ rest }) target → Steps p.tables e below (T.setTop g) target := by
  obtain ⟨v, _, ⟨T', L', k', n'⟩, -, X', ⟨L, hQ, l', y', z'⟩, st⟩ := Jvm.LawKit.callS X hx (y := y) hown (mvT hZ w1) (mvT hZ w2) (mvT hZ w3) (mvT hZ w4) hy (backOf (W := W) hM hZ w4 w3 hf hl) (g := g) hg hsize (argsL := argsL) (rest := rest) hlen hstack hW hdg (fun _ _ => ⟨has, eT, hc, hs⟩)
  dsimp only [Pt.U, Pt.locs, Pt.cells, Pt.slots] at X' l' y' z' st hQ
  subst l' y' z'
  exact ⟨v, T', L, X', hQ, st⟩
theorem own_callI {own : String} {index : Nat} {y : MethodName} {bytes : ByteArray} {maxL : Nat} {rm : Room} {as' : Array Value} {Q : Option Value → Heap → List Loc → Prop} {W : Nat} {g : JFrame} {a : Addr} {argsL rest : List Value}
    (X : Stand p l e R s m args below meth c T locs cells slots) (hx : p.tables.exec = Jvm.exec) (hZ : Z.Warmed39 s.vm) (eT : T.heap = h) (hown : s.vm.findClass own = some m.cls) (hyn : y.name = "<init>")
    (w1 : (Jvm.Cond.methodLink own index y).before a0 Z = true) (w2 : (Jvm.Cond.instanceMethod y).before a0 Z = true) (w3 : (Jvm.Cond.initialized y.cls).before a0 Z = true) (w4 : (Jvm.Cond.code y bytes maxL none).before a0 Z = true)
    (hy : y.cls ≠ "java/lang/invoke/MethodHandle" ∧ y.cls ≠ "java/lang/invoke/VarHandle")
    (hM : Con l Z y bytes maxL none [] rm as' h rm.cells rm.slots Q)
    (hf : rm.frames + 1 ≤ R.frames) (hl : W + (maxL + 11) + rm.locals ≤ R.locals) (hc : cells + rm.cells ≤ R.cells) (hs : slots + rm.slots ≤ R.slots)
    (hg : g.method = m) (hsize : g.locals.size = c.maxLocals) (has : (Value.ref a :: argsL).toArray = as') (hlen : ∀ sig, parseMethodDescriptor y.desc = some sig → argsL.length = sig.parameters.length)
    (hstack : g.stack = argsL.reverse ++ .ref a :: rest) (hW : 2 * g.monitorRoom + (rest.map fun v => v.category).sum ≤ W) (hdg : decode c.code g.pc = .ok (.invokespecial index, 3)) :
    ∃ v T' L, Stand p l e R s m args below meth c T' (locs ++ L) (cells + rm.cells) (slots + rm.slots) ∧ Q v T'.heap L ∧ ∀ target, Steps p.tables e below (T'.setTop { g with pc := g.pc + 3, stack := v.toList ++ rest }) target → Steps p.tables e below (T.setTop g) target := by
  obtain ⟨v, _, ⟨T', L', k', n'⟩, -, X', ⟨L, hQ, l', y', z'⟩, st⟩ := X.specialBack hx (y := y) hyn hown (mvT hZ w1) (mvT hZ w2) (mvT hZ w4) hy (backOf (W := W) hM hZ w4 w3 hf hl) (g := g) hg hsize (Steps.refl _) (a := a) (argsL := argsL) (rest := rest) hlen hstack hW hdg (fun _ _ => ⟨has, eT, hc, hs⟩)
  dsimp only [Pt.U, Pt.locs, Pt.cells, Pt.slots] at X' l' y' z' st hQ
  subst l' y' z'
  exact ⟨v, T', L, X', hQ, fun _ k => st.trans k⟩
theorem own_callV {own C : String} {index : Nat} {y z : MethodName} {bytes : ByteArray} {maxL : Nat} {ret : Option FieldType} {rm : Room} {as' : Array Value} {Q : Option Value → Heap → List Loc → Prop} {W : Nat} {g : JFrame} {a : Addr} {argsL rest : List Value}
    (X : Stand p l e R s m args below meth c T locs cells slots) (hx : p.tables.exec = Jvm.exec) (hZ : Z.Warmed39 s.vm) (eT : T.heap = h) (hown : s.vm.findClass own = some m.cls)
    (w1 : (Jvm.Cond.methodLink own index y).before a0 Z = true) (w2 : (Jvm.Cond.declares y).before a0 Z = true) (nf : NotFace s y) (w5 : (Jvm.Cond.selects C y z).before a0 Z = true) (w6 : (Jvm.Cond.instanceMethod z).before a0 Z = true) (w3 : (Jvm.Cond.initialized z.cls).before a0 Z = true) (w4 : (Jvm.Cond.code z bytes maxL ret).before a0 Z = true)
    (hy : y.cls ≠ "java/lang/invoke/MethodHandle" ∧ y.cls ≠ "java/lang/invoke/VarHandle") (E : Exa Z h a C)
    (hM : Con l Z z bytes maxL ret [] rm as' h rm.cells rm.slots Q)
    (hf : rm.frames + 1 ≤ R.frames) (hl : W + (maxL + 11) + rm.locals ≤ R.locals) (hc : cells + rm.cells ≤ R.cells) (hs : slots + rm.slots ≤ R.slots)
    (hg : g.method = m) (hsize : g.locals.size = c.maxLocals) (has : (Value.ref a :: argsL).toArray = as') (hlen : ∀ sig, parseMethodDescriptor y.desc = some sig → argsL.length = sig.parameters.length)
    (hstack : g.stack = argsL.reverse ++ .ref a :: rest) (hW : 2 * g.monitorRoom + (rest.map fun v => v.category).sum ≤ W) (hdg : decode c.code g.pc = .ok (.invokevirtual index, 3)) :
    ∃ v T' L, Stand p l e R s m args below meth c T' (locs ++ L) (cells + rm.cells) (slots + rm.slots) ∧ Q v T'.heap L ∧ ∀ target, Steps p.tables e below (T'.setTop { g with pc := g.pc + 3, stack := v.toList ++ rest }) target → Steps p.tables e below (T.setTop g) target := by
  obtain ⟨cq, kq, qa, qb, qc⟩ := isOf hZ eT E
  obtain ⟨v, _, ⟨T', L', k', n'⟩, -, X', ⟨L, hQ, l', y', z'⟩, st⟩ := X.virtualBack hx (y := y) (z := z) hown (mvT hZ w1) (mvT hZ w2) nf (mvT hZ w5) (mvT hZ w6) hy (backOf (W := W) hM hZ w4 w3 hf hl) qa qc (g := g) hg hsize (Steps.refl _) (argsL := argsL) (rest := rest) hlen hstack hW hdg (fun _ _ => ⟨has, eT, hc, hs⟩)
  dsimp only [Pt.U, Pt.locs, Pt.cells, Pt.slots] at X' l' y' z' st hQ
  subst l' y' z'
  exact ⟨v, T', L, X', hQ, fun _ k => st.trans k⟩
theorem own_sta_keep {C n d : String} {w : Value} {h h' : Heap} {ws : List Addr} (F : Sta Z h C n d w) (K : Keep h h' ws) (q : ∀ x ∈ ws, ∃ cl : Cell, h[x]? = some cl ∧ cl.vm.isStatics = false) : Sta Z h' C n d w := by
  obtain ⟨cf, i, k, f, st, cell, h1, h2, h3, h4, h5, h6, h7⟩ := F
  refine ⟨cf, i, k, f, st, cell, h1, h2, h3, h4, K.2.1 st cell h5 fun z => ?_, h6, h7⟩
  obtain ⟨cl, q1, q2⟩ := q st z
  cases h5.symm.trans q1
  rw [h6] at q2; cases q2
theorem own_exa_plain {a : Addr} {C : String} {h : Heap} (F : Exa Z h a C) : ∃ cl : Cell, h[a]? = some cl ∧ cl.vm.isStatics = false := by
  obtain ⟨cell, k, h1, -, -, h4, -⟩ := F; exact ⟨cell, h1, h4⟩
theorem own_arv_plain {a : Addr} {k : ClassId} {ty : FieldType} {z : Int32} {vs : List Value} {dv : Value} {h : Heap} (F : Arv Z h a k ty z vs dv) : ∃ cl : Cell, h[a]? = some cl ∧ cl.vm.isStatics = false := by
  obtain ⟨cell, A, -⟩ := F; exact ⟨cell, A.1, A.plain⟩
theorem own_getR {own O n d : String} {index : Nat} {a : Addr} {v : Value} {g : JFrame} {rest : List Value} (X : Stand p l e R s m args below meth c T locs cells slots) (hx : p.tables.exec = Jvm.exec) (hZ : Z.Warmed39 s.vm) (hown : s.vm.findClass own = some m.cls)
    (w : (Jvm.Cond.fieldRef own index O n d).before a0 Z = true) (eT : T.heap = h) (F : Fld Z h a O n d v) (hg : g.method = m) (hs : g.stack = .ref a :: rest) (hd : decode c.code g.pc = .ok (.getfield index, 3)) :
    ∀ target, Steps p.tables e below (T.setTop { g with pc := g.pc + 3, stack := v :: rest }) target → Steps p.tables e below (T.setTop g) target := by
  have hU : Z.Warmed39 T.vm := wtrans hZ X.warmed
  have w2 := Cond.fieldRef_warmed39 hU w
  have hc : (Z.setVm T.vm).vm.findClass own = some m.cls := by
    show T.vm.findClass own = some m.cls
    rw [X.warmed.alike.findClass]; exact hown
  obtain ⟨c1, k1, i1, f1, hf1, hr⟩ := Cond.fieldRef_spec hc w2
  obtain ⟨cell, cf, k, i, f, h1, h2, h3, h4, -, -, h7⟩ := F
  obtain ⟨k', hi, -⟩ := State.fieldFound?_setVm (s := Z) hU.alike h2
  cases hi.symm.trans hf1
  intro t kk
  exact (X.getfieldR hx hg hr h3 hs (by rw [eT]; exact h1) h4 h7 hd (Steps.refl _)).trans kk
theorem own_callP {own C : String} {index : Nat} {y : MethodName} {bytes : ByteArray} {maxL : Nat} {ret : Option FieldType} {rm : Room} {as' : Array Value} {Q : Option Value → Heap → List Loc → Prop} {W : Nat} {g : JFrame} {a : Addr} {argsL rest : List Value}
    (X : Stand p l e R s m args below meth c T locs cells slots) (hx : p.tables.exec = Jvm.exec) (hZ : Z.Warmed39 s.vm) (eT : T.heap = h) (hown : s.vm.findClass own = some m.cls)
    (w1 : (Jvm.Cond.methodLink own index y).before a0 Z = true) (w2 : (Jvm.Cond.instanceMethod y).before a0 Z = true) (w5 : (Jvm.Cond.selects y.cls y y).before a0 Z = true) (w6 : (Jvm.Cond.privateMethod y).before a0 Z = true) (w3 : (Jvm.Cond.initialized y.cls).before a0 Z = true) (w4 : (Jvm.Cond.code y bytes maxL ret).before a0 Z = true)
    (hy : y.cls ≠ "java/lang/invoke/MethodHandle" ∧ y.cls ≠ "java/lang/invoke/VarHandle") (E : Exa Z h a C)
    (hM : Con l Z y bytes maxL ret [] rm as' h rm.cells rm.slots Q)
    (hf : rm.frames + 1 ≤ R.frames) (hl : W + (maxL + 11) + rm.locals ≤ R.locals) (hc : cells + rm.cells ≤ R.cells) (hs : slots + rm.slots ≤ R.slots)
    (hg : g.method = m) (hsize : g.locals.size = c.maxLocals) (has : (Value.ref a :: argsL).toArray = as') (hlen : ∀ sig, parseMethodDescriptor y.desc = some sig → argsL.length = sig.parameters.length)
    (hstack : g.stack = argsL.reverse ++ .ref a :: rest) (hW : 2 * g.monitorRoom + (rest.map fun v => v.category).sum ≤ W) (hdg : decode c.code g.pc = .ok (.invokevirtual index, 3)) :
    ∃ v T' L, Stand p l e R s m args below meth c T' (locs ++ L) (cells + rm.cells) (slots + rm.slots) ∧ Q v T'.heap L ∧ ∀ target, Steps p.tables e below (T'.setTop { g with pc := g.pc + 3, stack := v.toList ++ rest }) target → Steps p.tables e below (T.setTop g) target := by
  obtain ⟨cq, q1, q2⟩ := E.cell
  obtain ⟨v, _, ⟨T', L', k', n'⟩, -, X', ⟨L, hQ, l', y', z'⟩, st⟩ := X.privateBack hx (y := y) hown (mvT hZ w1) (mvT hZ w2) (mvT hZ w5) (Cond.privateMethod_at (mvP hZ w6 (args := #[]))) (mvT hZ w4) hy (backOf (W := W) hM hZ w4 w3 hf hl) (g := g) hg hsize (Steps.refl _) (a := a) (by rw [eT]; exact q1) q2 (argsL := argsL) (rest := rest) hlen hstack hW hdg (fun _ _ => ⟨has, eT, hc, hs⟩)
  dsimp only [Pt.U, Pt.locs, Pt.cells, Pt.slots] at X' l' y' z' st hQ
  subst l' y' z'
  exact ⟨v, T', L, X', hQ, fun _ k => st.trans k⟩
theorem own_callF {own C : String} {index count : Nat} {xi y : MethodName} {bytes : ByteArray} {maxL : Nat} {ret : Option FieldType} {rm : Room} {as' : Array Value} {Q : Option Value → Heap → List Loc → Prop} {W : Nat} {g : JFrame} {a : Addr} {argsL rest : List Value}
    (X : Stand p l e R s m args below meth c T locs cells slots) (hx : p.tables.exec = Jvm.exec) (hZ : Z.Warmed39 s.vm) (eT : T.heap = h) (hown : s.vm.findClass own = some m.cls)
    (w1 : (Jvm.Cond.methodLink own index xi).before a0 Z = true) (w2 : (Jvm.Cond.declares xi).before a0 Z = true) (w7 : (Jvm.Cond.interfaceMethod xi.cls xi.cls xi.name xi.desc).before args s = true) (w5 : (Jvm.Cond.selects C xi y).before a0 Z = true) (w6 : (Jvm.Cond.instanceMethod y).before a0 Z = true)
    (w8 : (Jvm.Cond.publicMethod y).before a0 Z = true) (w9 : (Jvm.Cond.unhidden C xi.name xi.desc).before a0 Z = true) (w10 : (Jvm.Cond.castable C xi.cls).before a0 Z = true) (w3 : (Jvm.Cond.initialized y.cls).before a0 Z = true) (w4 : (Jvm.Cond.code y bytes maxL ret).before a0 Z = true)
    (hy : xi.cls ≠ "java/lang/invoke/MethodHandle" ∧ xi.cls ≠ "java/lang/invoke/VarHandle") (E : Exa Z h a C)
    (hM : Con l Z y bytes maxL ret [] rm as' h rm.cells rm.slots Q)
    (hf : rm.frames + 1 ≤ R.frames) (hl : W + (maxL + 11) + rm.locals ≤ R.locals) (hc : cells + rm.cells ≤ R.cells) (hs : slots + rm.slots ≤ R.slots)
    (hg : g.method = m) (hsize : g.locals.size = c.maxLocals) (has : (Value.ref a :: argsL).toArray = as') (hlen : ∀ sig, parseMethodDescriptor xi.desc = some sig → argsL.length = sig.parameters.length)
    (hstack : g.stack = argsL.reverse ++ .ref a :: rest) (hW : 2 * g.monitorRoom + (rest.map fun v => v.category).sum ≤ W) (hdg : decode c.code g.pc = .ok (.invokeinterface index count, 5)) :
    ∃ v T' L, Stand p l e R s m args below meth c T' (locs ++ L) (cells + rm.cells) (slots + rm.slots) ∧ Q v T'.heap L ∧ ∀ target, Steps p.tables e below (T'.setTop { g with pc := g.pc + 5, stack := v.toList ++ rest }) target → Steps p.tables e below (T.setTop g) target := by
  obtain ⟨cq, kq, qa, qb, qc⟩ := isOf hZ eT E
  obtain ⟨v, _, ⟨T', L', k', n'⟩, -, X', ⟨L, hQ, l', y', z'⟩, st⟩ := X.interfaceBack hx (xi := xi) (y := y) hown (mvT hZ w1) (mvT hZ w2) w7 (mvT hZ w5) (mvT hZ w6) (mvT hZ w8) (mvT hZ w9) (mvT hZ w10) hy (backOf (W := W) hM hZ w4 w3 hf hl) qa qb qc (g := g) hg hsize (Steps.refl _) (argsL := argsL) (rest := rest) hlen hstack hW hdg (fun _ _ => ⟨has, eT, hc, hs⟩)
  dsimp only [Pt.U, Pt.locs, Pt.cells, Pt.slots] at X' l' y' z' st hQ
  subst l' y' z'
  exact ⟨v, T', L, X', hQ, fun _ k => st.trans k⟩
theorem own_ns_root {O K : String} {n : Nat} (w : (Jvm.Cond.noSuperclass O).before a0 Z = true) (wk : (Jvm.Cond.instantiable K n).before a0 Z = true) (hn : O ≠ K) : NS Z O K := by
  obtain ⟨c, k, h1, h2, h3, -, -⟩ := Cond.noSuperclass_spec w
  obtain ⟨t, kt, g1, -⟩ := Cond.instantiable_spec wk
  have ne := ids_ne h1 g1 hn
  refine ⟨c, t, h1, g1, fun fuel => ?_⟩
  cases fuel with
  | zero => rfl
  | succ f => simp [Vm.isSubclassAux, ne, h2, h3]
theorem own_ns_no {C S K : String} {n : Nat} (w : (Jvm.Cond.superclass C S).before a0 Z = true) (wk : (Jvm.Cond.instantiable K n).before a0 Z = true) (hN : NS Z C K) (hn : C ≠ K) : ∃ c t, Z.vm.findClass C = some c ∧ Z.vm.findClass K = some t ∧ Z.vm.assignable c t = false := by
  obtain ⟨c, t, h0, g0, n3⟩ := hN
  obtain ⟨p, k, kp, h1, h2, h3, h4, h5, -, h7⟩ := Cond.superclass_spec h0 w
  obtain ⟨t', kt, g1, g2, g3, g4, -⟩ := Cond.instantiable_spec wk
  cases g0.symm.trans g1
  have g7 : kt.isInterface = false := by
    cases hq : kt.isInterface
    · rfl
    · simp [hq] at g4
  have ne := ids_ne h0 g0 hn
  refine ⟨c, t, h0, g0, ?_⟩
  show Z.vm.assignableAux (255 + 1) c t = false
  simp [Vm.assignableAux, ne, h2, g2, h5, g3, g7, Vm.isSubclass, n3]
end OwnKit
section OwnStart
variable {args : Array Value} {Z : State}
theorem own_eq_int {t : Term} {k : Int32} (h : (Jvm.Cond.eq t (.int k)).value args Z none Z [] = some true) : t.eval args Z none [] Z = some (.int k) := by
  obtain ⟨a, b, h1, h2, h3, h4⟩ := cmp_v (Or.inl h)
  have hb : b = .int k := Option.some.inj (h2.symm.trans (Term.int_eval k))
  subst hb
  obtain ⟨z, rfl⟩ : ∃ z, a = .int z := h4
  have q : z = k := by simpa [Cond.value, h1, h2] using h
  rw [h1, q]
theorem own_eq_ref {t u : Term} {a : Addr} (h : (Jvm.Cond.eq t u).value args Z none Z [] = some true) (hu : u.eval args Z none [] Z = some (.ref a)) : t.eval args Z none [] Z = some (.ref a) := by
  obtain ⟨x, y, h1, h2, h3, h4⟩ := cmp_v (Or.inl h)
  have hb : y = .ref a := Option.some.inj (h2.symm.trans hu)
  subst hb
  obtain ⟨-, q⟩ : Value.isRef (.ref a) = true ∧ x.isRef = true := h4
  have e := eq_R (a := t) (b := u) h1 h2 q rfl
  rw [e] at h
  have r : x = .ref a := by simpa using h
  rw [h1, r]
theorem own_ne0 {t : Term} {z : Int32} (ht : t.eval args Z none [] Z = some (.int z)) (h : (Jvm.Cond.not (Jvm.Cond.eq t (.int 0))).value args Z none Z [] = some true) : z ≠ 0 := by
  have q := not_v h
  intro e
  subst e
  simp [Cond.value, ht, Term.eval] at q
theorem own_fld {t : Term} {C n d : String} {a : Addr} {v : Value} (ht : t.eval args Z none [] Z = some (.ref a)) (h : (Term.field t C n d).eval args Z none [] Z = some v) : Fld Z Z.heap a C n d v := Fld.start ((fld_at ht).symm.trans h)
theorem own_len {t : Term} {a : Addr} {c : Cell} {k : Int32} {ty : FieldType} (ht : t.eval args Z none [] Z = some (.ref a)) (A : Arr Z Z.heap a c ty) (h : (Term.length t).eval args Z none [] Z = some (.int k)) : c.slots.size < 2 ^ 31 ∧ c.slots.size.toInt32 = k := by
  have q : Z.arrayAt? a = some c := A.fin (Vm.Alike.refl _)
  by_cases hl : c.slots.size < 2 ^ 31
  · have e := (len_f (t := t) ht q hl).symm.trans h
    exact ⟨hl, by simpa using e⟩
  · exfalso
    have hl' : ¬ c.slots.size < 2147483648 := hl
    simp [Term.eval, ht, q, hl'] at h
theorem own_slot {t : Term} {a : Addr} {c : Cell} {ty : FieldType} {v : Value} {j : Int32} (ht : t.eval args Z none [] Z = some (.ref a)) (A : Arr Z Z.heap a c ty) (h : (Term.elem t (.int j)).eval args Z none [] Z = some v) : c.slots[j.toNatClampNeg]? = some v := (elem_in h ht (Term.int_eval j) A.1).2
end OwnStart
theorem dmethod_2_code_0 : decode method_2_code 0 = .ok (.iload_n 0, 1) := by decide +kernel
theorem dmethod_2_code_1 : decode method_2_code 1 = .ok (.ifCond .ne 6, 3) := by decide +kernel
theorem dmethod_2_code_4 : decode method_2_code 4 = .ok (.bipush 43, 2) := by decide +kernel
theorem dmethod_2_code_6 : decode method_2_code 6 = .ok (.ireturn, 1) := by decide +kernel
theorem dmethod_2_code_7 : decode method_2_code 7 = .ok (.iload_n 0, 1) := by decide +kernel
theorem dmethod_2_code_8 : decode method_2_code 8 = .ok (.iconst 1, 1) := by decide +kernel
theorem dmethod_2_code_9 : decode method_2_code 9 = .ok (.if_icmp .ne 6, 3) := by decide +kernel
theorem dmethod_2_code_12 : decode method_2_code 12 = .ok (.bipush 45, 2) := by decide +kernel
theorem dmethod_2_code_14 : decode method_2_code 14 = .ok (.ireturn, 1) := by decide +kernel
theorem dmethod_2_code_15 : decode method_2_code 15 = .ok (.iload_n 0, 1) := by decide +kernel
theorem dmethod_2_code_16 : decode method_2_code 16 = .ok (.iconst 2, 1) := by decide +kernel
theorem dmethod_2_code_17 : decode method_2_code 17 = .ok (.if_icmp .ne 6, 3) := by decide +kernel
theorem dmethod_2_code_20 : decode method_2_code 20 = .ok (.bipush 42, 2) := by decide +kernel
theorem dmethod_2_code_22 : decode method_2_code 22 = .ok (.ireturn, 1) := by decide +kernel
theorem dmethod_2_code_23 : decode method_2_code 23 = .ok (.bipush 47, 2) := by decide +kernel
theorem dmethod_2_code_25 : decode method_2_code 25 = .ok (.ireturn, 1) := by decide +kernel
theorem dmethod_3_code_0 : decode method_3_code 0 = .ok (.iload_n 0, 1) := by decide +kernel
theorem dmethod_3_code_1 : decode method_3_code 1 = .ok (.bipush 43, 2) := by decide +kernel
theorem dmethod_3_code_3 : decode method_3_code 3 = .ok (.if_icmp .ne 7, 3) := by decide +kernel
theorem dmethod_3_code_6 : decode method_3_code 6 = .ok (.getstatic 7, 3) := by decide +kernel
theorem dmethod_3_code_9 : decode method_3_code 9 = .ok (.areturn, 1) := by decide +kernel
theorem dmethod_3_code_10 : decode method_3_code 10 = .ok (.iload_n 0, 1) := by decide +kernel
theorem dmethod_3_code_11 : decode method_3_code 11 = .ok (.bipush 45, 2) := by decide +kernel
theorem dmethod_3_code_13 : decode method_3_code 13 = .ok (.if_icmp .ne 7, 3) := by decide +kernel
theorem dmethod_3_code_16 : decode method_3_code 16 = .ok (.getstatic 13, 3) := by decide +kernel
theorem dmethod_3_code_19 : decode method_3_code 19 = .ok (.areturn, 1) := by decide +kernel
theorem dmethod_3_code_20 : decode method_3_code 20 = .ok (.iload_n 0, 1) := by decide +kernel
theorem dmethod_3_code_21 : decode method_3_code 21 = .ok (.bipush 42, 2) := by decide +kernel
theorem dmethod_3_code_23 : decode method_3_code 23 = .ok (.if_icmp .ne 7, 3) := by decide +kernel
theorem dmethod_3_code_26 : decode method_3_code 26 = .ok (.getstatic 16, 3) := by decide +kernel
theorem dmethod_3_code_29 : decode method_3_code 29 = .ok (.areturn, 1) := by decide +kernel
theorem dmethod_3_code_30 : decode method_3_code 30 = .ok (.iload_n 0, 1) := by decide +kernel
theorem dmethod_3_code_31 : decode method_3_code 31 = .ok (.bipush 47, 2) := by decide +kernel
theorem dmethod_3_code_33 : decode method_3_code 33 = .ok (.if_icmp .ne 7, 3) := by decide +kernel
theorem dmethod_3_code_36 : decode method_3_code 36 = .ok (.getstatic 19, 3) := by decide +kernel
theorem dmethod_3_code_39 : decode method_3_code 39 = .ok (.areturn, 1) := by decide +kernel
theorem dmethod_3_code_40 : decode method_3_code 40 = .ok (.aconst_null, 1) := by decide +kernel
theorem dmethod_3_code_41 : decode method_3_code 41 = .ok (.areturn, 1) := by decide +kernel
theorem dprog_43_method_1_code_0 : decode prog_43_method_1_code 0 = .ok (.getstatic 16, 3) := by decide +kernel
theorem dprog_43_method_1_code_3 : decode prog_43_method_1_code 3 = .ok (.invokevirtual 20, 3) := by decide +kernel
theorem dprog_43_method_1_code_6 : decode prog_43_method_1_code 6 = .ok (.checkcast 21, 3) := by decide +kernel
theorem dprog_43_method_1_code_9 : decode prog_43_method_1_code 9 = .ok (.areturn, 1) := by decide +kernel
theorem dprog_43_method_6_code_0 : decode prog_43_method_6_code 0 = .ok (.invokestatic 43, 3) := by decide +kernel
theorem dprog_43_method_6_code_3 : decode prog_43_method_6_code 3 = .ok (.astore_n 1, 1) := by decide +kernel
theorem dprog_43_method_6_code_4 : decode prog_43_method_6_code 4 = .ok (.aload_n 1, 1) := by decide +kernel
theorem dprog_43_method_6_code_5 : decode prog_43_method_6_code 5 = .ok (.arraylength, 1) := by decide +kernel
theorem dprog_43_method_6_code_6 : decode prog_43_method_6_code 6 = .ok (.istore_n 2, 1) := by decide +kernel
theorem dprog_43_method_6_code_7 : decode prog_43_method_6_code 7 = .ok (.iconst 0, 1) := by decide +kernel
theorem dprog_43_method_6_code_8 : decode prog_43_method_6_code 8 = .ok (.istore_n 3, 1) := by decide +kernel
theorem dprog_43_method_6_code_9 : decode prog_43_method_6_code 9 = .ok (.iload_n 3, 1) := by decide +kernel
theorem dprog_43_method_6_code_10 : decode prog_43_method_6_code 10 = .ok (.iload_n 2, 1) := by decide +kernel
theorem dprog_43_method_6_code_11 : decode prog_43_method_6_code 11 = .ok (.if_icmp .ge 26, 3) := by decide +kernel
theorem dprog_43_method_6_code_14 : decode prog_43_method_6_code 14 = .ok (.aload_n 1, 1) := by decide +kernel
theorem dprog_43_method_6_code_15 : decode prog_43_method_6_code 15 = .ok (.iload_n 3, 1) := by decide +kernel
theorem dprog_43_method_6_code_16 : decode prog_43_method_6_code 16 = .ok (.aaload, 1) := by decide +kernel
theorem dprog_43_method_6_code_17 : decode prog_43_method_6_code 17 = .ok (.astore 4, 2) := by decide +kernel
theorem dprog_43_method_6_code_19 : decode prog_43_method_6_code 19 = .ok (.aload 4, 2) := by decide +kernel
theorem dprog_43_method_6_code_21 : decode prog_43_method_6_code 21 = .ok (.getfield 35, 3) := by decide +kernel
theorem dprog_43_method_6_code_24 : decode prog_43_method_6_code 24 = .ok (.iload_n 0, 1) := by decide +kernel
theorem dprog_43_method_6_code_25 : decode prog_43_method_6_code 25 = .ok (.if_icmp .ne 6, 3) := by decide +kernel
theorem dprog_43_method_6_code_28 : decode prog_43_method_6_code 28 = .ok (.aload 4, 2) := by decide +kernel
theorem dprog_43_method_6_code_30 : decode prog_43_method_6_code 30 = .ok (.areturn, 1) := by decide +kernel
theorem dprog_43_method_6_code_31 : decode prog_43_method_6_code 31 = .ok (.iinc 3 1, 3) := by decide +kernel
theorem dprog_43_method_6_code_34 : decode prog_43_method_6_code 34 = .ok (.goto (-25), 3) := by decide +kernel
theorem dprog_43_method_6_code_37 : decode prog_43_method_6_code 37 = .ok (.aconst_null, 1) := by decide +kernel
theorem dprog_43_method_6_code_38 : decode prog_43_method_6_code 38 = .ok (.areturn, 1) := by decide +kernel
theorem pn_0 : plainName "com/example/signbound/signbound/expr/OperatorBySymbolPinLaw" = true := by first | (simp [plainName, overriddenIn]; done) | decide +kernel
theorem pn_1 : plainName "com/example/signbound/signbound/expr/Operator" = true := by first | (simp [plainName, overriddenIn]; done) | decide +kernel
theorem pd_0 : parseMethodDescriptor "(I)C" = some ⟨[.int], some .char⟩ := by decide +kernel
theorem pd_1 : parseMethodDescriptor "()[Lcom/example/signbound/signbound/expr/Operator;" = some ⟨[], some (.array (.object "com/example/signbound/signbound/expr/Operator"))⟩ := by decide +kernel
theorem pd_2 : parseMethodDescriptor "(C)Lcom/example/signbound/signbound/expr/Operator;" = some ⟨[.char], some (.object "com/example/signbound/signbound/expr/Operator")⟩ := by decide +kernel
theorem ef_1 (m : MethodId) (p0 : Int32) : entryFrame m #[(.int p0)] 1 = mkF m 0 #[.val (.int p0)] [] := by first | (simp [entryFrame, mkF, argsToLocals, Value.category, maxLocals]; done) | rfl
def Q1 (Z : State) (p0 : Int32) (h0 : Heap) (n0 : Nat) (v : Option Value) (h : Heap) (L : List Loc) : Prop := (∃ (rv1 : Int32), (((p0 = (0 : Int32)) ∧ (rv1 = (43 : Int32))) ∨ ((¬ (p0 = (0 : Int32))) ∧ (p0 = (1 : Int32)) ∧ (rv1 = (45 : Int32))) ∨ ((¬ (p0 = (0 : Int32))) ∧ (¬ (p0 = (1 : Int32))) ∧ (p0 = (2 : Int32)) ∧ (rv1 = (42 : Int32))) ∨ ((¬ (p0 = (0 : Int32))) ∧ (¬ (p0 = (1 : Int32))) ∧ (¬ (p0 = (2 : Int32))) ∧ (rv1 = (47 : Int32)))) ∧ v = some (.int rv1) ∧ Fr n0 L ∧ h = h0)
set_option maxRecDepth 65536 in
set_option maxHeartbeats 40000000 in
theorem rm1 (l : Launch) (Z : State) (a0 : Array Value) (hw : ∀ d ∈ tables_1, d.before a0 Z = true) (ws : List Jvm.Cond) (p0 : Int32) (h0 : Heap) (n0 : Nat) (Z0 : n0 ≤ h0.size)  :
    Con l Z (⟨"com/example/signbound/signbound/expr/OperatorBySymbolPinLaw", "drawSymbol", "(I)C"⟩ : MethodName) method_2_code 1 (some .char) ws ({ frames := 0, cells := 0, slots := 0, locals := 0 } : Room) #[(.int p0)] h0 0 0 (Q1 Z p0 h0 n0) := by
  refine MetFree.of_bodySF (plainFor_of_name pn_0) hisR ?_
  intro p e s m args below meth c s₁ Bd hml0 hP hK
  obtain ⟨rfl, hZ, hh⟩ := hP
  have hx := Bd.exec
  have hby := Bd.bytes
  have hml : c.maxLocals = 1 := hml0
  have hown : s.vm.findClass "com/example/signbound/signbound/expr/OperatorBySymbolPinLaw" = some m.cls := findClass_of_methodNamed Bd.named
  have hnm := (name_of_methodNamed Bd.named Bd.method).1
  have X0 : Stand p l e ({ frames := 0, cells := 0, slots := 0, locals := 0 } : Room) s m #[(.int p0)] below meth c s₁ [] 0 0 := Stand.of_body Bd
  have e0 : s₁.heap = h0 := by rw [← hh, Bd.state]; rfl
  have N0 := Fr.nil n0
  refine Go.of ?_
  refine Go.st (S' := s₁.setTop (mkF m 0 #[.val (.int p0)] [])) (fun t k => castTop (ef_1 m p0) k) ?_
  refine Go.st (S' := s₁.setTop (mkF m 1 #[.val (.int p0)] [(.int p0)])) (fun t k => XS.iloadN X0.here hx rfl (hb hby dmethod_2_code_0) rfl k) ?_
  by_cases hc4 : (p0 = (0 : Int32))
  · refine Go.st (S' := s₁.setTop (mkF m 4 #[.val (.int p0)] [])) (fun t k => XS.ifNo X0.here hx rfl (hb hby dmethod_2_code_1) rfl ((if0 _ _).trans (teq hc4).2) k) ?_
    refine Go.st (S' := s₁.setTop (mkF m 6 #[.val (.int p0)] [(.int (43 : Int32))])) (fun t k => XS.bipush X0.here hx rfl (hb hby dmethod_2_code_4) k) ?_
    exact Go.ret X0 (v := some (.int (43 : Int32))) (fun h => by rw [Bd.returns] at h; cases h) Bd.notSynchronized (fun fs hr => retN X0 hx (t := .char) Bd.returns (by simp) (hb hby dmethod_2_code_6) hr) (by decide) (by decide) (⟨(43 : Int32), (Or.inl ⟨hc4, rfl⟩), rfl, N0, (e0)⟩)
  · refine Go.st (S' := s₁.setTop (mkF m 7 #[.val (.int p0)] [])) (fun t k => XS.ifYes X0.here hx rfl (pc0 := 1) (pc' := 7) rfl (hb hby dmethod_2_code_1) rfl ((if0 _ _).trans (feq hc4).2) (by decide) (by decide) k) ?_
    refine Go.st (S' := s₁.setTop (mkF m 8 #[.val (.int p0)] [(.int p0)])) (fun t k => XS.iloadN X0.here hx rfl (hb hby dmethod_2_code_7) rfl k) ?_
    refine Go.st (S' := s₁.setTop (mkF m 9 #[.val (.int p0)] [(.int (1 : Int32)), (.int p0)])) (fun t k => XS.iconst X0.here hx rfl (hb hby dmethod_2_code_8) k) ?_
    by_cases hc5 : (p0 = (1 : Int32))
    · refine Go.st (S' := s₁.setTop (mkF m 12 #[.val (.int p0)] [])) (fun t k => XS.icmpNo X0.here hx rfl (hb hby dmethod_2_code_9) rfl (teq hc5).2 k) ?_
      refine Go.st (S' := s₁.setTop (mkF m 14 #[.val (.int p0)] [(.int (45 : Int32))])) (fun t k => XS.bipush X0.here hx rfl (hb hby dmethod_2_code_12) k) ?_
      exact Go.ret X0 (v := some (.int (45 : Int32))) (fun h => by rw [Bd.returns] at h; cases h) Bd.notSynchronized (fun fs hr => retN X0 hx (t := .char) Bd.returns (by simp) (hb hby dmethod_2_code_14) hr) (by decide) (by decide) (⟨(45 : Int32), (Or.inr (Or.inl ⟨hc4, hc5, rfl⟩)), rfl, N0, (e0)⟩)
    · refine Go.st (S' := s₁.setTop (mkF m 15 #[.val (.int p0)] [])) (fun t k => XS.icmpYes X0.here hx rfl (pc0 := 9) (pc' := 15) rfl (hb hby dmethod_2_code_9) rfl (feq hc5).2 (by decide) (by decide) k) ?_
      refine Go.st (S' := s₁.setTop (mkF m 16 #[.val (.int p0)] [(.int p0)])) (fun t k => XS.iloadN X0.here hx rfl (hb hby dmethod_2_code_15) rfl k) ?_
      refine Go.st (S' := s₁.setTop (mkF m 17 #[.val (.int p0)] [(.int (2 : Int32)), (.int p0)])) (fun t k => XS.iconst X0.here hx rfl (hb hby dmethod_2_code_16) k) ?_
      by_cases hc6 : (p0 = (2 : Int32))
      · refine Go.st (S' := s₁.setTop (mkF m 20 #[.val (.int p0)] [])) (fun t k => XS.icmpNo X0.here hx rfl (hb hby dmethod_2_code_17) rfl (teq hc6).2 k) ?_
        refine Go.st (S' := s₁.setTop (mkF m 22 #[.val (.int p0)] [(.int (42 : Int32))])) (fun t k => XS.bipush X0.here hx rfl (hb hby dmethod_2_code_20) k) ?_
        exact Go.ret X0 (v := some (.int (42 : Int32))) (fun h => by rw [Bd.returns] at h; cases h) Bd.notSynchronized (fun fs hr => retN X0 hx (t := .char) Bd.returns (by simp) (hb hby dmethod_2_code_22) hr) (by decide) (by decide) (⟨(42 : Int32), (Or.inr (Or.inr (Or.inl ⟨hc4, hc5, hc6, rfl⟩))), rfl, N0, (e0)⟩)
      · refine Go.st (S' := s₁.setTop (mkF m 23 #[.val (.int p0)] [])) (fun t k => XS.icmpYes X0.here hx rfl (pc0 := 17) (pc' := 23) rfl (hb hby dmethod_2_code_17) rfl (feq hc6).2 (by decide) (by decide) k) ?_
        refine Go.st (S' := s₁.setTop (mkF m 25 #[.val (.int p0)] [(.int (47 : Int32))])) (fun t k => XS.bipush X0.here hx rfl (hb hby dmethod_2_code_23) k) ?_
        exact Go.ret X0 (v := some (.int (47 : Int32))) (fun h => by rw [Bd.returns] at h; cases h) Bd.notSynchronized (fun fs hr => retN X0 hx (t := .char) Bd.returns (by simp) (hb hby dmethod_2_code_25) hr) (by decide) (by decide) (⟨(47 : Int32), (Or.inr (Or.inr (Or.inr ⟨hc4, hc5, hc6, rfl⟩))), rfl, N0, (e0)⟩)
theorem ef_2 (m : MethodId)  : entryFrame m #[] 0 = mkF m 0 #[] [] := by first | (simp [entryFrame, mkF, argsToLocals, Value.category, maxLocals]; done) | rfl
def Q2 (Z : State) (s_Operator__VALUES : Addr) (k_s_Operator__VALUES : ClassId) (s_Operator_ADD : Addr) (s_Operator_SUBTRACT : Addr) (s_Operator_MULTIPLY : Addr) (s_Operator_DIVIDE : Addr) (h0 : Heap) (n0 : Nat) (v : Option Value) (h : Heap) (L : List Loc) : Prop := (∃ (b18 : Addr), v = some (.ref b18) ∧ Fr n0 L ∧ Keep h0 h [] ∧ h0.size ≤ b18 ∧ Arv Z h b18 k_s_Operator__VALUES (.object "com/example/signbound/signbound/expr/Operator") (4 : Int32) [(.ref s_Operator_ADD), (.ref s_Operator_SUBTRACT), (.ref s_Operator_MULTIPLY), (.ref s_Operator_DIVIDE)] .null ∧ Exa Z h b18 "[Lcom/example/signbound/signbound/expr/Operator;")
set_option maxRecDepth 65536 in
set_option maxHeartbeats 40000000 in
theorem rm2 (l : Launch) (Z : State) (a0 : Array Value) (hw : ∀ d ∈ tables_1, d.before a0 Z = true) (ws : List Jvm.Cond) (s_Operator__VALUES : Addr) (k_s_Operator__VALUES : ClassId) (s_Operator_ADD : Addr) (s_Operator_SUBTRACT : Addr) (s_Operator_MULTIPLY : Addr) (s_Operator_DIVIDE : Addr) (h0 : Heap) (n0 : Nat) (Z0 : n0 ≤ h0.size) (S_s_Operator__VALUES : Sta Z h0 "com/example/signbound/signbound/expr/Operator" "$VALUES" "[Lcom/example/signbound/signbound/expr/Operator;" (.ref s_Operator__VALUES)) (V_s_Operator__VALUES : Arv Z h0 s_Operator__VALUES k_s_Operator__VALUES (.object "com/example/signbound/signbound/expr/Operator") (4 : Int32) [(.ref s_Operator_ADD), (.ref s_Operator_SUBTRACT), (.ref s_Operator_MULTIPLY), (.ref s_Operator_DIVIDE)] .null) (E_s_Operator__VALUES : Exa Z h0 s_Operator__VALUES "[Lcom/example/signbound/signbound/expr/Operator;") :
    Con l Z (⟨"com/example/signbound/signbound/expr/Operator", "values", "()[Lcom/example/signbound/signbound/expr/Operator;"⟩ : MethodName) prog_43_method_1_code 0 (some (.array (.object "com/example/signbound/signbound/expr/Operator"))) ws ({ frames := 1, cells := 1, slots := 4, locals := 14 } : Room) #[] h0 1 4 (Q2 Z s_Operator__VALUES k_s_Operator__VALUES s_Operator_ADD s_Operator_SUBTRACT s_Operator_MULTIPLY s_Operator_DIVIDE h0 n0) := by
  refine MetFree.of_bodySF (plainFor_of_name pn_1) hisR ?_
  intro p e s m args below meth c s₁ Bd hml0 hP hK
  obtain ⟨rfl, hZ, hh⟩ := hP
  have hx := Bd.exec
  have hby := Bd.bytes
  have hml : c.maxLocals = 0 := hml0
  have hown : s.vm.findClass "com/example/signbound/signbound/expr/Operator" = some m.cls := findClass_of_methodNamed Bd.named
  have hnm := (name_of_methodNamed Bd.named Bd.method).1
  have X0 : Stand p l e ({ frames := 1, cells := 1, slots := 4, locals := 14 } : Room) s m #[] below meth c s₁ [] 0 0 := Stand.of_body Bd
  have e0 : s₁.heap = h0 := by rw [← hh, Bd.state]; rfl
  have N0 := Fr.nil n0
  refine Go.of ?_
  refine Go.st (S' := s₁.setTop (mkF m 0 #[] [])) (fun t k => castTop (ef_2 m ) k) ?_
  obtain ⟨T17, X17, e17, st17⟩ := getS X0 hx hZ hown (hw _ (List.mem_of_getElem? (i := 11) rfl)) Via.refl e0 S_s_Operator__VALUES (host := "") (g := (mkF m 0 #[] [])) rfl (hb hby dprog_43_method_1_code_0)
  refine Go.st (S' := T17.setTop (mkF m 3 #[] [(.ref s_Operator__VALUES)])) st17 ?_
  obtain ⟨T18, h18, X18, e18, E18, A18, B18, st18⟩ := cloneH X17 hx hZ hown (ad := "[Lcom/example/signbound/signbound/expr/Operator;") (hw _ (List.mem_of_getElem? (i := 13) rfl)) (hw _ (List.mem_of_getElem? (i := 14) rfl)) (hw _ (List.mem_of_getElem? (i := 18) rfl)) (hw _ (List.mem_of_getElem? (i := 16) rfl)) (hw _ (List.mem_of_getElem? (i := 17) rfl)) (hw _ (List.mem_of_getElem? (i := 19) rfl)) e17 (Arv.arh V_s_Operator__VALUES) (E_s_Operator__VALUES) (g := (mkF m 3 #[] [(.ref s_Operator__VALUES)])) rfl (by rw [hml]; rfl) rfl (hb hby dprog_43_method_1_code_3) (by decide) (W := 0) (cap := 4) (by show 2 * 0 + _ ≤ _; exact Nat.le_of_eq rfl) (by decide) (by decide) (by decide) (by decide)
  obtain ⟨b18, gg18⟩ : ∃ z, z = h0.size := ⟨_, rfl⟩
  rw [← gg18] at A18 B18 st18
  have g_b18 : n0 ≤ b18 := Nat.le_trans Z0 (Nat.le_of_eq gg18.symm)
  have sz_b18 : h0.size ≤ b18 := Nat.le_trans (Keep.refl h0 []).1 (Nat.le_of_eq gg18.symm)
  have Z19 : n0 ≤ h18.size := Nat.le_trans Z0 E18.1
  have K19 : Keep h0 h18 [] := (Keep.refl h0 []).ext E18
  have V18 : Arv Z h18 b18 k_s_Operator__VALUES (.object "com/example/signbound/signbound/expr/Operator") (4 : Int32) [(.ref s_Operator_ADD), (.ref s_Operator_SUBTRACT), (.ref s_Operator_MULTIPLY), (.ref s_Operator_DIVIDE)] .null := A18
  refine Go.st (S' := T18.setTop (mkF m 6 #[] [(.ref b18)])) st18 ?_
  obtain ⟨T20, X20, e20, st20⟩ := castY X18 hx hZ hown (hw _ (List.mem_of_getElem? (i := 25) rfl)) e18 (Ins.self B18) (g := (mkF m 6 #[] [(.ref b18)])) rfl rfl (hb hby dprog_43_method_1_code_6)
  refine Go.st (S' := T20.setTop (mkF m 9 #[] [(.ref b18)])) st20 ?_
  exact Go.ret X20 (v := some (.ref b18)) (fun h => by rw [Bd.returns] at h; cases h) Bd.notSynchronized (fun fs hr => retOut X20 hx Bd.returns rfl (Or.inr (Or.inr (Or.inr (Or.inr ⟨rfl, rfl, rfl⟩)))) (hb hby dprog_43_method_1_code_9) hr) (by decide) (by decide) (by rw [e20]; exact ⟨b18, rfl, N0, K19, sz_b18, V18, B18⟩)
theorem ef_3 (m : MethodId) (p0 : Int32) : entryFrame m #[(.int p0)] 5 = mkF m 0 #[.val (.int p0), .unset, .unset, .unset, .unset] [] := by first | (simp [entryFrame, mkF, argsToLocals, Value.category, maxLocals]; done) | rfl
def Q3 (Z : State) (p0 : Int32) (s_Operator__VALUES : Addr) (k_s_Operator__VALUES : ClassId) (s_Operator_ADD : Addr) (s_Operator_SUBTRACT : Addr) (s_Operator_MULTIPLY : Addr) (s_Operator_DIVIDE : Addr) (h0 : Heap) (n0 : Nat) (v : Option Value) (h : Heap) (L : List Loc) : Prop := (∃ (b22 : Addr), ((43 : Int32) = p0) ∧ v = some (.ref s_Operator_ADD) ∧ Fr n0 L ∧ Keep h0 h [] ∧ h0.size ≤ b22 ∧ Arv Z h b22 k_s_Operator__VALUES (.object "com/example/signbound/signbound/expr/Operator") (4 : Int32) [(.ref s_Operator_ADD), (.ref s_Operator_SUBTRACT), (.ref s_Operator_MULTIPLY), (.ref s_Operator_DIVIDE)] .null ∧ Exa Z h b22 "[Lcom/example/signbound/signbound/expr/Operator;") ∨ (∃ (b22 : Addr), (¬ ((43 : Int32) = p0)) ∧ ((45 : Int32) = p0) ∧ v = some (.ref s_Operator_SUBTRACT) ∧ Fr n0 L ∧ Keep h0 h [] ∧ h0.size ≤ b22 ∧ Arv Z h b22 k_s_Operator__VALUES (.object "com/example/signbound/signbound/expr/Operator") (4 : Int32) [(.ref s_Operator_ADD), (.ref s_Operator_SUBTRACT), (.ref s_Operator_MULTIPLY), (.ref s_Operator_DIVIDE)] .null ∧ Exa Z h b22 "[Lcom/example/signbound/signbound/expr/Operator;") ∨ (∃ (b22 : Addr), (¬ ((43 : Int32) = p0)) ∧ (¬ ((45 : Int32) = p0)) ∧ ((42 : Int32) = p0) ∧ v = some (.ref s_Operator_MULTIPLY) ∧ Fr n0 L ∧ Keep h0 h [] ∧ h0.size ≤ b22 ∧ Arv Z h b22 k_s_Operator__VALUES (.object "com/example/signbound/signbound/expr/Operator") (4 : Int32) [(.ref s_Operator_ADD), (.ref s_Operator_SUBTRACT), (.ref s_Operator_MULTIPLY), (.ref s_Operator_DIVIDE)] .null ∧ Exa Z h b22 "[Lcom/example/signbound/signbound/expr/Operator;") ∨ (∃ (b22 : Addr), (¬ ((43 : Int32) = p0)) ∧ (¬ ((45 : Int32) = p0)) ∧ (¬ ((42 : Int32) = p0)) ∧ ((47 : Int32) = p0) ∧ v = some (.ref s_Operator_DIVIDE) ∧ Fr n0 L ∧ Keep h0 h [] ∧ h0.size ≤ b22 ∧ Arv Z h b22 k_s_Operator__VALUES (.object "com/example/signbound/signbound/expr/Operator") (4 : Int32) [(.ref s_Operator_ADD), (.ref s_Operator_SUBTRACT), (.ref s_Operator_MULTIPLY), (.ref s_Operator_DIVIDE)] .null ∧ Exa Z h b22 "[Lcom/example/signbound/signbound/expr/Operator;") ∨ (∃ (b22 : Addr), (¬ ((43 : Int32) = p0)) ∧ (¬ ((45 : Int32) = p0)) ∧ (¬ ((42 : Int32) = p0)) ∧ (¬ ((47 : Int32) = p0)) ∧ v = some .null ∧ Fr n0 L ∧ Keep h0 h [] ∧ h0.size ≤ b22 ∧ Arv Z h b22 k_s_Operator__VALUES (.object "com/example/signbound/signbound/expr/Operator") (4 : Int32) [(.ref s_Operator_ADD), (.ref s_Operator_SUBTRACT), (.ref s_Operator_MULTIPLY), (.ref s_Operator_DIVIDE)] .null ∧ Exa Z h b22 "[Lcom/example/signbound/signbound/expr/Operator;")
set_option maxRecDepth 65536 in
set_option maxHeartbeats 40000000 in
theorem rm3 (l : Launch) (Z : State) (a0 : Array Value) (hw : ∀ d ∈ tables_1, d.before a0 Z = true) (ws : List Jvm.Cond) (p0 : Int32) (s_Operator__VALUES : Addr) (k_s_Operator__VALUES : ClassId) (s_Operator_ADD : Addr) (s_Operator_SUBTRACT : Addr) (s_Operator_MULTIPLY : Addr) (s_Operator_DIVIDE : Addr) (h0 : Heap) (n0 : Nat) (Z0 : n0 ≤ h0.size) (S_s_Operator__VALUES : Sta Z h0 "com/example/signbound/signbound/expr/Operator" "$VALUES" "[Lcom/example/signbound/signbound/expr/Operator;" (.ref s_Operator__VALUES)) (V_s_Operator__VALUES : Arv Z h0 s_Operator__VALUES k_s_Operator__VALUES (.object "com/example/signbound/signbound/expr/Operator") (4 : Int32) [(.ref s_Operator_ADD), (.ref s_Operator_SUBTRACT), (.ref s_Operator_MULTIPLY), (.ref s_Operator_DIVIDE)] .null) (E_s_Operator__VALUES : Exa Z h0 s_Operator__VALUES "[Lcom/example/signbound/signbound/expr/Operator;") (F_s_Operator_ADD_symbol : Fld Z h0 s_Operator_ADD "com/example/signbound/signbound/expr/Operator" "symbol" "C" (.int (43 : Int32))) (F_s_Operator_SUBTRACT_symbol : Fld Z h0 s_Operator_SUBTRACT "com/example/signbound/signbound/expr/Operator" "symbol" "C" (.int (45 : Int32))) (F_s_Operator_MULTIPLY_symbol : Fld Z h0 s_Operator_MULTIPLY "com/example/signbound/signbound/expr/Operator" "symbol" "C" (.int (42 : Int32))) (F_s_Operator_DIVIDE_symbol : Fld Z h0 s_Operator_DIVIDE "com/example/signbound/signbound/expr/Operator" "symbol" "C" (.int (47 : Int32))) :
    Con l Z (⟨"com/example/signbound/signbound/expr/Operator", "bySymbol", "(C)Lcom/example/signbound/signbound/expr/Operator;"⟩ : MethodName) prog_43_method_6_code 5 (some (.object "com/example/signbound/signbound/expr/Operator")) ws ({ frames := 2, cells := 1, slots := 4, locals := 25 } : Room) #[(.int p0)] h0 1 4 (Q3 Z p0 s_Operator__VALUES k_s_Operator__VALUES s_Operator_ADD s_Operator_SUBTRACT s_Operator_MULTIPLY s_Operator_DIVIDE h0 n0) := by
  refine MetFree.of_bodySF (plainFor_of_name pn_1) hisR ?_
  intro p e s m args below meth c s₁ Bd hml0 hP hK
  obtain ⟨rfl, hZ, hh⟩ := hP
  have hx := Bd.exec
  have hby := Bd.bytes
  have hml : c.maxLocals = 5 := hml0
  have hown : s.vm.findClass "com/example/signbound/signbound/expr/Operator" = some m.cls := findClass_of_methodNamed Bd.named
  have hnm := (name_of_methodNamed Bd.named Bd.method).1
  have X0 : Stand p l e ({ frames := 2, cells := 1, slots := 4, locals := 25 } : Room) s m #[(.int p0)] below meth c s₁ [] 0 0 := Stand.of_body Bd
  have e0 : s₁.heap = h0 := by rw [← hh, Bd.state]; rfl
  have N0 := Fr.nil n0
  refine Go.of ?_
  refine Go.st (S' := s₁.setTop (mkF m 0 #[.val (.int p0), .unset, .unset, .unset, .unset] [])) (fun t k => castTop (ef_3 m p0) k) ?_
  obtain ⟨r21, T21, L21, X21, hQ21, st21⟩ := own_callS (W := 0) X0 hx hZ e0 hown (y := (⟨"com/example/signbound/signbound/expr/Operator", "values", "()[Lcom/example/signbound/signbound/expr/Operator;"⟩ : MethodName)) (hw _ (List.mem_of_getElem? (i := 8) rfl)) (hw _ (List.mem_of_getElem? (i := 9) rfl)) (hw _ (List.mem_of_getElem? (i := 6) rfl)) (hw _ (List.mem_of_getElem? (i := 10) rfl)) (by decide) (rm2 l Z a0 hw [] s_Operator__VALUES k_s_Operator__VALUES s_Operator_ADD s_Operator_SUBTRACT s_Operator_MULTIPLY s_Operator_DIVIDE h0 n0 Z0 (S_s_Operator__VALUES) (V_s_Operator__VALUES) (E_s_Operator__VALUES)) (by decide) (by decide) (by decide) (by decide) (g := (mkF m 0 #[.val (.int p0), .unset, .unset, .unset, .unset] [])) rfl (by rw [hml]; rfl) (argsL := []) (rest := []) rfl (lenOf pd_1 rfl) rfl (by show 2 * 0 + _ ≤ _; exact Nat.le_of_eq rfl) (hb hby dprog_43_method_6_code_0)
  obtain ⟨b22, rfl, N21, K21_, sz_b22_, f23, f24⟩ := hQ21
  have N21_ := Fr.app N0 N21
  have g_b22 : n0 ≤ b22 := Nat.le_trans Z0 sz_b22_
  have sz_b22 : h0.size ≤ b22 := Nat.le_trans (Keep.refl h0 []).1 sz_b22_
  have Z25 : n0 ≤ T21.heap.size := Nat.le_trans Z0 K21_.1
  have K25 : Keep h0 T21.heap [] := (Keep.refl h0 []).trans K21_ all0
  refine Go.st (S' := T21.setTop (mkF m 3 #[.val (.int p0), .unset, .unset, .unset, .unset] [(.ref b22)])) st21 ?_
  refine Go.st (S' := T21.setTop (mkF m 4 #[.val (.int p0), .val (.ref b22), .unset, .unset, .unset] [])) (fun t k => XS.astoreN X21.here hx rfl (hb hby dprog_43_method_6_code_3) rfl rfl (l' := #[.val (.int p0), .val (.ref b22), .unset, .unset, .unset]) rfl k) ?_
  refine Go.st (S' := T21.setTop (mkF m 5 #[.val (.int p0), .val (.ref b22), .unset, .unset, .unset] [(.ref b22)])) (fun t k => XS.aloadN X21.here hx rfl (hb hby dprog_43_method_6_code_4) rfl rfl k) ?_
  obtain ⟨cl26, Ar26, -, S26, N26_, -, -⟩ := id f23
  refine Go.op (F := fun z => T21.setTop (mkF m 6 #[.val (.int p0), .val (.ref b22), .unset, .unset, .unset] [(.int z)])) (x := cl26.slots.size.toInt32) (fun t k => X21.arraylength hx (own_eh rfl Ar26.1) (State.isArrayOf_alike hZ.alike Ar26.2.1) (g := (mkF m 5 #[.val (.int p0), .val (.ref b22), .unset, .unset, .unset] [(.ref b22)])) rfl rfl (hb hby dprog_43_method_6_code_5) t k) ?_
  intro v27 hv27
  obtain rfl : (4 : Int32) = v27 := (hv27.trans (len_of S26 N26_)).symm
  let A28 : Array Slot := #[.val (.int p0), .val (.ref b22), .val (.int (4 : Int32)), .unset, .unset]
  refine Go.st (S' := T21.setTop (mkF m 7 A28 [])) (fun t k => XS.istoreN X21.here hx rfl (hb hby dprog_43_method_6_code_6) rfl (l' := A28) rfl k) ?_
  refine Go.st (S' := T21.setTop (mkF m 8 A28 [(.int (0 : Int32))])) (fun t k => XS.iconst X21.here hx rfl (hb hby dprog_43_method_6_code_7) k) ?_
  let A29 : Array Slot := #[.val (.int p0), .val (.ref b22), .val (.int (4 : Int32)), .val (.int (0 : Int32)), .unset]
  refine Go.st (S' := T21.setTop (mkF m 9 A29 [])) (fun t k => XS.istoreN X21.here hx rfl (hb hby dprog_43_method_6_code_8) rfl (l' := A29) rfl k) ?_
  refine Go.st (S' := T21.setTop (mkF m 10 A29 [(.int (0 : Int32))])) (fun t k => XS.iloadN X21.here hx rfl (hb hby dprog_43_method_6_code_9) rfl k) ?_
  refine Go.st (S' := T21.setTop (mkF m 11 A29 [(.int (4 : Int32)), (.int (0 : Int32))])) (fun t k => XS.iloadN X21.here hx rfl (hb hby dprog_43_method_6_code_10) rfl k) ?_
  refine Go.st (S' := T21.setTop (mkF m 14 A29 [])) (fun t k => XS.icmpNo X21.here hx rfl (hb hby dprog_43_method_6_code_11) rfl (tlt (by decide : ((0 : Int32) < (4 : Int32)))).2.1 k) ?_
  refine Go.st (S' := T21.setTop (mkF m 15 A29 [(.ref b22)])) (fun t k => XS.aloadN X21.here hx rfl (hb hby dprog_43_method_6_code_14) rfl rfl k) ?_
  refine Go.st (S' := T21.setTop (mkF m 16 A29 [(.int (0 : Int32)), (.ref b22)])) (fun t k => XS.iloadN X21.here hx rfl (hb hby dprog_43_method_6_code_15) rfl k) ?_
  obtain ⟨cl30, Ar30, -, S30, N30_, H30, -⟩ := id f23
  have hin30 : ¬ ((0 : Int32) < 0 ∨ cl30.slots.size ≤ ((0 : Int32)).toNatClampNeg) := inb_of S30 ⟨by decide, by decide⟩
  have hat30 : cl30.slots[((0 : Int32)).toNatClampNeg]? = some (.ref s_Operator_ADD) := Has.at H30 hin30 rfl
  refine Go.st (S' := T21.setTop (mkF m 17 A29 [(.ref s_Operator_ADD)])) (fun t k => X21.aaload hx (j := (0 : Int32)) (v := (.ref s_Operator_ADD)) (own_eh rfl Ar30.1) (State.isArrayOf_alike hZ.alike Ar30.2.1) rfl Ar30.2.2 hin30 hat30 (g := (mkF m 16 A29 [(.int (0 : Int32)), (.ref b22)])) rfl rfl (hb hby dprog_43_method_6_code_16) t k) ?_
  let A31 : Array Slot := #[.val (.int p0), .val (.ref b22), .val (.int (4 : Int32)), .val (.int (0 : Int32)), .val (.ref s_Operator_ADD)]
  refine Go.st (S' := T21.setTop (mkF m 19 A31 [])) (fun t k => XS.astore X21.here hx rfl (hb hby dprog_43_method_6_code_17) rfl rfl (l' := A31) rfl k) ?_
  refine Go.st (S' := T21.setTop (mkF m 21 A31 [(.ref s_Operator_ADD)])) (fun t k => XS.aload X21.here hx rfl (hb hby dprog_43_method_6_code_19) rfl rfl k) ?_
  have f32 := ((F_s_Operator_ADD_symbol).keep K21_ nin0)
  obtain ⟨T33, X33, e33, st33⟩ := getF X21 hx hZ hown (host := "") (Or.inl (hw _ (List.mem_of_getElem? (i := 27) rfl))) Via.refl rfl f32 (g := (mkF m 21 A31 [(.ref s_Operator_ADD)])) rfl rfl (hb hby dprog_43_method_6_code_21)
  refine Go.st (S' := T33.setTop (mkF m 24 A31 [(.int (43 : Int32))])) st33 ?_
  refine Go.st (S' := T33.setTop (mkF m 25 A31 [(.int p0), (.int (43 : Int32))])) (fun t k => XS.iloadN X33.here hx rfl (hb hby dprog_43_method_6_code_24) rfl k) ?_
  by_cases hc34 : ((43 : Int32) = p0)
  · refine Go.st (S' := T33.setTop (mkF m 28 A31 [])) (fun t k => XS.icmpNo X33.here hx rfl (hb hby dprog_43_method_6_code_25) rfl (teq hc34).2 k) ?_
    refine Go.st (S' := T33.setTop (mkF m 30 A31 [(.ref s_Operator_ADD)])) (fun t k => XS.aload X33.here hx rfl (hb hby dprog_43_method_6_code_28) rfl rfl k) ?_
    exact Go.ret X33 (v := some (.ref s_Operator_ADD)) (fun h => by rw [Bd.returns] at h; cases h) Bd.notSynchronized (fun fs hr => retOut X33 hx Bd.returns rfl (Or.inr (Or.inr (Or.inr (Or.inr ⟨rfl, rfl, rfl⟩)))) (hb hby dprog_43_method_6_code_30) hr) (by decide) (by decide) (by rw [e33]; exact (Or.inl ⟨b22, hc34, rfl, N21_, K25, sz_b22, f23, f24⟩))
  · refine Go.st (S' := T33.setTop (mkF m 31 A31 [])) (fun t k => XS.icmpYes X33.here hx rfl (pc0 := 25) (pc' := 31) rfl (hb hby dprog_43_method_6_code_25) rfl (feq hc34).2 (by decide) (by decide) k) ?_
    refine Go.op (F := fun z => T33.setTop (mkF m 34 #[.val (.int p0), .val (.ref b22), .val (.int (4 : Int32)), .val (.int z), .val (.ref s_Operator_ADD)] [])) (x := ((0 : Int32) + (1 : Int32))) (fun t k => XS.iinc X33.here hx rfl (hb hby dprog_43_method_6_code_31) rfl rfl k) ?_
    intro v35 hv35
    obtain rfl : (1 : Int32) = v35 := (hv35.trans (by decide)).symm
    let A36 : Array Slot := #[.val (.int p0), .val (.ref b22), .val (.int (4 : Int32)), .val (.int (1 : Int32)), .val (.ref s_Operator_ADD)]
    refine Go.st (S' := T33.setTop (mkF m 9 A36 [])) (fun t k => XS.goto X33.here hx rfl (pc0 := 34) (pc' := 9) rfl (hb hby dprog_43_method_6_code_34) (by decide) (by decide) k) ?_
    refine Go.st (S' := T33.setTop (mkF m 10 A36 [(.int (1 : Int32))])) (fun t k => XS.iloadN X33.here hx rfl (hb hby dprog_43_method_6_code_9) rfl k) ?_
    refine Go.st (S' := T33.setTop (mkF m 11 A36 [(.int (4 : Int32)), (.int (1 : Int32))])) (fun t k => XS.iloadN X33.here hx rfl (hb hby dprog_43_method_6_code_10) rfl k) ?_
    refine Go.st (S' := T33.setTop (mkF m 14 A36 [])) (fun t k => XS.icmpNo X33.here hx rfl (hb hby dprog_43_method_6_code_11) rfl (tlt (by decide : ((1 : Int32) < (4 : Int32)))).2.1 k) ?_
    refine Go.st (S' := T33.setTop (mkF m 15 A36 [(.ref b22)])) (fun t k => XS.aloadN X33.here hx rfl (hb hby dprog_43_method_6_code_14) rfl rfl k) ?_
    refine Go.st (S' := T33.setTop (mkF m 16 A36 [(.int (1 : Int32)), (.ref b22)])) (fun t k => XS.iloadN X33.here hx rfl (hb hby dprog_43_method_6_code_15) rfl k) ?_
    obtain ⟨cl37, Ar37, -, S37, N37_, H37, -⟩ := id f23
    have hin37 : ¬ ((1 : Int32) < 0 ∨ cl37.slots.size ≤ ((1 : Int32)).toNatClampNeg) := inb_of S37 ⟨by decide, by decide⟩
    have hat37 : cl37.slots[((1 : Int32)).toNatClampNeg]? = some (.ref s_Operator_SUBTRACT) := Has.at H37 hin37 rfl
    refine Go.st (S' := T33.setTop (mkF m 17 A36 [(.ref s_Operator_SUBTRACT)])) (fun t k => X33.aaload hx (j := (1 : Int32)) (v := (.ref s_Operator_SUBTRACT)) (own_eh e33 Ar37.1) (State.isArrayOf_alike hZ.alike Ar37.2.1) rfl Ar37.2.2 hin37 hat37 (g := (mkF m 16 A36 [(.int (1 : Int32)), (.ref b22)])) rfl rfl (hb hby dprog_43_method_6_code_16) t k) ?_
    let A38 : Array Slot := #[.val (.int p0), .val (.ref b22), .val (.int (4 : Int32)), .val (.int (1 : Int32)), .val (.ref s_Operator_SUBTRACT)]
    refine Go.st (S' := T33.setTop (mkF m 19 A38 [])) (fun t k => XS.astore X33.here hx rfl (hb hby dprog_43_method_6_code_17) rfl rfl (l' := A38) rfl k) ?_
    refine Go.st (S' := T33.setTop (mkF m 21 A38 [(.ref s_Operator_SUBTRACT)])) (fun t k => XS.aload X33.here hx rfl (hb hby dprog_43_method_6_code_19) rfl rfl k) ?_
    have f39 := ((F_s_Operator_SUBTRACT_symbol).keep K21_ nin0)
    obtain ⟨T40, X40, e40, st40⟩ := getF X33 hx hZ hown (host := "") (Or.inl (hw _ (List.mem_of_getElem? (i := 27) rfl))) Via.refl e33 f39 (g := (mkF m 21 A38 [(.ref s_Operator_SUBTRACT)])) rfl rfl (hb hby dprog_43_method_6_code_21)
    refine Go.st (S' := T40.setTop (mkF m 24 A38 [(.int (45 : Int32))])) st40 ?_
    refine Go.st (S' := T40.setTop (mkF m 25 A38 [(.int p0), (.int (45 : Int32))])) (fun t k => XS.iloadN X40.here hx rfl (hb hby dprog_43_method_6_code_24) rfl k) ?_
    by_cases hc41 : ((45 : Int32) = p0)
    · refine Go.st (S' := T40.setTop (mkF m 28 A38 [])) (fun t k => XS.icmpNo X40.here hx rfl (hb hby dprog_43_method_6_code_25) rfl (teq hc41).2 k) ?_
      refine Go.st (S' := T40.setTop (mkF m 30 A38 [(.ref s_Operator_SUBTRACT)])) (fun t k => XS.aload X40.here hx rfl (hb hby dprog_43_method_6_code_28) rfl rfl k) ?_
      exact Go.ret X40 (v := some (.ref s_Operator_SUBTRACT)) (fun h => by rw [Bd.returns] at h; cases h) Bd.notSynchronized (fun fs hr => retOut X40 hx Bd.returns rfl (Or.inr (Or.inr (Or.inr (Or.inr ⟨rfl, rfl, rfl⟩)))) (hb hby dprog_43_method_6_code_30) hr) (by decide) (by decide) (by rw [e40]; exact (Or.inr (Or.inl ⟨b22, hc34, hc41, rfl, N21_, K25, sz_b22, f23, f24⟩)))
    · refine Go.st (S' := T40.setTop (mkF m 31 A38 [])) (fun t k => XS.icmpYes X40.here hx rfl (pc0 := 25) (pc' := 31) rfl (hb hby dprog_43_method_6_code_25) rfl (feq hc41).2 (by decide) (by decide) k) ?_
      refine Go.op (F := fun z => T40.setTop (mkF m 34 #[.val (.int p0), .val (.ref b22), .val (.int (4 : Int32)), .val (.int z), .val (.ref s_Operator_SUBTRACT)] [])) (x := ((1 : Int32) + (1 : Int32))) (fun t k => XS.iinc X40.here hx rfl (hb hby dprog_43_method_6_code_31) rfl rfl k) ?_
      intro v42 hv42
      obtain rfl : (2 : Int32) = v42 := (hv42.trans (by decide)).symm
      let A43 : Array Slot := #[.val (.int p0), .val (.ref b22), .val (.int (4 : Int32)), .val (.int (2 : Int32)), .val (.ref s_Operator_SUBTRACT)]
      refine Go.st (S' := T40.setTop (mkF m 9 A43 [])) (fun t k => XS.goto X40.here hx rfl (pc0 := 34) (pc' := 9) rfl (hb hby dprog_43_method_6_code_34) (by decide) (by decide) k) ?_
      refine Go.st (S' := T40.setTop (mkF m 10 A43 [(.int (2 : Int32))])) (fun t k => XS.iloadN X40.here hx rfl (hb hby dprog_43_method_6_code_9) rfl k) ?_
      refine Go.st (S' := T40.setTop (mkF m 11 A43 [(.int (4 : Int32)), (.int (2 : Int32))])) (fun t k => XS.iloadN X40.here hx rfl (hb hby dprog_43_method_6_code_10) rfl k) ?_
      refine Go.st (S' := T40.setTop (mkF m 14 A43 [])) (fun t k => XS.icmpNo X40.here hx rfl (hb hby dprog_43_method_6_code_11) rfl (tlt (by decide : ((2 : Int32) < (4 : Int32)))).2.1 k) ?_
      refine Go.st (S' := T40.setTop (mkF m 15 A43 [(.ref b22)])) (fun t k => XS.aloadN X40.here hx rfl (hb hby dprog_43_method_6_code_14) rfl rfl k) ?_
      refine Go.st (S' := T40.setTop (mkF m 16 A43 [(.int (2 : Int32)), (.ref b22)])) (fun t k => XS.iloadN X40.here hx rfl (hb hby dprog_43_method_6_code_15) rfl k) ?_
      obtain ⟨cl44, Ar44, -, S44, N44_, H44, -⟩ := id f23
      have hin44 : ¬ ((2 : Int32) < 0 ∨ cl44.slots.size ≤ ((2 : Int32)).toNatClampNeg) := inb_of S44 ⟨by decide, by decide⟩
      have hat44 : cl44.slots[((2 : Int32)).toNatClampNeg]? = some (.ref s_Operator_MULTIPLY) := Has.at H44 hin44 rfl
      refine Go.st (S' := T40.setTop (mkF m 17 A43 [(.ref s_Operator_MULTIPLY)])) (fun t k => X40.aaload hx (j := (2 : Int32)) (v := (.ref s_Operator_MULTIPLY)) (own_eh e40 Ar44.1) (State.isArrayOf_alike hZ.alike Ar44.2.1) rfl Ar44.2.2 hin44 hat44 (g := (mkF m 16 A43 [(.int (2 : Int32)), (.ref b22)])) rfl rfl (hb hby dprog_43_method_6_code_16) t k) ?_
      let A45 : Array Slot := #[.val (.int p0), .val (.ref b22), .val (.int (4 : Int32)), .val (.int (2 : Int32)), .val (.ref s_Operator_MULTIPLY)]
      refine Go.st (S' := T40.setTop (mkF m 19 A45 [])) (fun t k => XS.astore X40.here hx rfl (hb hby dprog_43_method_6_code_17) rfl rfl (l' := A45) rfl k) ?_
      refine Go.st (S' := T40.setTop (mkF m 21 A45 [(.ref s_Operator_MULTIPLY)])) (fun t k => XS.aload X40.here hx rfl (hb hby dprog_43_method_6_code_19) rfl rfl k) ?_
      have f46 := ((F_s_Operator_MULTIPLY_symbol).keep K21_ nin0)
      obtain ⟨T47, X47, e47, st47⟩ := getF X40 hx hZ hown (host := "") (Or.inl (hw _ (List.mem_of_getElem? (i := 27) rfl))) Via.refl e40 f46 (g := (mkF m 21 A45 [(.ref s_Operator_MULTIPLY)])) rfl rfl (hb hby dprog_43_method_6_code_21)
      refine Go.st (S' := T47.setTop (mkF m 24 A45 [(.int (42 : Int32))])) st47 ?_
      refine Go.st (S' := T47.setTop (mkF m 25 A45 [(.int p0), (.int (42 : Int32))])) (fun t k => XS.iloadN X47.here hx rfl (hb hby dprog_43_method_6_code_24) rfl k) ?_
      by_cases hc48 : ((42 : Int32) = p0)
      · refine Go.st (S' := T47.setTop (mkF m 28 A45 [])) (fun t k => XS.icmpNo X47.here hx rfl (hb hby dprog_43_method_6_code_25) rfl (teq hc48).2 k) ?_
        refine Go.st (S' := T47.setTop (mkF m 30 A45 [(.ref s_Operator_MULTIPLY)])) (fun t k => XS.aload X47.here hx rfl (hb hby dprog_43_method_6_code_28) rfl rfl k) ?_
        exact Go.ret X47 (v := some (.ref s_Operator_MULTIPLY)) (fun h => by rw [Bd.returns] at h; cases h) Bd.notSynchronized (fun fs hr => retOut X47 hx Bd.returns rfl (Or.inr (Or.inr (Or.inr (Or.inr ⟨rfl, rfl, rfl⟩)))) (hb hby dprog_43_method_6_code_30) hr) (by decide) (by decide) (by rw [e47]; exact (Or.inr (Or.inr (Or.inl ⟨b22, hc34, hc41, hc48, rfl, N21_, K25, sz_b22, f23, f24⟩))))
      · refine Go.st (S' := T47.setTop (mkF m 31 A45 [])) (fun t k => XS.icmpYes X47.here hx rfl (pc0 := 25) (pc' := 31) rfl (hb hby dprog_43_method_6_code_25) rfl (feq hc48).2 (by decide) (by decide) k) ?_
        refine Go.op (F := fun z => T47.setTop (mkF m 34 #[.val (.int p0), .val (.ref b22), .val (.int (4 : Int32)), .val (.int z), .val (.ref s_Operator_MULTIPLY)] [])) (x := ((2 : Int32) + (1 : Int32))) (fun t k => XS.iinc X47.here hx rfl (hb hby dprog_43_method_6_code_31) rfl rfl k) ?_
        intro v49 hv49
        obtain rfl : (3 : Int32) = v49 := (hv49.trans (by decide)).symm
        let A50 : Array Slot := #[.val (.int p0), .val (.ref b22), .val (.int (4 : Int32)), .val (.int (3 : Int32)), .val (.ref s_Operator_MULTIPLY)]
        refine Go.st (S' := T47.setTop (mkF m 9 A50 [])) (fun t k => XS.goto X47.here hx rfl (pc0 := 34) (pc' := 9) rfl (hb hby dprog_43_method_6_code_34) (by decide) (by decide) k) ?_
        refine Go.st (S' := T47.setTop (mkF m 10 A50 [(.int (3 : Int32))])) (fun t k => XS.iloadN X47.here hx rfl (hb hby dprog_43_method_6_code_9) rfl k) ?_
        refine Go.st (S' := T47.setTop (mkF m 11 A50 [(.int (4 : Int32)), (.int (3 : Int32))])) (fun t k => XS.iloadN X47.here hx rfl (hb hby dprog_43_method_6_code_10) rfl k) ?_
        refine Go.st (S' := T47.setTop (mkF m 14 A50 [])) (fun t k => XS.icmpNo X47.here hx rfl (hb hby dprog_43_method_6_code_11) rfl (tlt (by decide : ((3 : Int32) < (4 : Int32)))).2.1 k) ?_
        refine Go.st (S' := T47.setTop (mkF m 15 A50 [(.ref b22)])) (fun t k => XS.aloadN X47.here hx rfl (hb hby dprog_43_method_6_code_14) rfl rfl k) ?_
        refine Go.st (S' := T47.setTop (mkF m 16 A50 [(.int (3 : Int32)), (.ref b22)])) (fun t k => XS.iloadN X47.here hx rfl (hb hby dprog_43_method_6_code_15) rfl k) ?_
        obtain ⟨cl51, Ar51, -, S51, N51_, H51, -⟩ := id f23
        have hin51 : ¬ ((3 : Int32) < 0 ∨ cl51.slots.size ≤ ((3 : Int32)).toNatClampNeg) := inb_of S51 ⟨by decide, by decide⟩
        have hat51 : cl51.slots[((3 : Int32)).toNatClampNeg]? = some (.ref s_Operator_DIVIDE) := Has.at H51 hin51 rfl
        refine Go.st (S' := T47.setTop (mkF m 17 A50 [(.ref s_Operator_DIVIDE)])) (fun t k => X47.aaload hx (j := (3 : Int32)) (v := (.ref s_Operator_DIVIDE)) (own_eh e47 Ar51.1) (State.isArrayOf_alike hZ.alike Ar51.2.1) rfl Ar51.2.2 hin51 hat51 (g := (mkF m 16 A50 [(.int (3 : Int32)), (.ref b22)])) rfl rfl (hb hby dprog_43_method_6_code_16) t k) ?_
        let A52 : Array Slot := #[.val (.int p0), .val (.ref b22), .val (.int (4 : Int32)), .val (.int (3 : Int32)), .val (.ref s_Operator_DIVIDE)]
        refine Go.st (S' := T47.setTop (mkF m 19 A52 [])) (fun t k => XS.astore X47.here hx rfl (hb hby dprog_43_method_6_code_17) rfl rfl (l' := A52) rfl k) ?_
        refine Go.st (S' := T47.setTop (mkF m 21 A52 [(.ref s_Operator_DIVIDE)])) (fun t k => XS.aload X47.here hx rfl (hb hby dprog_43_method_6_code_19) rfl rfl k) ?_
        have f53 := ((F_s_Operator_DIVIDE_symbol).keep K21_ nin0)
        obtain ⟨T54, X54, e54, st54⟩ := getF X47 hx hZ hown (host := "") (Or.inl (hw _ (List.mem_of_getElem? (i := 27) rfl))) Via.refl e47 f53 (g := (mkF m 21 A52 [(.ref s_Operator_DIVIDE)])) rfl rfl (hb hby dprog_43_method_6_code_21)
        refine Go.st (S' := T54.setTop (mkF m 24 A52 [(.int (47 : Int32))])) st54 ?_
        refine Go.st (S' := T54.setTop (mkF m 25 A52 [(.int p0), (.int (47 : Int32))])) (fun t k => XS.iloadN X54.here hx rfl (hb hby dprog_43_method_6_code_24) rfl k) ?_
        by_cases hc55 : ((47 : Int32) = p0)
        · refine Go.st (S' := T54.setTop (mkF m 28 A52 [])) (fun t k => XS.icmpNo X54.here hx rfl (hb hby dprog_43_method_6_code_25) rfl (teq hc55).2 k) ?_
          refine Go.st (S' := T54.setTop (mkF m 30 A52 [(.ref s_Operator_DIVIDE)])) (fun t k => XS.aload X54.here hx rfl (hb hby dprog_43_method_6_code_28) rfl rfl k) ?_
          exact Go.ret X54 (v := some (.ref s_Operator_DIVIDE)) (fun h => by rw [Bd.returns] at h; cases h) Bd.notSynchronized (fun fs hr => retOut X54 hx Bd.returns rfl (Or.inr (Or.inr (Or.inr (Or.inr ⟨rfl, rfl, rfl⟩)))) (hb hby dprog_43_method_6_code_30) hr) (by decide) (by decide) (by rw [e54]; exact (Or.inr (Or.inr (Or.inr (Or.inl ⟨b22, hc34, hc41, hc48, hc55, rfl, N21_, K25, sz_b22, f23, f24⟩)))))
        · refine Go.st (S' := T54.setTop (mkF m 31 A52 [])) (fun t k => XS.icmpYes X54.here hx rfl (pc0 := 25) (pc' := 31) rfl (hb hby dprog_43_method_6_code_25) rfl (feq hc55).2 (by decide) (by decide) k) ?_
          refine Go.op (F := fun z => T54.setTop (mkF m 34 #[.val (.int p0), .val (.ref b22), .val (.int (4 : Int32)), .val (.int z), .val (.ref s_Operator_DIVIDE)] [])) (x := ((3 : Int32) + (1 : Int32))) (fun t k => XS.iinc X54.here hx rfl (hb hby dprog_43_method_6_code_31) rfl rfl k) ?_
          intro v56 hv56
          obtain rfl : (4 : Int32) = v56 := (hv56.trans (by decide)).symm
          let A57 : Array Slot := #[.val (.int p0), .val (.ref b22), .val (.int (4 : Int32)), .val (.int (4 : Int32)), .val (.ref s_Operator_DIVIDE)]
          refine Go.st (S' := T54.setTop (mkF m 9 A57 [])) (fun t k => XS.goto X54.here hx rfl (pc0 := 34) (pc' := 9) rfl (hb hby dprog_43_method_6_code_34) (by decide) (by decide) k) ?_
          refine Go.st (S' := T54.setTop (mkF m 10 A57 [(.int (4 : Int32))])) (fun t k => XS.iloadN X54.here hx rfl (hb hby dprog_43_method_6_code_9) rfl k) ?_
          refine Go.st (S' := T54.setTop (mkF m 11 A57 [(.int (4 : Int32)), (.int (4 : Int32))])) (fun t k => XS.iloadN X54.here hx rfl (hb hby dprog_43_method_6_code_10) rfl k) ?_
          refine Go.st (S' := T54.setTop (mkF m 37 A57 [])) (fun t k => XS.icmpYes X54.here hx rfl (pc0 := 11) (pc' := 37) rfl (hb hby dprog_43_method_6_code_11) rfl (flt (by decide : (¬ ((4 : Int32) < (4 : Int32))))).2.1 (by decide) (by decide) k) ?_
          refine Go.st (S' := T54.setTop (mkF m 38 A57 [.null])) (fun t k => XS.aconstNull X54.here hx rfl (hb hby dprog_43_method_6_code_37) k) ?_
          exact Go.ret X54 (v := some .null) (fun h => by rw [Bd.returns] at h; cases h) Bd.notSynchronized (fun fs hr => retOut X54 hx Bd.returns rfl (Or.inr (Or.inr (Or.inr (Or.inr ⟨rfl, rfl, rfl⟩)))) (hb hby dprog_43_method_6_code_38) hr) (by decide) (by decide) (by rw [e54]; exact (Or.inr (Or.inr (Or.inr (Or.inr ⟨b22, hc34, hc41, hc48, hc55, rfl, N21_, K25, sz_b22, f23, f24⟩)))))
theorem ef_4 (m : MethodId) (p0 : Int32) : entryFrame m #[(.int p0)] 1 = mkF m 0 #[.val (.int p0)] [] := by first | (simp [entryFrame, mkF, argsToLocals, Value.category, maxLocals]; done) | rfl
def Q4 (Z : State) (p0 : Int32) (s_Operator_ADD : Addr) (s_Operator_SUBTRACT : Addr) (s_Operator_MULTIPLY : Addr) (s_Operator_DIVIDE : Addr) (h0 : Heap) (n0 : Nat) (v : Option Value) (h : Heap) (L : List Loc) : Prop := ((p0 = (43 : Int32)) ∧ v = some (.ref s_Operator_ADD) ∧ Fr n0 L ∧ h = h0) ∨ ((¬ (p0 = (43 : Int32))) ∧ (p0 = (45 : Int32)) ∧ v = some (.ref s_Operator_SUBTRACT) ∧ Fr n0 L ∧ h = h0) ∨ ((¬ (p0 = (43 : Int32))) ∧ (¬ (p0 = (45 : Int32))) ∧ (p0 = (42 : Int32)) ∧ v = some (.ref s_Operator_MULTIPLY) ∧ Fr n0 L ∧ h = h0) ∨ ((¬ (p0 = (43 : Int32))) ∧ (¬ (p0 = (45 : Int32))) ∧ (¬ (p0 = (42 : Int32))) ∧ (p0 = (47 : Int32)) ∧ v = some (.ref s_Operator_DIVIDE) ∧ Fr n0 L ∧ h = h0) ∨ ((¬ (p0 = (43 : Int32))) ∧ (¬ (p0 = (45 : Int32))) ∧ (¬ (p0 = (42 : Int32))) ∧ (¬ (p0 = (47 : Int32))) ∧ v = some .null ∧ Fr n0 L ∧ h = h0)
set_option maxRecDepth 65536 in
set_option maxHeartbeats 40000000 in
theorem rm4 (l : Launch) (Z : State) (a0 : Array Value) (hw : ∀ d ∈ tables_1, d.before a0 Z = true) (ws : List Jvm.Cond) (p0 : Int32) (s_Operator_ADD : Addr) (s_Operator_SUBTRACT : Addr) (s_Operator_MULTIPLY : Addr) (s_Operator_DIVIDE : Addr) (h0 : Heap) (n0 : Nat) (Z0 : n0 ≤ h0.size) (S_s_Operator_ADD : Sta Z h0 "com/example/signbound/signbound/expr/Operator" "ADD" "Lcom/example/signbound/signbound/expr/Operator;" (.ref s_Operator_ADD)) (S_s_Operator_SUBTRACT : Sta Z h0 "com/example/signbound/signbound/expr/Operator" "SUBTRACT" "Lcom/example/signbound/signbound/expr/Operator;" (.ref s_Operator_SUBTRACT)) (S_s_Operator_MULTIPLY : Sta Z h0 "com/example/signbound/signbound/expr/Operator" "MULTIPLY" "Lcom/example/signbound/signbound/expr/Operator;" (.ref s_Operator_MULTIPLY)) (S_s_Operator_DIVIDE : Sta Z h0 "com/example/signbound/signbound/expr/Operator" "DIVIDE" "Lcom/example/signbound/signbound/expr/Operator;" (.ref s_Operator_DIVIDE)) :
    Con l Z (⟨"com/example/signbound/signbound/expr/OperatorBySymbolPinLaw", "expected", "(C)Lcom/example/signbound/signbound/expr/Operator;"⟩ : MethodName) method_3_code 1 (some (.object "com/example/signbound/signbound/expr/Operator")) ws ({ frames := 0, cells := 0, slots := 0, locals := 0 } : Room) #[(.int p0)] h0 0 0 (Q4 Z p0 s_Operator_ADD s_Operator_SUBTRACT s_Operator_MULTIPLY s_Operator_DIVIDE h0 n0) := by
  refine MetFree.of_bodySF (plainFor_of_name pn_0) hisR ?_
  intro p e s m args below meth c s₁ Bd hml0 hP hK
  obtain ⟨rfl, hZ, hh⟩ := hP
  have hx := Bd.exec
  have hby := Bd.bytes
  have hml : c.maxLocals = 1 := hml0
  have hown : s.vm.findClass "com/example/signbound/signbound/expr/OperatorBySymbolPinLaw" = some m.cls := findClass_of_methodNamed Bd.named
  have hnm := (name_of_methodNamed Bd.named Bd.method).1
  have X0 : Stand p l e ({ frames := 0, cells := 0, slots := 0, locals := 0 } : Room) s m #[(.int p0)] below meth c s₁ [] 0 0 := Stand.of_body Bd
  have e0 : s₁.heap = h0 := by rw [← hh, Bd.state]; rfl
  have N0 := Fr.nil n0
  refine Go.of ?_
  refine Go.st (S' := s₁.setTop (mkF m 0 #[.val (.int p0)] [])) (fun t k => castTop (ef_4 m p0) k) ?_
  refine Go.st (S' := s₁.setTop (mkF m 1 #[.val (.int p0)] [(.int p0)])) (fun t k => XS.iloadN X0.here hx rfl (hb hby dmethod_3_code_0) rfl k) ?_
  refine Go.st (S' := s₁.setTop (mkF m 3 #[.val (.int p0)] [(.int (43 : Int32)), (.int p0)])) (fun t k => XS.bipush X0.here hx rfl (hb hby dmethod_3_code_1) k) ?_
  by_cases hc64 : (p0 = (43 : Int32))
  · refine Go.st (S' := s₁.setTop (mkF m 6 #[.val (.int p0)] [])) (fun t k => XS.icmpNo X0.here hx rfl (hb hby dmethod_3_code_3) rfl (teq hc64).2 k) ?_
    obtain ⟨T65, X65, e65, st65⟩ := getS X0 hx hZ hown (hw _ (List.mem_of_getElem? (i := 32) rfl)) Via.refl e0 S_s_Operator_ADD (host := "") (g := (mkF m 6 #[.val (.int p0)] [])) rfl (hb hby dmethod_3_code_6)
    refine Go.st (S' := T65.setTop (mkF m 9 #[.val (.int p0)] [(.ref s_Operator_ADD)])) st65 ?_
    exact Go.ret X65 (v := some (.ref s_Operator_ADD)) (fun h => by rw [Bd.returns] at h; cases h) Bd.notSynchronized (fun fs hr => retOut X65 hx Bd.returns rfl (Or.inr (Or.inr (Or.inr (Or.inr ⟨rfl, rfl, rfl⟩)))) (hb hby dmethod_3_code_9) hr) (by decide) (by decide) ((Or.inl ⟨hc64, rfl, N0, (e65)⟩))
  · refine Go.st (S' := s₁.setTop (mkF m 10 #[.val (.int p0)] [])) (fun t k => XS.icmpYes X0.here hx rfl (pc0 := 3) (pc' := 10) rfl (hb hby dmethod_3_code_3) rfl (feq hc64).2 (by decide) (by decide) k) ?_
    refine Go.st (S' := s₁.setTop (mkF m 11 #[.val (.int p0)] [(.int p0)])) (fun t k => XS.iloadN X0.here hx rfl (hb hby dmethod_3_code_10) rfl k) ?_
    refine Go.st (S' := s₁.setTop (mkF m 13 #[.val (.int p0)] [(.int (45 : Int32)), (.int p0)])) (fun t k => XS.bipush X0.here hx rfl (hb hby dmethod_3_code_11) k) ?_
    by_cases hc66 : (p0 = (45 : Int32))
    · refine Go.st (S' := s₁.setTop (mkF m 16 #[.val (.int p0)] [])) (fun t k => XS.icmpNo X0.here hx rfl (hb hby dmethod_3_code_13) rfl (teq hc66).2 k) ?_
      obtain ⟨T67, X67, e67, st67⟩ := getS X0 hx hZ hown (hw _ (List.mem_of_getElem? (i := 35) rfl)) Via.refl e0 S_s_Operator_SUBTRACT (host := "") (g := (mkF m 16 #[.val (.int p0)] [])) rfl (hb hby dmethod_3_code_16)
      refine Go.st (S' := T67.setTop (mkF m 19 #[.val (.int p0)] [(.ref s_Operator_SUBTRACT)])) st67 ?_
      exact Go.ret X67 (v := some (.ref s_Operator_SUBTRACT)) (fun h => by rw [Bd.returns] at h; cases h) Bd.notSynchronized (fun fs hr => retOut X67 hx Bd.returns rfl (Or.inr (Or.inr (Or.inr (Or.inr ⟨rfl, rfl, rfl⟩)))) (hb hby dmethod_3_code_19) hr) (by decide) (by decide) ((Or.inr (Or.inl ⟨hc64, hc66, rfl, N0, (e67)⟩)))
    · refine Go.st (S' := s₁.setTop (mkF m 20 #[.val (.int p0)] [])) (fun t k => XS.icmpYes X0.here hx rfl (pc0 := 13) (pc' := 20) rfl (hb hby dmethod_3_code_13) rfl (feq hc66).2 (by decide) (by decide) k) ?_
      refine Go.st (S' := s₁.setTop (mkF m 21 #[.val (.int p0)] [(.int p0)])) (fun t k => XS.iloadN X0.here hx rfl (hb hby dmethod_3_code_20) rfl k) ?_
      refine Go.st (S' := s₁.setTop (mkF m 23 #[.val (.int p0)] [(.int (42 : Int32)), (.int p0)])) (fun t k => XS.bipush X0.here hx rfl (hb hby dmethod_3_code_21) k) ?_
      by_cases hc68 : (p0 = (42 : Int32))
      · refine Go.st (S' := s₁.setTop (mkF m 26 #[.val (.int p0)] [])) (fun t k => XS.icmpNo X0.here hx rfl (hb hby dmethod_3_code_23) rfl (teq hc68).2 k) ?_
        obtain ⟨T69, X69, e69, st69⟩ := getS X0 hx hZ hown (hw _ (List.mem_of_getElem? (i := 34) rfl)) Via.refl e0 S_s_Operator_MULTIPLY (host := "") (g := (mkF m 26 #[.val (.int p0)] [])) rfl (hb hby dmethod_3_code_26)
        refine Go.st (S' := T69.setTop (mkF m 29 #[.val (.int p0)] [(.ref s_Operator_MULTIPLY)])) st69 ?_
        exact Go.ret X69 (v := some (.ref s_Operator_MULTIPLY)) (fun h => by rw [Bd.returns] at h; cases h) Bd.notSynchronized (fun fs hr => retOut X69 hx Bd.returns rfl (Or.inr (Or.inr (Or.inr (Or.inr ⟨rfl, rfl, rfl⟩)))) (hb hby dmethod_3_code_29) hr) (by decide) (by decide) ((Or.inr (Or.inr (Or.inl ⟨hc64, hc66, hc68, rfl, N0, (e69)⟩))))
      · refine Go.st (S' := s₁.setTop (mkF m 30 #[.val (.int p0)] [])) (fun t k => XS.icmpYes X0.here hx rfl (pc0 := 23) (pc' := 30) rfl (hb hby dmethod_3_code_23) rfl (feq hc68).2 (by decide) (by decide) k) ?_
        refine Go.st (S' := s₁.setTop (mkF m 31 #[.val (.int p0)] [(.int p0)])) (fun t k => XS.iloadN X0.here hx rfl (hb hby dmethod_3_code_30) rfl k) ?_
        refine Go.st (S' := s₁.setTop (mkF m 33 #[.val (.int p0)] [(.int (47 : Int32)), (.int p0)])) (fun t k => XS.bipush X0.here hx rfl (hb hby dmethod_3_code_31) k) ?_
        by_cases hc70 : (p0 = (47 : Int32))
        · refine Go.st (S' := s₁.setTop (mkF m 36 #[.val (.int p0)] [])) (fun t k => XS.icmpNo X0.here hx rfl (hb hby dmethod_3_code_33) rfl (teq hc70).2 k) ?_
          obtain ⟨T71, X71, e71, st71⟩ := getS X0 hx hZ hown (hw _ (List.mem_of_getElem? (i := 33) rfl)) Via.refl e0 S_s_Operator_DIVIDE (host := "") (g := (mkF m 36 #[.val (.int p0)] [])) rfl (hb hby dmethod_3_code_36)
          refine Go.st (S' := T71.setTop (mkF m 39 #[.val (.int p0)] [(.ref s_Operator_DIVIDE)])) st71 ?_
          exact Go.ret X71 (v := some (.ref s_Operator_DIVIDE)) (fun h => by rw [Bd.returns] at h; cases h) Bd.notSynchronized (fun fs hr => retOut X71 hx Bd.returns rfl (Or.inr (Or.inr (Or.inr (Or.inr ⟨rfl, rfl, rfl⟩)))) (hb hby dmethod_3_code_39) hr) (by decide) (by decide) ((Or.inr (Or.inr (Or.inr (Or.inl ⟨hc64, hc66, hc68, hc70, rfl, N0, (e71)⟩)))))
        · refine Go.st (S' := s₁.setTop (mkF m 40 #[.val (.int p0)] [])) (fun t k => XS.icmpYes X0.here hx rfl (pc0 := 33) (pc' := 40) rfl (hb hby dmethod_3_code_33) rfl (feq hc70).2 (by decide) (by decide) k) ?_
          refine Go.st (S' := s₁.setTop (mkF m 41 #[.val (.int p0)] [.null])) (fun t k => XS.aconstNull X0.here hx rfl (hb hby dmethod_3_code_40) k) ?_
          exact Go.ret X0 (v := some .null) (fun h => by rw [Bd.returns] at h; cases h) Bd.notSynchronized (fun fs hr => retOut X0 hx Bd.returns rfl (Or.inr (Or.inr (Or.inr (Or.inr ⟨rfl, rfl, rfl⟩)))) (hb hby dmethod_3_code_41) hr) (by decide) (by decide) ((Or.inr (Or.inr (Or.inr (Or.inr ⟨hc64, hc66, hc68, hc70, rfl, N0, (e0)⟩)))))
theorem ef_5 (m : MethodId) (p0 : Int32) : entryFrame m #[(.int p0)] maxLocals = mkF m 0 #[.val (.int p0), .unset, .unset] [] := by first | (simp [entryFrame, mkF, argsToLocals, Value.category, maxLocals]; done) | rfl
def Q5 (Z : State) (p0 : Int32) (s_Operator__VALUES : Addr) (k_s_Operator__VALUES : ClassId) (s_Operator_ADD : Addr) (s_Operator_SUBTRACT : Addr) (s_Operator_MULTIPLY : Addr) (s_Operator_DIVIDE : Addr) (h0 : Heap) (n0 : Nat) (v : Option Value) (h : Heap) (L : List Loc) : Prop := v = some (.int 1) ∧ Fr n0 L
set_option maxRecDepth 65536 in
set_option maxHeartbeats 40000000 in
theorem rm5 (l : Launch) (Z : State) (a0 : Array Value) (hw : ∀ d ∈ tables_1, d.before a0 Z = true) (ws : List Jvm.Cond) (p0 : Int32) (s_Operator__VALUES : Addr) (k_s_Operator__VALUES : ClassId) (s_Operator_ADD : Addr) (s_Operator_SUBTRACT : Addr) (s_Operator_MULTIPLY : Addr) (s_Operator_DIVIDE : Addr) (h0 : Heap) (n0 : Nat) (Z0 : n0 ≤ h0.size) (S_s_Operator__VALUES : Sta Z h0 "com/example/signbound/signbound/expr/Operator" "$VALUES" "[Lcom/example/signbound/signbound/expr/Operator;" (.ref s_Operator__VALUES)) (V_s_Operator__VALUES : Arv Z h0 s_Operator__VALUES k_s_Operator__VALUES (.object "com/example/signbound/signbound/expr/Operator") (4 : Int32) [(.ref s_Operator_ADD), (.ref s_Operator_SUBTRACT), (.ref s_Operator_MULTIPLY), (.ref s_Operator_DIVIDE)] .null) (E_s_Operator__VALUES : Exa Z h0 s_Operator__VALUES "[Lcom/example/signbound/signbound/expr/Operator;") (F_s_Operator_ADD_symbol : Fld Z h0 s_Operator_ADD "com/example/signbound/signbound/expr/Operator" "symbol" "C" (.int (43 : Int32))) (F_s_Operator_SUBTRACT_symbol : Fld Z h0 s_Operator_SUBTRACT "com/example/signbound/signbound/expr/Operator" "symbol" "C" (.int (45 : Int32))) (F_s_Operator_MULTIPLY_symbol : Fld Z h0 s_Operator_MULTIPLY "com/example/signbound/signbound/expr/Operator" "symbol" "C" (.int (42 : Int32))) (F_s_Operator_DIVIDE_symbol : Fld Z h0 s_Operator_DIVIDE "com/example/signbound/signbound/expr/Operator" "symbol" "C" (.int (47 : Int32))) (S_s_Operator_ADD : Sta Z h0 "com/example/signbound/signbound/expr/Operator" "ADD" "Lcom/example/signbound/signbound/expr/Operator;" (.ref s_Operator_ADD)) (S_s_Operator_SUBTRACT : Sta Z h0 "com/example/signbound/signbound/expr/Operator" "SUBTRACT" "Lcom/example/signbound/signbound/expr/Operator;" (.ref s_Operator_SUBTRACT)) (S_s_Operator_MULTIPLY : Sta Z h0 "com/example/signbound/signbound/expr/Operator" "MULTIPLY" "Lcom/example/signbound/signbound/expr/Operator;" (.ref s_Operator_MULTIPLY)) (S_s_Operator_DIVIDE : Sta Z h0 "com/example/signbound/signbound/expr/Operator" "DIVIDE" "Lcom/example/signbound/signbound/expr/Operator;" (.ref s_Operator_DIVIDE)) :
    Con l Z x code maxLocals ret ws room_1 #[(.int p0)] h0 1 4 (Q5 Z p0 s_Operator__VALUES k_s_Operator__VALUES s_Operator_ADD s_Operator_SUBTRACT s_Operator_MULTIPLY s_Operator_DIVIDE h0 n0) := by
  refine MetFree.of_bodySF (plainFor_of_name pn_0) hisR ?_
  intro p e s m args below meth c s₁ Bd hml0 hP hK
  obtain ⟨rfl, hZ, hh⟩ := hP
  have hx := Bd.exec
  have hby := Bd.bytes
  have hml : c.maxLocals = 3 := hml0
  have hown : s.vm.findClass "com/example/signbound/signbound/expr/OperatorBySymbolPinLaw" = some m.cls := findClass_of_methodNamed Bd.named
  have hnm := (name_of_methodNamed Bd.named Bd.method).1
  have X0 : Stand p l e room_1 s m #[(.int p0)] below meth c s₁ [] 0 0 := Stand.of_body Bd
  have e0 : s₁.heap = h0 := by rw [← hh, Bd.state]; rfl
  have N0 := Fr.nil n0
  refine Go.of ?_
  refine Go.st (S' := s₁.setTop (mkF m 0 #[.val (.int p0), .unset, .unset] [])) (fun t k => castTop (ef_5 m p0) k) ?_
  refine Go.st (S' := s₁.setTop (mkF m 1 #[.val (.int p0), .unset, .unset] [(.int p0)])) (fun t k => XS.iloadN X0.here hx rfl (hb hby at_0) rfl k) ?_
  refine Go.st (S' := s₁.setTop (mkF m 3 #[.val (.int p0), .unset, .unset] [(.int (8 : Int32)), (.int p0)])) (fun t k => XS.bipush X0.here hx rfl (hb hby at_1) k) ?_
  refine Go.op (F := fun z => s₁.setTop (mkF m 4 #[.val (.int p0), .unset, .unset] [(.int z)])) (x := (p0 &&& (8 : Int32))) (fun t k => XS.iand X0.here hx rfl (hb hby at_3) rfl k) ?_
  intro v1 hv1
  by_cases hc12 : (v1 = (0 : Int32))
  · refine Go.st (S' := s₁.setTop (mkF m 7 #[.val (.int p0), .unset, .unset] [])) (fun t k => XS.ifNo X0.here hx rfl (hb hby at_4) rfl ((if0 _ _).trans (teq hc12).2) k) ?_
    refine Go.st (S' := s₁.setTop (mkF m 8 #[.val (.int p0), .unset, .unset] [(.int p0)])) (fun t k => XS.iloadN X0.here hx rfl (hb hby at_7) rfl k) ?_
    refine Go.st (S' := s₁.setTop (mkF m 9 #[.val (.int p0), .unset, .unset] [(.int (3 : Int32)), (.int p0)])) (fun t k => XS.iconst X0.here hx rfl (hb hby at_8) k) ?_
    refine Go.op (F := fun z => s₁.setTop (mkF m 10 #[.val (.int p0), .unset, .unset] [(.int z)])) (x := (p0 &&& (3 : Int32))) (fun t k => XS.iand X0.here hx rfl (hb hby at_9) rfl k) ?_
    intro v13 hv13
    obtain ⟨r14, T14, L14, X14, hQ14, st14⟩ := own_callS (W := 0) X0 hx hZ e0 hown (y := (⟨"com/example/signbound/signbound/expr/OperatorBySymbolPinLaw", "drawSymbol", "(I)C"⟩ : MethodName)) (hw _ (List.mem_of_getElem? (i := 0) rfl)) (hw _ (List.mem_of_getElem? (i := 1) rfl)) (hw _ (List.mem_of_getElem? (i := 2) rfl)) (hw _ (List.mem_of_getElem? (i := 3) rfl)) (by decide) (rm1 l Z a0 hw [] v13 h0 n0 Z0 ) (by decide) (by decide) (by decide) (by decide) (g := (mkF m 10 #[.val (.int p0), .unset, .unset] [(.int v13)])) rfl (by rw [hml]; rfl) (argsL := [(.int v13)]) (rest := []) rfl (lenOf pd_0 rfl) rfl (by show 2 * 0 + _ ≤ _; exact Nat.le_of_eq rfl) (hb hby at_10)
    obtain ⟨r15, hc16, rfl, N14, e14⟩ := hQ14
    have N14_ := Fr.app N0 N14
    refine Go.st (S' := T14.setTop (mkF m 13 #[.val (.int p0), .unset, .unset] [(.int r15)])) st14 ?_
    refine Go.st (S' := T14.setTop (mkF m 14 #[.val (.int p0), .val (.int r15), .unset] [])) (fun t k => XS.istoreN X14.here hx rfl (hb hby at_13) rfl (l' := #[.val (.int p0), .val (.int r15), .unset]) rfl k) ?_
    refine Go.st (S' := T14.setTop (mkF m 22 #[.val (.int p0), .val (.int r15), .unset] [])) (fun t k => XS.goto X14.here hx rfl (pc0 := 14) (pc' := 22) rfl (hb hby at_14) (by decide) (by decide) k) ?_
    refine Go.st (S' := T14.setTop (mkF m 23 #[.val (.int p0), .val (.int r15), .unset] [(.int r15)])) (fun t k => XS.iloadN X14.here hx rfl (hb hby at_22) rfl k) ?_
    obtain ⟨r58, T58, L58, X58, hQ58, st58⟩ := own_callS (W := 0) X14 hx hZ e14 hown (y := (⟨"com/example/signbound/signbound/expr/Operator", "bySymbol", "(C)Lcom/example/signbound/signbound/expr/Operator;"⟩ : MethodName)) (hw _ (List.mem_of_getElem? (i := 4) rfl)) (hw _ (List.mem_of_getElem? (i := 5) rfl)) (hw _ (List.mem_of_getElem? (i := 6) rfl)) (hw _ (List.mem_of_getElem? (i := 7) rfl)) (by decide) (rm3 l Z a0 hw [] r15 s_Operator__VALUES k_s_Operator__VALUES s_Operator_ADD s_Operator_SUBTRACT s_Operator_MULTIPLY s_Operator_DIVIDE h0 n0 Z0 (S_s_Operator__VALUES) (V_s_Operator__VALUES) (E_s_Operator__VALUES) (F_s_Operator_ADD_symbol) (F_s_Operator_SUBTRACT_symbol) (F_s_Operator_MULTIPLY_symbol) (F_s_Operator_DIVIDE_symbol)) (by decide) (by decide) (by decide) (by decide) (g := (mkF m 23 #[.val (.int p0), .val (.int r15), .unset] [(.int r15)])) rfl (by rw [hml]; rfl) (argsL := [(.int r15)]) (rest := []) rfl (lenOf pd_2 rfl) rfl (by show 2 * 0 + _ ≤ _; exact Nat.le_of_eq rfl) (hb hby at_23)
    rcases hQ58 with hQ58 | hQ58 | hQ58 | hQ58 | hQ58
    · obtain ⟨b59, hc60, rfl, N58, K58_, sz_b59_, f61, f62⟩ := hQ58
      have N58_ := Fr.app N14_ N58
      have g_b59 : n0 ≤ b59 := Nat.le_trans Z0 sz_b59_
      have sz_b59 : h0.size ≤ b59 := Nat.le_trans (Keep.refl h0 []).1 sz_b59_
      have Z63 : n0 ≤ T58.heap.size := Nat.le_trans Z0 K58_.1
      have K63 : Keep h0 T58.heap [] := (Keep.refl h0 []).trans K58_ all0
      refine Go.st (S' := T58.setTop (mkF m 26 #[.val (.int p0), .val (.int r15), .unset] [(.ref s_Operator_ADD)])) st58 ?_
      refine Go.st (S' := T58.setTop (mkF m 27 #[.val (.int p0), .val (.int r15), .val (.ref s_Operator_ADD)] [])) (fun t k => XS.astoreN X58.here hx rfl (hb hby at_26) rfl rfl (l' := #[.val (.int p0), .val (.int r15), .val (.ref s_Operator_ADD)]) rfl k) ?_
      refine Go.st (S' := T58.setTop (mkF m 28 #[.val (.int p0), .val (.int r15), .val (.ref s_Operator_ADD)] [(.ref s_Operator_ADD)])) (fun t k => XS.aloadN X58.here hx rfl (hb hby at_27) rfl rfl k) ?_
      refine Go.st (S' := T58.setTop (mkF m 29 #[.val (.int p0), .val (.int r15), .val (.ref s_Operator_ADD)] [(.int r15), (.ref s_Operator_ADD)])) (fun t k => XS.iloadN X58.here hx rfl (hb hby at_28) rfl k) ?_
      have f72 := (own_sta_keep (S_s_Operator_ADD) K58_ all0)
      have f73 := (own_sta_keep (S_s_Operator_SUBTRACT) K58_ all0)
      have f74 := (own_sta_keep (S_s_Operator_MULTIPLY) K58_ all0)
      have f75 := (own_sta_keep (S_s_Operator_DIVIDE) K58_ all0)
      obtain ⟨r76, T76, L76, X76, hQ76, st76⟩ := own_callS (W := 1) X58 hx hZ rfl hown (y := (⟨"com/example/signbound/signbound/expr/OperatorBySymbolPinLaw", "expected", "(C)Lcom/example/signbound/signbound/expr/Operator;"⟩ : MethodName)) (hw _ (List.mem_of_getElem? (i := 29) rfl)) (hw _ (List.mem_of_getElem? (i := 30) rfl)) (hw _ (List.mem_of_getElem? (i := 2) rfl)) (hw _ (List.mem_of_getElem? (i := 31) rfl)) (by decide) (rm4 l Z a0 hw [] r15 s_Operator_ADD s_Operator_SUBTRACT s_Operator_MULTIPLY s_Operator_DIVIDE T58.heap n0 Z63 (f72) (f73) (f74) (f75)) (by decide) (by decide) (by decide) (by decide) (g := (mkF m 29 #[.val (.int p0), .val (.int r15), .val (.ref s_Operator_ADD)] [(.int r15), (.ref s_Operator_ADD)])) rfl (by rw [hml]; rfl) (argsL := [(.int r15)]) (rest := [(.ref s_Operator_ADD)]) rfl (lenOf pd_2 rfl) rfl (by show 2 * 0 + _ ≤ _; exact Nat.le_of_eq rfl) (hb hby at_29)
      rcases hQ76 with hQ76 | hQ76 | hQ76 | hQ76 | hQ76
      · obtain ⟨hc77, rfl, N76, e76⟩ := hQ76
        have N76_ := Fr.app N58_ N76
        refine Go.st (S' := T76.setTop (mkF m 32 #[.val (.int p0), .val (.int r15), .val (.ref s_Operator_ADD)] [(.ref s_Operator_ADD), (.ref s_Operator_ADD)])) st76 ?_
        refine Go.st (S' := T76.setTop (mkF m 35 #[.val (.int p0), .val (.int r15), .val (.ref s_Operator_ADD)] [])) (fun t k => acmp X76 hx rfl rfl rfl (pc0 := 32) (pc' := 35) (same := true) rfl (hb hby at_32) rfl (by simp) (by decide) (by decide) k) ?_
        refine Go.st (S' := T76.setTop (mkF m 36 #[.val (.int p0), .val (.int r15), .val (.ref s_Operator_ADD)] [(.int (1 : Int32))])) (fun t k => XS.iconst X76.here hx rfl (hb hby at_35) k) ?_
        refine Go.st (S' := T76.setTop (mkF m 40 #[.val (.int p0), .val (.int r15), .val (.ref s_Operator_ADD)] [(.int (1 : Int32))])) (fun t k => XS.goto X76.here hx rfl (pc0 := 36) (pc' := 40) rfl (hb hby at_36) (by decide) (by decide) k) ?_
        exact Go.ret X76 (v := some (.int (1 : Int32))) (fun h => by rw [Bd.returns] at h; cases h) Bd.notSynchronized (fun fs hr => retN X76 hx (t := .boolean) Bd.returns (by simp) (hb hby at_40) hr) (by decide) (by decide) ⟨rfl, N76_⟩
      · obtain ⟨hc78, hc79, rfl, N76, e76⟩ := hQ76
        have N76_ := Fr.app N58_ N76
        exfalso
        have rv1 := rng32 v1
        have wv1 := c_and p0 (8 : Int32) (by decide)
        rw [← hv1] at wv1
        have rv13 := rng32 v13
        have wv13 := c_mask p0 (3 : Int32) 2 (by decide) (by decide)
        rw [← hv13] at wv13
        have rp0 := rng32 p0
        have rr15 := rng32 r15
        have lI0 : (0 : Int32).toInt = 0 := by decide
        have lI1 : (1 : Int32).toInt = 1 := by decide
        have lI2 : (2 : Int32).toInt = 2 := by decide
        have lI3 : (3 : Int32).toInt = 3 := by decide
        have lI8 : (8 : Int32).toInt = 8 := by decide
        have lI42 : (42 : Int32).toInt = 42 := by decide
        have lI43 : (43 : Int32).toInt = 43 := by decide
        have lI45 : (45 : Int32).toInt = 45 := by decide
        have lI47 : (47 : Int32).toInt = 47 := by decide
        simp only [Int32.lt_iff_toInt_lt, Int64.lt_iff_toInt_lt, ← Int32.toInt_inj, ← Int64.toInt_inj] at hc12 hc16 hc60 hc78 hc79
        omega
      · obtain ⟨hc80, hc81, hc82, rfl, N76, e76⟩ := hQ76
        have N76_ := Fr.app N58_ N76
        exfalso
        have rv1 := rng32 v1
        have wv1 := c_and p0 (8 : Int32) (by decide)
        rw [← hv1] at wv1
        have rv13 := rng32 v13
        have wv13 := c_mask p0 (3 : Int32) 2 (by decide) (by decide)
        rw [← hv13] at wv13
        have rp0 := rng32 p0
        have rr15 := rng32 r15
        have lI0 : (0 : Int32).toInt = 0 := by decide
        have lI1 : (1 : Int32).toInt = 1 := by decide
        have lI2 : (2 : Int32).toInt = 2 := by decide
        have lI3 : (3 : Int32).toInt = 3 := by decide
        have lI8 : (8 : Int32).toInt = 8 := by decide
        have lI42 : (42 : Int32).toInt = 42 := by decide
        have lI43 : (43 : Int32).toInt = 43 := by decide
        have lI45 : (45 : Int32).toInt = 45 := by decide
        have lI47 : (47 : Int32).toInt = 47 := by decide
        simp only [Int32.lt_iff_toInt_lt, Int64.lt_iff_toInt_lt, ← Int32.toInt_inj, ← Int64.toInt_inj] at hc12 hc16 hc60 hc80 hc81 hc82
        omega
      · obtain ⟨hc83, hc84, hc85, hc86, rfl, N76, e76⟩ := hQ76
        have N76_ := Fr.app N58_ N76
        exfalso
        have rv1 := rng32 v1
        have wv1 := c_and p0 (8 : Int32) (by decide)
        rw [← hv1] at wv1
        have rv13 := rng32 v13
        have wv13 := c_mask p0 (3 : Int32) 2 (by decide) (by decide)
        rw [← hv13] at wv13
        have rp0 := rng32 p0
        have rr15 := rng32 r15
        have lI0 : (0 : Int32).toInt = 0 := by decide
        have lI1 : (1 : Int32).toInt = 1 := by decide
        have lI2 : (2 : Int32).toInt = 2 := by decide
        have lI3 : (3 : Int32).toInt = 3 := by decide
        have lI8 : (8 : Int32).toInt = 8 := by decide
        have lI42 : (42 : Int32).toInt = 42 := by decide
        have lI43 : (43 : Int32).toInt = 43 := by decide
        have lI45 : (45 : Int32).toInt = 45 := by decide
        have lI47 : (47 : Int32).toInt = 47 := by decide
        simp only [Int32.lt_iff_toInt_lt, Int64.lt_iff_toInt_lt, ← Int32.toInt_inj, ← Int64.toInt_inj] at hc12 hc16 hc60 hc83 hc84 hc85 hc86
        omega
      · obtain ⟨hc87, hc88, hc89, hc90, rfl, N76, e76⟩ := hQ76
        have N76_ := Fr.app N58_ N76
        exfalso
        have rv1 := rng32 v1
        have wv1 := c_and p0 (8 : Int32) (by decide)
        rw [← hv1] at wv1
        have rv13 := rng32 v13
        have wv13 := c_mask p0 (3 : Int32) 2 (by decide) (by decide)
        rw [← hv13] at wv13
        have rp0 := rng32 p0
        have rr15 := rng32 r15
        have lI0 : (0 : Int32).toInt = 0 := by decide
        have lI1 : (1 : Int32).toInt = 1 := by decide
        have lI2 : (2 : Int32).toInt = 2 := by decide
        have lI3 : (3 : Int32).toInt = 3 := by decide
        have lI8 : (8 : Int32).toInt = 8 := by decide
        have lI42 : (42 : Int32).toInt = 42 := by decide
        have lI43 : (43 : Int32).toInt = 43 := by decide
        have lI45 : (45 : Int32).toInt = 45 := by decide
        have lI47 : (47 : Int32).toInt = 47 := by decide
        simp only [Int32.lt_iff_toInt_lt, Int64.lt_iff_toInt_lt, ← Int32.toInt_inj, ← Int64.toInt_inj] at hc12 hc16 hc60 hc87 hc88 hc89 hc90
        omega
    · obtain ⟨b91, hc92, hc93, rfl, N58, K58_, sz_b91_, f94, f95⟩ := hQ58
      have N58_ := Fr.app N14_ N58
      have g_b91 : n0 ≤ b91 := Nat.le_trans Z0 sz_b91_
      have sz_b91 : h0.size ≤ b91 := Nat.le_trans (Keep.refl h0 []).1 sz_b91_
      have Z96 : n0 ≤ T58.heap.size := Nat.le_trans Z0 K58_.1
      have K96 : Keep h0 T58.heap [] := (Keep.refl h0 []).trans K58_ all0
      refine Go.st (S' := T58.setTop (mkF m 26 #[.val (.int p0), .val (.int r15), .unset] [(.ref s_Operator_SUBTRACT)])) st58 ?_
      let A97 : Array Slot := #[.val (.int p0), .val (.int r15), .val (.ref s_Operator_SUBTRACT)]
      refine Go.st (S' := T58.setTop (mkF m 27 A97 [])) (fun t k => XS.astoreN X58.here hx rfl (hb hby at_26) rfl rfl (l' := A97) rfl k) ?_
      refine Go.st (S' := T58.setTop (mkF m 28 A97 [(.ref s_Operator_SUBTRACT)])) (fun t k => XS.aloadN X58.here hx rfl (hb hby at_27) rfl rfl k) ?_
      refine Go.st (S' := T58.setTop (mkF m 29 A97 [(.int r15), (.ref s_Operator_SUBTRACT)])) (fun t k => XS.iloadN X58.here hx rfl (hb hby at_28) rfl k) ?_
      have f98 := (own_sta_keep (S_s_Operator_ADD) K58_ all0)
      have f99 := (own_sta_keep (S_s_Operator_SUBTRACT) K58_ all0)
      have f100 := (own_sta_keep (S_s_Operator_MULTIPLY) K58_ all0)
      have f101 := (own_sta_keep (S_s_Operator_DIVIDE) K58_ all0)
      obtain ⟨r102, T102, L102, X102, hQ102, st102⟩ := own_callS (W := 1) X58 hx hZ rfl hown (y := (⟨"com/example/signbound/signbound/expr/OperatorBySymbolPinLaw", "expected", "(C)Lcom/example/signbound/signbound/expr/Operator;"⟩ : MethodName)) (hw _ (List.mem_of_getElem? (i := 29) rfl)) (hw _ (List.mem_of_getElem? (i := 30) rfl)) (hw _ (List.mem_of_getElem? (i := 2) rfl)) (hw _ (List.mem_of_getElem? (i := 31) rfl)) (by decide) (rm4 l Z a0 hw [] r15 s_Operator_ADD s_Operator_SUBTRACT s_Operator_MULTIPLY s_Operator_DIVIDE T58.heap n0 Z96 (f98) (f99) (f100) (f101)) (by decide) (by decide) (by decide) (by decide) (g := (mkF m 29 A97 [(.int r15), (.ref s_Operator_SUBTRACT)])) rfl (by rw [hml]; rfl) (argsL := [(.int r15)]) (rest := [(.ref s_Operator_SUBTRACT)]) rfl (lenOf pd_2 rfl) rfl (by show 2 * 0 + _ ≤ _; exact Nat.le_of_eq rfl) (hb hby at_29)
      rcases hQ102 with hQ102 | hQ102 | hQ102 | hQ102 | hQ102
      · obtain ⟨hc103, rfl, N102, e102⟩ := hQ102
        have N102_ := Fr.app N58_ N102
        exfalso
        have rv1 := rng32 v1
        have wv1 := c_and p0 (8 : Int32) (by decide)
        rw [← hv1] at wv1
        have rv13 := rng32 v13
        have wv13 := c_mask p0 (3 : Int32) 2 (by decide) (by decide)
        rw [← hv13] at wv13
        have rp0 := rng32 p0
        have rr15 := rng32 r15
        have lI0 : (0 : Int32).toInt = 0 := by decide
        have lI1 : (1 : Int32).toInt = 1 := by decide
        have lI2 : (2 : Int32).toInt = 2 := by decide
        have lI3 : (3 : Int32).toInt = 3 := by decide
        have lI8 : (8 : Int32).toInt = 8 := by decide
        have lI42 : (42 : Int32).toInt = 42 := by decide
        have lI43 : (43 : Int32).toInt = 43 := by decide
        have lI45 : (45 : Int32).toInt = 45 := by decide
        have lI47 : (47 : Int32).toInt = 47 := by decide
        simp only [Int32.lt_iff_toInt_lt, Int64.lt_iff_toInt_lt, ← Int32.toInt_inj, ← Int64.toInt_inj] at hc12 hc16 hc92 hc93 hc103
        omega
      · obtain ⟨hc104, hc105, rfl, N102, e102⟩ := hQ102
        have N102_ := Fr.app N58_ N102
        refine Go.st (S' := T102.setTop (mkF m 32 A97 [(.ref s_Operator_SUBTRACT), (.ref s_Operator_SUBTRACT)])) st102 ?_
        refine Go.st (S' := T102.setTop (mkF m 35 A97 [])) (fun t k => acmp X102 hx rfl rfl rfl (pc0 := 32) (pc' := 35) (same := true) rfl (hb hby at_32) rfl (by simp) (by decide) (by decide) k) ?_
        refine Go.st (S' := T102.setTop (mkF m 36 A97 [(.int (1 : Int32))])) (fun t k => XS.iconst X102.here hx rfl (hb hby at_35) k) ?_
        refine Go.st (S' := T102.setTop (mkF m 40 A97 [(.int (1 : Int32))])) (fun t k => XS.goto X102.here hx rfl (pc0 := 36) (pc' := 40) rfl (hb hby at_36) (by decide) (by decide) k) ?_
        exact Go.ret X102 (v := some (.int (1 : Int32))) (fun h => by rw [Bd.returns] at h; cases h) Bd.notSynchronized (fun fs hr => retN X102 hx (t := .boolean) Bd.returns (by simp) (hb hby at_40) hr) (by decide) (by decide) ⟨rfl, N102_⟩
      · obtain ⟨hc106, hc107, hc108, rfl, N102, e102⟩ := hQ102
        have N102_ := Fr.app N58_ N102
        exfalso
        have rv1 := rng32 v1
        have wv1 := c_and p0 (8 : Int32) (by decide)
        rw [← hv1] at wv1
        have rv13 := rng32 v13
        have wv13 := c_mask p0 (3 : Int32) 2 (by decide) (by decide)
        rw [← hv13] at wv13
        have rp0 := rng32 p0
        have rr15 := rng32 r15
        have lI0 : (0 : Int32).toInt = 0 := by decide
        have lI1 : (1 : Int32).toInt = 1 := by decide
        have lI2 : (2 : Int32).toInt = 2 := by decide
        have lI3 : (3 : Int32).toInt = 3 := by decide
        have lI8 : (8 : Int32).toInt = 8 := by decide
        have lI42 : (42 : Int32).toInt = 42 := by decide
        have lI43 : (43 : Int32).toInt = 43 := by decide
        have lI45 : (45 : Int32).toInt = 45 := by decide
        have lI47 : (47 : Int32).toInt = 47 := by decide
        simp only [Int32.lt_iff_toInt_lt, Int64.lt_iff_toInt_lt, ← Int32.toInt_inj, ← Int64.toInt_inj] at hc12 hc16 hc92 hc93 hc106 hc107 hc108
        omega
      · obtain ⟨hc109, hc110, hc111, hc112, rfl, N102, e102⟩ := hQ102
        have N102_ := Fr.app N58_ N102
        exfalso
        have rv1 := rng32 v1
        have wv1 := c_and p0 (8 : Int32) (by decide)
        rw [← hv1] at wv1
        have rv13 := rng32 v13
        have wv13 := c_mask p0 (3 : Int32) 2 (by decide) (by decide)
        rw [← hv13] at wv13
        have rp0 := rng32 p0
        have rr15 := rng32 r15
        have lI0 : (0 : Int32).toInt = 0 := by decide
        have lI1 : (1 : Int32).toInt = 1 := by decide
        have lI2 : (2 : Int32).toInt = 2 := by decide
        have lI3 : (3 : Int32).toInt = 3 := by decide
        have lI8 : (8 : Int32).toInt = 8 := by decide
        have lI42 : (42 : Int32).toInt = 42 := by decide
        have lI43 : (43 : Int32).toInt = 43 := by decide
        have lI45 : (45 : Int32).toInt = 45 := by decide
        have lI47 : (47 : Int32).toInt = 47 := by decide
        simp only [Int32.lt_iff_toInt_lt, Int64.lt_iff_toInt_lt, ← Int32.toInt_inj, ← Int64.toInt_inj] at hc12 hc16 hc92 hc93 hc109 hc110 hc111 hc112
        omega
      · obtain ⟨hc113, hc114, hc115, hc116, rfl, N102, e102⟩ := hQ102
        have N102_ := Fr.app N58_ N102
        exfalso
        have rv1 := rng32 v1
        have wv1 := c_and p0 (8 : Int32) (by decide)
        rw [← hv1] at wv1
        have rv13 := rng32 v13
        have wv13 := c_mask p0 (3 : Int32) 2 (by decide) (by decide)
        rw [← hv13] at wv13
        have rp0 := rng32 p0
        have rr15 := rng32 r15
        have lI0 : (0 : Int32).toInt = 0 := by decide
        have lI1 : (1 : Int32).toInt = 1 := by decide
        have lI2 : (2 : Int32).toInt = 2 := by decide
        have lI3 : (3 : Int32).toInt = 3 := by decide
        have lI8 : (8 : Int32).toInt = 8 := by decide
        have lI42 : (42 : Int32).toInt = 42 := by decide
        have lI43 : (43 : Int32).toInt = 43 := by decide
        have lI45 : (45 : Int32).toInt = 45 := by decide
        have lI47 : (47 : Int32).toInt = 47 := by decide
        simp only [Int32.lt_iff_toInt_lt, Int64.lt_iff_toInt_lt, ← Int32.toInt_inj, ← Int64.toInt_inj] at hc12 hc16 hc92 hc93 hc113 hc114 hc115 hc116
        omega
    · obtain ⟨b117, hc118, hc119, hc120, rfl, N58, K58_, sz_b117_, f121, f122⟩ := hQ58
      have N58_ := Fr.app N14_ N58
      have g_b117 : n0 ≤ b117 := Nat.le_trans Z0 sz_b117_
      have sz_b117 : h0.size ≤ b117 := Nat.le_trans (Keep.refl h0 []).1 sz_b117_
      have Z123 : n0 ≤ T58.heap.size := Nat.le_trans Z0 K58_.1
      have K123 : Keep h0 T58.heap [] := (Keep.refl h0 []).trans K58_ all0
      refine Go.st (S' := T58.setTop (mkF m 26 #[.val (.int p0), .val (.int r15), .unset] [(.ref s_Operator_MULTIPLY)])) st58 ?_
      let A124 : Array Slot := #[.val (.int p0), .val (.int r15), .val (.ref s_Operator_MULTIPLY)]
      refine Go.st (S' := T58.setTop (mkF m 27 A124 [])) (fun t k => XS.astoreN X58.here hx rfl (hb hby at_26) rfl rfl (l' := A124) rfl k) ?_
      refine Go.st (S' := T58.setTop (mkF m 28 A124 [(.ref s_Operator_MULTIPLY)])) (fun t k => XS.aloadN X58.here hx rfl (hb hby at_27) rfl rfl k) ?_
      refine Go.st (S' := T58.setTop (mkF m 29 A124 [(.int r15), (.ref s_Operator_MULTIPLY)])) (fun t k => XS.iloadN X58.here hx rfl (hb hby at_28) rfl k) ?_
      have f125 := (own_sta_keep (S_s_Operator_ADD) K58_ all0)
      have f126 := (own_sta_keep (S_s_Operator_SUBTRACT) K58_ all0)
      have f127 := (own_sta_keep (S_s_Operator_MULTIPLY) K58_ all0)
      have f128 := (own_sta_keep (S_s_Operator_DIVIDE) K58_ all0)
      obtain ⟨r129, T129, L129, X129, hQ129, st129⟩ := own_callS (W := 1) X58 hx hZ rfl hown (y := (⟨"com/example/signbound/signbound/expr/OperatorBySymbolPinLaw", "expected", "(C)Lcom/example/signbound/signbound/expr/Operator;"⟩ : MethodName)) (hw _ (List.mem_of_getElem? (i := 29) rfl)) (hw _ (List.mem_of_getElem? (i := 30) rfl)) (hw _ (List.mem_of_getElem? (i := 2) rfl)) (hw _ (List.mem_of_getElem? (i := 31) rfl)) (by decide) (rm4 l Z a0 hw [] r15 s_Operator_ADD s_Operator_SUBTRACT s_Operator_MULTIPLY s_Operator_DIVIDE T58.heap n0 Z123 (f125) (f126) (f127) (f128)) (by decide) (by decide) (by decide) (by decide) (g := (mkF m 29 A124 [(.int r15), (.ref s_Operator_MULTIPLY)])) rfl (by rw [hml]; rfl) (argsL := [(.int r15)]) (rest := [(.ref s_Operator_MULTIPLY)]) rfl (lenOf pd_2 rfl) rfl (by show 2 * 0 + _ ≤ _; exact Nat.le_of_eq rfl) (hb hby at_29)
      rcases hQ129 with hQ129 | hQ129 | hQ129 | hQ129 | hQ129
      · obtain ⟨hc130, rfl, N129, e129⟩ := hQ129
        have N129_ := Fr.app N58_ N129
        exfalso
        have rv1 := rng32 v1
        have wv1 := c_and p0 (8 : Int32) (by decide)
        rw [← hv1] at wv1
        have rv13 := rng32 v13
        have wv13 := c_mask p0 (3 : Int32) 2 (by decide) (by decide)
        rw [← hv13] at wv13
        have rp0 := rng32 p0
        have rr15 := rng32 r15
        have lI0 : (0 : Int32).toInt = 0 := by decide
        have lI1 : (1 : Int32).toInt = 1 := by decide
        have lI2 : (2 : Int32).toInt = 2 := by decide
        have lI3 : (3 : Int32).toInt = 3 := by decide
        have lI8 : (8 : Int32).toInt = 8 := by decide
        have lI42 : (42 : Int32).toInt = 42 := by decide
        have lI43 : (43 : Int32).toInt = 43 := by decide
        have lI45 : (45 : Int32).toInt = 45 := by decide
        have lI47 : (47 : Int32).toInt = 47 := by decide
        simp only [Int32.lt_iff_toInt_lt, Int64.lt_iff_toInt_lt, ← Int32.toInt_inj, ← Int64.toInt_inj] at hc12 hc16 hc118 hc119 hc120 hc130
        omega
      · obtain ⟨hc131, hc132, rfl, N129, e129⟩ := hQ129
        have N129_ := Fr.app N58_ N129
        exfalso
        have rv1 := rng32 v1
        have wv1 := c_and p0 (8 : Int32) (by decide)
        rw [← hv1] at wv1
        have rv13 := rng32 v13
        have wv13 := c_mask p0 (3 : Int32) 2 (by decide) (by decide)
        rw [← hv13] at wv13
        have rp0 := rng32 p0
        have rr15 := rng32 r15
        have lI0 : (0 : Int32).toInt = 0 := by decide
        have lI1 : (1 : Int32).toInt = 1 := by decide
        have lI2 : (2 : Int32).toInt = 2 := by decide
        have lI3 : (3 : Int32).toInt = 3 := by decide
        have lI8 : (8 : Int32).toInt = 8 := by decide
        have lI42 : (42 : Int32).toInt = 42 := by decide
        have lI43 : (43 : Int32).toInt = 43 := by decide
        have lI45 : (45 : Int32).toInt = 45 := by decide
        have lI47 : (47 : Int32).toInt = 47 := by decide
        simp only [Int32.lt_iff_toInt_lt, Int64.lt_iff_toInt_lt, ← Int32.toInt_inj, ← Int64.toInt_inj] at hc12 hc16 hc118 hc119 hc120 hc131 hc132
        omega
      · obtain ⟨hc133, hc134, hc135, rfl, N129, e129⟩ := hQ129
        have N129_ := Fr.app N58_ N129
        refine Go.st (S' := T129.setTop (mkF m 32 A124 [(.ref s_Operator_MULTIPLY), (.ref s_Operator_MULTIPLY)])) st129 ?_
        refine Go.st (S' := T129.setTop (mkF m 35 A124 [])) (fun t k => acmp X129 hx rfl rfl rfl (pc0 := 32) (pc' := 35) (same := true) rfl (hb hby at_32) rfl (by simp) (by decide) (by decide) k) ?_
        refine Go.st (S' := T129.setTop (mkF m 36 A124 [(.int (1 : Int32))])) (fun t k => XS.iconst X129.here hx rfl (hb hby at_35) k) ?_
        refine Go.st (S' := T129.setTop (mkF m 40 A124 [(.int (1 : Int32))])) (fun t k => XS.goto X129.here hx rfl (pc0 := 36) (pc' := 40) rfl (hb hby at_36) (by decide) (by decide) k) ?_
        exact Go.ret X129 (v := some (.int (1 : Int32))) (fun h => by rw [Bd.returns] at h; cases h) Bd.notSynchronized (fun fs hr => retN X129 hx (t := .boolean) Bd.returns (by simp) (hb hby at_40) hr) (by decide) (by decide) ⟨rfl, N129_⟩
      · obtain ⟨hc136, hc137, hc138, hc139, rfl, N129, e129⟩ := hQ129
        have N129_ := Fr.app N58_ N129
        exfalso
        have rv1 := rng32 v1
        have wv1 := c_and p0 (8 : Int32) (by decide)
        rw [← hv1] at wv1
        have rv13 := rng32 v13
        have wv13 := c_mask p0 (3 : Int32) 2 (by decide) (by decide)
        rw [← hv13] at wv13
        have rp0 := rng32 p0
        have rr15 := rng32 r15
        have lI0 : (0 : Int32).toInt = 0 := by decide
        have lI1 : (1 : Int32).toInt = 1 := by decide
        have lI2 : (2 : Int32).toInt = 2 := by decide
        have lI3 : (3 : Int32).toInt = 3 := by decide
        have lI8 : (8 : Int32).toInt = 8 := by decide
        have lI42 : (42 : Int32).toInt = 42 := by decide
        have lI43 : (43 : Int32).toInt = 43 := by decide
        have lI45 : (45 : Int32).toInt = 45 := by decide
        have lI47 : (47 : Int32).toInt = 47 := by decide
        simp only [Int32.lt_iff_toInt_lt, Int64.lt_iff_toInt_lt, ← Int32.toInt_inj, ← Int64.toInt_inj] at hc12 hc16 hc118 hc119 hc120 hc136 hc137 hc138 hc139
        omega
      · obtain ⟨hc140, hc141, hc142, hc143, rfl, N129, e129⟩ := hQ129
        have N129_ := Fr.app N58_ N129
        exfalso
        have rv1 := rng32 v1
        have wv1 := c_and p0 (8 : Int32) (by decide)
        rw [← hv1] at wv1
        have rv13 := rng32 v13
        have wv13 := c_mask p0 (3 : Int32) 2 (by decide) (by decide)
        rw [← hv13] at wv13
        have rp0 := rng32 p0
        have rr15 := rng32 r15
        have lI0 : (0 : Int32).toInt = 0 := by decide
        have lI1 : (1 : Int32).toInt = 1 := by decide
        have lI2 : (2 : Int32).toInt = 2 := by decide
        have lI3 : (3 : Int32).toInt = 3 := by decide
        have lI8 : (8 : Int32).toInt = 8 := by decide
        have lI42 : (42 : Int32).toInt = 42 := by decide
        have lI43 : (43 : Int32).toInt = 43 := by decide
        have lI45 : (45 : Int32).toInt = 45 := by decide
        have lI47 : (47 : Int32).toInt = 47 := by decide
        simp only [Int32.lt_iff_toInt_lt, Int64.lt_iff_toInt_lt, ← Int32.toInt_inj, ← Int64.toInt_inj] at hc12 hc16 hc118 hc119 hc120 hc140 hc141 hc142 hc143
        omega
    · obtain ⟨b144, hc145, hc146, hc147, hc148, rfl, N58, K58_, sz_b144_, f149, f150⟩ := hQ58
      have N58_ := Fr.app N14_ N58
      have g_b144 : n0 ≤ b144 := Nat.le_trans Z0 sz_b144_
      have sz_b144 : h0.size ≤ b144 := Nat.le_trans (Keep.refl h0 []).1 sz_b144_
      have Z151 : n0 ≤ T58.heap.size := Nat.le_trans Z0 K58_.1
      have K151 : Keep h0 T58.heap [] := (Keep.refl h0 []).trans K58_ all0
      refine Go.st (S' := T58.setTop (mkF m 26 #[.val (.int p0), .val (.int r15), .unset] [(.ref s_Operator_DIVIDE)])) st58 ?_
      let A152 : Array Slot := #[.val (.int p0), .val (.int r15), .val (.ref s_Operator_DIVIDE)]
      refine Go.st (S' := T58.setTop (mkF m 27 A152 [])) (fun t k => XS.astoreN X58.here hx rfl (hb hby at_26) rfl rfl (l' := A152) rfl k) ?_
      refine Go.st (S' := T58.setTop (mkF m 28 A152 [(.ref s_Operator_DIVIDE)])) (fun t k => XS.aloadN X58.here hx rfl (hb hby at_27) rfl rfl k) ?_
      refine Go.st (S' := T58.setTop (mkF m 29 A152 [(.int r15), (.ref s_Operator_DIVIDE)])) (fun t k => XS.iloadN X58.here hx rfl (hb hby at_28) rfl k) ?_
      have f153 := (own_sta_keep (S_s_Operator_ADD) K58_ all0)
      have f154 := (own_sta_keep (S_s_Operator_SUBTRACT) K58_ all0)
      have f155 := (own_sta_keep (S_s_Operator_MULTIPLY) K58_ all0)
      have f156 := (own_sta_keep (S_s_Operator_DIVIDE) K58_ all0)
      obtain ⟨r157, T157, L157, X157, hQ157, st157⟩ := own_callS (W := 1) X58 hx hZ rfl hown (y := (⟨"com/example/signbound/signbound/expr/OperatorBySymbolPinLaw", "expected", "(C)Lcom/example/signbound/signbound/expr/Operator;"⟩ : MethodName)) (hw _ (List.mem_of_getElem? (i := 29) rfl)) (hw _ (List.mem_of_getElem? (i := 30) rfl)) (hw _ (List.mem_of_getElem? (i := 2) rfl)) (hw _ (List.mem_of_getElem? (i := 31) rfl)) (by decide) (rm4 l Z a0 hw [] r15 s_Operator_ADD s_Operator_SUBTRACT s_Operator_MULTIPLY s_Operator_DIVIDE T58.heap n0 Z151 (f153) (f154) (f155) (f156)) (by decide) (by decide) (by decide) (by decide) (g := (mkF m 29 A152 [(.int r15), (.ref s_Operator_DIVIDE)])) rfl (by rw [hml]; rfl) (argsL := [(.int r15)]) (rest := [(.ref s_Operator_DIVIDE)]) rfl (lenOf pd_2 rfl) rfl (by show 2 * 0 + _ ≤ _; exact Nat.le_of_eq rfl) (hb hby at_29)
      rcases hQ157 with hQ157 | hQ157 | hQ157 | hQ157 | hQ157
      · obtain ⟨hc158, rfl, N157, e157⟩ := hQ157
        have N157_ := Fr.app N58_ N157
        exfalso
        have rv1 := rng32 v1
        have wv1 := c_and p0 (8 : Int32) (by decide)
        rw [← hv1] at wv1
        have rv13 := rng32 v13
        have wv13 := c_mask p0 (3 : Int32) 2 (by decide) (by decide)
        rw [← hv13] at wv13
        have rp0 := rng32 p0
        have rr15 := rng32 r15
        have lI0 : (0 : Int32).toInt = 0 := by decide
        have lI1 : (1 : Int32).toInt = 1 := by decide
        have lI2 : (2 : Int32).toInt = 2 := by decide
        have lI3 : (3 : Int32).toInt = 3 := by decide
        have lI8 : (8 : Int32).toInt = 8 := by decide
        have lI42 : (42 : Int32).toInt = 42 := by decide
        have lI43 : (43 : Int32).toInt = 43 := by decide
        have lI45 : (45 : Int32).toInt = 45 := by decide
        have lI47 : (47 : Int32).toInt = 47 := by decide
        simp only [Int32.lt_iff_toInt_lt, Int64.lt_iff_toInt_lt, ← Int32.toInt_inj, ← Int64.toInt_inj] at hc12 hc16 hc145 hc146 hc147 hc148 hc158
        omega
      · obtain ⟨hc159, hc160, rfl, N157, e157⟩ := hQ157
        have N157_ := Fr.app N58_ N157
        exfalso
        have rv1 := rng32 v1
        have wv1 := c_and p0 (8 : Int32) (by decide)
        rw [← hv1] at wv1
        have rv13 := rng32 v13
        have wv13 := c_mask p0 (3 : Int32) 2 (by decide) (by decide)
        rw [← hv13] at wv13
        have rp0 := rng32 p0
        have rr15 := rng32 r15
        have lI0 : (0 : Int32).toInt = 0 := by decide
        have lI1 : (1 : Int32).toInt = 1 := by decide
        have lI2 : (2 : Int32).toInt = 2 := by decide
        have lI3 : (3 : Int32).toInt = 3 := by decide
        have lI8 : (8 : Int32).toInt = 8 := by decide
        have lI42 : (42 : Int32).toInt = 42 := by decide
        have lI43 : (43 : Int32).toInt = 43 := by decide
        have lI45 : (45 : Int32).toInt = 45 := by decide
        have lI47 : (47 : Int32).toInt = 47 := by decide
        simp only [Int32.lt_iff_toInt_lt, Int64.lt_iff_toInt_lt, ← Int32.toInt_inj, ← Int64.toInt_inj] at hc12 hc16 hc145 hc146 hc147 hc148 hc159 hc160
        omega
      · obtain ⟨hc161, hc162, hc163, rfl, N157, e157⟩ := hQ157
        have N157_ := Fr.app N58_ N157
        exfalso
        have rv1 := rng32 v1
        have wv1 := c_and p0 (8 : Int32) (by decide)
        rw [← hv1] at wv1
        have rv13 := rng32 v13
        have wv13 := c_mask p0 (3 : Int32) 2 (by decide) (by decide)
        rw [← hv13] at wv13
        have rp0 := rng32 p0
        have rr15 := rng32 r15
        have lI0 : (0 : Int32).toInt = 0 := by decide
        have lI1 : (1 : Int32).toInt = 1 := by decide
        have lI2 : (2 : Int32).toInt = 2 := by decide
        have lI3 : (3 : Int32).toInt = 3 := by decide
        have lI8 : (8 : Int32).toInt = 8 := by decide
        have lI42 : (42 : Int32).toInt = 42 := by decide
        have lI43 : (43 : Int32).toInt = 43 := by decide
        have lI45 : (45 : Int32).toInt = 45 := by decide
        have lI47 : (47 : Int32).toInt = 47 := by decide
        simp only [Int32.lt_iff_toInt_lt, Int64.lt_iff_toInt_lt, ← Int32.toInt_inj, ← Int64.toInt_inj] at hc12 hc16 hc145 hc146 hc147 hc148 hc161 hc162 hc163
        omega
      · obtain ⟨hc164, hc165, hc166, hc167, rfl, N157, e157⟩ := hQ157
        have N157_ := Fr.app N58_ N157
        refine Go.st (S' := T157.setTop (mkF m 32 A152 [(.ref s_Operator_DIVIDE), (.ref s_Operator_DIVIDE)])) st157 ?_
        refine Go.st (S' := T157.setTop (mkF m 35 A152 [])) (fun t k => acmp X157 hx rfl rfl rfl (pc0 := 32) (pc' := 35) (same := true) rfl (hb hby at_32) rfl (by simp) (by decide) (by decide) k) ?_
        refine Go.st (S' := T157.setTop (mkF m 36 A152 [(.int (1 : Int32))])) (fun t k => XS.iconst X157.here hx rfl (hb hby at_35) k) ?_
        refine Go.st (S' := T157.setTop (mkF m 40 A152 [(.int (1 : Int32))])) (fun t k => XS.goto X157.here hx rfl (pc0 := 36) (pc' := 40) rfl (hb hby at_36) (by decide) (by decide) k) ?_
        exact Go.ret X157 (v := some (.int (1 : Int32))) (fun h => by rw [Bd.returns] at h; cases h) Bd.notSynchronized (fun fs hr => retN X157 hx (t := .boolean) Bd.returns (by simp) (hb hby at_40) hr) (by decide) (by decide) ⟨rfl, N157_⟩
      · obtain ⟨hc168, hc169, hc170, hc171, rfl, N157, e157⟩ := hQ157
        have N157_ := Fr.app N58_ N157
        exfalso
        have rv1 := rng32 v1
        have wv1 := c_and p0 (8 : Int32) (by decide)
        rw [← hv1] at wv1
        have rv13 := rng32 v13
        have wv13 := c_mask p0 (3 : Int32) 2 (by decide) (by decide)
        rw [← hv13] at wv13
        have rp0 := rng32 p0
        have rr15 := rng32 r15
        have lI0 : (0 : Int32).toInt = 0 := by decide
        have lI1 : (1 : Int32).toInt = 1 := by decide
        have lI2 : (2 : Int32).toInt = 2 := by decide
        have lI3 : (3 : Int32).toInt = 3 := by decide
        have lI8 : (8 : Int32).toInt = 8 := by decide
        have lI42 : (42 : Int32).toInt = 42 := by decide
        have lI43 : (43 : Int32).toInt = 43 := by decide
        have lI45 : (45 : Int32).toInt = 45 := by decide
        have lI47 : (47 : Int32).toInt = 47 := by decide
        simp only [Int32.lt_iff_toInt_lt, Int64.lt_iff_toInt_lt, ← Int32.toInt_inj, ← Int64.toInt_inj] at hc12 hc16 hc145 hc146 hc147 hc148 hc168 hc169 hc170 hc171
        omega
    · obtain ⟨b172, hc173, hc174, hc175, hc176, rfl, N58, K58_, sz_b172_, f177, f178⟩ := hQ58
      have N58_ := Fr.app N14_ N58
      exfalso
      have rv1 := rng32 v1
      have wv1 := c_and p0 (8 : Int32) (by decide)
      rw [← hv1] at wv1
      have rv13 := rng32 v13
      have wv13 := c_mask p0 (3 : Int32) 2 (by decide) (by decide)
      rw [← hv13] at wv13
      have rp0 := rng32 p0
      have rr15 := rng32 r15
      have lI0 : (0 : Int32).toInt = 0 := by decide
      have lI1 : (1 : Int32).toInt = 1 := by decide
      have lI2 : (2 : Int32).toInt = 2 := by decide
      have lI3 : (3 : Int32).toInt = 3 := by decide
      have lI8 : (8 : Int32).toInt = 8 := by decide
      have lI42 : (42 : Int32).toInt = 42 := by decide
      have lI43 : (43 : Int32).toInt = 43 := by decide
      have lI45 : (45 : Int32).toInt = 45 := by decide
      have lI47 : (47 : Int32).toInt = 47 := by decide
      simp only [Int32.lt_iff_toInt_lt, Int64.lt_iff_toInt_lt, ← Int32.toInt_inj, ← Int64.toInt_inj] at hc12 hc16 hc173 hc174 hc175 hc176
      omega
  · refine Go.st (S' := s₁.setTop (mkF m 17 #[.val (.int p0), .unset, .unset] [])) (fun t k => XS.ifYes X0.here hx rfl (pc0 := 4) (pc' := 17) rfl (hb hby at_4) rfl ((if0 _ _).trans (feq hc12).2) (by decide) (by decide) k) ?_
    refine Go.st (S' := s₁.setTop (mkF m 18 #[.val (.int p0), .unset, .unset] [(.int p0)])) (fun t k => XS.iloadN X0.here hx rfl (hb hby at_17) rfl k) ?_
    refine Go.st (S' := s₁.setTop (mkF m 19 #[.val (.int p0), .unset, .unset] [(.int (4 : Int32)), (.int p0)])) (fun t k => XS.iconst X0.here hx rfl (hb hby at_18) k) ?_
    refine Go.op (F := fun z => s₁.setTop (mkF m 20 #[.val (.int p0), .unset, .unset] [(.int z)])) (x := ((p0.toUInt32 >>> ((4 : Int32) &&& 31).toUInt32).toInt32)) (fun t k => XS.iushr X0.here hx rfl (hb hby at_19) rfl k) ?_
    intro v179 hv179
    refine Go.op (F := fun z => s₁.setTop (mkF m 21 #[.val (.int p0), .unset, .unset] [(.int z)])) (x := v179.toUInt32.toUInt16.toUInt32.toInt32) (fun t k => XS.i2c X0.here hx rfl (hb hby at_20) rfl k) ?_
    intro v180 hv180
    refine Go.st (S' := s₁.setTop (mkF m 22 #[.val (.int p0), .val (.int v180), .unset] [])) (fun t k => XS.istoreN X0.here hx rfl (hb hby at_21) rfl (l' := #[.val (.int p0), .val (.int v180), .unset]) rfl k) ?_
    refine Go.st (S' := s₁.setTop (mkF m 23 #[.val (.int p0), .val (.int v180), .unset] [(.int v180)])) (fun t k => XS.iloadN X0.here hx rfl (hb hby at_22) rfl k) ?_
    obtain ⟨r181, T181, L181, X181, hQ181, st181⟩ := own_callS (W := 0) X0 hx hZ e0 hown (y := (⟨"com/example/signbound/signbound/expr/Operator", "bySymbol", "(C)Lcom/example/signbound/signbound/expr/Operator;"⟩ : MethodName)) (hw _ (List.mem_of_getElem? (i := 4) rfl)) (hw _ (List.mem_of_getElem? (i := 5) rfl)) (hw _ (List.mem_of_getElem? (i := 6) rfl)) (hw _ (List.mem_of_getElem? (i := 7) rfl)) (by decide) (rm3 l Z a0 hw [] v180 s_Operator__VALUES k_s_Operator__VALUES s_Operator_ADD s_Operator_SUBTRACT s_Operator_MULTIPLY s_Operator_DIVIDE h0 n0 Z0 (S_s_Operator__VALUES) (V_s_Operator__VALUES) (E_s_Operator__VALUES) (F_s_Operator_ADD_symbol) (F_s_Operator_SUBTRACT_symbol) (F_s_Operator_MULTIPLY_symbol) (F_s_Operator_DIVIDE_symbol)) (by decide) (by decide) (by decide) (by decide) (g := (mkF m 23 #[.val (.int p0), .val (.int v180), .unset] [(.int v180)])) rfl (by rw [hml]; rfl) (argsL := [(.int v180)]) (rest := []) rfl (lenOf pd_2 rfl) rfl (by show 2 * 0 + _ ≤ _; exact Nat.le_of_eq rfl) (hb hby at_23)
    rcases hQ181 with hQ181 | hQ181 | hQ181 | hQ181 | hQ181
    · obtain ⟨b182, hc183, rfl, N181, K181_, sz_b182_, f184, f185⟩ := hQ181
      have N181_ := Fr.app N0 N181
      have g_b182 : n0 ≤ b182 := Nat.le_trans Z0 sz_b182_
      have sz_b182 : h0.size ≤ b182 := Nat.le_trans (Keep.refl h0 []).1 sz_b182_
      have Z186 : n0 ≤ T181.heap.size := Nat.le_trans Z0 K181_.1
      have K186 : Keep h0 T181.heap [] := (Keep.refl h0 []).trans K181_ all0
      refine Go.st (S' := T181.setTop (mkF m 26 #[.val (.int p0), .val (.int v180), .unset] [(.ref s_Operator_ADD)])) st181 ?_
      let A187 : Array Slot := #[.val (.int p0), .val (.int v180), .val (.ref s_Operator_ADD)]
      refine Go.st (S' := T181.setTop (mkF m 27 A187 [])) (fun t k => XS.astoreN X181.here hx rfl (hb hby at_26) rfl rfl (l' := A187) rfl k) ?_
      refine Go.st (S' := T181.setTop (mkF m 28 A187 [(.ref s_Operator_ADD)])) (fun t k => XS.aloadN X181.here hx rfl (hb hby at_27) rfl rfl k) ?_
      refine Go.st (S' := T181.setTop (mkF m 29 A187 [(.int v180), (.ref s_Operator_ADD)])) (fun t k => XS.iloadN X181.here hx rfl (hb hby at_28) rfl k) ?_
      have f188 := (own_sta_keep (S_s_Operator_ADD) K181_ all0)
      have f189 := (own_sta_keep (S_s_Operator_SUBTRACT) K181_ all0)
      have f190 := (own_sta_keep (S_s_Operator_MULTIPLY) K181_ all0)
      have f191 := (own_sta_keep (S_s_Operator_DIVIDE) K181_ all0)
      obtain ⟨r192, T192, L192, X192, hQ192, st192⟩ := own_callS (W := 1) X181 hx hZ rfl hown (y := (⟨"com/example/signbound/signbound/expr/OperatorBySymbolPinLaw", "expected", "(C)Lcom/example/signbound/signbound/expr/Operator;"⟩ : MethodName)) (hw _ (List.mem_of_getElem? (i := 29) rfl)) (hw _ (List.mem_of_getElem? (i := 30) rfl)) (hw _ (List.mem_of_getElem? (i := 2) rfl)) (hw _ (List.mem_of_getElem? (i := 31) rfl)) (by decide) (rm4 l Z a0 hw [] v180 s_Operator_ADD s_Operator_SUBTRACT s_Operator_MULTIPLY s_Operator_DIVIDE T181.heap n0 Z186 (f188) (f189) (f190) (f191)) (by decide) (by decide) (by decide) (by decide) (g := (mkF m 29 A187 [(.int v180), (.ref s_Operator_ADD)])) rfl (by rw [hml]; rfl) (argsL := [(.int v180)]) (rest := [(.ref s_Operator_ADD)]) rfl (lenOf pd_2 rfl) rfl (by show 2 * 0 + _ ≤ _; exact Nat.le_of_eq rfl) (hb hby at_29)
      rcases hQ192 with hQ192 | hQ192 | hQ192 | hQ192 | hQ192
      · obtain ⟨hc193, rfl, N192, e192⟩ := hQ192
        have N192_ := Fr.app N181_ N192
        refine Go.st (S' := T192.setTop (mkF m 32 A187 [(.ref s_Operator_ADD), (.ref s_Operator_ADD)])) st192 ?_
        refine Go.st (S' := T192.setTop (mkF m 35 A187 [])) (fun t k => acmp X192 hx rfl rfl rfl (pc0 := 32) (pc' := 35) (same := true) rfl (hb hby at_32) rfl (by simp) (by decide) (by decide) k) ?_
        refine Go.st (S' := T192.setTop (mkF m 36 A187 [(.int (1 : Int32))])) (fun t k => XS.iconst X192.here hx rfl (hb hby at_35) k) ?_
        refine Go.st (S' := T192.setTop (mkF m 40 A187 [(.int (1 : Int32))])) (fun t k => XS.goto X192.here hx rfl (pc0 := 36) (pc' := 40) rfl (hb hby at_36) (by decide) (by decide) k) ?_
        exact Go.ret X192 (v := some (.int (1 : Int32))) (fun h => by rw [Bd.returns] at h; cases h) Bd.notSynchronized (fun fs hr => retN X192 hx (t := .boolean) Bd.returns (by simp) (hb hby at_40) hr) (by decide) (by decide) ⟨rfl, N192_⟩
      · obtain ⟨hc194, hc195, rfl, N192, e192⟩ := hQ192
        have N192_ := Fr.app N181_ N192
        exfalso
        have rv1 := rng32 v1
        have wv1 := c_and p0 (8 : Int32) (by decide)
        rw [← hv1] at wv1
        have rv179 := rng32 v179
        have wv179 := c_iushr p0 (4 : Int32) 4 (by decide) (by decide)
        rw [← hv179] at wv179
        have rv180 := rng32 v180
        have wv180 := c_i2c v179
        rw [← hv180] at wv180
        have rp0 := rng32 p0
        have lI0 : (0 : Int32).toInt = 0 := by decide
        have lI4 : (4 : Int32).toInt = 4 := by decide
        have lI8 : (8 : Int32).toInt = 8 := by decide
        have lI43 : (43 : Int32).toInt = 43 := by decide
        have lI45 : (45 : Int32).toInt = 45 := by decide
        simp only [Int32.lt_iff_toInt_lt, Int64.lt_iff_toInt_lt, ← Int32.toInt_inj, ← Int64.toInt_inj] at hc12 hc183 hc194 hc195
        omega
      · obtain ⟨hc196, hc197, hc198, rfl, N192, e192⟩ := hQ192
        have N192_ := Fr.app N181_ N192
        exfalso
        have rv1 := rng32 v1
        have wv1 := c_and p0 (8 : Int32) (by decide)
        rw [← hv1] at wv1
        have rv179 := rng32 v179
        have wv179 := c_iushr p0 (4 : Int32) 4 (by decide) (by decide)
        rw [← hv179] at wv179
        have rv180 := rng32 v180
        have wv180 := c_i2c v179
        rw [← hv180] at wv180
        have rp0 := rng32 p0
        have lI0 : (0 : Int32).toInt = 0 := by decide
        have lI4 : (4 : Int32).toInt = 4 := by decide
        have lI8 : (8 : Int32).toInt = 8 := by decide
        have lI42 : (42 : Int32).toInt = 42 := by decide
        have lI43 : (43 : Int32).toInt = 43 := by decide
        have lI45 : (45 : Int32).toInt = 45 := by decide
        simp only [Int32.lt_iff_toInt_lt, Int64.lt_iff_toInt_lt, ← Int32.toInt_inj, ← Int64.toInt_inj] at hc12 hc183 hc196 hc197 hc198
        omega
      · obtain ⟨hc199, hc200, hc201, hc202, rfl, N192, e192⟩ := hQ192
        have N192_ := Fr.app N181_ N192
        exfalso
        have rv1 := rng32 v1
        have wv1 := c_and p0 (8 : Int32) (by decide)
        rw [← hv1] at wv1
        have rv179 := rng32 v179
        have wv179 := c_iushr p0 (4 : Int32) 4 (by decide) (by decide)
        rw [← hv179] at wv179
        have rv180 := rng32 v180
        have wv180 := c_i2c v179
        rw [← hv180] at wv180
        have rp0 := rng32 p0
        have lI0 : (0 : Int32).toInt = 0 := by decide
        have lI4 : (4 : Int32).toInt = 4 := by decide
        have lI8 : (8 : Int32).toInt = 8 := by decide
        have lI42 : (42 : Int32).toInt = 42 := by decide
        have lI43 : (43 : Int32).toInt = 43 := by decide
        have lI45 : (45 : Int32).toInt = 45 := by decide
        have lI47 : (47 : Int32).toInt = 47 := by decide
        simp only [Int32.lt_iff_toInt_lt, Int64.lt_iff_toInt_lt, ← Int32.toInt_inj, ← Int64.toInt_inj] at hc12 hc183 hc199 hc200 hc201 hc202
        omega
      · obtain ⟨hc203, hc204, hc205, hc206, rfl, N192, e192⟩ := hQ192
        have N192_ := Fr.app N181_ N192
        exfalso
        have rv1 := rng32 v1
        have wv1 := c_and p0 (8 : Int32) (by decide)
        rw [← hv1] at wv1
        have rv179 := rng32 v179
        have wv179 := c_iushr p0 (4 : Int32) 4 (by decide) (by decide)
        rw [← hv179] at wv179
        have rv180 := rng32 v180
        have wv180 := c_i2c v179
        rw [← hv180] at wv180
        have rp0 := rng32 p0
        have lI0 : (0 : Int32).toInt = 0 := by decide
        have lI4 : (4 : Int32).toInt = 4 := by decide
        have lI8 : (8 : Int32).toInt = 8 := by decide
        have lI42 : (42 : Int32).toInt = 42 := by decide
        have lI43 : (43 : Int32).toInt = 43 := by decide
        have lI45 : (45 : Int32).toInt = 45 := by decide
        have lI47 : (47 : Int32).toInt = 47 := by decide
        simp only [Int32.lt_iff_toInt_lt, Int64.lt_iff_toInt_lt, ← Int32.toInt_inj, ← Int64.toInt_inj] at hc12 hc183 hc203 hc204 hc205 hc206
        omega
    · obtain ⟨b207, hc208, hc209, rfl, N181, K181_, sz_b207_, f210, f211⟩ := hQ181
      have N181_ := Fr.app N0 N181
      have g_b207 : n0 ≤ b207 := Nat.le_trans Z0 sz_b207_
      have sz_b207 : h0.size ≤ b207 := Nat.le_trans (Keep.refl h0 []).1 sz_b207_
      have Z212 : n0 ≤ T181.heap.size := Nat.le_trans Z0 K181_.1
      have K212 : Keep h0 T181.heap [] := (Keep.refl h0 []).trans K181_ all0
      refine Go.st (S' := T181.setTop (mkF m 26 #[.val (.int p0), .val (.int v180), .unset] [(.ref s_Operator_SUBTRACT)])) st181 ?_
      let A213 : Array Slot := #[.val (.int p0), .val (.int v180), .val (.ref s_Operator_SUBTRACT)]
      refine Go.st (S' := T181.setTop (mkF m 27 A213 [])) (fun t k => XS.astoreN X181.here hx rfl (hb hby at_26) rfl rfl (l' := A213) rfl k) ?_
      refine Go.st (S' := T181.setTop (mkF m 28 A213 [(.ref s_Operator_SUBTRACT)])) (fun t k => XS.aloadN X181.here hx rfl (hb hby at_27) rfl rfl k) ?_
      refine Go.st (S' := T181.setTop (mkF m 29 A213 [(.int v180), (.ref s_Operator_SUBTRACT)])) (fun t k => XS.iloadN X181.here hx rfl (hb hby at_28) rfl k) ?_
      have f214 := (own_sta_keep (S_s_Operator_ADD) K181_ all0)
      have f215 := (own_sta_keep (S_s_Operator_SUBTRACT) K181_ all0)
      have f216 := (own_sta_keep (S_s_Operator_MULTIPLY) K181_ all0)
      have f217 := (own_sta_keep (S_s_Operator_DIVIDE) K181_ all0)
      obtain ⟨r218, T218, L218, X218, hQ218, st218⟩ := own_callS (W := 1) X181 hx hZ rfl hown (y := (⟨"com/example/signbound/signbound/expr/OperatorBySymbolPinLaw", "expected", "(C)Lcom/example/signbound/signbound/expr/Operator;"⟩ : MethodName)) (hw _ (List.mem_of_getElem? (i := 29) rfl)) (hw _ (List.mem_of_getElem? (i := 30) rfl)) (hw _ (List.mem_of_getElem? (i := 2) rfl)) (hw _ (List.mem_of_getElem? (i := 31) rfl)) (by decide) (rm4 l Z a0 hw [] v180 s_Operator_ADD s_Operator_SUBTRACT s_Operator_MULTIPLY s_Operator_DIVIDE T181.heap n0 Z212 (f214) (f215) (f216) (f217)) (by decide) (by decide) (by decide) (by decide) (g := (mkF m 29 A213 [(.int v180), (.ref s_Operator_SUBTRACT)])) rfl (by rw [hml]; rfl) (argsL := [(.int v180)]) (rest := [(.ref s_Operator_SUBTRACT)]) rfl (lenOf pd_2 rfl) rfl (by show 2 * 0 + _ ≤ _; exact Nat.le_of_eq rfl) (hb hby at_29)
      rcases hQ218 with hQ218 | hQ218 | hQ218 | hQ218 | hQ218
      · obtain ⟨hc219, rfl, N218, e218⟩ := hQ218
        have N218_ := Fr.app N181_ N218
        exfalso
        have rv1 := rng32 v1
        have wv1 := c_and p0 (8 : Int32) (by decide)
        rw [← hv1] at wv1
        have rv179 := rng32 v179
        have wv179 := c_iushr p0 (4 : Int32) 4 (by decide) (by decide)
        rw [← hv179] at wv179
        have rv180 := rng32 v180
        have wv180 := c_i2c v179
        rw [← hv180] at wv180
        have rp0 := rng32 p0
        have lI0 : (0 : Int32).toInt = 0 := by decide
        have lI4 : (4 : Int32).toInt = 4 := by decide
        have lI8 : (8 : Int32).toInt = 8 := by decide
        have lI43 : (43 : Int32).toInt = 43 := by decide
        have lI45 : (45 : Int32).toInt = 45 := by decide
        simp only [Int32.lt_iff_toInt_lt, Int64.lt_iff_toInt_lt, ← Int32.toInt_inj, ← Int64.toInt_inj] at hc12 hc208 hc209 hc219
        omega
      · obtain ⟨hc220, hc221, rfl, N218, e218⟩ := hQ218
        have N218_ := Fr.app N181_ N218
        refine Go.st (S' := T218.setTop (mkF m 32 A213 [(.ref s_Operator_SUBTRACT), (.ref s_Operator_SUBTRACT)])) st218 ?_
        refine Go.st (S' := T218.setTop (mkF m 35 A213 [])) (fun t k => acmp X218 hx rfl rfl rfl (pc0 := 32) (pc' := 35) (same := true) rfl (hb hby at_32) rfl (by simp) (by decide) (by decide) k) ?_
        refine Go.st (S' := T218.setTop (mkF m 36 A213 [(.int (1 : Int32))])) (fun t k => XS.iconst X218.here hx rfl (hb hby at_35) k) ?_
        refine Go.st (S' := T218.setTop (mkF m 40 A213 [(.int (1 : Int32))])) (fun t k => XS.goto X218.here hx rfl (pc0 := 36) (pc' := 40) rfl (hb hby at_36) (by decide) (by decide) k) ?_
        exact Go.ret X218 (v := some (.int (1 : Int32))) (fun h => by rw [Bd.returns] at h; cases h) Bd.notSynchronized (fun fs hr => retN X218 hx (t := .boolean) Bd.returns (by simp) (hb hby at_40) hr) (by decide) (by decide) ⟨rfl, N218_⟩
      · obtain ⟨hc222, hc223, hc224, rfl, N218, e218⟩ := hQ218
        have N218_ := Fr.app N181_ N218
        exfalso
        have rv1 := rng32 v1
        have wv1 := c_and p0 (8 : Int32) (by decide)
        rw [← hv1] at wv1
        have rv179 := rng32 v179
        have wv179 := c_iushr p0 (4 : Int32) 4 (by decide) (by decide)
        rw [← hv179] at wv179
        have rv180 := rng32 v180
        have wv180 := c_i2c v179
        rw [← hv180] at wv180
        have rp0 := rng32 p0
        have lI0 : (0 : Int32).toInt = 0 := by decide
        have lI4 : (4 : Int32).toInt = 4 := by decide
        have lI8 : (8 : Int32).toInt = 8 := by decide
        have lI42 : (42 : Int32).toInt = 42 := by decide
        have lI43 : (43 : Int32).toInt = 43 := by decide
        have lI45 : (45 : Int32).toInt = 45 := by decide
        simp only [Int32.lt_iff_toInt_lt, Int64.lt_iff_toInt_lt, ← Int32.toInt_inj, ← Int64.toInt_inj] at hc12 hc208 hc209 hc222 hc223 hc224
        omega
      · obtain ⟨hc225, hc226, hc227, hc228, rfl, N218, e218⟩ := hQ218
        have N218_ := Fr.app N181_ N218
        exfalso
        have rv1 := rng32 v1
        have wv1 := c_and p0 (8 : Int32) (by decide)
        rw [← hv1] at wv1
        have rv179 := rng32 v179
        have wv179 := c_iushr p0 (4 : Int32) 4 (by decide) (by decide)
        rw [← hv179] at wv179
        have rv180 := rng32 v180
        have wv180 := c_i2c v179
        rw [← hv180] at wv180
        have rp0 := rng32 p0
        have lI0 : (0 : Int32).toInt = 0 := by decide
        have lI4 : (4 : Int32).toInt = 4 := by decide
        have lI8 : (8 : Int32).toInt = 8 := by decide
        have lI42 : (42 : Int32).toInt = 42 := by decide
        have lI43 : (43 : Int32).toInt = 43 := by decide
        have lI45 : (45 : Int32).toInt = 45 := by decide
        have lI47 : (47 : Int32).toInt = 47 := by decide
        simp only [Int32.lt_iff_toInt_lt, Int64.lt_iff_toInt_lt, ← Int32.toInt_inj, ← Int64.toInt_inj] at hc12 hc208 hc209 hc225 hc226 hc227 hc228
        omega
      · obtain ⟨hc229, hc230, hc231, hc232, rfl, N218, e218⟩ := hQ218
        have N218_ := Fr.app N181_ N218
        exfalso
        have rv1 := rng32 v1
        have wv1 := c_and p0 (8 : Int32) (by decide)
        rw [← hv1] at wv1
        have rv179 := rng32 v179
        have wv179 := c_iushr p0 (4 : Int32) 4 (by decide) (by decide)
        rw [← hv179] at wv179
        have rv180 := rng32 v180
        have wv180 := c_i2c v179
        rw [← hv180] at wv180
        have rp0 := rng32 p0
        have lI0 : (0 : Int32).toInt = 0 := by decide
        have lI4 : (4 : Int32).toInt = 4 := by decide
        have lI8 : (8 : Int32).toInt = 8 := by decide
        have lI42 : (42 : Int32).toInt = 42 := by decide
        have lI43 : (43 : Int32).toInt = 43 := by decide
        have lI45 : (45 : Int32).toInt = 45 := by decide
        have lI47 : (47 : Int32).toInt = 47 := by decide
        simp only [Int32.lt_iff_toInt_lt, Int64.lt_iff_toInt_lt, ← Int32.toInt_inj, ← Int64.toInt_inj] at hc12 hc208 hc209 hc229 hc230 hc231 hc232
        omega
    · obtain ⟨b233, hc234, hc235, hc236, rfl, N181, K181_, sz_b233_, f237, f238⟩ := hQ181
      have N181_ := Fr.app N0 N181
      have g_b233 : n0 ≤ b233 := Nat.le_trans Z0 sz_b233_
      have sz_b233 : h0.size ≤ b233 := Nat.le_trans (Keep.refl h0 []).1 sz_b233_
      have Z239 : n0 ≤ T181.heap.size := Nat.le_trans Z0 K181_.1
      have K239 : Keep h0 T181.heap [] := (Keep.refl h0 []).trans K181_ all0
      refine Go.st (S' := T181.setTop (mkF m 26 #[.val (.int p0), .val (.int v180), .unset] [(.ref s_Operator_MULTIPLY)])) st181 ?_
      let A240 : Array Slot := #[.val (.int p0), .val (.int v180), .val (.ref s_Operator_MULTIPLY)]
      refine Go.st (S' := T181.setTop (mkF m 27 A240 [])) (fun t k => XS.astoreN X181.here hx rfl (hb hby at_26) rfl rfl (l' := A240) rfl k) ?_
      refine Go.st (S' := T181.setTop (mkF m 28 A240 [(.ref s_Operator_MULTIPLY)])) (fun t k => XS.aloadN X181.here hx rfl (hb hby at_27) rfl rfl k) ?_
      refine Go.st (S' := T181.setTop (mkF m 29 A240 [(.int v180), (.ref s_Operator_MULTIPLY)])) (fun t k => XS.iloadN X181.here hx rfl (hb hby at_28) rfl k) ?_
      have f241 := (own_sta_keep (S_s_Operator_ADD) K181_ all0)
      have f242 := (own_sta_keep (S_s_Operator_SUBTRACT) K181_ all0)
      have f243 := (own_sta_keep (S_s_Operator_MULTIPLY) K181_ all0)
      have f244 := (own_sta_keep (S_s_Operator_DIVIDE) K181_ all0)
      obtain ⟨r245, T245, L245, X245, hQ245, st245⟩ := own_callS (W := 1) X181 hx hZ rfl hown (y := (⟨"com/example/signbound/signbound/expr/OperatorBySymbolPinLaw", "expected", "(C)Lcom/example/signbound/signbound/expr/Operator;"⟩ : MethodName)) (hw _ (List.mem_of_getElem? (i := 29) rfl)) (hw _ (List.mem_of_getElem? (i := 30) rfl)) (hw _ (List.mem_of_getElem? (i := 2) rfl)) (hw _ (List.mem_of_getElem? (i := 31) rfl)) (by decide) (rm4 l Z a0 hw [] v180 s_Operator_ADD s_Operator_SUBTRACT s_Operator_MULTIPLY s_Operator_DIVIDE T181.heap n0 Z239 (f241) (f242) (f243) (f244)) (by decide) (by decide) (by decide) (by decide) (g := (mkF m 29 A240 [(.int v180), (.ref s_Operator_MULTIPLY)])) rfl (by rw [hml]; rfl) (argsL := [(.int v180)]) (rest := [(.ref s_Operator_MULTIPLY)]) rfl (lenOf pd_2 rfl) rfl (by show 2 * 0 + _ ≤ _; exact Nat.le_of_eq rfl) (hb hby at_29)
      rcases hQ245 with hQ245 | hQ245 | hQ245 | hQ245 | hQ245
      · obtain ⟨hc246, rfl, N245, e245⟩ := hQ245
        have N245_ := Fr.app N181_ N245
        exfalso
        have rv1 := rng32 v1
        have wv1 := c_and p0 (8 : Int32) (by decide)
        rw [← hv1] at wv1
        have rv179 := rng32 v179
        have wv179 := c_iushr p0 (4 : Int32) 4 (by decide) (by decide)
        rw [← hv179] at wv179
        have rv180 := rng32 v180
        have wv180 := c_i2c v179
        rw [← hv180] at wv180
        have rp0 := rng32 p0
        have lI0 : (0 : Int32).toInt = 0 := by decide
        have lI4 : (4 : Int32).toInt = 4 := by decide
        have lI8 : (8 : Int32).toInt = 8 := by decide
        have lI42 : (42 : Int32).toInt = 42 := by decide
        have lI43 : (43 : Int32).toInt = 43 := by decide
        have lI45 : (45 : Int32).toInt = 45 := by decide
        simp only [Int32.lt_iff_toInt_lt, Int64.lt_iff_toInt_lt, ← Int32.toInt_inj, ← Int64.toInt_inj] at hc12 hc234 hc235 hc236 hc246
        omega
      · obtain ⟨hc247, hc248, rfl, N245, e245⟩ := hQ245
        have N245_ := Fr.app N181_ N245
        exfalso
        have rv1 := rng32 v1
        have wv1 := c_and p0 (8 : Int32) (by decide)
        rw [← hv1] at wv1
        have rv179 := rng32 v179
        have wv179 := c_iushr p0 (4 : Int32) 4 (by decide) (by decide)
        rw [← hv179] at wv179
        have rv180 := rng32 v180
        have wv180 := c_i2c v179
        rw [← hv180] at wv180
        have rp0 := rng32 p0
        have lI0 : (0 : Int32).toInt = 0 := by decide
        have lI4 : (4 : Int32).toInt = 4 := by decide
        have lI8 : (8 : Int32).toInt = 8 := by decide
        have lI42 : (42 : Int32).toInt = 42 := by decide
        have lI43 : (43 : Int32).toInt = 43 := by decide
        have lI45 : (45 : Int32).toInt = 45 := by decide
        simp only [Int32.lt_iff_toInt_lt, Int64.lt_iff_toInt_lt, ← Int32.toInt_inj, ← Int64.toInt_inj] at hc12 hc234 hc235 hc236 hc247 hc248
        omega
      · obtain ⟨hc249, hc250, hc251, rfl, N245, e245⟩ := hQ245
        have N245_ := Fr.app N181_ N245
        refine Go.st (S' := T245.setTop (mkF m 32 A240 [(.ref s_Operator_MULTIPLY), (.ref s_Operator_MULTIPLY)])) st245 ?_
        refine Go.st (S' := T245.setTop (mkF m 35 A240 [])) (fun t k => acmp X245 hx rfl rfl rfl (pc0 := 32) (pc' := 35) (same := true) rfl (hb hby at_32) rfl (by simp) (by decide) (by decide) k) ?_
        refine Go.st (S' := T245.setTop (mkF m 36 A240 [(.int (1 : Int32))])) (fun t k => XS.iconst X245.here hx rfl (hb hby at_35) k) ?_
        refine Go.st (S' := T245.setTop (mkF m 40 A240 [(.int (1 : Int32))])) (fun t k => XS.goto X245.here hx rfl (pc0 := 36) (pc' := 40) rfl (hb hby at_36) (by decide) (by decide) k) ?_
        exact Go.ret X245 (v := some (.int (1 : Int32))) (fun h => by rw [Bd.returns] at h; cases h) Bd.notSynchronized (fun fs hr => retN X245 hx (t := .boolean) Bd.returns (by simp) (hb hby at_40) hr) (by decide) (by decide) ⟨rfl, N245_⟩
      · obtain ⟨hc252, hc253, hc254, hc255, rfl, N245, e245⟩ := hQ245
        have N245_ := Fr.app N181_ N245
        exfalso
        have rv1 := rng32 v1
        have wv1 := c_and p0 (8 : Int32) (by decide)
        rw [← hv1] at wv1
        have rv179 := rng32 v179
        have wv179 := c_iushr p0 (4 : Int32) 4 (by decide) (by decide)
        rw [← hv179] at wv179
        have rv180 := rng32 v180
        have wv180 := c_i2c v179
        rw [← hv180] at wv180
        have rp0 := rng32 p0
        have lI0 : (0 : Int32).toInt = 0 := by decide
        have lI4 : (4 : Int32).toInt = 4 := by decide
        have lI8 : (8 : Int32).toInt = 8 := by decide
        have lI42 : (42 : Int32).toInt = 42 := by decide
        have lI43 : (43 : Int32).toInt = 43 := by decide
        have lI45 : (45 : Int32).toInt = 45 := by decide
        have lI47 : (47 : Int32).toInt = 47 := by decide
        simp only [Int32.lt_iff_toInt_lt, Int64.lt_iff_toInt_lt, ← Int32.toInt_inj, ← Int64.toInt_inj] at hc12 hc234 hc235 hc236 hc252 hc253 hc254 hc255
        omega
      · obtain ⟨hc256, hc257, hc258, hc259, rfl, N245, e245⟩ := hQ245
        have N245_ := Fr.app N181_ N245
        exfalso
        have rv1 := rng32 v1
        have wv1 := c_and p0 (8 : Int32) (by decide)
        rw [← hv1] at wv1
        have rv179 := rng32 v179
        have wv179 := c_iushr p0 (4 : Int32) 4 (by decide) (by decide)
        rw [← hv179] at wv179
        have rv180 := rng32 v180
        have wv180 := c_i2c v179
        rw [← hv180] at wv180
        have rp0 := rng32 p0
        have lI0 : (0 : Int32).toInt = 0 := by decide
        have lI4 : (4 : Int32).toInt = 4 := by decide
        have lI8 : (8 : Int32).toInt = 8 := by decide
        have lI42 : (42 : Int32).toInt = 42 := by decide
        have lI43 : (43 : Int32).toInt = 43 := by decide
        have lI45 : (45 : Int32).toInt = 45 := by decide
        have lI47 : (47 : Int32).toInt = 47 := by decide
        simp only [Int32.lt_iff_toInt_lt, Int64.lt_iff_toInt_lt, ← Int32.toInt_inj, ← Int64.toInt_inj] at hc12 hc234 hc235 hc236 hc256 hc257 hc258 hc259
        omega
    · obtain ⟨b260, hc261, hc262, hc263, hc264, rfl, N181, K181_, sz_b260_, f265, f266⟩ := hQ181
      have N181_ := Fr.app N0 N181
      have g_b260 : n0 ≤ b260 := Nat.le_trans Z0 sz_b260_
      have sz_b260 : h0.size ≤ b260 := Nat.le_trans (Keep.refl h0 []).1 sz_b260_
      have Z267 : n0 ≤ T181.heap.size := Nat.le_trans Z0 K181_.1
      have K267 : Keep h0 T181.heap [] := (Keep.refl h0 []).trans K181_ all0
      refine Go.st (S' := T181.setTop (mkF m 26 #[.val (.int p0), .val (.int v180), .unset] [(.ref s_Operator_DIVIDE)])) st181 ?_
      let A268 : Array Slot := #[.val (.int p0), .val (.int v180), .val (.ref s_Operator_DIVIDE)]
      refine Go.st (S' := T181.setTop (mkF m 27 A268 [])) (fun t k => XS.astoreN X181.here hx rfl (hb hby at_26) rfl rfl (l' := A268) rfl k) ?_
      refine Go.st (S' := T181.setTop (mkF m 28 A268 [(.ref s_Operator_DIVIDE)])) (fun t k => XS.aloadN X181.here hx rfl (hb hby at_27) rfl rfl k) ?_
      refine Go.st (S' := T181.setTop (mkF m 29 A268 [(.int v180), (.ref s_Operator_DIVIDE)])) (fun t k => XS.iloadN X181.here hx rfl (hb hby at_28) rfl k) ?_
      have f269 := (own_sta_keep (S_s_Operator_ADD) K181_ all0)
      have f270 := (own_sta_keep (S_s_Operator_SUBTRACT) K181_ all0)
      have f271 := (own_sta_keep (S_s_Operator_MULTIPLY) K181_ all0)
      have f272 := (own_sta_keep (S_s_Operator_DIVIDE) K181_ all0)
      obtain ⟨r273, T273, L273, X273, hQ273, st273⟩ := own_callS (W := 1) X181 hx hZ rfl hown (y := (⟨"com/example/signbound/signbound/expr/OperatorBySymbolPinLaw", "expected", "(C)Lcom/example/signbound/signbound/expr/Operator;"⟩ : MethodName)) (hw _ (List.mem_of_getElem? (i := 29) rfl)) (hw _ (List.mem_of_getElem? (i := 30) rfl)) (hw _ (List.mem_of_getElem? (i := 2) rfl)) (hw _ (List.mem_of_getElem? (i := 31) rfl)) (by decide) (rm4 l Z a0 hw [] v180 s_Operator_ADD s_Operator_SUBTRACT s_Operator_MULTIPLY s_Operator_DIVIDE T181.heap n0 Z267 (f269) (f270) (f271) (f272)) (by decide) (by decide) (by decide) (by decide) (g := (mkF m 29 A268 [(.int v180), (.ref s_Operator_DIVIDE)])) rfl (by rw [hml]; rfl) (argsL := [(.int v180)]) (rest := [(.ref s_Operator_DIVIDE)]) rfl (lenOf pd_2 rfl) rfl (by show 2 * 0 + _ ≤ _; exact Nat.le_of_eq rfl) (hb hby at_29)
      rcases hQ273 with hQ273 | hQ273 | hQ273 | hQ273 | hQ273
      · obtain ⟨hc274, rfl, N273, e273⟩ := hQ273
        have N273_ := Fr.app N181_ N273
        exfalso
        have rv1 := rng32 v1
        have wv1 := c_and p0 (8 : Int32) (by decide)
        rw [← hv1] at wv1
        have rv179 := rng32 v179
        have wv179 := c_iushr p0 (4 : Int32) 4 (by decide) (by decide)
        rw [← hv179] at wv179
        have rv180 := rng32 v180
        have wv180 := c_i2c v179
        rw [← hv180] at wv180
        have rp0 := rng32 p0
        have lI0 : (0 : Int32).toInt = 0 := by decide
        have lI4 : (4 : Int32).toInt = 4 := by decide
        have lI8 : (8 : Int32).toInt = 8 := by decide
        have lI42 : (42 : Int32).toInt = 42 := by decide
        have lI43 : (43 : Int32).toInt = 43 := by decide
        have lI45 : (45 : Int32).toInt = 45 := by decide
        have lI47 : (47 : Int32).toInt = 47 := by decide
        simp only [Int32.lt_iff_toInt_lt, Int64.lt_iff_toInt_lt, ← Int32.toInt_inj, ← Int64.toInt_inj] at hc12 hc261 hc262 hc263 hc264 hc274
        omega
      · obtain ⟨hc275, hc276, rfl, N273, e273⟩ := hQ273
        have N273_ := Fr.app N181_ N273
        exfalso
        have rv1 := rng32 v1
        have wv1 := c_and p0 (8 : Int32) (by decide)
        rw [← hv1] at wv1
        have rv179 := rng32 v179
        have wv179 := c_iushr p0 (4 : Int32) 4 (by decide) (by decide)
        rw [← hv179] at wv179
        have rv180 := rng32 v180
        have wv180 := c_i2c v179
        rw [← hv180] at wv180
        have rp0 := rng32 p0
        have lI0 : (0 : Int32).toInt = 0 := by decide
        have lI4 : (4 : Int32).toInt = 4 := by decide
        have lI8 : (8 : Int32).toInt = 8 := by decide
        have lI42 : (42 : Int32).toInt = 42 := by decide
        have lI43 : (43 : Int32).toInt = 43 := by decide
        have lI45 : (45 : Int32).toInt = 45 := by decide
        have lI47 : (47 : Int32).toInt = 47 := by decide
        simp only [Int32.lt_iff_toInt_lt, Int64.lt_iff_toInt_lt, ← Int32.toInt_inj, ← Int64.toInt_inj] at hc12 hc261 hc262 hc263 hc264 hc275 hc276
        omega
      · obtain ⟨hc277, hc278, hc279, rfl, N273, e273⟩ := hQ273
        have N273_ := Fr.app N181_ N273
        exfalso
        have rv1 := rng32 v1
        have wv1 := c_and p0 (8 : Int32) (by decide)
        rw [← hv1] at wv1
        have rv179 := rng32 v179
        have wv179 := c_iushr p0 (4 : Int32) 4 (by decide) (by decide)
        rw [← hv179] at wv179
        have rv180 := rng32 v180
        have wv180 := c_i2c v179
        rw [← hv180] at wv180
        have rp0 := rng32 p0
        have lI0 : (0 : Int32).toInt = 0 := by decide
        have lI4 : (4 : Int32).toInt = 4 := by decide
        have lI8 : (8 : Int32).toInt = 8 := by decide
        have lI42 : (42 : Int32).toInt = 42 := by decide
        have lI43 : (43 : Int32).toInt = 43 := by decide
        have lI45 : (45 : Int32).toInt = 45 := by decide
        have lI47 : (47 : Int32).toInt = 47 := by decide
        simp only [Int32.lt_iff_toInt_lt, Int64.lt_iff_toInt_lt, ← Int32.toInt_inj, ← Int64.toInt_inj] at hc12 hc261 hc262 hc263 hc264 hc277 hc278 hc279
        omega
      · obtain ⟨hc280, hc281, hc282, hc283, rfl, N273, e273⟩ := hQ273
        have N273_ := Fr.app N181_ N273
        refine Go.st (S' := T273.setTop (mkF m 32 A268 [(.ref s_Operator_DIVIDE), (.ref s_Operator_DIVIDE)])) st273 ?_
        refine Go.st (S' := T273.setTop (mkF m 35 A268 [])) (fun t k => acmp X273 hx rfl rfl rfl (pc0 := 32) (pc' := 35) (same := true) rfl (hb hby at_32) rfl (by simp) (by decide) (by decide) k) ?_
        refine Go.st (S' := T273.setTop (mkF m 36 A268 [(.int (1 : Int32))])) (fun t k => XS.iconst X273.here hx rfl (hb hby at_35) k) ?_
        refine Go.st (S' := T273.setTop (mkF m 40 A268 [(.int (1 : Int32))])) (fun t k => XS.goto X273.here hx rfl (pc0 := 36) (pc' := 40) rfl (hb hby at_36) (by decide) (by decide) k) ?_
        exact Go.ret X273 (v := some (.int (1 : Int32))) (fun h => by rw [Bd.returns] at h; cases h) Bd.notSynchronized (fun fs hr => retN X273 hx (t := .boolean) Bd.returns (by simp) (hb hby at_40) hr) (by decide) (by decide) ⟨rfl, N273_⟩
      · obtain ⟨hc284, hc285, hc286, hc287, rfl, N273, e273⟩ := hQ273
        have N273_ := Fr.app N181_ N273
        exfalso
        have rv1 := rng32 v1
        have wv1 := c_and p0 (8 : Int32) (by decide)
        rw [← hv1] at wv1
        have rv179 := rng32 v179
        have wv179 := c_iushr p0 (4 : Int32) 4 (by decide) (by decide)
        rw [← hv179] at wv179
        have rv180 := rng32 v180
        have wv180 := c_i2c v179
        rw [← hv180] at wv180
        have rp0 := rng32 p0
        have lI0 : (0 : Int32).toInt = 0 := by decide
        have lI4 : (4 : Int32).toInt = 4 := by decide
        have lI8 : (8 : Int32).toInt = 8 := by decide
        have lI42 : (42 : Int32).toInt = 42 := by decide
        have lI43 : (43 : Int32).toInt = 43 := by decide
        have lI45 : (45 : Int32).toInt = 45 := by decide
        have lI47 : (47 : Int32).toInt = 47 := by decide
        simp only [Int32.lt_iff_toInt_lt, Int64.lt_iff_toInt_lt, ← Int32.toInt_inj, ← Int64.toInt_inj] at hc12 hc261 hc262 hc263 hc264 hc284 hc285 hc286 hc287
        omega
    · obtain ⟨b288, hc289, hc290, hc291, hc292, rfl, N181, K181_, sz_b288_, f293, f294⟩ := hQ181
      have N181_ := Fr.app N0 N181
      have g_b288 : n0 ≤ b288 := Nat.le_trans Z0 sz_b288_
      have sz_b288 : h0.size ≤ b288 := Nat.le_trans (Keep.refl h0 []).1 sz_b288_
      have Z295 : n0 ≤ T181.heap.size := Nat.le_trans Z0 K181_.1
      have K295 : Keep h0 T181.heap [] := (Keep.refl h0 []).trans K181_ all0
      refine Go.st (S' := T181.setTop (mkF m 26 #[.val (.int p0), .val (.int v180), .unset] [.null])) st181 ?_
      refine Go.st (S' := T181.setTop (mkF m 27 #[.val (.int p0), .val (.int v180), .val .null] [])) (fun t k => XS.astoreN X181.here hx rfl (hb hby at_26) rfl rfl (l' := #[.val (.int p0), .val (.int v180), .val .null]) rfl k) ?_
      refine Go.st (S' := T181.setTop (mkF m 28 #[.val (.int p0), .val (.int v180), .val .null] [.null])) (fun t k => XS.aloadN X181.here hx rfl (hb hby at_27) rfl rfl k) ?_
      refine Go.st (S' := T181.setTop (mkF m 29 #[.val (.int p0), .val (.int v180), .val .null] [(.int v180), .null])) (fun t k => XS.iloadN X181.here hx rfl (hb hby at_28) rfl k) ?_
      have f296 := (own_sta_keep (S_s_Operator_ADD) K181_ all0)
      have f297 := (own_sta_keep (S_s_Operator_SUBTRACT) K181_ all0)
      have f298 := (own_sta_keep (S_s_Operator_MULTIPLY) K181_ all0)
      have f299 := (own_sta_keep (S_s_Operator_DIVIDE) K181_ all0)
      obtain ⟨r300, T300, L300, X300, hQ300, st300⟩ := own_callS (W := 1) X181 hx hZ rfl hown (y := (⟨"com/example/signbound/signbound/expr/OperatorBySymbolPinLaw", "expected", "(C)Lcom/example/signbound/signbound/expr/Operator;"⟩ : MethodName)) (hw _ (List.mem_of_getElem? (i := 29) rfl)) (hw _ (List.mem_of_getElem? (i := 30) rfl)) (hw _ (List.mem_of_getElem? (i := 2) rfl)) (hw _ (List.mem_of_getElem? (i := 31) rfl)) (by decide) (rm4 l Z a0 hw [] v180 s_Operator_ADD s_Operator_SUBTRACT s_Operator_MULTIPLY s_Operator_DIVIDE T181.heap n0 Z295 (f296) (f297) (f298) (f299)) (by decide) (by decide) (by decide) (by decide) (g := (mkF m 29 #[.val (.int p0), .val (.int v180), .val .null] [(.int v180), .null])) rfl (by rw [hml]; rfl) (argsL := [(.int v180)]) (rest := [.null]) rfl (lenOf pd_2 rfl) rfl (by show 2 * 0 + _ ≤ _; exact Nat.le_of_eq rfl) (hb hby at_29)
      rcases hQ300 with hQ300 | hQ300 | hQ300 | hQ300 | hQ300
      · obtain ⟨hc301, rfl, N300, e300⟩ := hQ300
        have N300_ := Fr.app N181_ N300
        exfalso
        have rv1 := rng32 v1
        have wv1 := c_and p0 (8 : Int32) (by decide)
        rw [← hv1] at wv1
        have rv179 := rng32 v179
        have wv179 := c_iushr p0 (4 : Int32) 4 (by decide) (by decide)
        rw [← hv179] at wv179
        have rv180 := rng32 v180
        have wv180 := c_i2c v179
        rw [← hv180] at wv180
        have rp0 := rng32 p0
        have lI0 : (0 : Int32).toInt = 0 := by decide
        have lI4 : (4 : Int32).toInt = 4 := by decide
        have lI8 : (8 : Int32).toInt = 8 := by decide
        have lI42 : (42 : Int32).toInt = 42 := by decide
        have lI43 : (43 : Int32).toInt = 43 := by decide
        have lI45 : (45 : Int32).toInt = 45 := by decide
        have lI47 : (47 : Int32).toInt = 47 := by decide
        simp only [Int32.lt_iff_toInt_lt, Int64.lt_iff_toInt_lt, ← Int32.toInt_inj, ← Int64.toInt_inj] at hc12 hc289 hc290 hc291 hc292 hc301
        omega
      · obtain ⟨hc302, hc303, rfl, N300, e300⟩ := hQ300
        have N300_ := Fr.app N181_ N300
        exfalso
        have rv1 := rng32 v1
        have wv1 := c_and p0 (8 : Int32) (by decide)
        rw [← hv1] at wv1
        have rv179 := rng32 v179
        have wv179 := c_iushr p0 (4 : Int32) 4 (by decide) (by decide)
        rw [← hv179] at wv179
        have rv180 := rng32 v180
        have wv180 := c_i2c v179
        rw [← hv180] at wv180
        have rp0 := rng32 p0
        have lI0 : (0 : Int32).toInt = 0 := by decide
        have lI4 : (4 : Int32).toInt = 4 := by decide
        have lI8 : (8 : Int32).toInt = 8 := by decide
        have lI42 : (42 : Int32).toInt = 42 := by decide
        have lI43 : (43 : Int32).toInt = 43 := by decide
        have lI45 : (45 : Int32).toInt = 45 := by decide
        have lI47 : (47 : Int32).toInt = 47 := by decide
        simp only [Int32.lt_iff_toInt_lt, Int64.lt_iff_toInt_lt, ← Int32.toInt_inj, ← Int64.toInt_inj] at hc12 hc289 hc290 hc291 hc292 hc302 hc303
        omega
      · obtain ⟨hc304, hc305, hc306, rfl, N300, e300⟩ := hQ300
        have N300_ := Fr.app N181_ N300
        exfalso
        have rv1 := rng32 v1
        have wv1 := c_and p0 (8 : Int32) (by decide)
        rw [← hv1] at wv1
        have rv179 := rng32 v179
        have wv179 := c_iushr p0 (4 : Int32) 4 (by decide) (by decide)
        rw [← hv179] at wv179
        have rv180 := rng32 v180
        have wv180 := c_i2c v179
        rw [← hv180] at wv180
        have rp0 := rng32 p0
        have lI0 : (0 : Int32).toInt = 0 := by decide
        have lI4 : (4 : Int32).toInt = 4 := by decide
        have lI8 : (8 : Int32).toInt = 8 := by decide
        have lI42 : (42 : Int32).toInt = 42 := by decide
        have lI43 : (43 : Int32).toInt = 43 := by decide
        have lI45 : (45 : Int32).toInt = 45 := by decide
        have lI47 : (47 : Int32).toInt = 47 := by decide
        simp only [Int32.lt_iff_toInt_lt, Int64.lt_iff_toInt_lt, ← Int32.toInt_inj, ← Int64.toInt_inj] at hc12 hc289 hc290 hc291 hc292 hc304 hc305 hc306
        omega
      · obtain ⟨hc307, hc308, hc309, hc310, rfl, N300, e300⟩ := hQ300
        have N300_ := Fr.app N181_ N300
        exfalso
        have rv1 := rng32 v1
        have wv1 := c_and p0 (8 : Int32) (by decide)
        rw [← hv1] at wv1
        have rv179 := rng32 v179
        have wv179 := c_iushr p0 (4 : Int32) 4 (by decide) (by decide)
        rw [← hv179] at wv179
        have rv180 := rng32 v180
        have wv180 := c_i2c v179
        rw [← hv180] at wv180
        have rp0 := rng32 p0
        have lI0 : (0 : Int32).toInt = 0 := by decide
        have lI4 : (4 : Int32).toInt = 4 := by decide
        have lI8 : (8 : Int32).toInt = 8 := by decide
        have lI42 : (42 : Int32).toInt = 42 := by decide
        have lI43 : (43 : Int32).toInt = 43 := by decide
        have lI45 : (45 : Int32).toInt = 45 := by decide
        have lI47 : (47 : Int32).toInt = 47 := by decide
        simp only [Int32.lt_iff_toInt_lt, Int64.lt_iff_toInt_lt, ← Int32.toInt_inj, ← Int64.toInt_inj] at hc12 hc289 hc290 hc291 hc292 hc307 hc308 hc309 hc310
        omega
      · obtain ⟨hc311, hc312, hc313, hc314, rfl, N300, e300⟩ := hQ300
        have N300_ := Fr.app N181_ N300
        refine Go.st (S' := T300.setTop (mkF m 32 #[.val (.int p0), .val (.int v180), .val .null] [.null, .null])) st300 ?_
        refine Go.st (S' := T300.setTop (mkF m 35 #[.val (.int p0), .val (.int v180), .val .null] [])) (fun t k => acmp X300 hx rfl rfl rfl (pc0 := 32) (pc' := 35) (same := true) rfl (hb hby at_32) rfl (by simp) (by decide) (by decide) k) ?_
        refine Go.st (S' := T300.setTop (mkF m 36 #[.val (.int p0), .val (.int v180), .val .null] [(.int (1 : Int32))])) (fun t k => XS.iconst X300.here hx rfl (hb hby at_35) k) ?_
        refine Go.st (S' := T300.setTop (mkF m 40 #[.val (.int p0), .val (.int v180), .val .null] [(.int (1 : Int32))])) (fun t k => XS.goto X300.here hx rfl (pc0 := 36) (pc' := 40) rfl (hb hby at_36) (by decide) (by decide) k) ?_
        exact Go.ret X300 (v := some (.int (1 : Int32))) (fun h => by rw [Bd.returns] at h; cases h) Bd.notSynchronized (fun fs hr => retN X300 hx (t := .boolean) Bd.returns (by simp) (hb hby at_40) hr) (by decide) (by decide) ⟨rfl, N300_⟩
set_option maxRecDepth 65536 in
set_option maxHeartbeats 40000000 in
theorem comes_1 {Post : Tables → Env → Array Value → State → Outcome → State → Prop} (hpost : ∀ tb e args s v u, (limb_1_1.after args s (.returned v) u = true ∧ limb_1_2.after args s (.returned v) u = true ∧ True) → FrameEnd s (.returned v) u (Jvm.fieldLocs frame_1_writes args s ++ Jvm.arrayLocs frame_1_arrays args s ++ Jvm.staticLocs frame_1_statics s) 16 128 → Post tb e args s (.returned v) u) :
    ArmFor flags0 classFile x code maxLocals ret World_1 tables_1 room_1 Calls_1 rest_1 Pre_1 Post := by
  intro l hfl _ _ p e ha hc hk s m args below hf hA hF happ hP
  obtain ⟨hcalls, hrest, hpre⟩ := hP
  obtain ⟨-, -, -, hnamed, -, -, -, hat⟩ := (Spec.applies_iff hf).mp happ
  obtain ⟨hg, hn⟩ := and_e (Cond.before_iff.mp (show (Jvm.Cond.and given_1 narrow_1).before args s = true from hpre))
  obtain ⟨h1, h2⟩ := and_e hg
  obtain ⟨w0, rfl⟩ : ∃ w0 : Value, args = #[w0] := by
    have hs : args.size = 1 := by simpa [Cond.value, given_1] using h1
    obtain ⟨L⟩ := args
    match L, hs with
    | [w0], _ => exact ⟨w0, rfl⟩
  have hw := fun d (hd : d ∈ tables_1) => atoms_spec (ws := Jvm.Cond.code x code maxLocals ret :: tables_1) hat d (List.mem_cons_of_mem _ hd)
  have hfit : Fit s := fun {y c} hc i hi => by
    obtain ⟨ha, rfl⟩ := Array.getElem?_eq_some_iff.mp hc
    have q := List.all_eq_true.mp ((Array.all_eq_true_iff_forall_mem.mp hF) _ (Array.getElem_mem ha)) i (List.mem_range.mpr hi)
    simpa [Array.getElem?_eq_getElem hi] using q
  obtain ⟨i0, ee0⟩ := is_v h2
  obtain rfl : w0 = (.int i0) := Option.some.inj ee0
  obtain ⟨n0, hn0⟩ := and_e hn
  obtain ⟨n1, hn1⟩ := and_e hn0
  obtain ⟨n2, hn2⟩ := and_e hn1
  obtain ⟨n3, hn3⟩ := and_e hn2
  obtain ⟨n4, hn4⟩ := and_e hn3
  obtain ⟨n5, hn5⟩ := and_e hn4
  obtain ⟨n6, hn6⟩ := and_e hn5
  obtain ⟨n7, hn7⟩ := and_e hn6
  obtain ⟨n8, hn8⟩ := and_e hn7
  obtain ⟨n9, hn9⟩ := and_e hn8
  obtain ⟨n10, hn10⟩ := and_e hn9
  obtain ⟨n11, hn11⟩ := and_e hn10
  obtain ⟨n12, hn12⟩ := and_e hn11
  obtain ⟨n13, hn13⟩ := and_e hn12
  obtain ⟨s_Operator__VALUES, ev_s_Operator__VALUES⟩ := arr_v n0
  obtain ⟨s_Operator_ADD, ev_s_Operator_ADD⟩ := exa_v n3
  obtain ⟨s_Operator_SUBTRACT, ev_s_Operator_SUBTRACT⟩ := exa_v n5
  obtain ⟨s_Operator_MULTIPLY, ev_s_Operator_MULTIPLY⟩ := exa_v n7
  obtain ⟨s_Operator_DIVIDE, ev_s_Operator_DIVIDE⟩ := exa_v n9
  obtain ⟨cl_s_Operator__VALUES, Ar_s_Operator__VALUES⟩ := Arr.start ev_s_Operator__VALUES n0
  have E_s_Operator__VALUES : Exa s s.heap s_Operator__VALUES "[Lcom/example/signbound/signbound/expr/Operator;" := Exa.start ev_s_Operator__VALUES n1
  have E_s_Operator_ADD : Exa s s.heap s_Operator_ADD "com/example/signbound/signbound/expr/Operator" := Exa.start ev_s_Operator_ADD n3
  have E_s_Operator_SUBTRACT : Exa s s.heap s_Operator_SUBTRACT "com/example/signbound/signbound/expr/Operator" := Exa.start ev_s_Operator_SUBTRACT n5
  have E_s_Operator_MULTIPLY : Exa s s.heap s_Operator_MULTIPLY "com/example/signbound/signbound/expr/Operator" := Exa.start ev_s_Operator_MULTIPLY n7
  have E_s_Operator_DIVIDE : Exa s s.heap s_Operator_DIVIDE "com/example/signbound/signbound/expr/Operator" := Exa.start ev_s_Operator_DIVIDE n9
  have F_s_Operator_ADD_symbol : Fld s s.heap s_Operator_ADD "com/example/signbound/signbound/expr/Operator" "symbol" "C" (.int (43 : Int32)) := own_fld ev_s_Operator_ADD (own_eq_int n11)
  have F_s_Operator_SUBTRACT_symbol : Fld s s.heap s_Operator_SUBTRACT "com/example/signbound/signbound/expr/Operator" "symbol" "C" (.int (45 : Int32)) := own_fld ev_s_Operator_SUBTRACT (own_eq_int n12)
  have F_s_Operator_MULTIPLY_symbol : Fld s s.heap s_Operator_MULTIPLY "com/example/signbound/signbound/expr/Operator" "symbol" "C" (.int (42 : Int32)) := own_fld ev_s_Operator_MULTIPLY (own_eq_int n13)
  have F_s_Operator_DIVIDE_symbol : Fld s s.heap s_Operator_DIVIDE "com/example/signbound/signbound/expr/Operator" "symbol" "C" (.int (47 : Int32)) := own_fld ev_s_Operator_DIVIDE (own_eq_int hn13)
  obtain ⟨lq_s_Operator__VALUES, le_s_Operator__VALUES⟩ := own_len ev_s_Operator__VALUES Ar_s_Operator__VALUES (own_eq_int n2)
  have V_s_Operator__VALUES : Arv s s.heap s_Operator__VALUES cl_s_Operator__VALUES.cls (.object "com/example/signbound/signbound/expr/Operator") (4 : Int32) [(.ref s_Operator_ADD), (.ref s_Operator_SUBTRACT), (.ref s_Operator_MULTIPLY), (.ref s_Operator_DIVIDE)] .null := Arv.start hfit Ar_s_Operator__VALUES lq_s_Operator__VALUES le_s_Operator__VALUES (by decide) rfl ⟨(own_slot ev_s_Operator__VALUES Ar_s_Operator__VALUES (own_eq_ref n4 ev_s_Operator_ADD)), (own_slot ev_s_Operator__VALUES Ar_s_Operator__VALUES (own_eq_ref n6 ev_s_Operator_SUBTRACT)), (own_slot ev_s_Operator__VALUES Ar_s_Operator__VALUES (own_eq_ref n8 ev_s_Operator_MULTIPLY)), (own_slot ev_s_Operator__VALUES Ar_s_Operator__VALUES (own_eq_ref n10 ev_s_Operator_DIVIDE)), trivial⟩
  obtain ⟨n, o, h1, h2, h3, _, L, rfl, ⟨rfl, N⟩, hq⟩ := rm5 l s _ hw tables_1 i0 s_Operator__VALUES cl_s_Operator__VALUES.cls s_Operator_ADD s_Operator_SUBTRACT s_Operator_MULTIPLY s_Operator_DIVIDE s.heap s.heap.size (Nat.le_refl _) (Sta.start ev_s_Operator__VALUES (Or.inr ⟨(hw _ (List.mem_of_getElem? (i := 6) rfl)), (hw _ (List.mem_of_getElem? (i := 12) rfl))⟩)) V_s_Operator__VALUES E_s_Operator__VALUES F_s_Operator_ADD_symbol F_s_Operator_SUBTRACT_symbol F_s_Operator_MULTIPLY_symbol F_s_Operator_DIVIDE_symbol (Sta.start ev_s_Operator_ADD (Or.inr ⟨(hw _ (List.mem_of_getElem? (i := 6) rfl)), (hw _ (List.mem_of_getElem? (i := 20) rfl))⟩)) (Sta.start ev_s_Operator_SUBTRACT (Or.inr ⟨(hw _ (List.mem_of_getElem? (i := 6) rfl)), (hw _ (List.mem_of_getElem? (i := 21) rfl))⟩)) (Sta.start ev_s_Operator_MULTIPLY (Or.inr ⟨(hw _ (List.mem_of_getElem? (i := 6) rfl)), (hw _ (List.mem_of_getElem? (i := 22) rfl))⟩)) (Sta.start ev_s_Operator_DIVIDE (Or.inr ⟨(hw _ (List.mem_of_getElem? (i := 6) rfl)), (hw _ (List.mem_of_getElem? (i := 23) rfl))⟩)) p e ha hc hk s m _ below hf ((Spec.applies_iff_loose hf).mp happ).1 ⟨rfl, State.Warmed39.refl s, rfl⟩ trivial
  refine ⟨n, _, h1, h2, h3, hpost _ _ _ _ _ _ ⟨Cond.after_iff.mpr rfl, Cond.after_iff.mpr (eq_i res_at (Term.int_eval (1)) rfl), trivial⟩ ⟨hq.1, hq.2.1, (hq.2.2.sift fun y hy => Or.inr (N y hy)).mono (by decide) (by decide)⟩⟩
theorem main_1_1 : Claimed_1_1 := comes_1 fun _ _ _ _ _ _ h hF => ⟨h.1, hF⟩
theorem main_1_2 : Claimed_1_2 := comes_1 fun _ _ _ _ _ _ h hF => ⟨h.2.1, hF⟩
end Jvm.Pilot.@@N@@
namespace Jvm.Pilot.@@N@@
open Jvm Jvm.ClassFile Sem Op Lib Jvm.Free Jvm.Stand Jvm.Pilot.@@N@@.Jvm.D
/-! MADE BY PROGRAM (witnessworld.py) out of the Statement's table words and the real class files: 13 classes; the members and pool entries that the words name. The judged class is class 1, her method 3. -/
namespace start1
open Jvm.ClassFile
def u (s : String) : CpInfo := .utf8 (stringToUtf16 s)
/-- a pool by its gaps: so many unusable entries, then the entry; so many at the end -/
def gap : Nat → List CpInfo → List CpInfo
  | 0, r => r
  | n + 1, r => .unusable :: gap n r
def poolList (es : List (Nat × CpInfo)) (last : Nat) : List CpInfo := es.foldr (fun e r => gap e.1 (e.2 :: r)) (gap last [])
def pool (es : List (Nat × CpInfo)) (last : Nat) : Array CpInfo := ⟨poolList es last⟩
def fileOf (pool : Array CpInfo) (this : Nat) (attrs : Array Attribute := #[]) (ms : Array MethodInfo := #[]) (fl : Nat := 33) (sup : Nat := 0) (ifs : Array Nat := #[]) (fds : Array FieldInfo := #[]) : ClassFile where
  minorVersion := 0
  majorVersion := 65
  constantPool := pool
  accessFlags := fl
  thisClass := this
  superClass := sup
  interfaces := ifs
  fields := fds
  methods := ms
  attributes := attrs
def plain (name : String) (sup : Option ClassId) : Class where
  name := name
  kind := .ordinary
  loader := none
  accessFlags := 33
  super := sup
  interfaces := #[]
  cf := none
  fields := #[]
  methods := #[]
  instanceTypes := #[]
  staticTypes := #[]
  resolved := #[]
  callSites := []
  init := .initialized
  statics := none
  mirror := none

def pool0 : Array CpInfo := pool [(5, u "<init>"), (0, u "()V"), (1, .class_ 10), (1, u "java/lang/Object"), (85, u "clone"), (0, u "()Ljava/lang/Object;")] 26

def k0m0 : Method := { name := "<init>", desc := "()V", sig := { parameters := [], returnType := none }, accessFlags := 1, code := none }
def k0m1 : Method := { name := "clone", desc := "()Ljava/lang/Object;", sig := { parameters := [], returnType := some (.object "java/lang/Object") }, accessFlags := 260, code := none }
/-- java/lang/Object -/
def k0 : Class := { plain "java/lang/Object" none with
  accessFlags := 33
  interfaces := #[]
  cf := some (fileOf pool0 8 #[] #[{ accessFlags := 1, nameIndex := 5, descriptorIndex := 6, attributes := #[] }, { accessFlags := 260, nameIndex := 96, descriptorIndex := 97, attributes := #[] }] 33 0 #[] #[])
  fields := #[]
  methods := #[k0m0, k0m1]
  instanceTypes := #[]
  staticTypes := #[]
  resolved := Array.replicate 124 none
  statics := none }

def pool1 : Array CpInfo := pool [(2, .class_ 4), (1, u "java/lang/Object"), (0, u "<init>"), (0, u "()V"), (0, .fieldref 8 9), (0, .class_ 10), (0, .nameAndType 11 12), (0, u "com/example/signbound/signbound/expr/Operator"), (0, u "ADD"), (0, u "Lcom/example/signbound/signbound/expr/Operator;"), (0, .fieldref 8 14), (0, .nameAndType 15 12), (0, u "SUBTRACT"), (0, .fieldref 8 17), (0, .nameAndType 18 12), (0, u "MULTIPLY"), (0, .fieldref 8 20), (0, .nameAndType 21 12), (0, u "DIVIDE"), (0, .methodref 23 24), (0, .class_ 25), (0, .nameAndType 26 27), (0, u "com/example/signbound/signbound/expr/OperatorBySymbolPinLaw"), (0, u "drawSymbol"), (0, u "(I)C"), (0, .methodref 8 29), (0, .nameAndType 30 31), (0, u "bySymbol"), (0, u "(C)Lcom/example/signbound/signbound/expr/Operator;"), (0, .methodref 23 33), (0, .nameAndType 34 31), (0, u "expected"), (3, u "law"), (0, u "(I)Z")] 2

def k1m0 : Method := { name := "<init>", desc := "()V", sig := { parameters := [], returnType := none }, accessFlags := 2, code := none }
def k1c1 : Code := { maxStack := 2, maxLocals := 1, code := method_2_code, exceptionTable := #[], attributes := #[] }
def k1m1 : Method := { name := "drawSymbol", desc := "(I)C", sig := { parameters := [.int], returnType := some .char }, accessFlags := 10, code := some k1c1 }
def k1c2 : Code := { maxStack := 2, maxLocals := 1, code := method_3_code, exceptionTable := #[], attributes := #[] }
def k1m2 : Method := { name := "expected", desc := "(C)Lcom/example/signbound/signbound/expr/Operator;", sig := { parameters := [.char], returnType := some (.object "com/example/signbound/signbound/expr/Operator") }, accessFlags := 10, code := some k1c2 }
def k1c3 : Code := { maxStack := 2, maxLocals := 3, code := code, exceptionTable := #[], attributes := #[] }
def k1m3 : Method := { name := "law", desc := "(I)Z", sig := { parameters := [.int], returnType := some .boolean }, accessFlags := 9, code := some k1c3 }
/-- com/example/signbound/signbound/expr/OperatorBySymbolPinLaw -/
def k1 : Class := { plain "com/example/signbound/signbound/expr/OperatorBySymbolPinLaw" (some 0) with
  accessFlags := 49
  interfaces := #[]
  cf := some (fileOf pool1 23 #[] #[{ accessFlags := 2, nameIndex := 5, descriptorIndex := 6, attributes := #[] }, { accessFlags := 10, nameIndex := 26, descriptorIndex := 27, attributes := #[] }, { accessFlags := 10, nameIndex := 34, descriptorIndex := 31, attributes := #[] }, { accessFlags := 9, nameIndex := 38, descriptorIndex := 39, attributes := #[] }] 49 2 #[] #[])
  fields := #[]
  methods := #[k1m0, k1m1, k1m2, k1m3]
  instanceTypes := #[]
  staticTypes := #[]
  resolved := Array.replicate 42 none
  statics := none }

def pool2 : Array CpInfo := pool [(1, .class_ 2), (0, u "java/lang/constant/Constable"), (0, .class_ 4), (0, u "java/lang/Object")] 6

/-- java/lang/constant/Constable -/
def k2 : Class := { plain "java/lang/constant/Constable" (some 0) with
  accessFlags := 1537
  interfaces := #[]
  cf := some (fileOf pool2 1 #[] #[] 1537 3 #[] #[])
  fields := #[]
  methods := #[]
  instanceTypes := #[]
  staticTypes := #[]
  resolved := Array.replicate 11 none
  statics := none }

def pool3 : Array CpInfo := pool [(1, .class_ 2), (0, u "java/lang/Comparable"), (0, .class_ 4), (0, u "java/lang/Object")] 7

/-- java/lang/Comparable -/
def k3 : Class := { plain "java/lang/Comparable" (some 0) with
  accessFlags := 1537
  interfaces := #[]
  cf := some (fileOf pool3 1 #[] #[] 1537 3 #[] #[])
  fields := #[]
  methods := #[]
  instanceTypes := #[]
  staticTypes := #[]
  resolved := Array.replicate 12 none
  statics := none }

def pool4 : Array CpInfo := pool [(1, .class_ 2), (0, u "java/io/Serializable"), (0, .class_ 4), (0, u "java/lang/Object")] 2

/-- java/io/Serializable -/
def k4 : Class := { plain "java/io/Serializable" (some 0) with
  accessFlags := 1537
  interfaces := #[]
  cf := some (fileOf pool4 1 #[] #[] 1537 3 #[] #[])
  fields := #[]
  methods := #[]
  instanceTypes := #[]
  staticTypes := #[]
  resolved := Array.replicate 7 none
  statics := none }

def pool5 : Array CpInfo := pool [(2, .class_ 4), (1, u "java/lang/Enum"), (0, u "name"), (0, u "Ljava/lang/String;"), (2, u "ordinal"), (0, u "I"), (1, .class_ 14), (1, u "java/lang/Object"), (4, u "hash"), (86, .class_ 108), (1, u "java/lang/Enum$EnumDesc"), (2, .class_ 112), (0, u "java/lang/constant/Constable"), (0, .class_ 114), (0, u "java/lang/Comparable"), (0, .class_ 116), (0, u "java/io/Serializable")] 87

/-- java/lang/Enum -/
def k5 : Class := { plain "java/lang/Enum" (some 0) with
  accessFlags := 1057
  interfaces := #[2, 3, 4]
  cf := some (fileOf pool5 2 #[.nestMembers #[106]] #[] 1057 12 #[111, 113, 115] #[{ accessFlags := 18, nameIndex := 5, descriptorIndex := 6, attributes := #[] }, { accessFlags := 18, nameIndex := 9, descriptorIndex := 10, attributes := #[] }, { accessFlags := 2, nameIndex := 19, descriptorIndex := 10, attributes := #[] }])
  fields := #[{ name := "name", type := (.object "java/lang/String"), accessFlags := 18, slot := 0, constantValue := 0 }, { name := "ordinal", type := .int, accessFlags := 18, slot := 1, constantValue := 0 }, { name := "hash", type := .int, accessFlags := 2, slot := 2, constantValue := 0 }]
  methods := #[]
  instanceTypes := #[(.object "java/lang/String"), .int, .int]
  staticTypes := #[]
  resolved := Array.replicate 204 none
  statics := none }

def pool6 : Array CpInfo := pool [(1, .class_ 2), (0, u "com/example/signbound/signbound/expr/Operator"), (2, u "ADD"), (0, u "Lcom/example/signbound/signbound/expr/Operator;"), (2, u "SUBTRACT"), (2, u "MULTIPLY"), (2, u "DIVIDE"), (0, .fieldref 1 17), (0, .nameAndType 18 19), (0, u "$VALUES"), (0, u "[Lcom/example/signbound/signbound/expr/Operator;"), (0, .methodref 21 22), (0, .class_ 19), (0, .nameAndType 23 24), (0, u "clone"), (0, u "()Ljava/lang/Object;"), (1, .class_ 28), (1, u "java/lang/Enum"), (6, .fieldref 1 36), (0, .nameAndType 37 38), (0, u "symbol"), (0, u "C"), (2, u "precedence"), (0, u "I"), (0, .methodref 1 44), (0, .nameAndType 45 46), (0, u "values"), (0, u "()[Lcom/example/signbound/signbound/expr/Operator;"), (20, u "bySymbol"), (0, u "(C)Lcom/example/signbound/signbound/expr/Operator;")] 6

def k6c0 : Code := { maxStack := 1, maxLocals := 0, code := prog_43_method_1_code, exceptionTable := #[], attributes := #[] }
def k6m0 : Method := { name := "values", desc := "()[Lcom/example/signbound/signbound/expr/Operator;", sig := { parameters := [], returnType := some (.array (.object "com/example/signbound/signbound/expr/Operator")) }, accessFlags := 9, code := some k6c0 }
def k6c1 : Code := { maxStack := 2, maxLocals := 5, code := prog_43_method_6_code, exceptionTable := #[], attributes := #[] }
def k6m1 : Method := { name := "bySymbol", desc := "(C)Lcom/example/signbound/signbound/expr/Operator;", sig := { parameters := [.char], returnType := some (.object "com/example/signbound/signbound/expr/Operator") }, accessFlags := 9, code := some k6c1 }
/-- com/example/signbound/signbound/expr/Operator -/
def k6 : Class := { plain "com/example/signbound/signbound/expr/Operator" (some 5) with
  accessFlags := 16433
  interfaces := #[]
  cf := some (fileOf pool6 1 #[] #[{ accessFlags := 9, nameIndex := 45, descriptorIndex := 46, attributes := #[] }, { accessFlags := 9, nameIndex := 67, descriptorIndex := 68, attributes := #[] }] 16433 26 #[] #[{ accessFlags := 16409, nameIndex := 5, descriptorIndex := 6, attributes := #[] }, { accessFlags := 16409, nameIndex := 9, descriptorIndex := 6, attributes := #[] }, { accessFlags := 16409, nameIndex := 12, descriptorIndex := 6, attributes := #[] }, { accessFlags := 16409, nameIndex := 15, descriptorIndex := 6, attributes := #[] }, { accessFlags := 18, nameIndex := 37, descriptorIndex := 38, attributes := #[] }, { accessFlags := 18, nameIndex := 41, descriptorIndex := 42, attributes := #[] }, { accessFlags := 4122, nameIndex := 18, descriptorIndex := 19, attributes := #[] }])
  fields := #[{ name := "ADD", type := (.object "com/example/signbound/signbound/expr/Operator"), accessFlags := 16409, slot := 0, constantValue := 0 }, { name := "SUBTRACT", type := (.object "com/example/signbound/signbound/expr/Operator"), accessFlags := 16409, slot := 1, constantValue := 0 }, { name := "MULTIPLY", type := (.object "com/example/signbound/signbound/expr/Operator"), accessFlags := 16409, slot := 2, constantValue := 0 }, { name := "DIVIDE", type := (.object "com/example/signbound/signbound/expr/Operator"), accessFlags := 16409, slot := 3, constantValue := 0 }, { name := "symbol", type := .char, accessFlags := 18, slot := 3, constantValue := 0 }, { name := "precedence", type := .int, accessFlags := 18, slot := 4, constantValue := 0 }, { name := "$VALUES", type := (.array (.object "com/example/signbound/signbound/expr/Operator")), accessFlags := 4122, slot := 4, constantValue := 0 }]
  methods := #[k6m0, k6m1]
  instanceTypes := #[(.object "java/lang/String"), .int, .int, .char, .int]
  staticTypes := #[(.object "com/example/signbound/signbound/expr/Operator"), (.object "com/example/signbound/signbound/expr/Operator"), (.object "com/example/signbound/signbound/expr/Operator"), (.object "com/example/signbound/signbound/expr/Operator"), (.array (.object "com/example/signbound/signbound/expr/Operator"))]
  resolved := Array.replicate 75 none
  statics := some 0 }

def pool7 : Array CpInfo := pool [(1, .class_ 2), (0, u "java/lang/Cloneable"), (0, .class_ 4), (0, u "java/lang/Object")] 2

/-- java/lang/Cloneable -/
def k7 : Class := { plain "java/lang/Cloneable" (some 0) with
  accessFlags := 1537
  interfaces := #[]
  cf := some (fileOf pool7 1 #[] #[] 1537 3 #[] #[])
  fields := #[]
  methods := #[]
  instanceTypes := #[]
  staticTypes := #[]
  resolved := Array.replicate 7 none
  statics := none }

/-- the primitive byte -/
def k8 : Class := { plain "byte" none with kind := .primitive 'B', accessFlags := 0x411 }
/-- [B -/
def k9 : Class := { plain "[B" (some 0) with kind := .array 8 .byte, interfaces := #[7, 4], accessFlags := 1041 }

/-- the primitive int -/
def k10 : Class := { plain "int" none with kind := .primitive 'I', accessFlags := 0x411 }
/-- [I -/
def k11 : Class := { plain "[I" (some 0) with kind := .array 10 .int, interfaces := #[7, 4], accessFlags := 1041 }

/-- [Lcom/example/signbound/signbound/expr/Operator; -/
def k12 : Class := { plain "[Lcom/example/signbound/signbound/expr/Operator;" (some 0) with kind := .array 6 (.object "com/example/signbound/signbound/expr/Operator"), interfaces := #[7, 4], accessFlags := 1041 }

def heap : Heap := #[{ cls := 6, slots := #[.ref 2, .ref 3, .ref 4, .ref 5, .ref 1], vm := .statics 6 },
  { cls := 12, slots := #[.ref 2, .ref 3, .ref 4, .ref 5], vm := .none },
  { cls := 6, slots := #[.null, .int 0, .int 0, .int 43, .int 0], vm := .none },
  { cls := 6, slots := #[.null, .int 1, .int 0, .int 45, .int 0], vm := .none },
  { cls := 6, slots := #[.null, .int 2, .int 0, .int 42, .int 0], vm := .none },
  { cls := 6, slots := #[.null, .int 3, .int 0, .int 47, .int 0], vm := .none }]
def classes : Array Class := #[k0, k1, k2, k3, k4, k5, k6, k7, k8, k9, k10, k11, k12]
def interned : List (Array UInt16 × Addr) := []
def slotsUsed : Nat := 29
def theMethod : MethodId := ⟨1, 3⟩
def args0 : Array Value := #[.int 1]
def aboutOver (below : List Frame) : State where
  vm := { classes := classes, interned := interned.toArray }
  heap := heap
  slotsUsed := slotsUsed
  threads := #[{ frames := .invoking theMethod args0 :: below }]
def below0 : List Frame := [.native { method := ⟨0, 0⟩, args := #[] }]
def about1 : State := aboutOver below0
def p0 : Program := .bare "" "" ""
def e0 : Env := launch0.env 0 0 0
theorem w_frames : about1.frames = Frame.invoking theMethod args0 :: below0 := rfl
set_option maxRecDepth 65536 in
theorem w_args : argsFit about1.vm theMethod args0 = true := by decide +kernel
set_option maxRecDepth 65536 in
theorem w_heap : heapFits about1 = true := by decide +kernel
set_option maxRecDepth 65536 in
theorem w_runnable : about1.curStatus? = some .runnable := by decide +kernel
set_option maxRecDepth 65536 in
theorem w_alone : about1.alone = true := by decide +kernel
set_option maxRecDepth 65536 in
theorem w_named : about1.methodNamed? x = some theMethod := by decide +kernel
set_option maxRecDepth 65536 in
theorem w_hears : about1.hears theMethod below0 = true := by decide +kernel
set_option maxRecDepth 65536 in
theorem w_ripe : about1.ripe theMethod args0 below0 = true := by decide +kernel
theorem w_running : about1.status = .running := rfl
set_option maxRecDepth 65536 in
theorem w_room : about1.hasRoom e0.platform room_1 = true :=
  launch0.hasRoom_least _ room_1 (by decide +kernel) (by decide +kernel) (by decide +kernel) (by decide +kernel) (by decide +kernel) (by decide +kernel)
theorem allAtoms_all (ts : List Jvm.Cond) (a : Array Jvm.Value) (st : Jvm.State) : (allAtoms ts).before a st = ts.all (fun c => c.before a st) := by
  induction ts with
  | nil => rfl
  | cons c t ih =>
    show (Jvm.Cond.and c (allAtoms t)).before a st = _
    rw [Jvm.Cond.before_and, ih, List.all_cons]
def words1 : List Jvm.Cond := Jvm.Cond.code x code maxLocals ret :: tables_1
/-- a 'code' word, met by the world's own term for the bytes: nothing is compared byte by byte -/
theorem code_word {y : MethodName} {bytes : ByteArray} {mx : Nat} {rt : Option FieldType} {a : Array Value} {s : State} {m : MethodId} {meth : Method} {c : Code} (h1 : s.methodNamed? y = some m) (h2 : s.vm.method? m = some meth) (h3 : meth.code = some c) (h4 : c.code = bytes)
    (h5 : (c.maxLocals == mx && c.exceptionTable.isEmpty && decide (c.maxStack ≤ mostOperands) && decide (meth.sig.returnType = rt) && !meth.locks && decide (parseMethodDescriptor y.desc = some meth.sig)) = true) : (Jvm.Cond.code y bytes mx rt).before a s = true := by
  simp only [Bool.and_eq_true, beq_iff_eq, Bool.not_eq_true', decide_eq_true_eq] at h5
  obtain ⟨⟨⟨⟨⟨g1, g2⟩, g3⟩, g4⟩, g5⟩, g6⟩ := h5
  simp [Cond.before, Cond.holds, Cond.value, h1, h2, h3, h4, g1, g2, g3, g4, g5, g6]
def isCode : Jvm.Cond → Bool
  | .code _ _ _ _ => true
  | _ => false
theorem all_split {L : List Jvm.Cond} {P : Jvm.Cond → Bool} (h1 : L.all (fun c => isCode c || P c) = true) (h2 : ∀ c ∈ L.filter isCode, P c = true) : L.all P = true := by
  refine List.all_eq_true.mpr fun c hc => ?_
  have h := List.all_eq_true.mp h1 c hc
  rcases Bool.eq_false_or_eq_true (isCode c) with hi | hi
  · exact h2 c (List.mem_filter.mpr ⟨hc, hi⟩)
  · simpa [hi] using h
set_option maxRecDepth 65536 in
theorem w_c0 : (Jvm.Cond.code x code maxLocals ret).before args0 about1 = true := code_word (m := ⟨1, 3⟩) (meth := k1m3) (c := k1c3) (by decide +kernel) rfl rfl rfl (by decide +kernel)
set_option maxRecDepth 65536 in
theorem w_c1 : (Jvm.Cond.code ({ cls := "com/example/signbound/signbound/expr/OperatorBySymbolPinLaw", name := "drawSymbol", desc := "(I)C" } : Jvm.MethodName) method_2_code (1 : Nat) (Option.some Jvm.ClassFile.FieldType.char)).before args0 about1 = true := code_word (m := ⟨1, 1⟩) (meth := k1m1) (c := k1c1) (by decide +kernel) rfl rfl rfl (by decide +kernel)
set_option maxRecDepth 65536 in
theorem w_c2 : (Jvm.Cond.code ({ cls := "com/example/signbound/signbound/expr/Operator", name := "bySymbol", desc := "(C)Lcom/example/signbound/signbound/expr/Operator;" } : Jvm.MethodName) prog_43_method_6_code (5 : Nat) (Option.some (Jvm.ClassFile.FieldType.object "com/example/signbound/signbound/expr/Operator"))).before args0 about1 = true := code_word (m := ⟨6, 1⟩) (meth := k6m1) (c := k6c1) (by decide +kernel) rfl rfl rfl (by decide +kernel)
set_option maxRecDepth 65536 in
theorem w_c3 : (Jvm.Cond.code ({ cls := "com/example/signbound/signbound/expr/Operator", name := "values", desc := "()[Lcom/example/signbound/signbound/expr/Operator;" } : Jvm.MethodName) prog_43_method_1_code (0 : Nat) (Option.some (Jvm.ClassFile.FieldType.array (Jvm.ClassFile.FieldType.object "com/example/signbound/signbound/expr/Operator")))).before args0 about1 = true := code_word (m := ⟨6, 0⟩) (meth := k6m0) (c := k6c0) (by decide +kernel) rfl rfl rfl (by decide +kernel)
set_option maxRecDepth 65536 in
theorem w_c4 : (Jvm.Cond.code ({ cls := "com/example/signbound/signbound/expr/OperatorBySymbolPinLaw", name := "expected", desc := "(C)Lcom/example/signbound/signbound/expr/Operator;" } : Jvm.MethodName) method_3_code (1 : Nat) (Option.some (Jvm.ClassFile.FieldType.object "com/example/signbound/signbound/expr/Operator"))).before args0 about1 = true := code_word (m := ⟨1, 2⟩) (meth := k1m2) (c := k1c2) (by decide +kernel) rfl rfl rfl (by decide +kernel)
def codes1 : List Jvm.Cond := [Jvm.Cond.code x code maxLocals ret, Jvm.Cond.code ({ cls := "com/example/signbound/signbound/expr/OperatorBySymbolPinLaw", name := "drawSymbol", desc := "(I)C" } : Jvm.MethodName) method_2_code (1 : Nat) (Option.some Jvm.ClassFile.FieldType.char), Jvm.Cond.code ({ cls := "com/example/signbound/signbound/expr/Operator", name := "bySymbol", desc := "(C)Lcom/example/signbound/signbound/expr/Operator;" } : Jvm.MethodName) prog_43_method_6_code (5 : Nat) (Option.some (Jvm.ClassFile.FieldType.object "com/example/signbound/signbound/expr/Operator")), Jvm.Cond.code ({ cls := "com/example/signbound/signbound/expr/Operator", name := "values", desc := "()[Lcom/example/signbound/signbound/expr/Operator;" } : Jvm.MethodName) prog_43_method_1_code (0 : Nat) (Option.some (Jvm.ClassFile.FieldType.array (Jvm.ClassFile.FieldType.object "com/example/signbound/signbound/expr/Operator"))), Jvm.Cond.code ({ cls := "com/example/signbound/signbound/expr/OperatorBySymbolPinLaw", name := "expected", desc := "(C)Lcom/example/signbound/signbound/expr/Operator;" } : Jvm.MethodName) method_3_code (1 : Nat) (Option.some (Jvm.ClassFile.FieldType.object "com/example/signbound/signbound/expr/Operator"))]
set_option maxRecDepth 65536 in
theorem codes_eq : words1.filter isCode = codes1 := rfl
theorem w_codes : ∀ c ∈ words1.filter isCode, c.before args0 about1 = true := by
  rw [codes_eq]
  intro c hc
  simp only [codes1, List.mem_cons, List.not_mem_nil, or_false] at hc
  rcases hc with rfl | rfl | rfl | rfl | rfl
  · exact w_c0
  · exact w_c1
  · exact w_c2
  · exact w_c3
  · exact w_c4
set_option maxRecDepth 65536 in
theorem w_t1 : (words1.take 24).all (fun c => isCode c || c.before args0 about1) = true := by decide +kernel
set_option maxRecDepth 65536 in
theorem w_t2 : (words1.drop 24).all (fun c => isCode c || c.before args0 about1) = true := by decide +kernel
theorem w_tables : (allAtoms (Jvm.Cond.code x code maxLocals ret :: tables_1)).before args0 about1 = true := by
  rw [allAtoms_all]
  show words1.all (fun c => c.before args0 about1) = true
  refine all_split ?_ w_codes
  rw [← List.take_append_drop 24 words1, List.all_append, w_t1, w_t2]
  rfl
set_option maxRecDepth 65536 in
theorem w_case : (Jvm.Cond.and given_1 narrow_1).before args0 about1 = true := by decide +kernel
theorem w_applies : (headSpec (Jvm.Cond.code x code maxLocals ret :: tables_1) room_1).applies x e0.platform about1 = true :=
  (Spec.applies_iff w_frames).mpr ⟨w_running, w_runnable, w_alone, w_named, w_hears, w_ripe, w_room, w_tables⟩
theorem atStart : AtStart classFile x code maxLocals ret World_1 tables_1 room_1 Calls_1 rest_1 Pre_1 launch0 p0 e0 about1 theMethod args0 below0 :=
  ⟨lists_1, trivial, launch0.admits_env _ _ _, launch0.least_env, fairChoices_fair.cas, fairChoices_fair.clock, w_frames, w_args, w_heap, w_applies, trivial, trivial, w_case⟩
end start1
theorem witness_1 : WitnessClaimed_1 := ⟨start1.p0, start1.e0, start1.about1, start1.theMethod, start1.args0, start1.below0, start1.atStart⟩
end Jvm.Pilot.@@N@@
