import JvmDerived
import JvmDerived.Pilot.@@N@@Statement
import JvmDerived.Pilot.@@N@@Code
set_option linter.unusedVariables false
set_option linter.unusedSimpArgs false
namespace Jvm.RoadKit
open Sem ClassFile Op Lib Jvm.Stand Jvm.Free Jvm.LawKit
section New
variable {p : Program} {l : Launch} {e : Env} {R : Room} {s : State} {m : MethodId} {args : Array Value} {below : List Frame} {meth : Method} {c : Code} {T : State} {locs : List Loc} {cells slots : Nat}
theorem retI (X : Stand p l e R s m args below meth c T locs cells slots) (hx : p.tables.exec = Jvm.exec) {pc : Nat} {Ls : Array Slot} {z : Int32} {rest : List Value} (hret : meth.sig.returnType = some .int) (hd : decode c.code pc = .ok (.ireturn, 1)) {fs : List Frame}
    (hl : ∀ (f : JFrame) (acts : List Action), f.method = m → f.locked = none → f.entered = [] → (doReturn e (T.setTop f) acts (some (.int z))).1 = T.setFrames fs) : Steps p.tables e below (T.setTop (mkF m pc Ls (.int z :: rest))) (T.setFrames fs) := retOut X hx hret rfl (Or.inl ⟨rfl, Or.inl rfl, _, rfl⟩) hd hl
end New
end Jvm.RoadKit
namespace Jvm.Pilot.@@N@@
open Jvm Jvm.ClassFile Sem Op Lib Jvm.Free Jvm.Stand Jvm.LawKit Jvm.RoadKit Bundle Jvm.Pilot.@@N@@.Jvm.D
section OwnKit
variable {p : Program} {l : Launch} {e : Env} {R : Room} {s : State} {m : MethodId} {args : Array Value} {below : List Frame} {meth : Method} {c : Code} {T : State} {locs : List Loc} {cells slots : Nat} {Z : State} {a0 : Array Value} {h : Heap}
def Go (p : Program) (e : Env) (below : List Frame) (Q : Outcome → State → Prop) (S : State) : Prop := ∃ s₂ o, Steps p.tables e below S s₂ ∧ s₂.status = .running ∧ Ended s₂ below o ∧ Q o s₂
theorem Go.of {Q : Outcome → State → Prop} {S : State} (k : Go p e below Q S) : ∃ s₂ o, Steps p.tables e below S s₂ ∧ s₂.status = .running ∧ Ended s₂ below o ∧ Q o s₂ := k
theorem Go.st {Q : Outcome → State → Prop} {S S' : State} (h : ∀ t, Steps p.tables e below S' t → Steps p.tables e below S t) (k : Go p e below Q S') : Go p e below Q S := by
  obtain ⟨s2, o, h1, h2⟩ := k; exact ⟨s2, o, h _ h1, h2⟩
theorem Go.op {α : Type} {Q : Outcome → State → Prop} {S : State} {F : α → State} {x : α} (h : ∀ t, Steps p.tables e below (F x) t → Steps p.tables e below S t) (k : ∀ z, z = x → Go p e below Q (F z)) : Go p e below Q S := Go.st h (k x rfl)
theorem Go.join {α : Type} {Q : Outcome → State → Prop} {S : State} (C : α → Prop) (F : α → State) (k : ∀ r, C r → Go p e below Q (F r)) (j : (∀ r, C r → Go p e below Q (F r)) → Go p e below Q S) : Go p e below Q S := j k
theorem Go.joinT {α : Type} {Q : Outcome → State → Prop} {S : State} (X : Stand p l e R s m args below meth c T locs cells slots) (eT : T.heap = h) (C : α → Prop) (F : State → α → State) (k : ∀ T', Stand p l e R s m args below meth c T' locs cells slots → T'.heap = h → ∀ r, C r → Go p e below Q (F T' r)) (j : (∀ T', Stand p l e R s m args below meth c T' locs cells slots → T'.heap = h → ∀ r, C r → Go p e below Q (F T' r)) → Go p e below Q S) : Go p e below Q S := j k
theorem Go.loop {α : Type} {Q : Outcome → State → Prop} (I : Nat → α → Prop) (F : α → State) (k0 : Nat) (x0 : α) (h0 : I k0 x0) (step : ∀ k x, I k x → (∀ k' x', k' < k → I k' x' → Go p e below Q (F x')) → Go p e below Q (F x)) : Go p e below Q (F x0) := by
  have H : ∀ k x, I k x → Go p e below Q (F x) := by
    intro k
    induction k using Nat.strongRecOn with
    | _ k ih => intro x hx; exact step k x hx fun k' x' hk hx' => ih k' hk x' hx'
  exact H k0 x0 h0
theorem Go.ret {Qn : Option Value → Heap → List Loc → Prop} {rc rs : Nat} (X : Stand p l e R s m args below meth c T locs cells slots) {v : Option Value} (hv : meth.sig.returnType = none → v = none) (hlk : meth.locks = false) {f : JFrame}
    (st : ∀ fs, (∀ (f : JFrame) (acts : List Action), f.method = m → f.locked = none → f.entered = [] → (doReturn e (T.setTop f) acts v).1 = T.setFrames fs) → Steps p.tables e below (T.setTop f) (T.setFrames fs))
    (hc : cells ≤ rc) (hs : slots ≤ rs) (hQ : Qn v T.heap locs) : Go p e below (fun o U' => ∃ v L, o = .returned v ∧ Qn v U'.heap L ∧ FrameEnd s o U' L rc rs) (T.setTop f) := by
  obtain ⟨fs, hr, hrun, hended, hW, hsame⟩ := X.leave (v := v) hv hlk
  exact ⟨_, _, st fs hr, hrun, hended, v, locs, rfl, hQ, ⟨_, rfl⟩, hW, hsame.mono hc hs⟩
abbrev Con (l : Launch) (Z : State) (y : MethodName) (bytes : ByteArray) (maxL : Nat) (ret : Option FieldType) (ws : List Jvm.Cond) (rm : Room) (as' : Array Value) (h : Heap) (rc rs : Nat) (Q : Option Value → Heap → List Loc → Prop) : Prop :=
  MetFree l y (head1 (Jvm.Cond.code y bytes maxL ret :: ws) rm) (fun a U => a = as' ∧ Z.Warmed39 U.vm ∧ U.heap = h) (fun _ _ _ _ _ => True) (fun _ U o U' => ∃ v L, o = .returned v ∧ Q v U'.heap L ∧ FrameEnd U o U' L rc rs)
theorem own_eh {a : Addr} {cl : Cell} (eT : T.heap = h) (q : h[a]? = some cl) : T.heap[a]? = some cl := by rw [eT]; exact q
theorem own_callS {own : String} {index : Nat} {y : MethodName} {bytes : ByteArray} {maxL : Nat} {ret : Option FieldType} {rm : Room} {as' : Array Value} {Q : Option Value → Heap → List Loc → Prop} {W : Nat} {g : JFrame} {argsL rest : List Value}
    (X : Stand p l e R s m args below meth c T locs cells slots) (hx : p.tables.exec = Jvm.exec) (hZ : Z.Warmed39 s.vm) (eT : T.heap = h) (hown : s.vm.findClass own = some m.cls)
    (w1 : (Jvm.Cond.methodLink own index y).before a0 Z = true) (w2 : (Jvm.Cond.static y).before a0 Z = true) (w3 : (Jvm.Cond.initialized y.cls).before a0 Z = true) (w4 : (Jvm.Cond.code y bytes maxL ret).before a0 Z = true)
    (hy : y.cls ≠ "java/lang/invoke/MethodHandle" ∧ y.cls ≠ "java/lang/invoke/VarHandle")
    (hM : Con l Z y bytes maxL ret [] rm as' h rm.cells rm.slots Q)
    (hf : rm.frames + 1 ≤ R.frames) (hl : W + (maxL + 11) + rm.locals ≤ R.locals) (hc : cells + rm.cells ≤ R.cells) (hs : slots + rm.slots ≤ R.slots)
    (hg : g.method = m) (hsize : g.locals.size = c.maxLocals) (has : argsL.toArray = as') (hlen : ∀ sig, parseMethodDescriptor y.desc = some sig → argsL.length = sig.parameters.length)
    (hstack : g.stack = argsL.reverse ++ rest) (hW : 2 * g.monitorRoom + (rest.map fun v => v.category).sum ≤ W) (hdg : decode c.code g.pc = .ok (.invokestatic index, 3)) :
    ∃ v T' L, Stand p l e R s m args below meth c T' (locs ++ L) (cells + rm.cells) (slots + rm.slots) ∧ Q v T'.heap L ∧ ∀ target, Steps p.tables e below (T'.setTop { g with pc := g.pc + 3, stack := v.toList ++ rest }) target → Steps p.tables e below (T.setTop g) target := by
  obtain ⟨v, _, ⟨T', L', k', n'⟩, -, X', ⟨L, hQ, l', y', z'⟩, st⟩ := Jvm.LawKit.callS X hx (y := y) hown (mvT hZ w1) (mvT hZ w2) (mvT hZ w3) (mvT hZ w4) hy (backOf (W := W) hM hZ w4 w3 hf hl) (g := g) hg hsize (argsL := argsL) (rest := rest) hlen hstack hW hdg (fun _ _ => ⟨has, eT, hc, hs⟩)
  dsimp only [Pt.U, Pt.locs, Pt.cells, Pt.slots] at X' l' y' z' st hQ
  subst l' y' z'
  exact ⟨v, T', L, X', hQ, st⟩
theorem own_callI {own : String} {index : Nat} {y : MethodName} {bytes : ByteArray} {maxL : Nat} {rm : Room} {as' : Array Value} {Q : Option Value → Heap → List Loc → Prop} {W : Nat} {g : JFrame} {a : Addr} {argsL rest : List Value}
    (X : Stand p l e R s m args below meth c T locs cells slots) (hx : p.tables.exec = Jvm.exec) (hZ : Z.Warmed39 s.vm) (eT : T.heap = h) (hown : s.vm.findClass own = some m.cls) (hyn : y.name = "<init>")
    (w1 : (Jvm.Cond.methodLink own index y).before a0 Z = true) (w2 : (Jvm.Cond.instanceMethod y).before a0 Z = true) (w3 : (Jvm.Cond.initialized y.cls).before a0 Z = true) (w4 : (Jvm.Cond.code y bytes maxL none).before a0 Z = true)
    (hy : y.cls ≠ "java/lang/invoke/MethodHandle" ∧ y.cls ≠ "java/lang/invoke/VarHandle")
    (hM : Con l Z y bytes maxL none [] rm as' h rm.cells rm.slots Q)
    (hf : rm.frames + 1 ≤ R.frames) (hl : W + (maxL + 11) + rm.locals ≤ R.locals) (hc : cells + rm.cells ≤ R.cells) (hs : slots + rm.slots ≤ R.slots)
    (hg : g.method = m) (hsize : g.locals.size = c.maxLocals) (has : (Value.ref a :: argsL).toArray = as') (hlen : ∀ sig, parseMethodDescriptor y.desc = some sig → argsL.length = sig.parameters.length)
    (hstack : g.stack = argsL.reverse ++ .ref a :: rest) (hW : 2 * g.monitorRoom + (rest.map fun v => v.category).sum ≤ W) (hdg : decode c.code g.pc = .ok (.invokespecial index, 3)) :
    ∃ v T' L, Stand p l e R s m args below meth c T' (locs ++ L) (cells + rm.cells) (slots + rm.slots) ∧ Q v T'.heap L ∧ ∀ target, Steps p.tables e below (T'.setTop { g with pc := g.pc + 3, stack := v.toList ++ rest }) target → Steps p.tables e below (T.setTop g) target := by
  obtain ⟨v, _, ⟨T', L', k', n'⟩, -, X', ⟨L, hQ, l', y', z'⟩, st⟩ := X.specialBack hx (y := y) hyn hown (mvT hZ w1) (mvT hZ w2) (mvT hZ w4) hy (backOf (W := W) hM hZ w4 w3 hf hl) (g := g) hg hsize (Steps.refl _) (a := a) (argsL := argsL) (rest := rest) hlen hstack hW hdg (fun _ _ => ⟨has, eT, hc, hs⟩)
  dsimp only [Pt.U, Pt.locs, Pt.cells, Pt.slots] at X' l' y' z' st hQ
  subst l' y' z'
  exact ⟨v, T', L, X', hQ, fun _ k => st.trans k⟩
theorem own_callV {own C : String} {index : Nat} {y z : MethodName} {bytes : ByteArray} {maxL : Nat} {ret : Option FieldType} {rm : Room} {as' : Array Value} {Q : Option Value → Heap → List Loc → Prop} {W : Nat} {g : JFrame} {a : Addr} {argsL rest : List Value}
    (X : Stand p l e R s m args below meth c T locs cells slots) (hx : p.tables.exec = Jvm.exec) (hZ : Z.Warmed39 s.vm) (eT : T.heap = h) (hown : s.vm.findClass own = some m.cls)
    (w1 : (Jvm.Cond.methodLink own index y).before a0 Z = true) (w2 : (Jvm.Cond.declares y).before a0 Z = true) (nf : NotFace s y) (w5 : (Jvm.Cond.selects C y z).before a0 Z = true) (w6 : (Jvm.Cond.instanceMethod z).before a0 Z = true) (w3 : (Jvm.Cond.initialized z.cls).before a0 Z = true) (w4 : (Jvm.Cond.code z bytes maxL ret).before a0 Z = true)
    (hy : y.cls ≠ "java/lang/invoke/MethodHandle" ∧ y.cls ≠ "java/lang/invoke/VarHandle") (E : Exa Z h a C)
    (hM : Con l Z z bytes maxL ret [] rm as' h rm.cells rm.slots Q)
    (hf : rm.frames + 1 ≤ R.frames) (hl : W + (maxL + 11) + rm.locals ≤ R.locals) (hc : cells + rm.cells ≤ R.cells) (hs : slots + rm.slots ≤ R.slots)
    (hg : g.method = m) (hsize : g.locals.size = c.maxLocals) (has : (Value.ref a :: argsL).toArray = as') (hlen : ∀ sig, parseMethodDescriptor y.desc = some sig → argsL.length = sig.parameters.length)
    (hstack : g.stack = argsL.reverse ++ .ref a :: rest) (hW : 2 * g.monitorRoom + (rest.map fun v => v.category).sum ≤ W) (hdg : decode c.code g.pc = .ok (.invokevirtual index, 3)) :
    ∃ v T' L, Stand p l e R s m args below meth c T' (locs ++ L) (cells + rm.cells) (slots + rm.slots) ∧ Q v T'.heap L ∧ ∀ target, Steps p.tables e below (T'.setTop { g with pc := g.pc + 3, stack := v.toList ++ rest }) target → Steps p.tables e below (T.setTop g) target := by
  obtain ⟨cq, kq, qa, qb, qc⟩ := isOf hZ eT E
  obtain ⟨v, _, ⟨T', L', k', n'⟩, -, X', ⟨L, hQ, l', y', z'⟩, st⟩ := X.virtualBack hx (y := y) (z := z) hown (mvT hZ w1) (mvT hZ w2) nf (mvT hZ w5) (mvT hZ w6) hy (backOf (W := W) hM hZ w4 w3 hf hl) qa qc (g := g) hg hsize (Steps.refl _) (argsL := argsL) (rest := rest) hlen hstack hW hdg (fun _ _ => ⟨has, eT, hc, hs⟩)
  dsimp only [Pt.U, Pt.locs, Pt.cells, Pt.slots] at X' l' y' z' st hQ
  subst l' y' z'
  exact ⟨v, T', L, X', hQ, fun _ k => st.trans k⟩
theorem own_sta_keep {C n d : String} {w : Value} {h h' : Heap} {ws : List Addr} (F : Sta Z h C n d w) (K : Keep h h' ws) (q : ∀ x ∈ ws, ∃ cl : Cell, h[x]? = some cl ∧ cl.vm.isStatics = false) : Sta Z h' C n d w := by
  obtain ⟨cf, i, k, f, st, cell, h1, h2, h3, h4, h5, h6, h7⟩ := F
  refine ⟨cf, i, k, f, st, cell, h1, h2, h3, h4, K.2.1 st cell h5 fun z => ?_, h6, h7⟩
  obtain ⟨cl, q1, q2⟩ := q st z
  cases h5.symm.trans q1
  rw [h6] at q2; cases q2
theorem own_exa_plain {a : Addr} {C : String} {h : Heap} (F : Exa Z h a C) : ∃ cl : Cell, h[a]? = some cl ∧ cl.vm.isStatics = false := by
  obtain ⟨cell, k, h1, -, -, h4, -⟩ := F; exact ⟨cell, h1, h4⟩
theorem own_arv_plain {a : Addr} {k : ClassId} {ty : FieldType} {z : Int32} {vs : List Value} {dv : Value} {h : Heap} (F : Arv Z h a k ty z vs dv) : ∃ cl : Cell, h[a]? = some cl ∧ cl.vm.isStatics = false := by
  obtain ⟨cell, A, -⟩ := F; exact ⟨cell, A.1, A.plain⟩
theorem own_getR {own O n d : String} {index : Nat} {a : Addr} {v : Value} {g : JFrame} {rest : List Value} (X : Stand p l e R s m args below meth c T locs cells slots) (hx : p.tables.exec = Jvm.exec) (hZ : Z.Warmed39 s.vm) (hown : s.vm.findClass own = some m.cls)
    (w : (Jvm.Cond.fieldRef own index O n d).before a0 Z = true) (eT : T.heap = h) (F : Fld Z h a O n d v) (hg : g.method = m) (hs : g.stack = .ref a :: rest) (hd : decode c.code g.pc = .ok (.getfield index, 3)) :
    ∀ target, Steps p.tables e below (T.setTop { g with pc := g.pc + 3, stack := v :: rest }) target → Steps p.tables e below (T.setTop g) target := by
  have hU : Z.Warmed39 T.vm := wtrans hZ X.warmed
  have w2 := Cond.fieldRef_warmed39 hU w
  have hc : (Z.setVm T.vm).vm.findClass own = some m.cls := by
    show T.vm.findClass own = some m.cls
    rw [X.warmed.alike.findClass]; exact hown
  obtain ⟨c1, k1, i1, f1, hf1, hr⟩ := Cond.fieldRef_spec hc w2
  obtain ⟨cell, cf, k, i, f, h1, h2, h3, h4, -, -, h7⟩ := F
  obtain ⟨k', hi, -⟩ := State.fieldFound?_setVm (s := Z) hU.alike h2
  cases hi.symm.trans hf1
  intro t kk
  exact (X.getfieldR hx hg hr h3 hs (by rw [eT]; exact h1) h4 h7 hd (Steps.refl _)).trans kk
theorem own_callP {own C : String} {index : Nat} {y : MethodName} {bytes : ByteArray} {maxL : Nat} {ret : Option FieldType} {rm : Room} {as' : Array Value} {Q : Option Value → Heap → List Loc → Prop} {W : Nat} {g : JFrame} {a : Addr} {argsL rest : List Value}
    (X : Stand p l e R s m args below meth c T locs cells slots) (hx : p.tables.exec = Jvm.exec) (hZ : Z.Warmed39 s.vm) (eT : T.heap = h) (hown : s.vm.findClass own = some m.cls)
    (w1 : (Jvm.Cond.methodLink own index y).before a0 Z = true) (w2 : (Jvm.Cond.instanceMethod y).before a0 Z = true) (w5 : (Jvm.Cond.selects y.cls y y).before a0 Z = true) (w6 : (Jvm.Cond.privateMethod y).before a0 Z = true) (w3 : (Jvm.Cond.initialized y.cls).before a0 Z = true) (w4 : (Jvm.Cond.code y bytes maxL ret).before a0 Z = true)
    (hy : y.cls ≠ "java/lang/invoke/MethodHandle" ∧ y.cls ≠ "java/lang/invoke/VarHandle") (E : Exa Z h a C)
    (hM : Con l Z y bytes maxL ret [] rm as' h rm.cells rm.slots Q)
    (hf : rm.frames + 1 ≤ R.frames) (hl : W + (maxL + 11) + rm.locals ≤ R.locals) (hc : cells + rm.cells ≤ R.cells) (hs : slots + rm.slots ≤ R.slots)
    (hg : g.method = m) (hsize : g.locals.size = c.maxLocals) (has : (Value.ref a :: argsL).toArray = as') (hlen : ∀ sig, parseMethodDescriptor y.desc = some sig → argsL.length = sig.parameters.length)
    (hstack : g.stack = argsL.reverse ++ .ref a :: rest) (hW : 2 * g.monitorRoom + (rest.map fun v => v.category).sum ≤ W) (hdg : decode c.code g.pc = .ok (.invokevirtual index, 3)) :
    ∃ v T' L, Stand p l e R s m args below meth c T' (locs ++ L) (cells + rm.cells) (slots + rm.slots) ∧ Q v T'.heap L ∧ ∀ target, Steps p.tables e below (T'.setTop { g with pc := g.pc + 3, stack := v.toList ++ rest }) target → Steps p.tables e below (T.setTop g) target := by
  obtain ⟨cq, q1, q2⟩ := E.cell
  obtain ⟨v, _, ⟨T', L', k', n'⟩, -, X', ⟨L, hQ, l', y', z'⟩, st⟩ := X.privateBack hx (y := y) hown (mvT hZ w1) (mvT hZ w2) (mvT hZ w5) (Cond.privateMethod_at (mvP hZ w6 (args := #[]))) (mvT hZ w4) hy (backOf (W := W) hM hZ w4 w3 hf hl) (g := g) hg hsize (Steps.refl _) (a := a) (by rw [eT]; exact q1) q2 (argsL := argsL) (rest := rest) hlen hstack hW hdg (fun _ _ => ⟨has, eT, hc, hs⟩)
  dsimp only [Pt.U, Pt.locs, Pt.cells, Pt.slots] at X' l' y' z' st hQ
  subst l' y' z'
  exact ⟨v, T', L, X', hQ, fun _ k => st.trans k⟩
theorem own_callF {own C : String} {index count : Nat} {xi y : MethodName} {bytes : ByteArray} {maxL : Nat} {ret : Option FieldType} {rm : Room} {as' : Array Value} {Q : Option Value → Heap → List Loc → Prop} {W : Nat} {g : JFrame} {a : Addr} {argsL rest : List Value}
    (X : Stand p l e R s m args below meth c T locs cells slots) (hx : p.tables.exec = Jvm.exec) (hZ : Z.Warmed39 s.vm) (eT : T.heap = h) (hown : s.vm.findClass own = some m.cls)
    (w1 : (Jvm.Cond.methodLink own index xi).before a0 Z = true) (w2 : (Jvm.Cond.declares xi).before a0 Z = true) (w7 : (Jvm.Cond.interfaceMethod xi.cls xi.cls xi.name xi.desc).before args s = true) (w5 : (Jvm.Cond.selects C xi y).before a0 Z = true) (w6 : (Jvm.Cond.instanceMethod y).before a0 Z = true)
    (w8 : (Jvm.Cond.publicMethod y).before a0 Z = true) (w9 : (Jvm.Cond.unhidden C xi.name xi.desc).before a0 Z = true) (w10 : (Jvm.Cond.castable C xi.cls).before a0 Z = true) (w3 : (Jvm.Cond.initialized y.cls).before a0 Z = true) (w4 : (Jvm.Cond.code y bytes maxL ret).before a0 Z = true)
    (hy : xi.cls ≠ "java/lang/invoke/MethodHandle" ∧ xi.cls ≠ "java/lang/invoke/VarHandle") (E : Exa Z h a C)
    (hM : Con l Z y bytes maxL ret [] rm as' h rm.cells rm.slots Q)
    (hf : rm.frames + 1 ≤ R.frames) (hl : W + (maxL + 11) + rm.locals ≤ R.locals) (hc : cells + rm.cells ≤ R.cells) (hs : slots + rm.slots ≤ R.slots)
    (hg : g.method = m) (hsize : g.locals.size = c.maxLocals) (has : (Value.ref a :: argsL).toArray = as') (hlen : ∀ sig, parseMethodDescriptor xi.desc = some sig → argsL.length = sig.parameters.length)
    (hstack : g.stack = argsL.reverse ++ .ref a :: rest) (hW : 2 * g.monitorRoom + (rest.map fun v => v.category).sum ≤ W) (hdg : decode c.code g.pc = .ok (.invokeinterface index count, 5)) :
    ∃ v T' L, Stand p l e R s m args below meth c T' (locs ++ L) (cells + rm.cells) (slots + rm.slots) ∧ Q v T'.heap L ∧ ∀ target, Steps p.tables e below (T'.setTop { g with pc := g.pc + 5, stack := v.toList ++ rest }) target → Steps p.tables e below (T.setTop g) target := by
  obtain ⟨cq, kq, qa, qb, qc⟩ := isOf hZ eT E
  obtain ⟨v, _, ⟨T', L', k', n'⟩, -, X', ⟨L, hQ, l', y', z'⟩, st⟩ := X.interfaceBack hx (xi := xi) (y := y) hown (mvT hZ w1) (mvT hZ w2) w7 (mvT hZ w5) (mvT hZ w6) (mvT hZ w8) (mvT hZ w9) (mvT hZ w10) hy (backOf (W := W) hM hZ w4 w3 hf hl) qa qb qc (g := g) hg hsize (Steps.refl _) (argsL := argsL) (rest := rest) hlen hstack hW hdg (fun _ _ => ⟨has, eT, hc, hs⟩)
  dsimp only [Pt.U, Pt.locs, Pt.cells, Pt.slots] at X' l' y' z' st hQ
  subst l' y' z'
  exact ⟨v, T', L, X', hQ, fun _ k => st.trans k⟩
theorem own_ns_root {O K : String} {n : Nat} (w : (Jvm.Cond.noSuperclass O).before a0 Z = true) (wk : (Jvm.Cond.instantiable K n).before a0 Z = true) (hn : O ≠ K) : NS Z O K := by
  obtain ⟨c, k, h1, h2, h3, -, -⟩ := Cond.noSuperclass_spec w
  obtain ⟨t, kt, g1, -⟩ := Cond.instantiable_spec wk
  have ne := ids_ne h1 g1 hn
  refine ⟨c, t, h1, g1, fun fuel => ?_⟩
  cases fuel with
  | zero => rfl
  | succ f => simp [Vm.isSubclassAux, ne, h2, h3]
theorem own_ns_no {C S K : String} {n : Nat} (w : (Jvm.Cond.superclass C S).before a0 Z = true) (wk : (Jvm.Cond.instantiable K n).before a0 Z = true) (hN : NS Z C K) (hn : C ≠ K) : ∃ c t, Z.vm.findClass C = some c ∧ Z.vm.findClass K = some t ∧ Z.vm.assignable c t = false := by
  obtain ⟨c, t, h0, g0, n3⟩ := hN
  obtain ⟨p, k, kp, h1, h2, h3, h4, h5, -, h7⟩ := Cond.superclass_spec h0 w
  obtain ⟨t', kt, g1, g2, g3, g4, -⟩ := Cond.instantiable_spec wk
  cases g0.symm.trans g1
  have g7 : kt.isInterface = false := by
    cases hq : kt.isInterface
    · rfl
    · simp [hq] at g4
  have ne := ids_ne h0 g0 hn
  refine ⟨c, t, h0, g0, ?_⟩
  show Z.vm.assignableAux (255 + 1) c t = false
  simp [Vm.assignableAux, ne, h2, g2, h5, g3, g7, Vm.isSubclass, n3]
end OwnKit
section OwnStart
variable {args : Array Value} {Z : State}
theorem own_eq_int {t : Term} {k : Int32} (h : (Jvm.Cond.eq t (.int k)).value args Z none Z [] = some true) : t.eval args Z none [] Z = some (.int k) := by
  obtain ⟨a, b, h1, h2, h3, h4⟩ := cmp_v (Or.inl h)
  have hb : b = .int k := Option.some.inj (h2.symm.trans (Term.int_eval k))
  subst hb
  obtain ⟨z, rfl⟩ : ∃ z, a = .int z := h4
  have q : z = k := by simpa [Cond.value, h1, h2] using h
  rw [h1, q]
theorem own_eq_ref {t u : Term} {a : Addr} (h : (Jvm.Cond.eq t u).value args Z none Z [] = some true) (hu : u.eval args Z none [] Z = some (.ref a)) : t.eval args Z none [] Z = some (.ref a) := by
  obtain ⟨x, y, h1, h2, h3, h4⟩ := cmp_v (Or.inl h)
  have hb : y = .ref a := Option.some.inj (h2.symm.trans hu)
  subst hb
  obtain ⟨-, q⟩ : Value.isRef (.ref a) = true ∧ x.isRef = true := h4
  have e := eq_R (a := t) (b := u) h1 h2 q rfl
  rw [e] at h
  have r : x = .ref a := by simpa using h
  rw [h1, r]
theorem own_ne0 {t : Term} {z : Int32} (ht : t.eval args Z none [] Z = some (.int z)) (h : (Jvm.Cond.not (Jvm.Cond.eq t (.int 0))).value args Z none Z [] = some true) : z ≠ 0 := by
  have q := not_v h
  intro e
  subst e
  simp [Cond.value, ht, Term.eval] at q
theorem own_fld {t : Term} {C n d : String} {a : Addr} {v : Value} (ht : t.eval args Z none [] Z = some (.ref a)) (h : (Term.field t C n d).eval args Z none [] Z = some v) : Fld Z Z.heap a C n d v := Fld.start ((fld_at ht).symm.trans h)
theorem own_len {t : Term} {a : Addr} {c : Cell} {k : Int32} {ty : FieldType} (ht : t.eval args Z none [] Z = some (.ref a)) (A : Arr Z Z.heap a c ty) (h : (Term.length t).eval args Z none [] Z = some (.int k)) : c.slots.size < 2 ^ 31 ∧ c.slots.size.toInt32 = k := by
  have q : Z.arrayAt? a = some c := A.fin (Vm.Alike.refl _)
  by_cases hl : c.slots.size < 2 ^ 31
  · have e := (len_f (t := t) ht q hl).symm.trans h
    exact ⟨hl, by simpa using e⟩
  · exfalso
    have hl' : ¬ c.slots.size < 2147483648 := hl
    simp [Term.eval, ht, q, hl'] at h
theorem own_slot {t : Term} {a : Addr} {c : Cell} {ty : FieldType} {v : Value} {j : Int32} (ht : t.eval args Z none [] Z = some (.ref a)) (A : Arr Z Z.heap a c ty) (h : (Term.elem t (.int j)).eval args Z none [] Z = some v) : c.slots[j.toNatClampNeg]? = some v := (elem_in h ht (Term.int_eval j) A.1).2
end OwnStart
theorem ushr_and (a b k : Int32) : ((a &&& b).toUInt32 >>> (k &&& 31).toUInt32).toInt32 = (a.toUInt32 >>> (k &&& 31).toUInt32).toInt32 &&& (b.toUInt32 >>> (k &&& 31).toUInt32).toInt32 := by
  apply Int32.toBitVec_inj.mp
  show (a.toBitVec &&& b.toBitVec) >>> _ = (a.toBitVec >>> _) &&& (b.toBitVec >>> _)
  exact BitVec.ushiftRight_and_distrib ..
theorem djdk_30_method_1_code_0 : decode jdk_30_method_1_code 0 = .ok (.aload_n 0, 1) := by decide +kernel
theorem djdk_30_method_1_code_1 : decode jdk_30_method_1_code 1 = .ok (.invokespecial 1, 3) := by decide +kernel
theorem djdk_30_method_1_code_4 : decode jdk_30_method_1_code 4 = .ok (.return_, 1) := by decide +kernel
theorem dmethod_2_code_0 : decode method_2_code 0 = .ok (.iload_n 0, 1) := by decide +kernel
theorem dmethod_2_code_1 : decode method_2_code 1 = .ok (.ldc 7, 2) := by decide +kernel
theorem dmethod_2_code_3 : decode method_2_code 3 = .ok (.iand, 1) := by decide +kernel
theorem dmethod_2_code_4 : decode method_2_code 4 = .ok (.iconst 3, 1) := by decide +kernel
theorem dmethod_2_code_5 : decode method_2_code 5 = .ok (.irem, 1) := by decide +kernel
theorem dmethod_2_code_6 : decode method_2_code 6 = .ok (.istore_n 1, 1) := by decide +kernel
theorem dmethod_2_code_7 : decode method_2_code 7 = .ok (.iload_n 1, 1) := by decide +kernel
theorem dmethod_2_code_8 : decode method_2_code 8 = .ok (.ifCond .ne 7, 3) := by decide +kernel
theorem dmethod_2_code_11 : decode method_2_code 11 = .ok (.getstatic 8, 3) := by decide +kernel
theorem dmethod_2_code_14 : decode method_2_code 14 = .ok (.areturn, 1) := by decide +kernel
theorem dmethod_2_code_15 : decode method_2_code 15 = .ok (.iload_n 1, 1) := by decide +kernel
theorem dmethod_2_code_16 : decode method_2_code 16 = .ok (.iconst 1, 1) := by decide +kernel
theorem dmethod_2_code_17 : decode method_2_code 17 = .ok (.if_icmp .ne 7, 3) := by decide +kernel
theorem dmethod_2_code_20 : decode method_2_code 20 = .ok (.getstatic 14, 3) := by decide +kernel
theorem dmethod_2_code_23 : decode method_2_code 23 = .ok (.areturn, 1) := by decide +kernel
theorem dmethod_2_code_24 : decode method_2_code 24 = .ok (.getstatic 17, 3) := by decide +kernel
theorem dmethod_2_code_27 : decode method_2_code 27 = .ok (.areturn, 1) := by decide +kernel
theorem dprog_20_method_1_code_0 : decode prog_20_method_1_code 0 = .ok (.aload_n 0, 1) := by decide +kernel
theorem dprog_20_method_1_code_1 : decode prog_20_method_1_code 1 = .ok (.invokespecial 1, 3) := by decide +kernel
theorem dprog_20_method_1_code_4 : decode prog_20_method_1_code 4 = .ok (.aload_n 2, 1) := by decide +kernel
theorem dprog_20_method_1_code_5 : decode prog_20_method_1_code 5 = .ok (.arraylength, 1) := by decide +kernel
theorem dprog_20_method_1_code_6 : decode prog_20_method_1_code 6 = .ok (.ifCond .ne 13, 3) := by decide +kernel
theorem dprog_20_method_1_code_19 : decode prog_20_method_1_code 19 = .ok (.aload_n 0, 1) := by decide +kernel
theorem dprog_20_method_1_code_20 : decode prog_20_method_1_code 20 = .ok (.aload_n 1, 1) := by decide +kernel
theorem dprog_20_method_1_code_21 : decode prog_20_method_1_code 21 = .ok (.putfield 14, 3) := by decide +kernel
theorem dprog_20_method_1_code_24 : decode prog_20_method_1_code 24 = .ok (.aload_n 0, 1) := by decide +kernel
theorem dprog_20_method_1_code_25 : decode prog_20_method_1_code 25 = .ok (.aload_n 2, 1) := by decide +kernel
theorem dprog_20_method_1_code_26 : decode prog_20_method_1_code 26 = .ok (.putfield 20, 3) := by decide +kernel
theorem dprog_20_method_1_code_29 : decode prog_20_method_1_code 29 = .ok (.return_, 1) := by decide +kernel
theorem dprog_20_method_4_code_0 : decode prog_20_method_4_code 0 = .ok (.aload_n 1, 1) := by decide +kernel
theorem dprog_20_method_4_code_1 : decode prog_20_method_4_code 1 = .ok (.arraylength, 1) := by decide +kernel
theorem dprog_20_method_4_code_2 : decode prog_20_method_4_code 2 = .ok (.aload_n 0, 1) := by decide +kernel
theorem dprog_20_method_4_code_3 : decode prog_20_method_4_code 3 = .ok (.getfield 20, 3) := by decide +kernel
theorem dprog_20_method_4_code_6 : decode prog_20_method_4_code 6 = .ok (.arraylength, 1) := by decide +kernel
theorem dprog_20_method_4_code_7 : decode prog_20_method_4_code 7 = .ok (.if_icmp .eq 23, 3) := by decide +kernel
theorem dprog_20_method_4_code_30 : decode prog_20_method_4_code 30 = .ok (.aload_n 0, 1) := by decide +kernel
theorem dprog_20_method_4_code_31 : decode prog_20_method_4_code 31 = .ok (.getfield 20, 3) := by decide +kernel
theorem dprog_20_method_4_code_34 : decode prog_20_method_4_code 34 = .ok (.arraylength, 1) := by decide +kernel
theorem dprog_20_method_4_code_35 : decode prog_20_method_4_code 35 = .ok (.newarray .byte, 2) := by decide +kernel
theorem dprog_20_method_4_code_37 : decode prog_20_method_4_code 37 = .ok (.astore_n 2, 1) := by decide +kernel
theorem dprog_20_method_4_code_38 : decode prog_20_method_4_code 38 = .ok (.iconst 0, 1) := by decide +kernel
theorem dprog_20_method_4_code_39 : decode prog_20_method_4_code 39 = .ok (.istore_n 3, 1) := by decide +kernel
theorem dprog_20_method_4_code_40 : decode prog_20_method_4_code 40 = .ok (.iload_n 3, 1) := by decide +kernel
theorem dprog_20_method_4_code_41 : decode prog_20_method_4_code 41 = .ok (.aload_n 2, 1) := by decide +kernel
theorem dprog_20_method_4_code_42 : decode prog_20_method_4_code 42 = .ok (.arraylength, 1) := by decide +kernel
theorem dprog_20_method_4_code_43 : decode prog_20_method_4_code 43 = .ok (.if_icmp .ge 23, 3) := by decide +kernel
theorem dprog_20_method_4_code_46 : decode prog_20_method_4_code 46 = .ok (.aload_n 2, 1) := by decide +kernel
theorem dprog_20_method_4_code_47 : decode prog_20_method_4_code 47 = .ok (.iload_n 3, 1) := by decide +kernel
theorem dprog_20_method_4_code_48 : decode prog_20_method_4_code 48 = .ok (.aload_n 0, 1) := by decide +kernel
theorem dprog_20_method_4_code_49 : decode prog_20_method_4_code 49 = .ok (.getfield 20, 3) := by decide +kernel
theorem dprog_20_method_4_code_52 : decode prog_20_method_4_code 52 = .ok (.iload_n 3, 1) := by decide +kernel
theorem dprog_20_method_4_code_53 : decode prog_20_method_4_code 53 = .ok (.baload, 1) := by decide +kernel
theorem dprog_20_method_4_code_54 : decode prog_20_method_4_code 54 = .ok (.aload_n 1, 1) := by decide +kernel
theorem dprog_20_method_4_code_55 : decode prog_20_method_4_code 55 = .ok (.iload_n 3, 1) := by decide +kernel
theorem dprog_20_method_4_code_56 : decode prog_20_method_4_code 56 = .ok (.baload, 1) := by decide +kernel
theorem dprog_20_method_4_code_57 : decode prog_20_method_4_code 57 = .ok (.iand, 1) := by decide +kernel
theorem dprog_20_method_4_code_58 : decode prog_20_method_4_code 58 = .ok (.i2b, 1) := by decide +kernel
theorem dprog_20_method_4_code_59 : decode prog_20_method_4_code 59 = .ok (.bastore, 1) := by decide +kernel
theorem dprog_20_method_4_code_60 : decode prog_20_method_4_code 60 = .ok (.iinc 3 1, 3) := by decide +kernel
theorem dprog_20_method_4_code_63 : decode prog_20_method_4_code 63 = .ok (.goto (-23), 3) := by decide +kernel
theorem dprog_20_method_4_code_66 : decode prog_20_method_4_code 66 = .ok (.new 15, 3) := by decide +kernel
theorem dprog_20_method_4_code_69 : decode prog_20_method_4_code 69 = .ok (.dup, 1) := by decide +kernel
theorem dprog_20_method_4_code_70 : decode prog_20_method_4_code 70 = .ok (.aload_n 0, 1) := by decide +kernel
theorem dprog_20_method_4_code_71 : decode prog_20_method_4_code 71 = .ok (.getfield 14, 3) := by decide +kernel
theorem dprog_20_method_4_code_74 : decode prog_20_method_4_code 74 = .ok (.aload_n 2, 1) := by decide +kernel
theorem dprog_20_method_4_code_75 : decode prog_20_method_4_code 75 = .ok (.invokespecial 39, 3) := by decide +kernel
theorem dprog_20_method_4_code_78 : decode prog_20_method_4_code 78 = .ok (.areturn, 1) := by decide +kernel
theorem dprog_20_method_8_code_0 : decode prog_20_method_8_code 0 = .ok (.aload_n 0, 1) := by decide +kernel
theorem dprog_20_method_8_code_1 : decode prog_20_method_8_code 1 = .ok (.getfield 14, 3) := by decide +kernel
theorem dprog_20_method_8_code_4 : decode prog_20_method_8_code 4 = .ok (.areturn, 1) := by decide +kernel
theorem dprog_20_method_9_code_0 : decode prog_20_method_9_code 0 = .ok (.aload_n 0, 1) := by decide +kernel
theorem dprog_20_method_9_code_1 : decode prog_20_method_9_code 1 = .ok (.getfield 20, 3) := by decide +kernel
theorem dprog_20_method_9_code_4 : decode prog_20_method_9_code 4 = .ok (.areturn, 1) := by decide +kernel
theorem pn_0 : plainName "com/example/consulate/consulate/cvc/ChatRestrictedToPinLaw" = true := by first | (simp [plainName, overriddenIn]; done) | decide +kernel
theorem pn_1 : plainName "java/lang/Record" = true := by first | (simp [plainName, overriddenIn]; done) | decide +kernel
theorem pn_2 : plainName "com/example/consulate/consulate/cvc/Chat" = true := by first | (simp [plainName, overriddenIn]; done) | decide +kernel
theorem pd_0 : parseMethodDescriptor "(I)Lcom/example/consulate/consulate/cvc/Chat$Template;" = some ⟨[.int], some (.object "com/example/consulate/consulate/cvc/Chat$Template")⟩ := by decide +kernel
theorem pd_1 : parseMethodDescriptor "()V" = some ⟨[], none⟩ := by decide +kernel
theorem pd_2 : parseMethodDescriptor "(Lcom/example/consulate/consulate/cvc/Chat$Template;[B)V" = some ⟨[(.object "com/example/consulate/consulate/cvc/Chat$Template"), (.array .byte)], none⟩ := by decide +kernel
theorem pd_3 : parseMethodDescriptor "([B)Lcom/example/consulate/consulate/cvc/Chat;" = some ⟨[(.array .byte)], some (.object "com/example/consulate/consulate/cvc/Chat")⟩ := by decide +kernel
theorem pd_4 : parseMethodDescriptor "()[B" = some ⟨[], some (.array .byte)⟩ := by decide +kernel
theorem pd_5 : parseMethodDescriptor "()Lcom/example/consulate/consulate/cvc/Chat$Template;" = some ⟨[], some (.object "com/example/consulate/consulate/cvc/Chat$Template")⟩ := by decide +kernel
theorem ef_1 (m : MethodId) (p0 : Int32) : entryFrame m #[(.int p0)] 2 = mkF m 0 #[.val (.int p0), .unset] [] := by first | (simp [entryFrame, mkF, argsToLocals, Value.category, maxLocals]; done) | rfl
def Q1 (Z : State) (p0 : Int32) (s_Chat_Template_IS : Addr) (s_Chat_Template_AT : Addr) (s_Chat_Template_ST : Addr) (h0 : Heap) (n0 : Nat) (v : Option Value) (h : Heap) (L : List Loc) : Prop := (∃ (rv1 : Addr) (v2 : Int32) (v3 : Int32), v2 = (p0 &&& (2147483647 : Int32)) ∧ v3 = (v2 % (3 : Int32)) ∧ (((v3 = (0 : Int32))) ∨ ((¬ (v3 = (0 : Int32))) ∧ (v3 = (1 : Int32))) ∨ ((¬ (v3 = (0 : Int32))) ∧ (¬ (v3 = (1 : Int32))))) ∧ v = some (.ref rv1) ∧ Fr n0 L ∧ h = h0)
set_option maxRecDepth 65536 in
set_option maxHeartbeats 40000000 in
theorem rm1 (l : Launch) (Z : State) (a0 : Array Value) (hw : ∀ d ∈ tables_1, d.before a0 Z = true) (ws : List Jvm.Cond) (p0 : Int32) (s_Chat_Template_IS : Addr) (s_Chat_Template_AT : Addr) (s_Chat_Template_ST : Addr) (h0 : Heap) (n0 : Nat) (Z0 : n0 ≤ h0.size) (S_s_Chat_Template_IS : Sta Z h0 "com/example/consulate/consulate/cvc/Chat$Template" "IS" "Lcom/example/consulate/consulate/cvc/Chat$Template;" (.ref s_Chat_Template_IS)) (S_s_Chat_Template_AT : Sta Z h0 "com/example/consulate/consulate/cvc/Chat$Template" "AT" "Lcom/example/consulate/consulate/cvc/Chat$Template;" (.ref s_Chat_Template_AT)) (S_s_Chat_Template_ST : Sta Z h0 "com/example/consulate/consulate/cvc/Chat$Template" "ST" "Lcom/example/consulate/consulate/cvc/Chat$Template;" (.ref s_Chat_Template_ST)) :
    Con l Z (⟨"com/example/consulate/consulate/cvc/ChatRestrictedToPinLaw", "pick", "(I)Lcom/example/consulate/consulate/cvc/Chat$Template;"⟩ : MethodName) method_2_code 2 (some (.object "com/example/consulate/consulate/cvc/Chat$Template")) ws ({ frames := 0, cells := 0, slots := 0, locals := 0 } : Room) #[(.int p0)] h0 0 0 (Q1 Z p0 s_Chat_Template_IS s_Chat_Template_AT s_Chat_Template_ST h0 n0) := by
  refine MetFree.of_bodySF (plainFor_of_name pn_0) hisR ?_
  intro p e s m args below meth c s₁ Bd hml0 hP hK
  obtain ⟨rfl, hZ, hh⟩ := hP
  have hx := Bd.exec
  have hby := Bd.bytes
  have hml : c.maxLocals = 2 := hml0
  have hown : s.vm.findClass "com/example/consulate/consulate/cvc/ChatRestrictedToPinLaw" = some m.cls := findClass_of_methodNamed Bd.named
  have hnm := (name_of_methodNamed Bd.named Bd.method).1
  have X0 : Stand p l e ({ frames := 0, cells := 0, slots := 0, locals := 0 } : Room) s m #[(.int p0)] below meth c s₁ [] 0 0 := Stand.of_body Bd
  have e0 : s₁.heap = h0 := by rw [← hh, Bd.state]; rfl
  have N0 := Fr.nil n0
  refine Go.of ?_
  refine Go.st (S' := s₁.setTop (mkF m 0 #[.val (.int p0), .unset] [])) (fun t k => castTop (ef_1 m p0) k) ?_
  refine Go.st (S' := s₁.setTop (mkF m 1 #[.val (.int p0), .unset] [(.int p0)])) (fun t k => XS.iloadN X0.here hx rfl (hb hby dmethod_2_code_0) rfl k) ?_
  refine Go.st (S' := s₁.setTop (mkF m 3 #[.val (.int p0), .unset] [(.int (2147483647 : Int32)), (.int p0)])) (fun t k => X0.ldcInt hx hown (mvT hZ (hw _ (List.mem_of_getElem? (i := 4) rfl))) (g := (mkF m 1 #[.val (.int p0), .unset] [(.int p0)])) rfl (hb hby dmethod_2_code_1) t k) ?_
  refine Go.op (F := fun z => s₁.setTop (mkF m 4 #[.val (.int p0), .unset] [(.int z)])) (x := (p0 &&& (2147483647 : Int32))) (fun t k => XS.iand X0.here hx rfl (hb hby dmethod_2_code_3) rfl k) ?_
  intro v2 hv2
  refine Go.st (S' := s₁.setTop (mkF m 5 #[.val (.int p0), .unset] [(.int (3 : Int32)), (.int v2)])) (fun t k => XS.iconst X0.here hx rfl (hb hby dmethod_2_code_4) k) ?_
  refine Go.op (F := fun z => s₁.setTop (mkF m 6 #[.val (.int p0), .unset] [(.int z)])) (x := (v2 % (3 : Int32))) (fun t k => iremM X0 hx rfl (hb hby dmethod_2_code_5) rfl (by decide) k) ?_
  intro v3 hv3
  refine Go.st (S' := s₁.setTop (mkF m 7 #[.val (.int p0), .val (.int v3)] [])) (fun t k => XS.istoreN X0.here hx rfl (hb hby dmethod_2_code_6) rfl (l' := #[.val (.int p0), .val (.int v3)]) rfl k) ?_
  refine Go.st (S' := s₁.setTop (mkF m 8 #[.val (.int p0), .val (.int v3)] [(.int v3)])) (fun t k => XS.iloadN X0.here hx rfl (hb hby dmethod_2_code_7) rfl k) ?_
  by_cases hc4 : (v3 = (0 : Int32))
  · refine Go.st (S' := s₁.setTop (mkF m 11 #[.val (.int p0), .val (.int v3)] [])) (fun t k => XS.ifNo X0.here hx rfl (hb hby dmethod_2_code_8) rfl ((if0 _ _).trans (teq hc4).2) k) ?_
    obtain ⟨T5, X5, e5, st5⟩ := getS X0 hx hZ hown (hw _ (List.mem_of_getElem? (i := 46) rfl)) Via.refl e0 S_s_Chat_Template_IS (host := "") (g := (mkF m 11 #[.val (.int p0), .val (.int v3)] [])) rfl (hb hby dmethod_2_code_11)
    refine Go.st (S' := T5.setTop (mkF m 14 #[.val (.int p0), .val (.int v3)] [(.ref s_Chat_Template_IS)])) st5 ?_
    exact Go.ret X5 (v := some (.ref s_Chat_Template_IS)) (fun h => by rw [Bd.returns] at h; cases h) Bd.notSynchronized (fun fs hr => retOut X5 hx Bd.returns rfl (Or.inr (Or.inr (Or.inr (Or.inr ⟨rfl, rfl, rfl⟩)))) (hb hby dmethod_2_code_14) hr) (by decide) (by decide) (⟨s_Chat_Template_IS, v2, v3, hv2, hv3, (Or.inl hc4), rfl, N0, (e5)⟩)
  · refine Go.st (S' := s₁.setTop (mkF m 15 #[.val (.int p0), .val (.int v3)] [])) (fun t k => XS.ifYes X0.here hx rfl (pc0 := 8) (pc' := 15) rfl (hb hby dmethod_2_code_8) rfl ((if0 _ _).trans (feq hc4).2) (by decide) (by decide) k) ?_
    refine Go.st (S' := s₁.setTop (mkF m 16 #[.val (.int p0), .val (.int v3)] [(.int v3)])) (fun t k => XS.iloadN X0.here hx rfl (hb hby dmethod_2_code_15) rfl k) ?_
    refine Go.st (S' := s₁.setTop (mkF m 17 #[.val (.int p0), .val (.int v3)] [(.int (1 : Int32)), (.int v3)])) (fun t k => XS.iconst X0.here hx rfl (hb hby dmethod_2_code_16) k) ?_
    by_cases hc6 : (v3 = (1 : Int32))
    · refine Go.st (S' := s₁.setTop (mkF m 20 #[.val (.int p0), .val (.int v3)] [])) (fun t k => XS.icmpNo X0.here hx rfl (hb hby dmethod_2_code_17) rfl (teq hc6).2 k) ?_
      obtain ⟨T7, X7, e7, st7⟩ := getS X0 hx hZ hown (hw _ (List.mem_of_getElem? (i := 44) rfl)) Via.refl e0 S_s_Chat_Template_AT (host := "") (g := (mkF m 20 #[.val (.int p0), .val (.int v3)] [])) rfl (hb hby dmethod_2_code_20)
      refine Go.st (S' := T7.setTop (mkF m 23 #[.val (.int p0), .val (.int v3)] [(.ref s_Chat_Template_AT)])) st7 ?_
      exact Go.ret X7 (v := some (.ref s_Chat_Template_AT)) (fun h => by rw [Bd.returns] at h; cases h) Bd.notSynchronized (fun fs hr => retOut X7 hx Bd.returns rfl (Or.inr (Or.inr (Or.inr (Or.inr ⟨rfl, rfl, rfl⟩)))) (hb hby dmethod_2_code_23) hr) (by decide) (by decide) (⟨s_Chat_Template_AT, v2, v3, hv2, hv3, (Or.inr (Or.inl ⟨hc4, hc6⟩)), rfl, N0, (e7)⟩)
    · refine Go.st (S' := s₁.setTop (mkF m 24 #[.val (.int p0), .val (.int v3)] [])) (fun t k => XS.icmpYes X0.here hx rfl (pc0 := 17) (pc' := 24) rfl (hb hby dmethod_2_code_17) rfl (feq hc6).2 (by decide) (by decide) k) ?_
      obtain ⟨T8, X8, e8, st8⟩ := getS X0 hx hZ hown (hw _ (List.mem_of_getElem? (i := 5) rfl)) Via.refl e0 S_s_Chat_Template_ST (host := "") (g := (mkF m 24 #[.val (.int p0), .val (.int v3)] [])) rfl (hb hby dmethod_2_code_24)
      refine Go.st (S' := T8.setTop (mkF m 27 #[.val (.int p0), .val (.int v3)] [(.ref s_Chat_Template_ST)])) st8 ?_
      exact Go.ret X8 (v := some (.ref s_Chat_Template_ST)) (fun h => by rw [Bd.returns] at h; cases h) Bd.notSynchronized (fun fs hr => retOut X8 hx Bd.returns rfl (Or.inr (Or.inr (Or.inr (Or.inr ⟨rfl, rfl, rfl⟩)))) (hb hby dmethod_2_code_27) hr) (by decide) (by decide) (⟨s_Chat_Template_ST, v2, v3, hv2, hv3, (Or.inr (Or.inr ⟨hc4, hc6⟩)), rfl, N0, (e8)⟩)
theorem ef_2 (m : MethodId) (o0 : Addr) : entryFrame m #[(.ref o0)] 1 = mkF m 0 #[.val (.ref o0)] [] := by first | (simp [entryFrame, mkF, argsToLocals, Value.category, maxLocals]; done) | rfl
def Q2 (Z : State) (o0 : Addr) (h0 : Heap) (n0 : Nat) (v : Option Value) (h : Heap) (L : List Loc) : Prop := (v = none ∧ Fr n0 L ∧ h = h0)
set_option maxRecDepth 65536 in
set_option maxHeartbeats 40000000 in
theorem rm2 (l : Launch) (Z : State) (a0 : Array Value) (hw : ∀ d ∈ tables_1, d.before a0 Z = true) (ws : List Jvm.Cond) (o0 : Addr) (h0 : Heap) (n0 : Nat) (Z0 : n0 ≤ h0.size)  :
    Con l Z (⟨"java/lang/Record", "<init>", "()V"⟩ : MethodName) jdk_30_method_1_code 1 none ws ({ frames := 1, cells := 0, slots := 0, locals := 12 } : Room) #[(.ref o0)] h0 0 0 (Q2 Z o0 h0 n0) := by
  refine MetFree.of_bodySF (plainFor_of_name pn_1) hisR ?_
  intro p e s m args below meth c s₁ Bd hml0 hP hK
  obtain ⟨rfl, hZ, hh⟩ := hP
  have hx := Bd.exec
  have hby := Bd.bytes
  have hml : c.maxLocals = 1 := hml0
  have hown : s.vm.findClass "java/lang/Record" = some m.cls := findClass_of_methodNamed Bd.named
  have hnm := (name_of_methodNamed Bd.named Bd.method).1
  have X0 : Stand p l e ({ frames := 1, cells := 0, slots := 0, locals := 12 } : Room) s m #[(.ref o0)] below meth c s₁ [] 0 0 := Stand.of_body Bd
  have e0 : s₁.heap = h0 := by rw [← hh, Bd.state]; rfl
  have N0 := Fr.nil n0
  refine Go.of ?_
  refine Go.st (S' := s₁.setTop (mkF m 0 #[.val (.ref o0)] [])) (fun t k => castTop (ef_2 m o0) k) ?_
  refine Go.st (S' := s₁.setTop (mkF m 1 #[.val (.ref o0)] [(.ref o0)])) (fun t k => XS.aloadN X0.here hx rfl (hb hby djdk_30_method_1_code_0) rfl rfl k) ?_
  obtain ⟨T95, X95, e95, st95⟩ := initO X0 hx hZ hown (hw _ (List.mem_of_getElem? (i := 20) rfl)) (hw _ (List.mem_of_getElem? (i := 21) rfl)) (hw _ (List.mem_of_getElem? (i := 22) rfl)) e0 (g := (mkF m 1 #[.val (.ref o0)] [(.ref o0)])) rfl (by rw [hml]; rfl) rfl (hb hby djdk_30_method_1_code_1) (by decide) (W := 0) (by show 2 * 0 + _ ≤ _; exact Nat.le_of_eq rfl) (by decide)
  refine Go.st (S' := T95.setTop (mkF m 4 #[.val (.ref o0)] [])) st95 ?_
  exact Go.ret X95 (v := none) (fun _ => rfl) Bd.notSynchronized (fun fs hr => X95.returnOut hx Bd.returns (hb hby djdk_30_method_1_code_4) hr) (by decide) (by decide) (⟨rfl, N0, (e95)⟩)
theorem ef_3 (m : MethodId) (o0 : Addr) (o1 : Addr) (o2 : Addr) : entryFrame m #[(.ref o0), (.ref o1), (.ref o2)] 3 = mkF m 0 #[.val (.ref o0), .val (.ref o1), .val (.ref o2)] [] := by first | (simp [entryFrame, mkF, argsToLocals, Value.category, maxLocals]; done) | rfl
def Q3 (Z : State) (o0 : Addr) (o1 : Addr) (o2 : Addr) (k_o2 : ClassId) (e0_o2 : Int32) (u_o0_template : Value) (u_o0_data : Value) (h0 : Heap) (n0 : Nat) (v : Option Value) (h : Heap) (L : List Loc) : Prop := (v = none ∧ Fr n0 L ∧ Keep h0 h [o0] ∧ Exa Z h o0 "com/example/consulate/consulate/cvc/Chat" ∧ Fld Z h o0 "com/example/consulate/consulate/cvc/Chat" "template" "Lcom/example/consulate/consulate/cvc/Chat$Template;" (.ref o1) ∧ Fld Z h o0 "com/example/consulate/consulate/cvc/Chat" "data" "[B" (.ref o2))
set_option maxRecDepth 65536 in
set_option maxHeartbeats 40000000 in
theorem rm3 (l : Launch) (Z : State) (a0 : Array Value) (hw : ∀ d ∈ tables_1, d.before a0 Z = true) (ws : List Jvm.Cond) (o0 : Addr) (o1 : Addr) (o2 : Addr) (k_o2 : ClassId) (e0_o2 : Int32) (u_o0_template : Value) (u_o0_data : Value) (h0 : Heap) (n0 : Nat) (Z0 : n0 ≤ h0.size) (V_o2 : Arv Z h0 o2 k_o2 .byte (1 : Int32) [(.int e0_o2)] (.int (0 : Int32))) (E_o0 : Exa Z h0 o0 "com/example/consulate/consulate/cvc/Chat") (F_o0_template : Fld Z h0 o0 "com/example/consulate/consulate/cvc/Chat" "template" "Lcom/example/consulate/consulate/cvc/Chat$Template;" u_o0_template) (g_o0 : n0 ≤ o0) (F_o0_data : Fld Z h0 o0 "com/example/consulate/consulate/cvc/Chat" "data" "[B" u_o0_data) :
    Con l Z (⟨"com/example/consulate/consulate/cvc/Chat", "<init>", "(Lcom/example/consulate/consulate/cvc/Chat$Template;[B)V"⟩ : MethodName) prog_20_method_1_code 3 none ws ({ frames := 2, cells := 0, slots := 0, locals := 24 } : Room) #[(.ref o0), (.ref o1), (.ref o2)] h0 0 0 (Q3 Z o0 o1 o2 k_o2 e0_o2 u_o0_template u_o0_data h0 n0) := by
  refine MetFree.of_bodySF (plainFor_of_name pn_2) hisR ?_
  intro p e s m args below meth c s₁ Bd hml0 hP hK
  obtain ⟨rfl, hZ, hh⟩ := hP
  have hx := Bd.exec
  have hby := Bd.bytes
  have hml : c.maxLocals = 3 := hml0
  have hown : s.vm.findClass "com/example/consulate/consulate/cvc/Chat" = some m.cls := findClass_of_methodNamed Bd.named
  have hnm := (name_of_methodNamed Bd.named Bd.method).1
  have X0 : Stand p l e ({ frames := 2, cells := 0, slots := 0, locals := 24 } : Room) s m #[(.ref o0), (.ref o1), (.ref o2)] below meth c s₁ [] 0 0 := Stand.of_body Bd
  have e0 : s₁.heap = h0 := by rw [← hh, Bd.state]; rfl
  have N0 := Fr.nil n0
  refine Go.of ?_
  refine Go.st (S' := s₁.setTop (mkF m 0 #[.val (.ref o0), .val (.ref o1), .val (.ref o2)] [])) (fun t k => castTop (ef_3 m o0 o1 o2) k) ?_
  refine Go.st (S' := s₁.setTop (mkF m 1 #[.val (.ref o0), .val (.ref o1), .val (.ref o2)] [(.ref o0)])) (fun t k => XS.aloadN X0.here hx rfl (hb hby dprog_20_method_1_code_0) rfl rfl k) ?_
  obtain ⟨r96, T96, L96, X96, hQ96, st96⟩ := own_callI (W := 0) (a := o0) X0 hx hZ e0 hown (y := (⟨"java/lang/Record", "<init>", "()V"⟩ : MethodName)) rfl (hw _ (List.mem_of_getElem? (i := 15) rfl)) (hw _ (List.mem_of_getElem? (i := 16) rfl)) (hw _ (List.mem_of_getElem? (i := 18) rfl)) (hw _ (List.mem_of_getElem? (i := 19) rfl)) (by decide) (rm2 l Z a0 hw [] o0 h0 n0 Z0 ) (by decide) (by decide) (by decide) (by decide) (g := (mkF m 1 #[.val (.ref o0), .val (.ref o1), .val (.ref o2)] [(.ref o0)])) rfl (by rw [hml]; rfl) (argsL := []) (rest := []) rfl (lenOf pd_1 rfl) rfl (by show 2 * 0 + _ ≤ _; exact Nat.le_of_eq rfl) (hb hby dprog_20_method_1_code_1)
  obtain ⟨rfl, N96, e96⟩ := hQ96
  have N96_ := Fr.app N0 N96
  refine Go.st (S' := T96.setTop (mkF m 4 #[.val (.ref o0), .val (.ref o1), .val (.ref o2)] [])) st96 ?_
  refine Go.st (S' := T96.setTop (mkF m 5 #[.val (.ref o0), .val (.ref o1), .val (.ref o2)] [(.ref o2)])) (fun t k => XS.aloadN X96.here hx rfl (hb hby dprog_20_method_1_code_4) rfl rfl k) ?_
  obtain ⟨cl98, Ar98, -, S98, N98_, -, -⟩ := id V_o2
  refine Go.op (F := fun z => T96.setTop (mkF m 6 #[.val (.ref o0), .val (.ref o1), .val (.ref o2)] [(.int z)])) (x := cl98.slots.size.toInt32) (fun t k => X96.arraylength hx (own_eh e96 Ar98.1) (State.isArrayOf_alike hZ.alike Ar98.2.1) (g := (mkF m 5 #[.val (.ref o0), .val (.ref o1), .val (.ref o2)] [(.ref o2)])) rfl rfl (hb hby dprog_20_method_1_code_5) t k) ?_
  intro v99 hv99
  obtain rfl : (1 : Int32) = v99 := (hv99.trans (len_of S98 N98_)).symm
  refine Go.st (S' := T96.setTop (mkF m 19 #[.val (.ref o0), .val (.ref o1), .val (.ref o2)] [])) (fun t k => XS.ifYes X96.here hx rfl (pc0 := 6) (pc' := 19) rfl (hb hby dprog_20_method_1_code_6) rfl ((if0 _ _).trans (feq (by decide : (¬ ((1 : Int32) = (0 : Int32))))).2) (by decide) (by decide) k) ?_
  refine Go.st (S' := T96.setTop (mkF m 20 #[.val (.ref o0), .val (.ref o1), .val (.ref o2)] [(.ref o0)])) (fun t k => XS.aloadN X96.here hx rfl (hb hby dprog_20_method_1_code_19) rfl rfl k) ?_
  refine Go.st (S' := T96.setTop (mkF m 21 #[.val (.ref o0), .val (.ref o1), .val (.ref o2)] [(.ref o1), (.ref o0)])) (fun t k => XS.aloadN X96.here hx rfl (hb hby dprog_20_method_1_code_20) rfl rfl k) ?_
  obtain ⟨T100, h100, X100, e100, W100, st100⟩ := putF X96 hx hZ hown (host := "") (Or.inl (hw _ (List.mem_of_getElem? (i := 23) rfl))) Via.refl e96 F_o0_template E_o0 (Or.inr ⟨(hw _ (List.mem_of_getElem? (i := 24) rfl)), rfl, hnm⟩) (hw _ (List.mem_of_getElem? (i := 10) rfl)) (ty := (.object "com/example/consulate/consulate/cvc/Chat$Template")) (by decide) rfl rfl (g := (mkF m 21 #[.val (.ref o0), .val (.ref o1), .val (.ref o2)] [(.ref o1), (.ref o0)])) rfl rfl (hb hby dprog_20_method_1_code_21)
  have Fw100 := (F_o0_template).same W100
  have N100 := Fr.snoc X100 N96_ g_o0
  have Z101 : n0 ≤ h100.size := Nat.le_trans Z0 (Keep.of_wr W100).1
  have K101 : Keep h0 h100 [o0] := (Keep.refl h0 [o0]).wr W100 (Or.inl (by simp))
  refine Go.st (S' := T100.setTop (mkF m 24 #[.val (.ref o0), .val (.ref o1), .val (.ref o2)] [])) st100 ?_
  refine Go.st (S' := T100.setTop (mkF m 25 #[.val (.ref o0), .val (.ref o1), .val (.ref o2)] [(.ref o0)])) (fun t k => XS.aloadN X100.here hx rfl (hb hby dprog_20_method_1_code_24) rfl rfl k) ?_
  refine Go.st (S' := T100.setTop (mkF m 26 #[.val (.ref o0), .val (.ref o1), .val (.ref o2)] [(.ref o2), (.ref o0)])) (fun t k => XS.aloadN X100.here hx rfl (hb hby dprog_20_method_1_code_25) rfl rfl k) ?_
  have f102 := ((E_o0).wr W100)
  have f103 := ((F_o0_data).other W100 (Or.inr (slot_ne (Or.inr (hw _ (List.mem_of_getElem? (i := 26) rfl))) (Or.inr (hw _ (List.mem_of_getElem? (i := 24) rfl))) (by decide) (t := (.array .byte)) (t' := (.object "com/example/consulate/consulate/cvc/Chat$Template")) (by decide) (by decide))))
  obtain ⟨T104, h104, X104, e104, W104, st104⟩ := putF X100 hx hZ hown (host := "") (Or.inl (hw _ (List.mem_of_getElem? (i := 25) rfl))) Via.refl e100 f103 f102 (Or.inr ⟨(hw _ (List.mem_of_getElem? (i := 26) rfl)), rfl, hnm⟩) (hw _ (List.mem_of_getElem? (i := 10) rfl)) (ty := (.array .byte)) (by decide) rfl rfl (g := (mkF m 26 #[.val (.ref o0), .val (.ref o1), .val (.ref o2)] [(.ref o2), (.ref o0)])) rfl rfl (hb hby dprog_20_method_1_code_26)
  have Fw104 := (f103).same W104
  have N104 := Fr.snoc X104 N100 g_o0
  have Z105 : n0 ≤ h104.size := Nat.le_trans Z101 (Keep.of_wr W104).1
  have K105 : Keep h0 h104 [o0] := K101.wr W104 (Or.inl (by simp))
  refine Go.st (S' := T104.setTop (mkF m 29 #[.val (.ref o0), .val (.ref o1), .val (.ref o2)] [])) st104 ?_
  have f106 := ((f102).wr W104)
  have f107 := ((Fw100).other W104 (Or.inr (slot_ne (Or.inr (hw _ (List.mem_of_getElem? (i := 24) rfl))) (Or.inr (hw _ (List.mem_of_getElem? (i := 26) rfl))) (by decide) (t := (.object "com/example/consulate/consulate/cvc/Chat$Template")) (t' := (.array .byte)) (by decide) (by decide))))
  exact Go.ret X104 (v := none) (fun _ => rfl) Bd.notSynchronized (fun fs hr => X104.returnOut hx Bd.returns (hb hby dprog_20_method_1_code_29) hr) (by decide) (by decide) (by rw [e104]; exact ⟨rfl, N104, K105, f106, f107, Fw104⟩)
theorem ef_4 (m : MethodId) (o0 : Addr) (o1 : Addr) : entryFrame m #[(.ref o0), (.ref o1)] 4 = mkF m 0 #[.val (.ref o0), .val (.ref o1), .unset, .unset] [] := by first | (simp [entryFrame, mkF, argsToLocals, Value.category, maxLocals]; done) | rfl
def Q4 (Z : State) (o0 : Addr) (o1 : Addr) (k_o1 : ClassId) (e0_o1 : Int32) (o_2 : Addr) (k_o_2 : ClassId) (e0_o_2 : Int32) (o_3 : Addr) (h0 : Heap) (n0 : Nat) (v : Option Value) (h : Heap) (L : List Loc) : Prop := (∃ (v136 : Int32) (v137 : Int32) (v139 : Int32) (b125 : Addr) (b145 : Addr) (k125 : ClassId), v136 = (e0_o_2 &&& e0_o1) ∧ v137 = v136.toInt8.toInt32 ∧ v139 = v137.toInt8.toInt32 ∧ v = some (.ref b145) ∧ Fr n0 L ∧ Keep h0 h [] ∧ h0.size ≤ b125 ∧ h0.size ≤ b145 ∧ Arv Z h b125 k125 .byte (1 : Int32) [(.int v139)] (.int (0 : Int32)) ∧ Exa Z h b125 "[B" ∧ Exa Z h b145 "com/example/consulate/consulate/cvc/Chat" ∧ Fld Z h b145 "com/example/consulate/consulate/cvc/Chat" "template" "Lcom/example/consulate/consulate/cvc/Chat$Template;" (.ref o_3) ∧ Fld Z h b145 "com/example/consulate/consulate/cvc/Chat" "data" "[B" (.ref b125) ∧ b125 < b145)
set_option maxRecDepth 65536 in
set_option maxHeartbeats 40000000 in
theorem rm4 (l : Launch) (Z : State) (a0 : Array Value) (hw : ∀ d ∈ tables_1, d.before a0 Z = true) (ws : List Jvm.Cond) (o0 : Addr) (o1 : Addr) (k_o1 : ClassId) (e0_o1 : Int32) (o_2 : Addr) (k_o_2 : ClassId) (e0_o_2 : Int32) (o_3 : Addr) (h0 : Heap) (n0 : Nat) (Z0 : n0 ≤ h0.size) (V_o1 : Arv Z h0 o1 k_o1 .byte (1 : Int32) [(.int e0_o1)] (.int (0 : Int32))) (F_o0_data : Fld Z h0 o0 "com/example/consulate/consulate/cvc/Chat" "data" "[B" (.ref o_2)) (V_o_2 : Arv Z h0 o_2 k_o_2 .byte (1 : Int32) [(.int e0_o_2)] (.int (0 : Int32))) (F_o0_template : Fld Z h0 o0 "com/example/consulate/consulate/cvc/Chat" "template" "Lcom/example/consulate/consulate/cvc/Chat$Template;" (.ref o_3)) :
    Con l Z (⟨"com/example/consulate/consulate/cvc/Chat", "restrictedTo", "([B)Lcom/example/consulate/consulate/cvc/Chat;"⟩ : MethodName) prog_20_method_4_code 4 (some (.object "com/example/consulate/consulate/cvc/Chat")) ws ({ frames := 3, cells := 2, slots := 3, locals := 39 } : Room) #[(.ref o0), (.ref o1)] h0 2 3 (Q4 Z o0 o1 k_o1 e0_o1 o_2 k_o_2 e0_o_2 o_3 h0 n0) := by
  refine MetFree.of_bodySF (plainFor_of_name pn_2) hisR ?_
  intro p e s m args below meth c s₁ Bd hml0 hP hK
  obtain ⟨rfl, hZ, hh⟩ := hP
  have hx := Bd.exec
  have hby := Bd.bytes
  have hml : c.maxLocals = 4 := hml0
  have hown : s.vm.findClass "com/example/consulate/consulate/cvc/Chat" = some m.cls := findClass_of_methodNamed Bd.named
  have hnm := (name_of_methodNamed Bd.named Bd.method).1
  have X0 : Stand p l e ({ frames := 3, cells := 2, slots := 3, locals := 39 } : Room) s m #[(.ref o0), (.ref o1)] below meth c s₁ [] 0 0 := Stand.of_body Bd
  have e0 : s₁.heap = h0 := by rw [← hh, Bd.state]; rfl
  have N0 := Fr.nil n0
  refine Go.of ?_
  refine Go.st (S' := s₁.setTop (mkF m 0 #[.val (.ref o0), .val (.ref o1), .unset, .unset] [])) (fun t k => castTop (ef_4 m o0 o1) k) ?_
  refine Go.st (S' := s₁.setTop (mkF m 1 #[.val (.ref o0), .val (.ref o1), .unset, .unset] [(.ref o1)])) (fun t k => XS.aloadN X0.here hx rfl (hb hby dprog_20_method_4_code_0) rfl rfl k) ?_
  obtain ⟨cl116, Ar116, -, S116, N116_, -, -⟩ := id V_o1
  refine Go.op (F := fun z => s₁.setTop (mkF m 2 #[.val (.ref o0), .val (.ref o1), .unset, .unset] [(.int z)])) (x := cl116.slots.size.toInt32) (fun t k => X0.arraylength hx (own_eh e0 Ar116.1) (State.isArrayOf_alike hZ.alike Ar116.2.1) (g := (mkF m 1 #[.val (.ref o0), .val (.ref o1), .unset, .unset] [(.ref o1)])) rfl rfl (hb hby dprog_20_method_4_code_1) t k) ?_
  intro v117 hv117
  obtain rfl : (1 : Int32) = v117 := (hv117.trans (len_of S116 N116_)).symm
  refine Go.st (S' := s₁.setTop (mkF m 3 #[.val (.ref o0), .val (.ref o1), .unset, .unset] [(.ref o0), (.int (1 : Int32))])) (fun t k => XS.aloadN X0.here hx rfl (hb hby dprog_20_method_4_code_2) rfl rfl k) ?_
  obtain ⟨T118, X118, e118, st118⟩ := getF X0 hx hZ hown (host := "") (Or.inl (hw _ (List.mem_of_getElem? (i := 25) rfl))) Via.refl e0 F_o0_data (g := (mkF m 3 #[.val (.ref o0), .val (.ref o1), .unset, .unset] [(.ref o0), (.int (1 : Int32))])) rfl rfl (hb hby dprog_20_method_4_code_3)
  refine Go.st (S' := T118.setTop (mkF m 6 #[.val (.ref o0), .val (.ref o1), .unset, .unset] [(.ref o_2), (.int (1 : Int32))])) st118 ?_
  obtain ⟨cl120, Ar120, -, S120, N120_, -, -⟩ := id V_o_2
  refine Go.op (F := fun z => T118.setTop (mkF m 7 #[.val (.ref o0), .val (.ref o1), .unset, .unset] [(.int z), (.int (1 : Int32))])) (x := cl120.slots.size.toInt32) (fun t k => X118.arraylength hx (own_eh e118 Ar120.1) (State.isArrayOf_alike hZ.alike Ar120.2.1) (g := (mkF m 6 #[.val (.ref o0), .val (.ref o1), .unset, .unset] [(.ref o_2), (.int (1 : Int32))])) rfl rfl (hb hby dprog_20_method_4_code_6) t k) ?_
  intro v121 hv121
  obtain rfl : (1 : Int32) = v121 := (hv121.trans (len_of S120 N120_)).symm
  refine Go.st (S' := T118.setTop (mkF m 30 #[.val (.ref o0), .val (.ref o1), .unset, .unset] [])) (fun t k => XS.icmpYes X118.here hx rfl (pc0 := 7) (pc' := 30) rfl (hb hby dprog_20_method_4_code_7) rfl (teq (by decide : ((1 : Int32) = (1 : Int32)))).1 (by decide) (by decide) k) ?_
  refine Go.st (S' := T118.setTop (mkF m 31 #[.val (.ref o0), .val (.ref o1), .unset, .unset] [(.ref o0)])) (fun t k => XS.aloadN X118.here hx rfl (hb hby dprog_20_method_4_code_30) rfl rfl k) ?_
  obtain ⟨T122, X122, e122, st122⟩ := getF X118 hx hZ hown (host := "") (Or.inl (hw _ (List.mem_of_getElem? (i := 25) rfl))) Via.refl e118 F_o0_data (g := (mkF m 31 #[.val (.ref o0), .val (.ref o1), .unset, .unset] [(.ref o0)])) rfl rfl (hb hby dprog_20_method_4_code_31)
  refine Go.st (S' := T122.setTop (mkF m 34 #[.val (.ref o0), .val (.ref o1), .unset, .unset] [(.ref o_2)])) st122 ?_
  obtain ⟨cl123, Ar123, -, S123, N123_, -, -⟩ := id V_o_2
  refine Go.op (F := fun z => T122.setTop (mkF m 35 #[.val (.ref o0), .val (.ref o1), .unset, .unset] [(.int z)])) (x := cl123.slots.size.toInt32) (fun t k => X122.arraylength hx (own_eh e122 Ar123.1) (State.isArrayOf_alike hZ.alike Ar123.2.1) (g := (mkF m 34 #[.val (.ref o0), .val (.ref o1), .unset, .unset] [(.ref o_2)])) rfl rfl (hb hby dprog_20_method_4_code_34) t k) ?_
  intro v124 hv124
  obtain rfl : (1 : Int32) = v124 := (hv124.trans (len_of S123 N123_)).symm
  obtain ⟨T125, h125, k125, X125, e125, E125, A125, B125, st125⟩ := newPE X122 hx hZ (hw _ (List.mem_of_getElem? (i := 8) rfl)) e122 (g := (mkF m 35 #[.val (.ref o0), .val (.ref o1), .unset, .unset] [(.int (1 : Int32))])) rfl (hb hby dprog_20_method_4_code_35) rfl (by decide) (cap := 1) (by decide) (by decide) (by decide) (by decide) (ad := "[B") (by decide)
  obtain ⟨b125, gg125⟩ : ∃ z, z = h0.size := ⟨_, rfl⟩
  rw [← gg125] at A125 B125 st125
  have g_b125 : n0 ≤ b125 := Nat.le_trans Z0 (Nat.le_of_eq gg125.symm)
  have sz_b125 : h0.size ≤ b125 := Nat.le_trans (Keep.refl h0 []).1 (Nat.le_of_eq gg125.symm)
  have Z126 : n0 ≤ h125.size := Nat.le_trans Z0 E125.1
  have K126 : Keep h0 h125 [] := (Keep.refl h0 []).ext E125
  have V125 : Arv Z h125 b125 k125 .byte (1 : Int32) [(.int (0 : Int32))] (.int (0 : Int32)) := (Arv.new A125 (by decide)).pad (pad_rep [] (.int (0 : Int32)) 1)
  refine Go.st (S' := T125.setTop (mkF m 37 #[.val (.ref o0), .val (.ref o1), .unset, .unset] [(.ref b125)])) st125 ?_
  refine Go.st (S' := T125.setTop (mkF m 38 #[.val (.ref o0), .val (.ref o1), .val (.ref b125), .unset] [])) (fun t k => XS.astoreN X125.here hx rfl (hb hby dprog_20_method_4_code_37) rfl rfl (l' := #[.val (.ref o0), .val (.ref o1), .val (.ref b125), .unset]) rfl k) ?_
  refine Go.st (S' := T125.setTop (mkF m 39 #[.val (.ref o0), .val (.ref o1), .val (.ref b125), .unset] [(.int (0 : Int32))])) (fun t k => XS.iconst X125.here hx rfl (hb hby dprog_20_method_4_code_38) k) ?_
  let A127 : Array Slot := #[.val (.ref o0), .val (.ref o1), .val (.ref b125), .val (.int (0 : Int32))]
  refine Go.st (S' := T125.setTop (mkF m 40 A127 [])) (fun t k => XS.istoreN X125.here hx rfl (hb hby dprog_20_method_4_code_39) rfl (l' := A127) rfl k) ?_
  refine Go.st (S' := T125.setTop (mkF m 41 A127 [(.int (0 : Int32))])) (fun t k => XS.iloadN X125.here hx rfl (hb hby dprog_20_method_4_code_40) rfl k) ?_
  refine Go.st (S' := T125.setTop (mkF m 42 A127 [(.ref b125), (.int (0 : Int32))])) (fun t k => XS.aloadN X125.here hx rfl (hb hby dprog_20_method_4_code_41) rfl rfl k) ?_
  obtain ⟨cl128, Ar128, -, S128, N128_, -, -⟩ := id V125
  refine Go.op (F := fun z => T125.setTop (mkF m 43 A127 [(.int z), (.int (0 : Int32))])) (x := cl128.slots.size.toInt32) (fun t k => X125.arraylength hx (own_eh e125 Ar128.1) (State.isArrayOf_alike hZ.alike Ar128.2.1) (g := (mkF m 42 A127 [(.ref b125), (.int (0 : Int32))])) rfl rfl (hb hby dprog_20_method_4_code_42) t k) ?_
  intro v129 hv129
  obtain rfl : (1 : Int32) = v129 := (hv129.trans (len_of S128 N128_)).symm
  refine Go.st (S' := T125.setTop (mkF m 46 A127 [])) (fun t k => XS.icmpNo X125.here hx rfl (hb hby dprog_20_method_4_code_43) rfl (tlt (by decide : ((0 : Int32) < (1 : Int32)))).2.1 k) ?_
  refine Go.st (S' := T125.setTop (mkF m 47 A127 [(.ref b125)])) (fun t k => XS.aloadN X125.here hx rfl (hb hby dprog_20_method_4_code_46) rfl rfl k) ?_
  refine Go.st (S' := T125.setTop (mkF m 48 A127 [(.int (0 : Int32)), (.ref b125)])) (fun t k => XS.iloadN X125.here hx rfl (hb hby dprog_20_method_4_code_47) rfl k) ?_
  refine Go.st (S' := T125.setTop (mkF m 49 A127 [(.ref o0), (.int (0 : Int32)), (.ref b125)])) (fun t k => XS.aloadN X125.here hx rfl (hb hby dprog_20_method_4_code_48) rfl rfl k) ?_
  have f130 := ((F_o0_data).ext E125)
  obtain ⟨T131, X131, e131, st131⟩ := getF X125 hx hZ hown (host := "") (Or.inl (hw _ (List.mem_of_getElem? (i := 25) rfl))) Via.refl e125 f130 (g := (mkF m 49 A127 [(.ref o0), (.int (0 : Int32)), (.ref b125)])) rfl rfl (hb hby dprog_20_method_4_code_49)
  refine Go.st (S' := T131.setTop (mkF m 52 A127 [(.ref o_2), (.int (0 : Int32)), (.ref b125)])) st131 ?_
  refine Go.st (S' := T131.setTop (mkF m 53 A127 [(.int (0 : Int32)), (.ref o_2), (.int (0 : Int32)), (.ref b125)])) (fun t k => XS.iloadN X131.here hx rfl (hb hby dprog_20_method_4_code_52) rfl k) ?_
  have f132 := ((V_o_2).ext E125)
  obtain ⟨cl133, Ar133, -, S133, N133_, H133, -⟩ := id f132
  have hin133 : ¬ ((0 : Int32) < 0 ∨ cl133.slots.size ≤ ((0 : Int32)).toNatClampNeg) := inb_of S133 ⟨by decide, by decide⟩
  have hat133 : cl133.slots[((0 : Int32)).toNatClampNeg]? = some (.int e0_o_2) := Has.at H133 hin133 rfl
  refine Go.st (S' := T131.setTop (mkF m 54 A127 [(.int e0_o_2), (.int (0 : Int32)), (.ref b125)])) (fun t k => X131.baloadBytes hx (j := (0 : Int32)) (v := (.int e0_o_2)) (own_eh e131 Ar133.1) (State.isArrayOf_alike hZ.alike Ar133.2.1) Ar133.2.2 hin133 hat133 (g := (mkF m 53 A127 [(.int (0 : Int32)), (.ref o_2), (.int (0 : Int32)), (.ref b125)])) rfl rfl (hb hby dprog_20_method_4_code_53) t k) ?_
  refine Go.st (S' := T131.setTop (mkF m 55 A127 [(.ref o1), (.int e0_o_2), (.int (0 : Int32)), (.ref b125)])) (fun t k => XS.aloadN X131.here hx rfl (hb hby dprog_20_method_4_code_54) rfl rfl k) ?_
  refine Go.st (S' := T131.setTop (mkF m 56 A127 [(.int (0 : Int32)), (.ref o1), (.int e0_o_2), (.int (0 : Int32)), (.ref b125)])) (fun t k => XS.iloadN X131.here hx rfl (hb hby dprog_20_method_4_code_55) rfl k) ?_
  have f134 := ((V_o1).ext E125)
  obtain ⟨cl135, Ar135, -, S135, N135_, H135, -⟩ := id f134
  have hin135 : ¬ ((0 : Int32) < 0 ∨ cl135.slots.size ≤ ((0 : Int32)).toNatClampNeg) := inb_of S135 ⟨by decide, by decide⟩
  have hat135 : cl135.slots[((0 : Int32)).toNatClampNeg]? = some (.int e0_o1) := Has.at H135 hin135 rfl
  refine Go.st (S' := T131.setTop (mkF m 57 A127 [(.int e0_o1), (.int e0_o_2), (.int (0 : Int32)), (.ref b125)])) (fun t k => X131.baloadBytes hx (j := (0 : Int32)) (v := (.int e0_o1)) (own_eh e131 Ar135.1) (State.isArrayOf_alike hZ.alike Ar135.2.1) Ar135.2.2 hin135 hat135 (g := (mkF m 56 A127 [(.int (0 : Int32)), (.ref o1), (.int e0_o_2), (.int (0 : Int32)), (.ref b125)])) rfl rfl (hb hby dprog_20_method_4_code_56) t k) ?_
  refine Go.op (F := fun z => T131.setTop (mkF m 58 A127 [(.int z), (.int (0 : Int32)), (.ref b125)])) (x := (e0_o_2 &&& e0_o1)) (fun t k => XS.iand X131.here hx rfl (hb hby dprog_20_method_4_code_57) rfl k) ?_
  intro v136 hv136
  refine Go.op (F := fun z => T131.setTop (mkF m 59 A127 [(.int z), (.int (0 : Int32)), (.ref b125)])) (x := v136.toInt8.toInt32) (fun t k => XS.i2b X131.here hx rfl (hb hby dprog_20_method_4_code_58) rfl k) ?_
  intro v137 hv137
  obtain ⟨cl138, Ar138, q138, S138, N138_, H138, G138⟩ := id V125
  have hin138 : ¬ ((0 : Int32) < 0 ∨ cl138.slots.size ≤ ((0 : Int32)).toNatClampNeg) := inb_of S138 ⟨by decide, by decide⟩
  obtain ⟨v139, hv139⟩ : ∃ z, z = v137.toInt8.toInt32 := ⟨_, rfl⟩
  obtain ⟨T138, h138, X138, e138, W138, st138⟩ := stB X131 hx hZ e131 Ar138 (j := (0 : Int32)) hin138 (g := (mkF m 59 A127 [(.int v137), (.int (0 : Int32)), (.ref b125)])) rfl rfl (hb hby dprog_20_method_4_code_59)
  have W138 : Wr h125 h138 b125 ((0 : Int32)).toNatClampNeg (.int v139) := by rw [hv139]; exact W138
  have V138 : Arv Z h138 b125 k125 .byte (1 : Int32) [(.int v139)] (.int (0 : Int32)) := Arv.set Ar138 q138 S138 N138_ H138 G138 (by rw [hv139]; exact fits_nar_byte _) W138 0 rfl (Nat.le_of_ble_eq_true rfl)
  have N138 := Fr.snoc X138 N0 g_b125
  have Z140 : n0 ≤ h138.size := Nat.le_trans Z126 (Keep.of_wr W138).1
  have K140 : Keep h0 h138 [] := K126.wr W138 (Or.inr sz_b125)
  refine Go.st (S' := T138.setTop (mkF m 60 A127 [])) st138 ?_
  refine Go.op (F := fun z => T138.setTop (mkF m 63 #[.val (.ref o0), .val (.ref o1), .val (.ref b125), .val (.int z)] [])) (x := ((0 : Int32) + (1 : Int32))) (fun t k => XS.iinc X138.here hx rfl (hb hby dprog_20_method_4_code_60) rfl rfl k) ?_
  intro v141 hv141
  obtain rfl : (1 : Int32) = v141 := (hv141.trans (by decide)).symm
  let A142 : Array Slot := #[.val (.ref o0), .val (.ref o1), .val (.ref b125), .val (.int (1 : Int32))]
  refine Go.st (S' := T138.setTop (mkF m 40 A142 [])) (fun t k => XS.goto X138.here hx rfl (pc0 := 63) (pc' := 40) rfl (hb hby dprog_20_method_4_code_63) (by decide) (by decide) k) ?_
  refine Go.st (S' := T138.setTop (mkF m 41 A142 [(.int (1 : Int32))])) (fun t k => XS.iloadN X138.here hx rfl (hb hby dprog_20_method_4_code_40) rfl k) ?_
  refine Go.st (S' := T138.setTop (mkF m 42 A142 [(.ref b125), (.int (1 : Int32))])) (fun t k => XS.aloadN X138.here hx rfl (hb hby dprog_20_method_4_code_41) rfl rfl k) ?_
  obtain ⟨cl143, Ar143, -, S143, N143_, -, -⟩ := id V138
  refine Go.op (F := fun z => T138.setTop (mkF m 43 A142 [(.int z), (.int (1 : Int32))])) (x := cl143.slots.size.toInt32) (fun t k => X138.arraylength hx (own_eh e138 Ar143.1) (State.isArrayOf_alike hZ.alike Ar143.2.1) (g := (mkF m 42 A142 [(.ref b125), (.int (1 : Int32))])) rfl rfl (hb hby dprog_20_method_4_code_42) t k) ?_
  intro v144 hv144
  obtain rfl : (1 : Int32) = v144 := (hv144.trans (len_of S143 N143_)).symm
  refine Go.st (S' := T138.setTop (mkF m 66 A142 [])) (fun t k => XS.icmpYes X138.here hx rfl (pc0 := 43) (pc' := 66) rfl (hb hby dprog_20_method_4_code_43) rfl (flt (by decide : (¬ ((1 : Int32) < (1 : Int32))))).2.1 (by decide) (by decide) k) ?_
  obtain ⟨T145, h145, X145, e145, E145, A145, D145, -, st145⟩ := newO X138 hx hZ hown (hw _ (List.mem_of_getElem? (i := 32) rfl)) (hw _ (List.mem_of_getElem? (i := 10) rfl)) (hw _ (List.mem_of_getElem? (i := 11) rfl)) e138 (g := (mkF m 66 A142 [])) rfl (hb hby dprog_20_method_4_code_66) (by decide) (by decide)
  obtain ⟨b145, gg145⟩ : ∃ z, z = h138.size := ⟨_, rfl⟩
  rw [← gg145] at A145 D145 st145
  have g_b145 : n0 ≤ b145 := Nat.le_trans Z140 (Nat.le_of_eq gg145.symm)
  have sz_b145 : h0.size ≤ b145 := Nat.le_trans K140.1 (Nat.le_of_eq gg145.symm)
  have f146 := ((B125).wr W138)
  have lt_b125_b145 : b125 < b145 := Nat.lt_of_lt_of_le (f146).lt (Nat.le_of_eq gg145.symm)
  have Z147 : n0 ≤ h145.size := Nat.le_trans Z140 E145.1
  have K147 : Keep h0 h145 [] := K140.ext E145
  have Fb145_template : Fld Z h145 b145 "com/example/consulate/consulate/cvc/Chat" "template" "Lcom/example/consulate/consulate/cvc/Chat$Template;" .null := D145 (Or.inr (hw _ (List.mem_of_getElem? (i := 24) rfl))) (ty := (.object "com/example/consulate/consulate/cvc/Chat$Template")) (by decide)
  have Fb145_data : Fld Z h145 b145 "com/example/consulate/consulate/cvc/Chat" "data" "[B" .null := D145 (Or.inr (hw _ (List.mem_of_getElem? (i := 26) rfl))) (ty := (.array .byte)) (by decide)
  refine Go.st (S' := T145.setTop (mkF m 69 A142 [(.ref b145)])) st145 ?_
  refine Go.st (S' := T145.setTop (mkF m 70 A142 [(.ref b145), (.ref b145)])) (fun t k => XS.dup X145.here hx rfl (hb hby dprog_20_method_4_code_69) rfl rfl k) ?_
  refine Go.st (S' := T145.setTop (mkF m 71 A142 [(.ref o0), (.ref b145), (.ref b145)])) (fun t k => XS.aloadN X145.here hx rfl (hb hby dprog_20_method_4_code_70) rfl rfl k) ?_
  have f148 := ((((((F_o0_template).ext E125)).other W138 (Or.inl (Nat.ne_of_lt (Nat.lt_of_lt_of_le (F_o0_data).lt sz_b125))))).ext E145)
  obtain ⟨T149, X149, e149, st149⟩ := getF X145 hx hZ hown (host := "") (Or.inl (hw _ (List.mem_of_getElem? (i := 23) rfl))) Via.refl e145 f148 (g := (mkF m 71 A142 [(.ref o0), (.ref b145), (.ref b145)])) rfl rfl (hb hby dprog_20_method_4_code_71)
  refine Go.st (S' := T149.setTop (mkF m 74 A142 [(.ref o_3), (.ref b145), (.ref b145)])) st149 ?_
  refine Go.st (S' := T149.setTop (mkF m 75 A142 [(.ref b125), (.ref o_3), (.ref b145), (.ref b145)])) (fun t k => XS.aloadN X149.here hx rfl (hb hby dprog_20_method_4_code_74) rfl rfl k) ?_
  have f150 := ((V138).ext E145)
  obtain ⟨r151, T151, L151, X151, hQ151, st151⟩ := own_callI (W := 1) (a := b145) X149 hx hZ e149 hown (y := (⟨"com/example/consulate/consulate/cvc/Chat", "<init>", "(Lcom/example/consulate/consulate/cvc/Chat$Template;[B)V"⟩ : MethodName)) rfl (hw _ (List.mem_of_getElem? (i := 33) rfl)) (hw _ (List.mem_of_getElem? (i := 13) rfl)) (hw _ (List.mem_of_getElem? (i := 11) rfl)) (hw _ (List.mem_of_getElem? (i := 14) rfl)) (by decide) (rm3 l Z a0 hw [] b145 o_3 b125 k125 v139 (.null) (.null) h145 n0 Z147 (f150) (A145) (Fb145_template) (g_b145) (Fb145_data)) (by decide) (by decide) (by decide) (by decide) (g := (mkF m 75 A142 [(.ref b125), (.ref o_3), (.ref b145), (.ref b145)])) rfl (by rw [hml]; rfl) (argsL := [(.ref o_3), (.ref b125)]) (rest := [(.ref b145)]) rfl (lenOf pd_2 rfl) rfl (by show 2 * 0 + _ ≤ _; exact Nat.le_of_eq rfl) (hb hby dprog_20_method_4_code_75)
  obtain ⟨rfl, N151, K151_, f152, f153, f154⟩ := hQ151
  have N151_ := Fr.app N138 N151
  have Z155 : n0 ≤ T151.heap.size := Nat.le_trans Z147 K151_.1
  have K155 : Keep h0 T151.heap [] := K147.trans K151_ (allS (Or.inr sz_b145) all0)
  refine Go.st (S' := T151.setTop (mkF m 78 A142 [(.ref b145)])) st151 ?_
  have f156 := ((f150).keep K151_ (ninS (Nat.ne_of_lt lt_b125_b145) nin0))
  have f157 := ((((f146).ext E145)).keep K151_)
  exact Go.ret X151 (v := some (.ref b145)) (fun h => by rw [Bd.returns] at h; cases h) Bd.notSynchronized (fun fs hr => retOut X151 hx Bd.returns rfl (Or.inr (Or.inr (Or.inr (Or.inr ⟨rfl, rfl, rfl⟩)))) (hb hby dprog_20_method_4_code_78) hr) (by decide) (by decide) (⟨v136, v137, v139, b125, b145, k125, hv136, hv137, hv139, rfl, N151_, K155, sz_b125, sz_b145, f156, f157, f152, f153, f154, lt_b125_b145⟩)
theorem ef_5 (m : MethodId) (o0 : Addr) : entryFrame m #[(.ref o0)] 1 = mkF m 0 #[.val (.ref o0)] [] := by first | (simp [entryFrame, mkF, argsToLocals, Value.category, maxLocals]; done) | rfl
def Q5 (Z : State) (o0 : Addr) (o_1 : Addr) (h0 : Heap) (n0 : Nat) (v : Option Value) (h : Heap) (L : List Loc) : Prop := (v = some (.ref o_1) ∧ Fr n0 L ∧ h = h0)
set_option maxRecDepth 65536 in
set_option maxHeartbeats 40000000 in
theorem rm5 (l : Launch) (Z : State) (a0 : Array Value) (hw : ∀ d ∈ tables_1, d.before a0 Z = true) (ws : List Jvm.Cond) (o0 : Addr) (o_1 : Addr) (h0 : Heap) (n0 : Nat) (Z0 : n0 ≤ h0.size) (F_o0_data : Fld Z h0 o0 "com/example/consulate/consulate/cvc/Chat" "data" "[B" (.ref o_1)) :
    Con l Z (⟨"com/example/consulate/consulate/cvc/Chat", "data", "()[B"⟩ : MethodName) prog_20_method_9_code 1 (some (.array .byte)) ws ({ frames := 0, cells := 0, slots := 0, locals := 0 } : Room) #[(.ref o0)] h0 0 0 (Q5 Z o0 o_1 h0 n0) := by
  refine MetFree.of_bodySF (plainFor_of_name pn_2) hisR ?_
  intro p e s m args below meth c s₁ Bd hml0 hP hK
  obtain ⟨rfl, hZ, hh⟩ := hP
  have hx := Bd.exec
  have hby := Bd.bytes
  have hml : c.maxLocals = 1 := hml0
  have hown : s.vm.findClass "com/example/consulate/consulate/cvc/Chat" = some m.cls := findClass_of_methodNamed Bd.named
  have hnm := (name_of_methodNamed Bd.named Bd.method).1
  have X0 : Stand p l e ({ frames := 0, cells := 0, slots := 0, locals := 0 } : Room) s m #[(.ref o0)] below meth c s₁ [] 0 0 := Stand.of_body Bd
  have e0 : s₁.heap = h0 := by rw [← hh, Bd.state]; rfl
  have N0 := Fr.nil n0
  refine Go.of ?_
  refine Go.st (S' := s₁.setTop (mkF m 0 #[.val (.ref o0)] [])) (fun t k => castTop (ef_5 m o0) k) ?_
  refine Go.st (S' := s₁.setTop (mkF m 1 #[.val (.ref o0)] [(.ref o0)])) (fun t k => XS.aloadN X0.here hx rfl (hb hby dprog_20_method_9_code_0) rfl rfl k) ?_
  obtain ⟨T179, X179, e179, st179⟩ := getF X0 hx hZ hown (host := "") (Or.inl (hw _ (List.mem_of_getElem? (i := 25) rfl))) Via.refl e0 F_o0_data (g := (mkF m 1 #[.val (.ref o0)] [(.ref o0)])) rfl rfl (hb hby dprog_20_method_9_code_1)
  refine Go.st (S' := T179.setTop (mkF m 4 #[.val (.ref o0)] [(.ref o_1)])) st179 ?_
  exact Go.ret X179 (v := some (.ref o_1)) (fun h => by rw [Bd.returns] at h; cases h) Bd.notSynchronized (fun fs hr => retOut X179 hx Bd.returns rfl (Or.inr (Or.inr (Or.inr (Or.inr ⟨rfl, rfl, rfl⟩)))) (hb hby dprog_20_method_9_code_4) hr) (by decide) (by decide) (⟨rfl, N0, (e179)⟩)
theorem ef_6 (m : MethodId) (o0 : Addr) : entryFrame m #[(.ref o0)] 1 = mkF m 0 #[.val (.ref o0)] [] := by first | (simp [entryFrame, mkF, argsToLocals, Value.category, maxLocals]; done) | rfl
def Q6 (Z : State) (o0 : Addr) (o_1 : Addr) (h0 : Heap) (n0 : Nat) (v : Option Value) (h : Heap) (L : List Loc) : Prop := (v = some (.ref o_1) ∧ Fr n0 L ∧ h = h0)
set_option maxRecDepth 65536 in
set_option maxHeartbeats 40000000 in
theorem rm6 (l : Launch) (Z : State) (a0 : Array Value) (hw : ∀ d ∈ tables_1, d.before a0 Z = true) (ws : List Jvm.Cond) (o0 : Addr) (o_1 : Addr) (h0 : Heap) (n0 : Nat) (Z0 : n0 ≤ h0.size) (F_o0_template : Fld Z h0 o0 "com/example/consulate/consulate/cvc/Chat" "template" "Lcom/example/consulate/consulate/cvc/Chat$Template;" (.ref o_1)) :
    Con l Z (⟨"com/example/consulate/consulate/cvc/Chat", "template", "()Lcom/example/consulate/consulate/cvc/Chat$Template;"⟩ : MethodName) prog_20_method_8_code 1 (some (.object "com/example/consulate/consulate/cvc/Chat$Template")) ws ({ frames := 0, cells := 0, slots := 0, locals := 0 } : Room) #[(.ref o0)] h0 0 0 (Q6 Z o0 o_1 h0 n0) := by
  refine MetFree.of_bodySF (plainFor_of_name pn_2) hisR ?_
  intro p e s m args below meth c s₁ Bd hml0 hP hK
  obtain ⟨rfl, hZ, hh⟩ := hP
  have hx := Bd.exec
  have hby := Bd.bytes
  have hml : c.maxLocals = 1 := hml0
  have hown : s.vm.findClass "com/example/consulate/consulate/cvc/Chat" = some m.cls := findClass_of_methodNamed Bd.named
  have hnm := (name_of_methodNamed Bd.named Bd.method).1
  have X0 : Stand p l e ({ frames := 0, cells := 0, slots := 0, locals := 0 } : Room) s m #[(.ref o0)] below meth c s₁ [] 0 0 := Stand.of_body Bd
  have e0 : s₁.heap = h0 := by rw [← hh, Bd.state]; rfl
  have N0 := Fr.nil n0
  refine Go.of ?_
  refine Go.st (S' := s₁.setTop (mkF m 0 #[.val (.ref o0)] [])) (fun t k => castTop (ef_6 m o0) k) ?_
  refine Go.st (S' := s₁.setTop (mkF m 1 #[.val (.ref o0)] [(.ref o0)])) (fun t k => XS.aloadN X0.here hx rfl (hb hby dprog_20_method_8_code_0) rfl rfl k) ?_
  obtain ⟨T182, X182, e182, st182⟩ := getF X0 hx hZ hown (host := "") (Or.inl (hw _ (List.mem_of_getElem? (i := 23) rfl))) Via.refl e0 F_o0_template (g := (mkF m 1 #[.val (.ref o0)] [(.ref o0)])) rfl rfl (hb hby dprog_20_method_8_code_1)
  refine Go.st (S' := T182.setTop (mkF m 4 #[.val (.ref o0)] [(.ref o_1)])) st182 ?_
  exact Go.ret X182 (v := some (.ref o_1)) (fun h => by rw [Bd.returns] at h; cases h) Bd.notSynchronized (fun fs hr => retOut X182 hx Bd.returns rfl (Or.inr (Or.inr (Or.inr (Or.inr ⟨rfl, rfl, rfl⟩)))) (hb hby dprog_20_method_8_code_4) hr) (by decide) (by decide) (⟨rfl, N0, (e182)⟩)
theorem ef_7 (m : MethodId) (o0 : Addr) (o1 : Addr) (o2 : Addr) : entryFrame m #[(.ref o0), (.ref o1), (.ref o2)] 3 = mkF m 0 #[.val (.ref o0), .val (.ref o1), .val (.ref o2)] [] := by first | (simp [entryFrame, mkF, argsToLocals, Value.category, maxLocals]; done) | rfl
def Q7 (Z : State) (o0 : Addr) (o1 : Addr) (o2 : Addr) (k_o2 : ClassId) (e0_o2 : Int32) (e1_o2 : Int32) (e2_o2 : Int32) (e3_o2 : Int32) (u_o0_template : Value) (u_o0_data : Value) (h0 : Heap) (n0 : Nat) (v : Option Value) (h : Heap) (L : List Loc) : Prop := (v = none ∧ Fr n0 L ∧ Keep h0 h [o0] ∧ Exa Z h o0 "com/example/consulate/consulate/cvc/Chat" ∧ Fld Z h o0 "com/example/consulate/consulate/cvc/Chat" "template" "Lcom/example/consulate/consulate/cvc/Chat$Template;" (.ref o1) ∧ Fld Z h o0 "com/example/consulate/consulate/cvc/Chat" "data" "[B" (.ref o2))
set_option maxRecDepth 65536 in
set_option maxHeartbeats 40000000 in
theorem rm7 (l : Launch) (Z : State) (a0 : Array Value) (hw : ∀ d ∈ tables_1, d.before a0 Z = true) (ws : List Jvm.Cond) (o0 : Addr) (o1 : Addr) (o2 : Addr) (k_o2 : ClassId) (e0_o2 : Int32) (e1_o2 : Int32) (e2_o2 : Int32) (e3_o2 : Int32) (u_o0_template : Value) (u_o0_data : Value) (h0 : Heap) (n0 : Nat) (Z0 : n0 ≤ h0.size) (V_o2 : Arv Z h0 o2 k_o2 .byte (4 : Int32) [(.int e0_o2), (.int e1_o2), (.int e2_o2), (.int e3_o2)] (.int (0 : Int32))) (E_o0 : Exa Z h0 o0 "com/example/consulate/consulate/cvc/Chat") (F_o0_template : Fld Z h0 o0 "com/example/consulate/consulate/cvc/Chat" "template" "Lcom/example/consulate/consulate/cvc/Chat$Template;" u_o0_template) (g_o0 : n0 ≤ o0) (F_o0_data : Fld Z h0 o0 "com/example/consulate/consulate/cvc/Chat" "data" "[B" u_o0_data) :
    Con l Z (⟨"com/example/consulate/consulate/cvc/Chat", "<init>", "(Lcom/example/consulate/consulate/cvc/Chat$Template;[B)V"⟩ : MethodName) prog_20_method_1_code 3 none ws ({ frames := 2, cells := 0, slots := 0, locals := 24 } : Room) #[(.ref o0), (.ref o1), (.ref o2)] h0 0 0 (Q7 Z o0 o1 o2 k_o2 e0_o2 e1_o2 e2_o2 e3_o2 u_o0_template u_o0_data h0 n0) := by
  refine MetFree.of_bodySF (plainFor_of_name pn_2) hisR ?_
  intro p e s m args below meth c s₁ Bd hml0 hP hK
  obtain ⟨rfl, hZ, hh⟩ := hP
  have hx := Bd.exec
  have hby := Bd.bytes
  have hml : c.maxLocals = 3 := hml0
  have hown : s.vm.findClass "com/example/consulate/consulate/cvc/Chat" = some m.cls := findClass_of_methodNamed Bd.named
  have hnm := (name_of_methodNamed Bd.named Bd.method).1
  have X0 : Stand p l e ({ frames := 2, cells := 0, slots := 0, locals := 24 } : Room) s m #[(.ref o0), (.ref o1), (.ref o2)] below meth c s₁ [] 0 0 := Stand.of_body Bd
  have e0 : s₁.heap = h0 := by rw [← hh, Bd.state]; rfl
  have N0 := Fr.nil n0
  refine Go.of ?_
  refine Go.st (S' := s₁.setTop (mkF m 0 #[.val (.ref o0), .val (.ref o1), .val (.ref o2)] [])) (fun t k => castTop (ef_7 m o0 o1 o2) k) ?_
  refine Go.st (S' := s₁.setTop (mkF m 1 #[.val (.ref o0), .val (.ref o1), .val (.ref o2)] [(.ref o0)])) (fun t k => XS.aloadN X0.here hx rfl (hb hby dprog_20_method_1_code_0) rfl rfl k) ?_
  obtain ⟨r210, T210, L210, X210, hQ210, st210⟩ := own_callI (W := 0) (a := o0) X0 hx hZ e0 hown (y := (⟨"java/lang/Record", "<init>", "()V"⟩ : MethodName)) rfl (hw _ (List.mem_of_getElem? (i := 15) rfl)) (hw _ (List.mem_of_getElem? (i := 16) rfl)) (hw _ (List.mem_of_getElem? (i := 18) rfl)) (hw _ (List.mem_of_getElem? (i := 19) rfl)) (by decide) (rm2 l Z a0 hw [] o0 h0 n0 Z0 ) (by decide) (by decide) (by decide) (by decide) (g := (mkF m 1 #[.val (.ref o0), .val (.ref o1), .val (.ref o2)] [(.ref o0)])) rfl (by rw [hml]; rfl) (argsL := []) (rest := []) rfl (lenOf pd_1 rfl) rfl (by show 2 * 0 + _ ≤ _; exact Nat.le_of_eq rfl) (hb hby dprog_20_method_1_code_1)
  obtain ⟨rfl, N210, e210⟩ := hQ210
  have N210_ := Fr.app N0 N210
  refine Go.st (S' := T210.setTop (mkF m 4 #[.val (.ref o0), .val (.ref o1), .val (.ref o2)] [])) st210 ?_
  refine Go.st (S' := T210.setTop (mkF m 5 #[.val (.ref o0), .val (.ref o1), .val (.ref o2)] [(.ref o2)])) (fun t k => XS.aloadN X210.here hx rfl (hb hby dprog_20_method_1_code_4) rfl rfl k) ?_
  obtain ⟨cl212, Ar212, -, S212, N212_, -, -⟩ := id V_o2
  refine Go.op (F := fun z => T210.setTop (mkF m 6 #[.val (.ref o0), .val (.ref o1), .val (.ref o2)] [(.int z)])) (x := cl212.slots.size.toInt32) (fun t k => X210.arraylength hx (own_eh e210 Ar212.1) (State.isArrayOf_alike hZ.alike Ar212.2.1) (g := (mkF m 5 #[.val (.ref o0), .val (.ref o1), .val (.ref o2)] [(.ref o2)])) rfl rfl (hb hby dprog_20_method_1_code_5) t k) ?_
  intro v213 hv213
  obtain rfl : (4 : Int32) = v213 := (hv213.trans (len_of S212 N212_)).symm
  refine Go.st (S' := T210.setTop (mkF m 19 #[.val (.ref o0), .val (.ref o1), .val (.ref o2)] [])) (fun t k => XS.ifYes X210.here hx rfl (pc0 := 6) (pc' := 19) rfl (hb hby dprog_20_method_1_code_6) rfl ((if0 _ _).trans (feq (by decide : (¬ ((4 : Int32) = (0 : Int32))))).2) (by decide) (by decide) k) ?_
  refine Go.st (S' := T210.setTop (mkF m 20 #[.val (.ref o0), .val (.ref o1), .val (.ref o2)] [(.ref o0)])) (fun t k => XS.aloadN X210.here hx rfl (hb hby dprog_20_method_1_code_19) rfl rfl k) ?_
  refine Go.st (S' := T210.setTop (mkF m 21 #[.val (.ref o0), .val (.ref o1), .val (.ref o2)] [(.ref o1), (.ref o0)])) (fun t k => XS.aloadN X210.here hx rfl (hb hby dprog_20_method_1_code_20) rfl rfl k) ?_
  obtain ⟨T214, h214, X214, e214, W214, st214⟩ := putF X210 hx hZ hown (host := "") (Or.inl (hw _ (List.mem_of_getElem? (i := 23) rfl))) Via.refl e210 F_o0_template E_o0 (Or.inr ⟨(hw _ (List.mem_of_getElem? (i := 24) rfl)), rfl, hnm⟩) (hw _ (List.mem_of_getElem? (i := 10) rfl)) (ty := (.object "com/example/consulate/consulate/cvc/Chat$Template")) (by decide) rfl rfl (g := (mkF m 21 #[.val (.ref o0), .val (.ref o1), .val (.ref o2)] [(.ref o1), (.ref o0)])) rfl rfl (hb hby dprog_20_method_1_code_21)
  have Fw214 := (F_o0_template).same W214
  have N214 := Fr.snoc X214 N210_ g_o0
  have Z215 : n0 ≤ h214.size := Nat.le_trans Z0 (Keep.of_wr W214).1
  have K215 : Keep h0 h214 [o0] := (Keep.refl h0 [o0]).wr W214 (Or.inl (by simp))
  refine Go.st (S' := T214.setTop (mkF m 24 #[.val (.ref o0), .val (.ref o1), .val (.ref o2)] [])) st214 ?_
  refine Go.st (S' := T214.setTop (mkF m 25 #[.val (.ref o0), .val (.ref o1), .val (.ref o2)] [(.ref o0)])) (fun t k => XS.aloadN X214.here hx rfl (hb hby dprog_20_method_1_code_24) rfl rfl k) ?_
  refine Go.st (S' := T214.setTop (mkF m 26 #[.val (.ref o0), .val (.ref o1), .val (.ref o2)] [(.ref o2), (.ref o0)])) (fun t k => XS.aloadN X214.here hx rfl (hb hby dprog_20_method_1_code_25) rfl rfl k) ?_
  have f216 := ((E_o0).wr W214)
  have f217 := ((F_o0_data).other W214 (Or.inr (slot_ne (Or.inr (hw _ (List.mem_of_getElem? (i := 26) rfl))) (Or.inr (hw _ (List.mem_of_getElem? (i := 24) rfl))) (by decide) (t := (.array .byte)) (t' := (.object "com/example/consulate/consulate/cvc/Chat$Template")) (by decide) (by decide))))
  obtain ⟨T218, h218, X218, e218, W218, st218⟩ := putF X214 hx hZ hown (host := "") (Or.inl (hw _ (List.mem_of_getElem? (i := 25) rfl))) Via.refl e214 f217 f216 (Or.inr ⟨(hw _ (List.mem_of_getElem? (i := 26) rfl)), rfl, hnm⟩) (hw _ (List.mem_of_getElem? (i := 10) rfl)) (ty := (.array .byte)) (by decide) rfl rfl (g := (mkF m 26 #[.val (.ref o0), .val (.ref o1), .val (.ref o2)] [(.ref o2), (.ref o0)])) rfl rfl (hb hby dprog_20_method_1_code_26)
  have Fw218 := (f217).same W218
  have N218 := Fr.snoc X218 N214 g_o0
  have Z219 : n0 ≤ h218.size := Nat.le_trans Z215 (Keep.of_wr W218).1
  have K219 : Keep h0 h218 [o0] := K215.wr W218 (Or.inl (by simp))
  refine Go.st (S' := T218.setTop (mkF m 29 #[.val (.ref o0), .val (.ref o1), .val (.ref o2)] [])) st218 ?_
  have f220 := ((f216).wr W218)
  have f221 := ((Fw214).other W218 (Or.inr (slot_ne (Or.inr (hw _ (List.mem_of_getElem? (i := 24) rfl))) (Or.inr (hw _ (List.mem_of_getElem? (i := 26) rfl))) (by decide) (t := (.object "com/example/consulate/consulate/cvc/Chat$Template")) (t' := (.array .byte)) (by decide) (by decide))))
  exact Go.ret X218 (v := none) (fun _ => rfl) Bd.notSynchronized (fun fs hr => X218.returnOut hx Bd.returns (hb hby dprog_20_method_1_code_29) hr) (by decide) (by decide) (by rw [e218]; exact ⟨rfl, N218, K219, f220, f221, Fw218⟩)
theorem ef_8 (m : MethodId) (o0 : Addr) (o1 : Addr) : entryFrame m #[(.ref o0), (.ref o1)] 4 = mkF m 0 #[.val (.ref o0), .val (.ref o1), .unset, .unset] [] := by first | (simp [entryFrame, mkF, argsToLocals, Value.category, maxLocals]; done) | rfl
def Q8 (Z : State) (o0 : Addr) (o1 : Addr) (k_o1 : ClassId) (e0_o1 : Int32) (e1_o1 : Int32) (e2_o1 : Int32) (e3_o1 : Int32) (o_2 : Addr) (k_o_2 : ClassId) (e0_o_2 : Int32) (e1_o_2 : Int32) (e2_o_2 : Int32) (e3_o_2 : Int32) (o_3 : Addr) (h0 : Heap) (n0 : Nat) (v : Option Value) (h : Heap) (L : List Loc) : Prop := (∃ (v251 : Int32) (v252 : Int32) (v254 : Int32) (v266 : Int32) (v267 : Int32) (v269 : Int32) (v281 : Int32) (v282 : Int32) (v284 : Int32) (v296 : Int32) (v297 : Int32) (v299 : Int32) (b240 : Addr) (b305 : Addr) (k240 : ClassId), v251 = (e0_o_2 &&& e0_o1) ∧ v252 = v251.toInt8.toInt32 ∧ v254 = v252.toInt8.toInt32 ∧ v266 = (e1_o_2 &&& e1_o1) ∧ v267 = v266.toInt8.toInt32 ∧ v269 = v267.toInt8.toInt32 ∧ v281 = (e2_o_2 &&& e2_o1) ∧ v282 = v281.toInt8.toInt32 ∧ v284 = v282.toInt8.toInt32 ∧ v296 = (e3_o_2 &&& e3_o1) ∧ v297 = v296.toInt8.toInt32 ∧ v299 = v297.toInt8.toInt32 ∧ v = some (.ref b305) ∧ Fr n0 L ∧ Keep h0 h [] ∧ h0.size ≤ b240 ∧ h0.size ≤ b305 ∧ Arv Z h b240 k240 .byte (4 : Int32) [(.int v254), (.int v269), (.int v284), (.int v299)] (.int (0 : Int32)) ∧ Exa Z h b240 "[B" ∧ Exa Z h b305 "com/example/consulate/consulate/cvc/Chat" ∧ Fld Z h b305 "com/example/consulate/consulate/cvc/Chat" "template" "Lcom/example/consulate/consulate/cvc/Chat$Template;" (.ref o_3) ∧ Fld Z h b305 "com/example/consulate/consulate/cvc/Chat" "data" "[B" (.ref b240) ∧ b240 < b305)
set_option maxRecDepth 65536 in
set_option maxHeartbeats 40000000 in
theorem rm8 (l : Launch) (Z : State) (a0 : Array Value) (hw : ∀ d ∈ tables_1, d.before a0 Z = true) (ws : List Jvm.Cond) (o0 : Addr) (o1 : Addr) (k_o1 : ClassId) (e0_o1 : Int32) (e1_o1 : Int32) (e2_o1 : Int32) (e3_o1 : Int32) (o_2 : Addr) (k_o_2 : ClassId) (e0_o_2 : Int32) (e1_o_2 : Int32) (e2_o_2 : Int32) (e3_o_2 : Int32) (o_3 : Addr) (h0 : Heap) (n0 : Nat) (Z0 : n0 ≤ h0.size) (V_o1 : Arv Z h0 o1 k_o1 .byte (4 : Int32) [(.int e0_o1), (.int e1_o1), (.int e2_o1), (.int e3_o1)] (.int (0 : Int32))) (F_o0_data : Fld Z h0 o0 "com/example/consulate/consulate/cvc/Chat" "data" "[B" (.ref o_2)) (V_o_2 : Arv Z h0 o_2 k_o_2 .byte (4 : Int32) [(.int e0_o_2), (.int e1_o_2), (.int e2_o_2), (.int e3_o_2)] (.int (0 : Int32))) (F_o0_template : Fld Z h0 o0 "com/example/consulate/consulate/cvc/Chat" "template" "Lcom/example/consulate/consulate/cvc/Chat$Template;" (.ref o_3)) :
    Con l Z (⟨"com/example/consulate/consulate/cvc/Chat", "restrictedTo", "([B)Lcom/example/consulate/consulate/cvc/Chat;"⟩ : MethodName) prog_20_method_4_code 4 (some (.object "com/example/consulate/consulate/cvc/Chat")) ws ({ frames := 3, cells := 2, slots := 6, locals := 39 } : Room) #[(.ref o0), (.ref o1)] h0 2 6 (Q8 Z o0 o1 k_o1 e0_o1 e1_o1 e2_o1 e3_o1 o_2 k_o_2 e0_o_2 e1_o_2 e2_o_2 e3_o_2 o_3 h0 n0) := by
  refine MetFree.of_bodySF (plainFor_of_name pn_2) hisR ?_
  intro p e s m args below meth c s₁ Bd hml0 hP hK
  obtain ⟨rfl, hZ, hh⟩ := hP
  have hx := Bd.exec
  have hby := Bd.bytes
  have hml : c.maxLocals = 4 := hml0
  have hown : s.vm.findClass "com/example/consulate/consulate/cvc/Chat" = some m.cls := findClass_of_methodNamed Bd.named
  have hnm := (name_of_methodNamed Bd.named Bd.method).1
  have X0 : Stand p l e ({ frames := 3, cells := 2, slots := 6, locals := 39 } : Room) s m #[(.ref o0), (.ref o1)] below meth c s₁ [] 0 0 := Stand.of_body Bd
  have e0 : s₁.heap = h0 := by rw [← hh, Bd.state]; rfl
  have N0 := Fr.nil n0
  refine Go.of ?_
  refine Go.st (S' := s₁.setTop (mkF m 0 #[.val (.ref o0), .val (.ref o1), .unset, .unset] [])) (fun t k => castTop (ef_8 m o0 o1) k) ?_
  refine Go.st (S' := s₁.setTop (mkF m 1 #[.val (.ref o0), .val (.ref o1), .unset, .unset] [(.ref o1)])) (fun t k => XS.aloadN X0.here hx rfl (hb hby dprog_20_method_4_code_0) rfl rfl k) ?_
  obtain ⟨cl231, Ar231, -, S231, N231_, -, -⟩ := id V_o1
  refine Go.op (F := fun z => s₁.setTop (mkF m 2 #[.val (.ref o0), .val (.ref o1), .unset, .unset] [(.int z)])) (x := cl231.slots.size.toInt32) (fun t k => X0.arraylength hx (own_eh e0 Ar231.1) (State.isArrayOf_alike hZ.alike Ar231.2.1) (g := (mkF m 1 #[.val (.ref o0), .val (.ref o1), .unset, .unset] [(.ref o1)])) rfl rfl (hb hby dprog_20_method_4_code_1) t k) ?_
  intro v232 hv232
  obtain rfl : (4 : Int32) = v232 := (hv232.trans (len_of S231 N231_)).symm
  refine Go.st (S' := s₁.setTop (mkF m 3 #[.val (.ref o0), .val (.ref o1), .unset, .unset] [(.ref o0), (.int (4 : Int32))])) (fun t k => XS.aloadN X0.here hx rfl (hb hby dprog_20_method_4_code_2) rfl rfl k) ?_
  obtain ⟨T233, X233, e233, st233⟩ := getF X0 hx hZ hown (host := "") (Or.inl (hw _ (List.mem_of_getElem? (i := 25) rfl))) Via.refl e0 F_o0_data (g := (mkF m 3 #[.val (.ref o0), .val (.ref o1), .unset, .unset] [(.ref o0), (.int (4 : Int32))])) rfl rfl (hb hby dprog_20_method_4_code_3)
  refine Go.st (S' := T233.setTop (mkF m 6 #[.val (.ref o0), .val (.ref o1), .unset, .unset] [(.ref o_2), (.int (4 : Int32))])) st233 ?_
  obtain ⟨cl235, Ar235, -, S235, N235_, -, -⟩ := id V_o_2
  refine Go.op (F := fun z => T233.setTop (mkF m 7 #[.val (.ref o0), .val (.ref o1), .unset, .unset] [(.int z), (.int (4 : Int32))])) (x := cl235.slots.size.toInt32) (fun t k => X233.arraylength hx (own_eh e233 Ar235.1) (State.isArrayOf_alike hZ.alike Ar235.2.1) (g := (mkF m 6 #[.val (.ref o0), .val (.ref o1), .unset, .unset] [(.ref o_2), (.int (4 : Int32))])) rfl rfl (hb hby dprog_20_method_4_code_6) t k) ?_
  intro v236 hv236
  obtain rfl : (4 : Int32) = v236 := (hv236.trans (len_of S235 N235_)).symm
  refine Go.st (S' := T233.setTop (mkF m 30 #[.val (.ref o0), .val (.ref o1), .unset, .unset] [])) (fun t k => XS.icmpYes X233.here hx rfl (pc0 := 7) (pc' := 30) rfl (hb hby dprog_20_method_4_code_7) rfl (teq (by decide : ((4 : Int32) = (4 : Int32)))).1 (by decide) (by decide) k) ?_
  refine Go.st (S' := T233.setTop (mkF m 31 #[.val (.ref o0), .val (.ref o1), .unset, .unset] [(.ref o0)])) (fun t k => XS.aloadN X233.here hx rfl (hb hby dprog_20_method_4_code_30) rfl rfl k) ?_
  obtain ⟨T237, X237, e237, st237⟩ := getF X233 hx hZ hown (host := "") (Or.inl (hw _ (List.mem_of_getElem? (i := 25) rfl))) Via.refl e233 F_o0_data (g := (mkF m 31 #[.val (.ref o0), .val (.ref o1), .unset, .unset] [(.ref o0)])) rfl rfl (hb hby dprog_20_method_4_code_31)
  refine Go.st (S' := T237.setTop (mkF m 34 #[.val (.ref o0), .val (.ref o1), .unset, .unset] [(.ref o_2)])) st237 ?_
  obtain ⟨cl238, Ar238, -, S238, N238_, -, -⟩ := id V_o_2
  refine Go.op (F := fun z => T237.setTop (mkF m 35 #[.val (.ref o0), .val (.ref o1), .unset, .unset] [(.int z)])) (x := cl238.slots.size.toInt32) (fun t k => X237.arraylength hx (own_eh e237 Ar238.1) (State.isArrayOf_alike hZ.alike Ar238.2.1) (g := (mkF m 34 #[.val (.ref o0), .val (.ref o1), .unset, .unset] [(.ref o_2)])) rfl rfl (hb hby dprog_20_method_4_code_34) t k) ?_
  intro v239 hv239
  obtain rfl : (4 : Int32) = v239 := (hv239.trans (len_of S238 N238_)).symm
  obtain ⟨T240, h240, k240, X240, e240, E240, A240, B240, st240⟩ := newPE X237 hx hZ (hw _ (List.mem_of_getElem? (i := 8) rfl)) e237 (g := (mkF m 35 #[.val (.ref o0), .val (.ref o1), .unset, .unset] [(.int (4 : Int32))])) rfl (hb hby dprog_20_method_4_code_35) rfl (by decide) (cap := 4) (by decide) (by decide) (by decide) (by decide) (ad := "[B") (by decide)
  obtain ⟨b240, gg240⟩ : ∃ z, z = h0.size := ⟨_, rfl⟩
  rw [← gg240] at A240 B240 st240
  have g_b240 : n0 ≤ b240 := Nat.le_trans Z0 (Nat.le_of_eq gg240.symm)
  have sz_b240 : h0.size ≤ b240 := Nat.le_trans (Keep.refl h0 []).1 (Nat.le_of_eq gg240.symm)
  have Z241 : n0 ≤ h240.size := Nat.le_trans Z0 E240.1
  have K241 : Keep h0 h240 [] := (Keep.refl h0 []).ext E240
  have V240 : Arv Z h240 b240 k240 .byte (4 : Int32) [(.int (0 : Int32)), (.int (0 : Int32)), (.int (0 : Int32)), (.int (0 : Int32))] (.int (0 : Int32)) := (Arv.new A240 (by decide)).pad (pad_rep [] (.int (0 : Int32)) 4)
  refine Go.st (S' := T240.setTop (mkF m 37 #[.val (.ref o0), .val (.ref o1), .unset, .unset] [(.ref b240)])) st240 ?_
  refine Go.st (S' := T240.setTop (mkF m 38 #[.val (.ref o0), .val (.ref o1), .val (.ref b240), .unset] [])) (fun t k => XS.astoreN X240.here hx rfl (hb hby dprog_20_method_4_code_37) rfl rfl (l' := #[.val (.ref o0), .val (.ref o1), .val (.ref b240), .unset]) rfl k) ?_
  refine Go.st (S' := T240.setTop (mkF m 39 #[.val (.ref o0), .val (.ref o1), .val (.ref b240), .unset] [(.int (0 : Int32))])) (fun t k => XS.iconst X240.here hx rfl (hb hby dprog_20_method_4_code_38) k) ?_
  let A242 : Array Slot := #[.val (.ref o0), .val (.ref o1), .val (.ref b240), .val (.int (0 : Int32))]
  refine Go.st (S' := T240.setTop (mkF m 40 A242 [])) (fun t k => XS.istoreN X240.here hx rfl (hb hby dprog_20_method_4_code_39) rfl (l' := A242) rfl k) ?_
  refine Go.st (S' := T240.setTop (mkF m 41 A242 [(.int (0 : Int32))])) (fun t k => XS.iloadN X240.here hx rfl (hb hby dprog_20_method_4_code_40) rfl k) ?_
  refine Go.st (S' := T240.setTop (mkF m 42 A242 [(.ref b240), (.int (0 : Int32))])) (fun t k => XS.aloadN X240.here hx rfl (hb hby dprog_20_method_4_code_41) rfl rfl k) ?_
  obtain ⟨cl243, Ar243, -, S243, N243_, -, -⟩ := id V240
  refine Go.op (F := fun z => T240.setTop (mkF m 43 A242 [(.int z), (.int (0 : Int32))])) (x := cl243.slots.size.toInt32) (fun t k => X240.arraylength hx (own_eh e240 Ar243.1) (State.isArrayOf_alike hZ.alike Ar243.2.1) (g := (mkF m 42 A242 [(.ref b240), (.int (0 : Int32))])) rfl rfl (hb hby dprog_20_method_4_code_42) t k) ?_
  intro v244 hv244
  obtain rfl : (4 : Int32) = v244 := (hv244.trans (len_of S243 N243_)).symm
  refine Go.st (S' := T240.setTop (mkF m 46 A242 [])) (fun t k => XS.icmpNo X240.here hx rfl (hb hby dprog_20_method_4_code_43) rfl (tlt (by decide : ((0 : Int32) < (4 : Int32)))).2.1 k) ?_
  refine Go.st (S' := T240.setTop (mkF m 47 A242 [(.ref b240)])) (fun t k => XS.aloadN X240.here hx rfl (hb hby dprog_20_method_4_code_46) rfl rfl k) ?_
  refine Go.st (S' := T240.setTop (mkF m 48 A242 [(.int (0 : Int32)), (.ref b240)])) (fun t k => XS.iloadN X240.here hx rfl (hb hby dprog_20_method_4_code_47) rfl k) ?_
  refine Go.st (S' := T240.setTop (mkF m 49 A242 [(.ref o0), (.int (0 : Int32)), (.ref b240)])) (fun t k => XS.aloadN X240.here hx rfl (hb hby dprog_20_method_4_code_48) rfl rfl k) ?_
  have f245 := ((F_o0_data).ext E240)
  obtain ⟨T246, X246, e246, st246⟩ := getF X240 hx hZ hown (host := "") (Or.inl (hw _ (List.mem_of_getElem? (i := 25) rfl))) Via.refl e240 f245 (g := (mkF m 49 A242 [(.ref o0), (.int (0 : Int32)), (.ref b240)])) rfl rfl (hb hby dprog_20_method_4_code_49)
  refine Go.st (S' := T246.setTop (mkF m 52 A242 [(.ref o_2), (.int (0 : Int32)), (.ref b240)])) st246 ?_
  refine Go.st (S' := T246.setTop (mkF m 53 A242 [(.int (0 : Int32)), (.ref o_2), (.int (0 : Int32)), (.ref b240)])) (fun t k => XS.iloadN X246.here hx rfl (hb hby dprog_20_method_4_code_52) rfl k) ?_
  have f247 := ((V_o_2).ext E240)
  obtain ⟨cl248, Ar248, -, S248, N248_, H248, -⟩ := id f247
  have hin248 : ¬ ((0 : Int32) < 0 ∨ cl248.slots.size ≤ ((0 : Int32)).toNatClampNeg) := inb_of S248 ⟨by decide, by decide⟩
  have hat248 : cl248.slots[((0 : Int32)).toNatClampNeg]? = some (.int e0_o_2) := Has.at H248 hin248 rfl
  refine Go.st (S' := T246.setTop (mkF m 54 A242 [(.int e0_o_2), (.int (0 : Int32)), (.ref b240)])) (fun t k => X246.baloadBytes hx (j := (0 : Int32)) (v := (.int e0_o_2)) (own_eh e246 Ar248.1) (State.isArrayOf_alike hZ.alike Ar248.2.1) Ar248.2.2 hin248 hat248 (g := (mkF m 53 A242 [(.int (0 : Int32)), (.ref o_2), (.int (0 : Int32)), (.ref b240)])) rfl rfl (hb hby dprog_20_method_4_code_53) t k) ?_
  refine Go.st (S' := T246.setTop (mkF m 55 A242 [(.ref o1), (.int e0_o_2), (.int (0 : Int32)), (.ref b240)])) (fun t k => XS.aloadN X246.here hx rfl (hb hby dprog_20_method_4_code_54) rfl rfl k) ?_
  refine Go.st (S' := T246.setTop (mkF m 56 A242 [(.int (0 : Int32)), (.ref o1), (.int e0_o_2), (.int (0 : Int32)), (.ref b240)])) (fun t k => XS.iloadN X246.here hx rfl (hb hby dprog_20_method_4_code_55) rfl k) ?_
  have f249 := ((V_o1).ext E240)
  obtain ⟨cl250, Ar250, -, S250, N250_, H250, -⟩ := id f249
  have hin250 : ¬ ((0 : Int32) < 0 ∨ cl250.slots.size ≤ ((0 : Int32)).toNatClampNeg) := inb_of S250 ⟨by decide, by decide⟩
  have hat250 : cl250.slots[((0 : Int32)).toNatClampNeg]? = some (.int e0_o1) := Has.at H250 hin250 rfl
  refine Go.st (S' := T246.setTop (mkF m 57 A242 [(.int e0_o1), (.int e0_o_2), (.int (0 : Int32)), (.ref b240)])) (fun t k => X246.baloadBytes hx (j := (0 : Int32)) (v := (.int e0_o1)) (own_eh e246 Ar250.1) (State.isArrayOf_alike hZ.alike Ar250.2.1) Ar250.2.2 hin250 hat250 (g := (mkF m 56 A242 [(.int (0 : Int32)), (.ref o1), (.int e0_o_2), (.int (0 : Int32)), (.ref b240)])) rfl rfl (hb hby dprog_20_method_4_code_56) t k) ?_
  refine Go.op (F := fun z => T246.setTop (mkF m 58 A242 [(.int z), (.int (0 : Int32)), (.ref b240)])) (x := (e0_o_2 &&& e0_o1)) (fun t k => XS.iand X246.here hx rfl (hb hby dprog_20_method_4_code_57) rfl k) ?_
  intro v251 hv251
  refine Go.op (F := fun z => T246.setTop (mkF m 59 A242 [(.int z), (.int (0 : Int32)), (.ref b240)])) (x := v251.toInt8.toInt32) (fun t k => XS.i2b X246.here hx rfl (hb hby dprog_20_method_4_code_58) rfl k) ?_
  intro v252 hv252
  obtain ⟨cl253, Ar253, q253, S253, N253_, H253, G253⟩ := id V240
  have hin253 : ¬ ((0 : Int32) < 0 ∨ cl253.slots.size ≤ ((0 : Int32)).toNatClampNeg) := inb_of S253 ⟨by decide, by decide⟩
  obtain ⟨v254, hv254⟩ : ∃ z, z = v252.toInt8.toInt32 := ⟨_, rfl⟩
  obtain ⟨T253, h253, X253, e253, W253, st253⟩ := stB X246 hx hZ e246 Ar253 (j := (0 : Int32)) hin253 (g := (mkF m 59 A242 [(.int v252), (.int (0 : Int32)), (.ref b240)])) rfl rfl (hb hby dprog_20_method_4_code_59)
  have W253 : Wr h240 h253 b240 ((0 : Int32)).toNatClampNeg (.int v254) := by rw [hv254]; exact W253
  have V253 : Arv Z h253 b240 k240 .byte (4 : Int32) [(.int v254), (.int (0 : Int32)), (.int (0 : Int32)), (.int (0 : Int32))] (.int (0 : Int32)) := Arv.set Ar253 q253 S253 N253_ H253 G253 (by rw [hv254]; exact fits_nar_byte _) W253 0 rfl (Nat.le_of_ble_eq_true rfl)
  have N253 := Fr.snoc X253 N0 g_b240
  have Z255 : n0 ≤ h253.size := Nat.le_trans Z241 (Keep.of_wr W253).1
  have K255 : Keep h0 h253 [] := K241.wr W253 (Or.inr sz_b240)
  refine Go.st (S' := T253.setTop (mkF m 60 A242 [])) st253 ?_
  refine Go.op (F := fun z => T253.setTop (mkF m 63 #[.val (.ref o0), .val (.ref o1), .val (.ref b240), .val (.int z)] [])) (x := ((0 : Int32) + (1 : Int32))) (fun t k => XS.iinc X253.here hx rfl (hb hby dprog_20_method_4_code_60) rfl rfl k) ?_
  intro v256 hv256
  obtain rfl : (1 : Int32) = v256 := (hv256.trans (by decide)).symm
  let A257 : Array Slot := #[.val (.ref o0), .val (.ref o1), .val (.ref b240), .val (.int (1 : Int32))]
  refine Go.st (S' := T253.setTop (mkF m 40 A257 [])) (fun t k => XS.goto X253.here hx rfl (pc0 := 63) (pc' := 40) rfl (hb hby dprog_20_method_4_code_63) (by decide) (by decide) k) ?_
  refine Go.st (S' := T253.setTop (mkF m 41 A257 [(.int (1 : Int32))])) (fun t k => XS.iloadN X253.here hx rfl (hb hby dprog_20_method_4_code_40) rfl k) ?_
  refine Go.st (S' := T253.setTop (mkF m 42 A257 [(.ref b240), (.int (1 : Int32))])) (fun t k => XS.aloadN X253.here hx rfl (hb hby dprog_20_method_4_code_41) rfl rfl k) ?_
  obtain ⟨cl258, Ar258, -, S258, N258_, -, -⟩ := id V253
  refine Go.op (F := fun z => T253.setTop (mkF m 43 A257 [(.int z), (.int (1 : Int32))])) (x := cl258.slots.size.toInt32) (fun t k => X253.arraylength hx (own_eh e253 Ar258.1) (State.isArrayOf_alike hZ.alike Ar258.2.1) (g := (mkF m 42 A257 [(.ref b240), (.int (1 : Int32))])) rfl rfl (hb hby dprog_20_method_4_code_42) t k) ?_
  intro v259 hv259
  obtain rfl : (4 : Int32) = v259 := (hv259.trans (len_of S258 N258_)).symm
  refine Go.st (S' := T253.setTop (mkF m 46 A257 [])) (fun t k => XS.icmpNo X253.here hx rfl (hb hby dprog_20_method_4_code_43) rfl (tlt (by decide : ((1 : Int32) < (4 : Int32)))).2.1 k) ?_
  refine Go.st (S' := T253.setTop (mkF m 47 A257 [(.ref b240)])) (fun t k => XS.aloadN X253.here hx rfl (hb hby dprog_20_method_4_code_46) rfl rfl k) ?_
  refine Go.st (S' := T253.setTop (mkF m 48 A257 [(.int (1 : Int32)), (.ref b240)])) (fun t k => XS.iloadN X253.here hx rfl (hb hby dprog_20_method_4_code_47) rfl k) ?_
  refine Go.st (S' := T253.setTop (mkF m 49 A257 [(.ref o0), (.int (1 : Int32)), (.ref b240)])) (fun t k => XS.aloadN X253.here hx rfl (hb hby dprog_20_method_4_code_48) rfl rfl k) ?_
  have f260 := ((f245).other W253 (Or.inl (Nat.ne_of_lt (Nat.lt_of_lt_of_le (F_o0_data).lt sz_b240))))
  obtain ⟨T261, X261, e261, st261⟩ := getF X253 hx hZ hown (host := "") (Or.inl (hw _ (List.mem_of_getElem? (i := 25) rfl))) Via.refl e253 f260 (g := (mkF m 49 A257 [(.ref o0), (.int (1 : Int32)), (.ref b240)])) rfl rfl (hb hby dprog_20_method_4_code_49)
  refine Go.st (S' := T261.setTop (mkF m 52 A257 [(.ref o_2), (.int (1 : Int32)), (.ref b240)])) st261 ?_
  refine Go.st (S' := T261.setTop (mkF m 53 A257 [(.int (1 : Int32)), (.ref o_2), (.int (1 : Int32)), (.ref b240)])) (fun t k => XS.iloadN X261.here hx rfl (hb hby dprog_20_method_4_code_52) rfl k) ?_
  have f262 := ((f247).other W253 (Nat.ne_of_lt (Nat.lt_of_lt_of_le (V_o_2).lt sz_b240)))
  obtain ⟨cl263, Ar263, -, S263, N263_, H263, -⟩ := id f262
  have hin263 : ¬ ((1 : Int32) < 0 ∨ cl263.slots.size ≤ ((1 : Int32)).toNatClampNeg) := inb_of S263 ⟨by decide, by decide⟩
  have hat263 : cl263.slots[((1 : Int32)).toNatClampNeg]? = some (.int e1_o_2) := Has.at H263 hin263 rfl
  refine Go.st (S' := T261.setTop (mkF m 54 A257 [(.int e1_o_2), (.int (1 : Int32)), (.ref b240)])) (fun t k => X261.baloadBytes hx (j := (1 : Int32)) (v := (.int e1_o_2)) (own_eh e261 Ar263.1) (State.isArrayOf_alike hZ.alike Ar263.2.1) Ar263.2.2 hin263 hat263 (g := (mkF m 53 A257 [(.int (1 : Int32)), (.ref o_2), (.int (1 : Int32)), (.ref b240)])) rfl rfl (hb hby dprog_20_method_4_code_53) t k) ?_
  refine Go.st (S' := T261.setTop (mkF m 55 A257 [(.ref o1), (.int e1_o_2), (.int (1 : Int32)), (.ref b240)])) (fun t k => XS.aloadN X261.here hx rfl (hb hby dprog_20_method_4_code_54) rfl rfl k) ?_
  refine Go.st (S' := T261.setTop (mkF m 56 A257 [(.int (1 : Int32)), (.ref o1), (.int e1_o_2), (.int (1 : Int32)), (.ref b240)])) (fun t k => XS.iloadN X261.here hx rfl (hb hby dprog_20_method_4_code_55) rfl k) ?_
  have f264 := ((f249).other W253 (Nat.ne_of_lt (Nat.lt_of_lt_of_le (V_o1).lt sz_b240)))
  obtain ⟨cl265, Ar265, -, S265, N265_, H265, -⟩ := id f264
  have hin265 : ¬ ((1 : Int32) < 0 ∨ cl265.slots.size ≤ ((1 : Int32)).toNatClampNeg) := inb_of S265 ⟨by decide, by decide⟩
  have hat265 : cl265.slots[((1 : Int32)).toNatClampNeg]? = some (.int e1_o1) := Has.at H265 hin265 rfl
  refine Go.st (S' := T261.setTop (mkF m 57 A257 [(.int e1_o1), (.int e1_o_2), (.int (1 : Int32)), (.ref b240)])) (fun t k => X261.baloadBytes hx (j := (1 : Int32)) (v := (.int e1_o1)) (own_eh e261 Ar265.1) (State.isArrayOf_alike hZ.alike Ar265.2.1) Ar265.2.2 hin265 hat265 (g := (mkF m 56 A257 [(.int (1 : Int32)), (.ref o1), (.int e1_o_2), (.int (1 : Int32)), (.ref b240)])) rfl rfl (hb hby dprog_20_method_4_code_56) t k) ?_
  refine Go.op (F := fun z => T261.setTop (mkF m 58 A257 [(.int z), (.int (1 : Int32)), (.ref b240)])) (x := (e1_o_2 &&& e1_o1)) (fun t k => XS.iand X261.here hx rfl (hb hby dprog_20_method_4_code_57) rfl k) ?_
  intro v266 hv266
  refine Go.op (F := fun z => T261.setTop (mkF m 59 A257 [(.int z), (.int (1 : Int32)), (.ref b240)])) (x := v266.toInt8.toInt32) (fun t k => XS.i2b X261.here hx rfl (hb hby dprog_20_method_4_code_58) rfl k) ?_
  intro v267 hv267
  obtain ⟨cl268, Ar268, q268, S268, N268_, H268, G268⟩ := id V253
  have hin268 : ¬ ((1 : Int32) < 0 ∨ cl268.slots.size ≤ ((1 : Int32)).toNatClampNeg) := inb_of S268 ⟨by decide, by decide⟩
  obtain ⟨v269, hv269⟩ : ∃ z, z = v267.toInt8.toInt32 := ⟨_, rfl⟩
  obtain ⟨T268, h268, X268, e268, W268, st268⟩ := stB X261 hx hZ e261 Ar268 (j := (1 : Int32)) hin268 (g := (mkF m 59 A257 [(.int v267), (.int (1 : Int32)), (.ref b240)])) rfl rfl (hb hby dprog_20_method_4_code_59)
  have W268 : Wr h253 h268 b240 ((1 : Int32)).toNatClampNeg (.int v269) := by rw [hv269]; exact W268
  have V268 : Arv Z h268 b240 k240 .byte (4 : Int32) [(.int v254), (.int v269), (.int (0 : Int32)), (.int (0 : Int32))] (.int (0 : Int32)) := Arv.set Ar268 q268 S268 N268_ H268 G268 (by rw [hv269]; exact fits_nar_byte _) W268 1 rfl (Nat.le_of_ble_eq_true rfl)
  have N268 := Fr.snoc X268 N253 g_b240
  have Z270 : n0 ≤ h268.size := Nat.le_trans Z255 (Keep.of_wr W268).1
  have K270 : Keep h0 h268 [] := K255.wr W268 (Or.inr sz_b240)
  refine Go.st (S' := T268.setTop (mkF m 60 A257 [])) st268 ?_
  refine Go.op (F := fun z => T268.setTop (mkF m 63 #[.val (.ref o0), .val (.ref o1), .val (.ref b240), .val (.int z)] [])) (x := ((1 : Int32) + (1 : Int32))) (fun t k => XS.iinc X268.here hx rfl (hb hby dprog_20_method_4_code_60) rfl rfl k) ?_
  intro v271 hv271
  obtain rfl : (2 : Int32) = v271 := (hv271.trans (by decide)).symm
  let A272 : Array Slot := #[.val (.ref o0), .val (.ref o1), .val (.ref b240), .val (.int (2 : Int32))]
  refine Go.st (S' := T268.setTop (mkF m 40 A272 [])) (fun t k => XS.goto X268.here hx rfl (pc0 := 63) (pc' := 40) rfl (hb hby dprog_20_method_4_code_63) (by decide) (by decide) k) ?_
  refine Go.st (S' := T268.setTop (mkF m 41 A272 [(.int (2 : Int32))])) (fun t k => XS.iloadN X268.here hx rfl (hb hby dprog_20_method_4_code_40) rfl k) ?_
  refine Go.st (S' := T268.setTop (mkF m 42 A272 [(.ref b240), (.int (2 : Int32))])) (fun t k => XS.aloadN X268.here hx rfl (hb hby dprog_20_method_4_code_41) rfl rfl k) ?_
  obtain ⟨cl273, Ar273, -, S273, N273_, -, -⟩ := id V268
  refine Go.op (F := fun z => T268.setTop (mkF m 43 A272 [(.int z), (.int (2 : Int32))])) (x := cl273.slots.size.toInt32) (fun t k => X268.arraylength hx (own_eh e268 Ar273.1) (State.isArrayOf_alike hZ.alike Ar273.2.1) (g := (mkF m 42 A272 [(.ref b240), (.int (2 : Int32))])) rfl rfl (hb hby dprog_20_method_4_code_42) t k) ?_
  intro v274 hv274
  obtain rfl : (4 : Int32) = v274 := (hv274.trans (len_of S273 N273_)).symm
  refine Go.st (S' := T268.setTop (mkF m 46 A272 [])) (fun t k => XS.icmpNo X268.here hx rfl (hb hby dprog_20_method_4_code_43) rfl (tlt (by decide : ((2 : Int32) < (4 : Int32)))).2.1 k) ?_
  refine Go.st (S' := T268.setTop (mkF m 47 A272 [(.ref b240)])) (fun t k => XS.aloadN X268.here hx rfl (hb hby dprog_20_method_4_code_46) rfl rfl k) ?_
  refine Go.st (S' := T268.setTop (mkF m 48 A272 [(.int (2 : Int32)), (.ref b240)])) (fun t k => XS.iloadN X268.here hx rfl (hb hby dprog_20_method_4_code_47) rfl k) ?_
  refine Go.st (S' := T268.setTop (mkF m 49 A272 [(.ref o0), (.int (2 : Int32)), (.ref b240)])) (fun t k => XS.aloadN X268.here hx rfl (hb hby dprog_20_method_4_code_48) rfl rfl k) ?_
  have f275 := ((f260).other W268 (Or.inl (Nat.ne_of_lt (Nat.lt_of_lt_of_le (F_o0_data).lt sz_b240))))
  obtain ⟨T276, X276, e276, st276⟩ := getF X268 hx hZ hown (host := "") (Or.inl (hw _ (List.mem_of_getElem? (i := 25) rfl))) Via.refl e268 f275 (g := (mkF m 49 A272 [(.ref o0), (.int (2 : Int32)), (.ref b240)])) rfl rfl (hb hby dprog_20_method_4_code_49)
  refine Go.st (S' := T276.setTop (mkF m 52 A272 [(.ref o_2), (.int (2 : Int32)), (.ref b240)])) st276 ?_
  refine Go.st (S' := T276.setTop (mkF m 53 A272 [(.int (2 : Int32)), (.ref o_2), (.int (2 : Int32)), (.ref b240)])) (fun t k => XS.iloadN X276.here hx rfl (hb hby dprog_20_method_4_code_52) rfl k) ?_
  have f277 := ((f262).other W268 (Nat.ne_of_lt (Nat.lt_of_lt_of_le (V_o_2).lt sz_b240)))
  obtain ⟨cl278, Ar278, -, S278, N278_, H278, -⟩ := id f277
  have hin278 : ¬ ((2 : Int32) < 0 ∨ cl278.slots.size ≤ ((2 : Int32)).toNatClampNeg) := inb_of S278 ⟨by decide, by decide⟩
  have hat278 : cl278.slots[((2 : Int32)).toNatClampNeg]? = some (.int e2_o_2) := Has.at H278 hin278 rfl
  refine Go.st (S' := T276.setTop (mkF m 54 A272 [(.int e2_o_2), (.int (2 : Int32)), (.ref b240)])) (fun t k => X276.baloadBytes hx (j := (2 : Int32)) (v := (.int e2_o_2)) (own_eh e276 Ar278.1) (State.isArrayOf_alike hZ.alike Ar278.2.1) Ar278.2.2 hin278 hat278 (g := (mkF m 53 A272 [(.int (2 : Int32)), (.ref o_2), (.int (2 : Int32)), (.ref b240)])) rfl rfl (hb hby dprog_20_method_4_code_53) t k) ?_
  refine Go.st (S' := T276.setTop (mkF m 55 A272 [(.ref o1), (.int e2_o_2), (.int (2 : Int32)), (.ref b240)])) (fun t k => XS.aloadN X276.here hx rfl (hb hby dprog_20_method_4_code_54) rfl rfl k) ?_
  refine Go.st (S' := T276.setTop (mkF m 56 A272 [(.int (2 : Int32)), (.ref o1), (.int e2_o_2), (.int (2 : Int32)), (.ref b240)])) (fun t k => XS.iloadN X276.here hx rfl (hb hby dprog_20_method_4_code_55) rfl k) ?_
  have f279 := ((f264).other W268 (Nat.ne_of_lt (Nat.lt_of_lt_of_le (V_o1).lt sz_b240)))
  obtain ⟨cl280, Ar280, -, S280, N280_, H280, -⟩ := id f279
  have hin280 : ¬ ((2 : Int32) < 0 ∨ cl280.slots.size ≤ ((2 : Int32)).toNatClampNeg) := inb_of S280 ⟨by decide, by decide⟩
  have hat280 : cl280.slots[((2 : Int32)).toNatClampNeg]? = some (.int e2_o1) := Has.at H280 hin280 rfl
  refine Go.st (S' := T276.setTop (mkF m 57 A272 [(.int e2_o1), (.int e2_o_2), (.int (2 : Int32)), (.ref b240)])) (fun t k => X276.baloadBytes hx (j := (2 : Int32)) (v := (.int e2_o1)) (own_eh e276 Ar280.1) (State.isArrayOf_alike hZ.alike Ar280.2.1) Ar280.2.2 hin280 hat280 (g := (mkF m 56 A272 [(.int (2 : Int32)), (.ref o1), (.int e2_o_2), (.int (2 : Int32)), (.ref b240)])) rfl rfl (hb hby dprog_20_method_4_code_56) t k) ?_
  refine Go.op (F := fun z => T276.setTop (mkF m 58 A272 [(.int z), (.int (2 : Int32)), (.ref b240)])) (x := (e2_o_2 &&& e2_o1)) (fun t k => XS.iand X276.here hx rfl (hb hby dprog_20_method_4_code_57) rfl k) ?_
  intro v281 hv281
  refine Go.op (F := fun z => T276.setTop (mkF m 59 A272 [(.int z), (.int (2 : Int32)), (.ref b240)])) (x := v281.toInt8.toInt32) (fun t k => XS.i2b X276.here hx rfl (hb hby dprog_20_method_4_code_58) rfl k) ?_
  intro v282 hv282
  obtain ⟨cl283, Ar283, q283, S283, N283_, H283, G283⟩ := id V268
  have hin283 : ¬ ((2 : Int32) < 0 ∨ cl283.slots.size ≤ ((2 : Int32)).toNatClampNeg) := inb_of S283 ⟨by decide, by decide⟩
  obtain ⟨v284, hv284⟩ : ∃ z, z = v282.toInt8.toInt32 := ⟨_, rfl⟩
  obtain ⟨T283, h283, X283, e283, W283, st283⟩ := stB X276 hx hZ e276 Ar283 (j := (2 : Int32)) hin283 (g := (mkF m 59 A272 [(.int v282), (.int (2 : Int32)), (.ref b240)])) rfl rfl (hb hby dprog_20_method_4_code_59)
  have W283 : Wr h268 h283 b240 ((2 : Int32)).toNatClampNeg (.int v284) := by rw [hv284]; exact W283
  have V283 : Arv Z h283 b240 k240 .byte (4 : Int32) [(.int v254), (.int v269), (.int v284), (.int (0 : Int32))] (.int (0 : Int32)) := Arv.set Ar283 q283 S283 N283_ H283 G283 (by rw [hv284]; exact fits_nar_byte _) W283 2 rfl (Nat.le_of_ble_eq_true rfl)
  have N283 := Fr.snoc X283 N268 g_b240
  have Z285 : n0 ≤ h283.size := Nat.le_trans Z270 (Keep.of_wr W283).1
  have K285 : Keep h0 h283 [] := K270.wr W283 (Or.inr sz_b240)
  refine Go.st (S' := T283.setTop (mkF m 60 A272 [])) st283 ?_
  refine Go.op (F := fun z => T283.setTop (mkF m 63 #[.val (.ref o0), .val (.ref o1), .val (.ref b240), .val (.int z)] [])) (x := ((2 : Int32) + (1 : Int32))) (fun t k => XS.iinc X283.here hx rfl (hb hby dprog_20_method_4_code_60) rfl rfl k) ?_
  intro v286 hv286
  obtain rfl : (3 : Int32) = v286 := (hv286.trans (by decide)).symm
  let A287 : Array Slot := #[.val (.ref o0), .val (.ref o1), .val (.ref b240), .val (.int (3 : Int32))]
  refine Go.st (S' := T283.setTop (mkF m 40 A287 [])) (fun t k => XS.goto X283.here hx rfl (pc0 := 63) (pc' := 40) rfl (hb hby dprog_20_method_4_code_63) (by decide) (by decide) k) ?_
  refine Go.st (S' := T283.setTop (mkF m 41 A287 [(.int (3 : Int32))])) (fun t k => XS.iloadN X283.here hx rfl (hb hby dprog_20_method_4_code_40) rfl k) ?_
  refine Go.st (S' := T283.setTop (mkF m 42 A287 [(.ref b240), (.int (3 : Int32))])) (fun t k => XS.aloadN X283.here hx rfl (hb hby dprog_20_method_4_code_41) rfl rfl k) ?_
  obtain ⟨cl288, Ar288, -, S288, N288_, -, -⟩ := id V283
  refine Go.op (F := fun z => T283.setTop (mkF m 43 A287 [(.int z), (.int (3 : Int32))])) (x := cl288.slots.size.toInt32) (fun t k => X283.arraylength hx (own_eh e283 Ar288.1) (State.isArrayOf_alike hZ.alike Ar288.2.1) (g := (mkF m 42 A287 [(.ref b240), (.int (3 : Int32))])) rfl rfl (hb hby dprog_20_method_4_code_42) t k) ?_
  intro v289 hv289
  obtain rfl : (4 : Int32) = v289 := (hv289.trans (len_of S288 N288_)).symm
  refine Go.st (S' := T283.setTop (mkF m 46 A287 [])) (fun t k => XS.icmpNo X283.here hx rfl (hb hby dprog_20_method_4_code_43) rfl (tlt (by decide : ((3 : Int32) < (4 : Int32)))).2.1 k) ?_
  refine Go.st (S' := T283.setTop (mkF m 47 A287 [(.ref b240)])) (fun t k => XS.aloadN X283.here hx rfl (hb hby dprog_20_method_4_code_46) rfl rfl k) ?_
  refine Go.st (S' := T283.setTop (mkF m 48 A287 [(.int (3 : Int32)), (.ref b240)])) (fun t k => XS.iloadN X283.here hx rfl (hb hby dprog_20_method_4_code_47) rfl k) ?_
  refine Go.st (S' := T283.setTop (mkF m 49 A287 [(.ref o0), (.int (3 : Int32)), (.ref b240)])) (fun t k => XS.aloadN X283.here hx rfl (hb hby dprog_20_method_4_code_48) rfl rfl k) ?_
  have f290 := ((f275).other W283 (Or.inl (Nat.ne_of_lt (Nat.lt_of_lt_of_le (F_o0_data).lt sz_b240))))
  obtain ⟨T291, X291, e291, st291⟩ := getF X283 hx hZ hown (host := "") (Or.inl (hw _ (List.mem_of_getElem? (i := 25) rfl))) Via.refl e283 f290 (g := (mkF m 49 A287 [(.ref o0), (.int (3 : Int32)), (.ref b240)])) rfl rfl (hb hby dprog_20_method_4_code_49)
  refine Go.st (S' := T291.setTop (mkF m 52 A287 [(.ref o_2), (.int (3 : Int32)), (.ref b240)])) st291 ?_
  refine Go.st (S' := T291.setTop (mkF m 53 A287 [(.int (3 : Int32)), (.ref o_2), (.int (3 : Int32)), (.ref b240)])) (fun t k => XS.iloadN X291.here hx rfl (hb hby dprog_20_method_4_code_52) rfl k) ?_
  have f292 := ((f277).other W283 (Nat.ne_of_lt (Nat.lt_of_lt_of_le (V_o_2).lt sz_b240)))
  obtain ⟨cl293, Ar293, -, S293, N293_, H293, -⟩ := id f292
  have hin293 : ¬ ((3 : Int32) < 0 ∨ cl293.slots.size ≤ ((3 : Int32)).toNatClampNeg) := inb_of S293 ⟨by decide, by decide⟩
  have hat293 : cl293.slots[((3 : Int32)).toNatClampNeg]? = some (.int e3_o_2) := Has.at H293 hin293 rfl
  refine Go.st (S' := T291.setTop (mkF m 54 A287 [(.int e3_o_2), (.int (3 : Int32)), (.ref b240)])) (fun t k => X291.baloadBytes hx (j := (3 : Int32)) (v := (.int e3_o_2)) (own_eh e291 Ar293.1) (State.isArrayOf_alike hZ.alike Ar293.2.1) Ar293.2.2 hin293 hat293 (g := (mkF m 53 A287 [(.int (3 : Int32)), (.ref o_2), (.int (3 : Int32)), (.ref b240)])) rfl rfl (hb hby dprog_20_method_4_code_53) t k) ?_
  refine Go.st (S' := T291.setTop (mkF m 55 A287 [(.ref o1), (.int e3_o_2), (.int (3 : Int32)), (.ref b240)])) (fun t k => XS.aloadN X291.here hx rfl (hb hby dprog_20_method_4_code_54) rfl rfl k) ?_
  refine Go.st (S' := T291.setTop (mkF m 56 A287 [(.int (3 : Int32)), (.ref o1), (.int e3_o_2), (.int (3 : Int32)), (.ref b240)])) (fun t k => XS.iloadN X291.here hx rfl (hb hby dprog_20_method_4_code_55) rfl k) ?_
  have f294 := ((f279).other W283 (Nat.ne_of_lt (Nat.lt_of_lt_of_le (V_o1).lt sz_b240)))
  obtain ⟨cl295, Ar295, -, S295, N295_, H295, -⟩ := id f294
  have hin295 : ¬ ((3 : Int32) < 0 ∨ cl295.slots.size ≤ ((3 : Int32)).toNatClampNeg) := inb_of S295 ⟨by decide, by decide⟩
  have hat295 : cl295.slots[((3 : Int32)).toNatClampNeg]? = some (.int e3_o1) := Has.at H295 hin295 rfl
  refine Go.st (S' := T291.setTop (mkF m 57 A287 [(.int e3_o1), (.int e3_o_2), (.int (3 : Int32)), (.ref b240)])) (fun t k => X291.baloadBytes hx (j := (3 : Int32)) (v := (.int e3_o1)) (own_eh e291 Ar295.1) (State.isArrayOf_alike hZ.alike Ar295.2.1) Ar295.2.2 hin295 hat295 (g := (mkF m 56 A287 [(.int (3 : Int32)), (.ref o1), (.int e3_o_2), (.int (3 : Int32)), (.ref b240)])) rfl rfl (hb hby dprog_20_method_4_code_56) t k) ?_
  refine Go.op (F := fun z => T291.setTop (mkF m 58 A287 [(.int z), (.int (3 : Int32)), (.ref b240)])) (x := (e3_o_2 &&& e3_o1)) (fun t k => XS.iand X291.here hx rfl (hb hby dprog_20_method_4_code_57) rfl k) ?_
  intro v296 hv296
  refine Go.op (F := fun z => T291.setTop (mkF m 59 A287 [(.int z), (.int (3 : Int32)), (.ref b240)])) (x := v296.toInt8.toInt32) (fun t k => XS.i2b X291.here hx rfl (hb hby dprog_20_method_4_code_58) rfl k) ?_
  intro v297 hv297
  obtain ⟨cl298, Ar298, q298, S298, N298_, H298, G298⟩ := id V283
  have hin298 : ¬ ((3 : Int32) < 0 ∨ cl298.slots.size ≤ ((3 : Int32)).toNatClampNeg) := inb_of S298 ⟨by decide, by decide⟩
  obtain ⟨v299, hv299⟩ : ∃ z, z = v297.toInt8.toInt32 := ⟨_, rfl⟩
  obtain ⟨T298, h298, X298, e298, W298, st298⟩ := stB X291 hx hZ e291 Ar298 (j := (3 : Int32)) hin298 (g := (mkF m 59 A287 [(.int v297), (.int (3 : Int32)), (.ref b240)])) rfl rfl (hb hby dprog_20_method_4_code_59)
  have W298 : Wr h283 h298 b240 ((3 : Int32)).toNatClampNeg (.int v299) := by rw [hv299]; exact W298
  have V298 : Arv Z h298 b240 k240 .byte (4 : Int32) [(.int v254), (.int v269), (.int v284), (.int v299)] (.int (0 : Int32)) := Arv.set Ar298 q298 S298 N298_ H298 G298 (by rw [hv299]; exact fits_nar_byte _) W298 3 rfl (Nat.le_of_ble_eq_true rfl)
  have N298 := Fr.snoc X298 N283 g_b240
  have Z300 : n0 ≤ h298.size := Nat.le_trans Z285 (Keep.of_wr W298).1
  have K300 : Keep h0 h298 [] := K285.wr W298 (Or.inr sz_b240)
  refine Go.st (S' := T298.setTop (mkF m 60 A287 [])) st298 ?_
  refine Go.op (F := fun z => T298.setTop (mkF m 63 #[.val (.ref o0), .val (.ref o1), .val (.ref b240), .val (.int z)] [])) (x := ((3 : Int32) + (1 : Int32))) (fun t k => XS.iinc X298.here hx rfl (hb hby dprog_20_method_4_code_60) rfl rfl k) ?_
  intro v301 hv301
  obtain rfl : (4 : Int32) = v301 := (hv301.trans (by decide)).symm
  let A302 : Array Slot := #[.val (.ref o0), .val (.ref o1), .val (.ref b240), .val (.int (4 : Int32))]
  refine Go.st (S' := T298.setTop (mkF m 40 A302 [])) (fun t k => XS.goto X298.here hx rfl (pc0 := 63) (pc' := 40) rfl (hb hby dprog_20_method_4_code_63) (by decide) (by decide) k) ?_
  refine Go.st (S' := T298.setTop (mkF m 41 A302 [(.int (4 : Int32))])) (fun t k => XS.iloadN X298.here hx rfl (hb hby dprog_20_method_4_code_40) rfl k) ?_
  refine Go.st (S' := T298.setTop (mkF m 42 A302 [(.ref b240), (.int (4 : Int32))])) (fun t k => XS.aloadN X298.here hx rfl (hb hby dprog_20_method_4_code_41) rfl rfl k) ?_
  obtain ⟨cl303, Ar303, -, S303, N303_, -, -⟩ := id V298
  refine Go.op (F := fun z => T298.setTop (mkF m 43 A302 [(.int z), (.int (4 : Int32))])) (x := cl303.slots.size.toInt32) (fun t k => X298.arraylength hx (own_eh e298 Ar303.1) (State.isArrayOf_alike hZ.alike Ar303.2.1) (g := (mkF m 42 A302 [(.ref b240), (.int (4 : Int32))])) rfl rfl (hb hby dprog_20_method_4_code_42) t k) ?_
  intro v304 hv304
  obtain rfl : (4 : Int32) = v304 := (hv304.trans (len_of S303 N303_)).symm
  refine Go.st (S' := T298.setTop (mkF m 66 A302 [])) (fun t k => XS.icmpYes X298.here hx rfl (pc0 := 43) (pc' := 66) rfl (hb hby dprog_20_method_4_code_43) rfl (flt (by decide : (¬ ((4 : Int32) < (4 : Int32))))).2.1 (by decide) (by decide) k) ?_
  obtain ⟨T305, h305, X305, e305, E305, A305, D305, -, st305⟩ := newO X298 hx hZ hown (hw _ (List.mem_of_getElem? (i := 32) rfl)) (hw _ (List.mem_of_getElem? (i := 10) rfl)) (hw _ (List.mem_of_getElem? (i := 11) rfl)) e298 (g := (mkF m 66 A302 [])) rfl (hb hby dprog_20_method_4_code_66) (by decide) (by decide)
  obtain ⟨b305, gg305⟩ : ∃ z, z = h298.size := ⟨_, rfl⟩
  rw [← gg305] at A305 D305 st305
  have g_b305 : n0 ≤ b305 := Nat.le_trans Z300 (Nat.le_of_eq gg305.symm)
  have sz_b305 : h0.size ≤ b305 := Nat.le_trans K300.1 (Nat.le_of_eq gg305.symm)
  have f306 := ((((((((B240).wr W253)).wr W268)).wr W283)).wr W298)
  have lt_b240_b305 : b240 < b305 := Nat.lt_of_lt_of_le (f306).lt (Nat.le_of_eq gg305.symm)
  have Z307 : n0 ≤ h305.size := Nat.le_trans Z300 E305.1
  have K307 : Keep h0 h305 [] := K300.ext E305
  have Fb305_template : Fld Z h305 b305 "com/example/consulate/consulate/cvc/Chat" "template" "Lcom/example/consulate/consulate/cvc/Chat$Template;" .null := D305 (Or.inr (hw _ (List.mem_of_getElem? (i := 24) rfl))) (ty := (.object "com/example/consulate/consulate/cvc/Chat$Template")) (by decide)
  have Fb305_data : Fld Z h305 b305 "com/example/consulate/consulate/cvc/Chat" "data" "[B" .null := D305 (Or.inr (hw _ (List.mem_of_getElem? (i := 26) rfl))) (ty := (.array .byte)) (by decide)
  refine Go.st (S' := T305.setTop (mkF m 69 A302 [(.ref b305)])) st305 ?_
  refine Go.st (S' := T305.setTop (mkF m 70 A302 [(.ref b305), (.ref b305)])) (fun t k => XS.dup X305.here hx rfl (hb hby dprog_20_method_4_code_69) rfl rfl k) ?_
  refine Go.st (S' := T305.setTop (mkF m 71 A302 [(.ref o0), (.ref b305), (.ref b305)])) (fun t k => XS.aloadN X305.here hx rfl (hb hby dprog_20_method_4_code_70) rfl rfl k) ?_
  have f308 := ((((((((((((F_o0_template).ext E240)).other W253 (Or.inl (Nat.ne_of_lt (Nat.lt_of_lt_of_le (F_o0_data).lt sz_b240))))).other W268 (Or.inl (Nat.ne_of_lt (Nat.lt_of_lt_of_le (F_o0_data).lt sz_b240))))).other W283 (Or.inl (Nat.ne_of_lt (Nat.lt_of_lt_of_le (F_o0_data).lt sz_b240))))).other W298 (Or.inl (Nat.ne_of_lt (Nat.lt_of_lt_of_le (F_o0_data).lt sz_b240))))).ext E305)
  obtain ⟨T309, X309, e309, st309⟩ := getF X305 hx hZ hown (host := "") (Or.inl (hw _ (List.mem_of_getElem? (i := 23) rfl))) Via.refl e305 f308 (g := (mkF m 71 A302 [(.ref o0), (.ref b305), (.ref b305)])) rfl rfl (hb hby dprog_20_method_4_code_71)
  refine Go.st (S' := T309.setTop (mkF m 74 A302 [(.ref o_3), (.ref b305), (.ref b305)])) st309 ?_
  refine Go.st (S' := T309.setTop (mkF m 75 A302 [(.ref b240), (.ref o_3), (.ref b305), (.ref b305)])) (fun t k => XS.aloadN X309.here hx rfl (hb hby dprog_20_method_4_code_74) rfl rfl k) ?_
  have f311 := ((V298).ext E305)
  obtain ⟨r312, T312, L312, X312, hQ312, st312⟩ := own_callI (W := 1) (a := b305) X309 hx hZ e309 hown (y := (⟨"com/example/consulate/consulate/cvc/Chat", "<init>", "(Lcom/example/consulate/consulate/cvc/Chat$Template;[B)V"⟩ : MethodName)) rfl (hw _ (List.mem_of_getElem? (i := 33) rfl)) (hw _ (List.mem_of_getElem? (i := 13) rfl)) (hw _ (List.mem_of_getElem? (i := 11) rfl)) (hw _ (List.mem_of_getElem? (i := 14) rfl)) (by decide) (rm7 l Z a0 hw [] b305 o_3 b240 k240 v254 v269 v284 v299 (.null) (.null) h305 n0 Z307 (f311) (A305) (Fb305_template) (g_b305) (Fb305_data)) (by decide) (by decide) (by decide) (by decide) (g := (mkF m 75 A302 [(.ref b240), (.ref o_3), (.ref b305), (.ref b305)])) rfl (by rw [hml]; rfl) (argsL := [(.ref o_3), (.ref b240)]) (rest := [(.ref b305)]) rfl (lenOf pd_2 rfl) rfl (by show 2 * 0 + _ ≤ _; exact Nat.le_of_eq rfl) (hb hby dprog_20_method_4_code_75)
  obtain ⟨rfl, N312, K312_, f313, f314, f315⟩ := hQ312
  have N312_ := Fr.app N298 N312
  have Z316 : n0 ≤ T312.heap.size := Nat.le_trans Z307 K312_.1
  have K316 : Keep h0 T312.heap [] := K307.trans K312_ (allS (Or.inr sz_b305) all0)
  refine Go.st (S' := T312.setTop (mkF m 78 A302 [(.ref b305)])) st312 ?_
  have f317 := ((f311).keep K312_ (ninS (Nat.ne_of_lt lt_b240_b305) nin0))
  have f318 := ((((f306).ext E305)).keep K312_)
  exact Go.ret X312 (v := some (.ref b305)) (fun h => by rw [Bd.returns] at h; cases h) Bd.notSynchronized (fun fs hr => retOut X312 hx Bd.returns rfl (Or.inr (Or.inr (Or.inr (Or.inr ⟨rfl, rfl, rfl⟩)))) (hb hby dprog_20_method_4_code_78) hr) (by decide) (by decide) (⟨v251, v252, v254, v266, v267, v269, v281, v282, v284, v296, v297, v299, b240, b305, k240, hv251, hv252, hv254, hv266, hv267, hv269, hv281, hv282, hv284, hv296, hv297, hv299, rfl, N312_, K316, sz_b240, sz_b305, f317, f318, f313, f314, f315, lt_b240_b305⟩)
theorem ef_9 (m : MethodId) (p0 : Int32) (p1 : Int32) (p2 : Int32) (p3 : Int32) : entryFrame m #[(.int p0), (.int p1), (.int p2), (.int p3)] maxLocals = mkF m 0 #[.val (.int p0), .val (.int p1), .val (.int p2), .val (.int p3), .unset, .unset, .unset, .unset, .unset, .unset, .unset, .unset, .unset, .unset, .unset, .unset] [] := by first | (simp [entryFrame, mkF, argsToLocals, Value.category, maxLocals]; done) | rfl
def Q9 (Z : State) (p0 : Int32) (p1 : Int32) (p2 : Int32) (p3 : Int32) (s_Chat_Template_IS : Addr) (s_Chat_Template_AT : Addr) (s_Chat_Template_ST : Addr) (h0 : Heap) (n0 : Nat) (v : Option Value) (h : Heap) (L : List Loc) : Prop := v = some (.int 1) ∧ Fr n0 L
set_option maxRecDepth 65536 in
set_option maxHeartbeats 40000000 in
theorem rm9 (l : Launch) (Z : State) (a0 : Array Value) (hw : ∀ d ∈ tables_1, d.before a0 Z = true) (ws : List Jvm.Cond) (p0 : Int32) (p1 : Int32) (p2 : Int32) (p3 : Int32) (s_Chat_Template_IS : Addr) (s_Chat_Template_AT : Addr) (s_Chat_Template_ST : Addr) (h0 : Heap) (n0 : Nat) (Z0 : n0 ≤ h0.size) (S_s_Chat_Template_IS : Sta Z h0 "com/example/consulate/consulate/cvc/Chat$Template" "IS" "Lcom/example/consulate/consulate/cvc/Chat$Template;" (.ref s_Chat_Template_IS)) (S_s_Chat_Template_AT : Sta Z h0 "com/example/consulate/consulate/cvc/Chat$Template" "AT" "Lcom/example/consulate/consulate/cvc/Chat$Template;" (.ref s_Chat_Template_AT)) (S_s_Chat_Template_ST : Sta Z h0 "com/example/consulate/consulate/cvc/Chat$Template" "ST" "Lcom/example/consulate/consulate/cvc/Chat$Template;" (.ref s_Chat_Template_ST)) :
    Con l Z x code maxLocals ret ws room_1 #[(.int p0), (.int p1), (.int p2), (.int p3)] h0 7 18 (Q9 Z p0 p1 p2 p3 s_Chat_Template_IS s_Chat_Template_AT s_Chat_Template_ST h0 n0) := by
  refine MetFree.of_bodySF (plainFor_of_name pn_0) hisR ?_
  intro p e s m args below meth c s₁ Bd hml0 hP hK
  obtain ⟨rfl, hZ, hh⟩ := hP
  have hx := Bd.exec
  have hby := Bd.bytes
  have hml : c.maxLocals = 16 := hml0
  have hown : s.vm.findClass "com/example/consulate/consulate/cvc/ChatRestrictedToPinLaw" = some m.cls := findClass_of_methodNamed Bd.named
  have hnm := (name_of_methodNamed Bd.named Bd.method).1
  have X0 : Stand p l e room_1 s m #[(.int p0), (.int p1), (.int p2), (.int p3)] below meth c s₁ [] 0 0 := Stand.of_body Bd
  have e0 : s₁.heap = h0 := by rw [← hh, Bd.state]; rfl
  have N0 := Fr.nil n0
  refine Go.of ?_
  refine Go.st (S' := s₁.setTop (mkF m 0 #[.val (.int p0), .val (.int p1), .val (.int p2), .val (.int p3), .unset, .unset, .unset, .unset, .unset, .unset, .unset, .unset, .unset, .unset, .unset, .unset] [])) (fun t k => castTop (ef_9 m p0 p1 p2 p3) k) ?_
  let A1 : Array Slot := #[.val (.int p0), .val (.int p1), .val (.int p2), .val (.int p3), .unset, .unset, .unset, .unset, .unset, .unset, .unset, .unset, .unset, .unset, .unset, .unset]
  refine Go.st (S' := s₁.setTop (mkF m 1 A1 [(.int p2)])) (fun t k => XS.iloadN X0.here hx rfl (hb hby at_0) rfl k) ?_
  obtain ⟨r9, T9, L9, X9, hQ9, st9⟩ := own_callS (W := 0) X0 hx hZ e0 hown (y := (⟨"com/example/consulate/consulate/cvc/ChatRestrictedToPinLaw", "pick", "(I)Lcom/example/consulate/consulate/cvc/Chat$Template;"⟩ : MethodName)) (hw _ (List.mem_of_getElem? (i := 0) rfl)) (hw _ (List.mem_of_getElem? (i := 1) rfl)) (hw _ (List.mem_of_getElem? (i := 2) rfl)) (hw _ (List.mem_of_getElem? (i := 3) rfl)) (by decide) (rm1 l Z a0 hw [] p2 s_Chat_Template_IS s_Chat_Template_AT s_Chat_Template_ST h0 n0 Z0 (S_s_Chat_Template_IS) (S_s_Chat_Template_AT) (S_s_Chat_Template_ST)) (by decide) (by decide) (by decide) (by decide) (g := (mkF m 1 A1 [(.int p2)])) rfl (by rw [hml]; rfl) (argsL := [(.int p2)]) (rest := []) rfl (lenOf pd_0 rfl) rfl (by show 2 * 0 + _ ≤ _; exact Nat.le_of_eq rfl) (hb hby at_1)
  obtain ⟨r12, v10, v11, hv10, hv11, hc13, rfl, N9, e9⟩ := hQ9
  have N9_ := Fr.app N0 N9
  refine Go.st (S' := T9.setTop (mkF m 4 A1 [(.ref r12)])) st9 ?_
  let A14 : Array Slot := #[.val (.int p0), .val (.int p1), .val (.int p2), .val (.int p3), .val (.ref r12), .unset, .unset, .unset, .unset, .unset, .unset, .unset, .unset, .unset, .unset, .unset]
  refine Go.st (S' := T9.setTop (mkF m 6 A14 [])) (fun t k => XS.astore X9.here hx rfl (hb hby at_4) rfl rfl (l' := A14) rfl k) ?_
  refine Go.st (S' := T9.setTop (mkF m 7 A14 [(.int p3)])) (fun t k => XS.iloadN X9.here hx rfl (hb hby at_6) rfl k) ?_
  refine Go.st (S' := T9.setTop (mkF m 8 A14 [(.int (1 : Int32)), (.int p3)])) (fun t k => XS.iconst X9.here hx rfl (hb hby at_7) k) ?_
  refine Go.op (F := fun z => T9.setTop (mkF m 9 A14 [(.int z)])) (x := (p3 &&& (1 : Int32))) (fun t k => XS.iand X9.here hx rfl (hb hby at_8) rfl k) ?_
  intro v15 hv15
  refine Go.join (α := Int32) (fun r => (((v15 = (0 : Int32)) ∧ (r = (0 : Int32))) ∨ ((¬ (v15 = (0 : Int32))) ∧ (r = (1 : Int32))))) (fun r => T9.setTop (mkF m 17 A14 [(.int r)])) ?_ ?_
  · intro r18 hc19
    let A20 : Array Slot := #[.val (.int p0), .val (.int p1), .val (.int p2), .val (.int p3), .val (.ref r12), .val (.int r18), .unset, .unset, .unset, .unset, .unset, .unset, .unset, .unset, .unset, .unset]
    refine Go.st (S' := T9.setTop (mkF m 19 A20 [])) (fun t k => XS.istore X9.here hx rfl (hb hby at_17) rfl (l' := A20) rfl k) ?_
    refine Go.st (S' := T9.setTop (mkF m 20 A20 [(.int (1 : Int32))])) (fun t k => XS.iconst X9.here hx rfl (hb hby at_19) k) ?_
    obtain ⟨T21, h21, k21, X21, e21, E21, A21, B21, st21⟩ := newPE X9 hx hZ (hw _ (List.mem_of_getElem? (i := 8) rfl)) e9 (g := (mkF m 20 A20 [(.int (1 : Int32))])) rfl (hb hby at_20) rfl (by decide) (cap := 1) (by decide) (by decide) (by decide) (by decide) (ad := "[B") (by decide)
    obtain ⟨b21, gg21⟩ : ∃ z, z = h0.size := ⟨_, rfl⟩
    rw [← gg21] at A21 B21 st21
    have g_b21 : n0 ≤ b21 := Nat.le_trans Z0 (Nat.le_of_eq gg21.symm)
    have sz_b21 : h0.size ≤ b21 := Nat.le_trans (Keep.refl h0 []).1 (Nat.le_of_eq gg21.symm)
    have Z22 : n0 ≤ h21.size := Nat.le_trans Z0 E21.1
    have K22 : Keep h0 h21 [] := (Keep.refl h0 []).ext E21
    have V21 : Arv Z h21 b21 k21 .byte (1 : Int32) [(.int (0 : Int32))] (.int (0 : Int32)) := (Arv.new A21 (by decide)).pad (pad_rep [] (.int (0 : Int32)) 1)
    refine Go.st (S' := T21.setTop (mkF m 22 A20 [(.ref b21)])) st21 ?_
    let A23 : Array Slot := #[.val (.int p0), .val (.int p1), .val (.int p2), .val (.int p3), .val (.ref r12), .val (.int r18), .val (.ref b21), .unset, .unset, .unset, .unset, .unset, .unset, .unset, .unset, .unset]
    refine Go.st (S' := T21.setTop (mkF m 24 A23 [])) (fun t k => XS.astore X21.here hx rfl (hb hby at_22) rfl rfl (l' := A23) rfl k) ?_
    refine Go.st (S' := T21.setTop (mkF m 25 A23 [(.int (4 : Int32))])) (fun t k => XS.iconst X21.here hx rfl (hb hby at_24) k) ?_
    obtain ⟨T24, h24, k24, X24, e24, E24, A24, B24, st24⟩ := newPE X21 hx hZ (hw _ (List.mem_of_getElem? (i := 8) rfl)) e21 (g := (mkF m 25 A23 [(.int (4 : Int32))])) rfl (hb hby at_25) rfl (by decide) (cap := 4) (by decide) (by decide) (by decide) (by decide) (ad := "[B") (by decide)
    obtain ⟨b24, gg24⟩ : ∃ z, z = h21.size := ⟨_, rfl⟩
    rw [← gg24] at A24 B24 st24
    have g_b24 : n0 ≤ b24 := Nat.le_trans Z22 (Nat.le_of_eq gg24.symm)
    have sz_b24 : h0.size ≤ b24 := Nat.le_trans K22.1 (Nat.le_of_eq gg24.symm)
    have lt_b21_b24 : b21 < b24 := Nat.lt_of_lt_of_le (B21).lt (Nat.le_of_eq gg24.symm)
    have Z25 : n0 ≤ h24.size := Nat.le_trans Z22 E24.1
    have K25 : Keep h0 h24 [] := K22.ext E24
    have V24 : Arv Z h24 b24 k24 .byte (4 : Int32) [(.int (0 : Int32)), (.int (0 : Int32)), (.int (0 : Int32)), (.int (0 : Int32))] (.int (0 : Int32)) := (Arv.new A24 (by decide)).pad (pad_rep [] (.int (0 : Int32)) 4)
    refine Go.st (S' := T24.setTop (mkF m 27 A23 [(.ref b24)])) st24 ?_
    let A26 : Array Slot := #[.val (.int p0), .val (.int p1), .val (.int p2), .val (.int p3), .val (.ref r12), .val (.int r18), .val (.ref b21), .val (.ref b24), .unset, .unset, .unset, .unset, .unset, .unset, .unset, .unset]
    refine Go.st (S' := T24.setTop (mkF m 29 A26 [])) (fun t k => XS.astore X24.here hx rfl (hb hby at_27) rfl rfl (l' := A26) rfl k) ?_
    refine Go.st (S' := T24.setTop (mkF m 30 A26 [(.int (1 : Int32))])) (fun t k => XS.iconst X24.here hx rfl (hb hby at_29) k) ?_
    obtain ⟨T27, h27, k27, X27, e27, E27, A27, B27, st27⟩ := newPE X24 hx hZ (hw _ (List.mem_of_getElem? (i := 8) rfl)) e24 (g := (mkF m 30 A26 [(.int (1 : Int32))])) rfl (hb hby at_30) rfl (by decide) (cap := 1) (by decide) (by decide) (by decide) (by decide) (ad := "[B") (by decide)
    obtain ⟨b27, gg27⟩ : ∃ z, z = h24.size := ⟨_, rfl⟩
    rw [← gg27] at A27 B27 st27
    have g_b27 : n0 ≤ b27 := Nat.le_trans Z25 (Nat.le_of_eq gg27.symm)
    have sz_b27 : h0.size ≤ b27 := Nat.le_trans K25.1 (Nat.le_of_eq gg27.symm)
    have f28 := ((B21).ext E24)
    have lt_b21_b27 : b21 < b27 := Nat.lt_of_lt_of_le (f28).lt (Nat.le_of_eq gg27.symm)
    have lt_b24_b27 : b24 < b27 := Nat.lt_of_lt_of_le (B24).lt (Nat.le_of_eq gg27.symm)
    have Z29 : n0 ≤ h27.size := Nat.le_trans Z25 E27.1
    have K29 : Keep h0 h27 [] := K25.ext E27
    have V27 : Arv Z h27 b27 k27 .byte (1 : Int32) [(.int (0 : Int32))] (.int (0 : Int32)) := (Arv.new A27 (by decide)).pad (pad_rep [] (.int (0 : Int32)) 1)
    refine Go.st (S' := T27.setTop (mkF m 32 A26 [(.ref b27)])) st27 ?_
    let A30 : Array Slot := #[.val (.int p0), .val (.int p1), .val (.int p2), .val (.int p3), .val (.ref r12), .val (.int r18), .val (.ref b21), .val (.ref b24), .val (.ref b27), .unset, .unset, .unset, .unset, .unset, .unset, .unset]
    refine Go.st (S' := T27.setTop (mkF m 34 A30 [])) (fun t k => XS.astore X27.here hx rfl (hb hby at_32) rfl rfl (l' := A30) rfl k) ?_
    refine Go.st (S' := T27.setTop (mkF m 35 A30 [(.int (4 : Int32))])) (fun t k => XS.iconst X27.here hx rfl (hb hby at_34) k) ?_
    obtain ⟨T31, h31, k31, X31, e31, E31, A31, B31, st31⟩ := newPE X27 hx hZ (hw _ (List.mem_of_getElem? (i := 8) rfl)) e27 (g := (mkF m 35 A30 [(.int (4 : Int32))])) rfl (hb hby at_35) rfl (by decide) (cap := 4) (by decide) (by decide) (by decide) (by decide) (ad := "[B") (by decide)
    obtain ⟨b31, gg31⟩ : ∃ z, z = h27.size := ⟨_, rfl⟩
    rw [← gg31] at A31 B31 st31
    have g_b31 : n0 ≤ b31 := Nat.le_trans Z29 (Nat.le_of_eq gg31.symm)
    have sz_b31 : h0.size ≤ b31 := Nat.le_trans K29.1 (Nat.le_of_eq gg31.symm)
    have f32 := ((f28).ext E27)
    have lt_b21_b31 : b21 < b31 := Nat.lt_of_lt_of_le (f32).lt (Nat.le_of_eq gg31.symm)
    have f33 := ((B24).ext E27)
    have lt_b24_b31 : b24 < b31 := Nat.lt_of_lt_of_le (f33).lt (Nat.le_of_eq gg31.symm)
    have lt_b27_b31 : b27 < b31 := Nat.lt_of_lt_of_le (B27).lt (Nat.le_of_eq gg31.symm)
    have Z34 : n0 ≤ h31.size := Nat.le_trans Z29 E31.1
    have K34 : Keep h0 h31 [] := K29.ext E31
    have V31 : Arv Z h31 b31 k31 .byte (4 : Int32) [(.int (0 : Int32)), (.int (0 : Int32)), (.int (0 : Int32)), (.int (0 : Int32))] (.int (0 : Int32)) := (Arv.new A31 (by decide)).pad (pad_rep [] (.int (0 : Int32)) 4)
    refine Go.st (S' := T31.setTop (mkF m 37 A30 [(.ref b31)])) st31 ?_
    let A35 : Array Slot := #[.val (.int p0), .val (.int p1), .val (.int p2), .val (.int p3), .val (.ref r12), .val (.int r18), .val (.ref b21), .val (.ref b24), .val (.ref b27), .val (.ref b31), .unset, .unset, .unset, .unset, .unset, .unset]
    refine Go.st (S' := T31.setTop (mkF m 39 A35 [])) (fun t k => XS.astore X31.here hx rfl (hb hby at_37) rfl rfl (l' := A35) rfl k) ?_
    refine Go.st (S' := T31.setTop (mkF m 41 A35 [(.ref b21)])) (fun t k => XS.aload X31.here hx rfl (hb hby at_39) rfl rfl k) ?_
    refine Go.st (S' := T31.setTop (mkF m 42 A35 [(.int (0 : Int32)), (.ref b21)])) (fun t k => XS.iconst X31.here hx rfl (hb hby at_41) k) ?_
    refine Go.st (S' := T31.setTop (mkF m 43 A35 [(.int p0), (.int (0 : Int32)), (.ref b21)])) (fun t k => XS.iloadN X31.here hx rfl (hb hby at_42) rfl k) ?_
    refine Go.op (F := fun z => T31.setTop (mkF m 44 A35 [(.int z), (.int (0 : Int32)), (.ref b21)])) (x := p0.toInt8.toInt32) (fun t k => XS.i2b X31.here hx rfl (hb hby at_43) rfl k) ?_
    intro v36 hv36
    have f37 := ((((((V21).ext E24)).ext E27)).ext E31)
    obtain ⟨cl38, Ar38, q38, S38, N38_, H38, G38⟩ := id f37
    have hin38 : ¬ ((0 : Int32) < 0 ∨ cl38.slots.size ≤ ((0 : Int32)).toNatClampNeg) := inb_of S38 ⟨by decide, by decide⟩
    obtain ⟨v39, hv39⟩ : ∃ z, z = v36.toInt8.toInt32 := ⟨_, rfl⟩
    obtain ⟨T38, h38, X38, e38, W38, st38⟩ := stB X31 hx hZ e31 Ar38 (j := (0 : Int32)) hin38 (g := (mkF m 44 A35 [(.int v36), (.int (0 : Int32)), (.ref b21)])) rfl rfl (hb hby at_44)
    have W38 : Wr h31 h38 b21 ((0 : Int32)).toNatClampNeg (.int v39) := by rw [hv39]; exact W38
    have V38 : Arv Z h38 b21 k21 .byte (1 : Int32) [(.int v39)] (.int (0 : Int32)) := Arv.set Ar38 q38 S38 N38_ H38 G38 (by rw [hv39]; exact fits_nar_byte _) W38 0 rfl (Nat.le_of_ble_eq_true rfl)
    have N38 := Fr.snoc X38 N9_ g_b21
    have Z40 : n0 ≤ h38.size := Nat.le_trans Z34 (Keep.of_wr W38).1
    have K40 : Keep h0 h38 [] := K34.wr W38 (Or.inr sz_b21)
    refine Go.st (S' := T38.setTop (mkF m 45 A35 [])) st38 ?_
    refine Go.st (S' := T38.setTop (mkF m 47 A35 [(.ref b24)])) (fun t k => XS.aload X38.here hx rfl (hb hby at_45) rfl rfl k) ?_
    refine Go.st (S' := T38.setTop (mkF m 48 A35 [(.int (0 : Int32)), (.ref b24)])) (fun t k => XS.iconst X38.here hx rfl (hb hby at_47) k) ?_
    refine Go.st (S' := T38.setTop (mkF m 49 A35 [(.int p0), (.int (0 : Int32)), (.ref b24)])) (fun t k => XS.iloadN X38.here hx rfl (hb hby at_48) rfl k) ?_
    refine Go.op (F := fun z => T38.setTop (mkF m 50 A35 [(.int z), (.int (0 : Int32)), (.ref b24)])) (x := p0.toInt8.toInt32) (fun t k => XS.i2b X38.here hx rfl (hb hby at_49) rfl k) ?_
    intro v41 hv41
    obtain rfl : v36 = v41 := hv36.trans hv41.symm
    have f42 := ((((((V24).ext E27)).ext E31)).other W38 (Nat.ne_of_gt lt_b21_b24))
    obtain ⟨cl43, Ar43, q43, S43, N43_, H43, G43⟩ := id f42
    have hin43 : ¬ ((0 : Int32) < 0 ∨ cl43.slots.size ≤ ((0 : Int32)).toNatClampNeg) := inb_of S43 ⟨by decide, by decide⟩
    obtain ⟨T43, h43, X43, e43, W43, st43⟩ := stB X38 hx hZ e38 Ar43 (j := (0 : Int32)) hin43 (g := (mkF m 50 A35 [(.int v36), (.int (0 : Int32)), (.ref b24)])) rfl rfl (hb hby at_50)
    have W43 : Wr h38 h43 b24 ((0 : Int32)).toNatClampNeg (.int v39) := by rw [hv39]; exact W43
    have V43 : Arv Z h43 b24 k24 .byte (4 : Int32) [(.int v39), (.int (0 : Int32)), (.int (0 : Int32)), (.int (0 : Int32))] (.int (0 : Int32)) := Arv.set Ar43 q43 S43 N43_ H43 G43 (by rw [hv39]; exact fits_nar_byte _) W43 0 rfl (Nat.le_of_ble_eq_true rfl)
    have N43 := Fr.snoc X43 N38 g_b24
    have Z44 : n0 ≤ h43.size := Nat.le_trans Z40 (Keep.of_wr W43).1
    have K44 : Keep h0 h43 [] := K40.wr W43 (Or.inr sz_b24)
    refine Go.st (S' := T43.setTop (mkF m 51 A35 [])) st43 ?_
    refine Go.st (S' := T43.setTop (mkF m 53 A35 [(.ref b24)])) (fun t k => XS.aload X43.here hx rfl (hb hby at_51) rfl rfl k) ?_
    refine Go.st (S' := T43.setTop (mkF m 54 A35 [(.int (1 : Int32)), (.ref b24)])) (fun t k => XS.iconst X43.here hx rfl (hb hby at_53) k) ?_
    refine Go.st (S' := T43.setTop (mkF m 55 A35 [(.int p0), (.int (1 : Int32)), (.ref b24)])) (fun t k => XS.iloadN X43.here hx rfl (hb hby at_54) rfl k) ?_
    refine Go.st (S' := T43.setTop (mkF m 57 A35 [(.int (8 : Int32)), (.int p0), (.int (1 : Int32)), (.ref b24)])) (fun t k => XS.bipush X43.here hx rfl (hb hby at_55) k) ?_
    refine Go.op (F := fun z => T43.setTop (mkF m 58 A35 [(.int z), (.int (1 : Int32)), (.ref b24)])) (x := ((p0.toUInt32 >>> ((8 : Int32) &&& 31).toUInt32).toInt32)) (fun t k => XS.iushr X43.here hx rfl (hb hby at_57) rfl k) ?_
    intro v45 hv45
    refine Go.op (F := fun z => T43.setTop (mkF m 59 A35 [(.int z), (.int (1 : Int32)), (.ref b24)])) (x := v45.toInt8.toInt32) (fun t k => XS.i2b X43.here hx rfl (hb hby at_58) rfl k) ?_
    intro v46 hv46
    obtain ⟨cl47, Ar47, q47, S47, N47_, H47, G47⟩ := id V43
    have hin47 : ¬ ((1 : Int32) < 0 ∨ cl47.slots.size ≤ ((1 : Int32)).toNatClampNeg) := inb_of S47 ⟨by decide, by decide⟩
    obtain ⟨v48, hv48⟩ : ∃ z, z = v46.toInt8.toInt32 := ⟨_, rfl⟩
    obtain ⟨T47, h47, X47, e47, W47, st47⟩ := stB X43 hx hZ e43 Ar47 (j := (1 : Int32)) hin47 (g := (mkF m 59 A35 [(.int v46), (.int (1 : Int32)), (.ref b24)])) rfl rfl (hb hby at_59)
    have W47 : Wr h43 h47 b24 ((1 : Int32)).toNatClampNeg (.int v48) := by rw [hv48]; exact W47
    have V47 : Arv Z h47 b24 k24 .byte (4 : Int32) [(.int v39), (.int v48), (.int (0 : Int32)), (.int (0 : Int32))] (.int (0 : Int32)) := Arv.set Ar47 q47 S47 N47_ H47 G47 (by rw [hv48]; exact fits_nar_byte _) W47 1 rfl (Nat.le_of_ble_eq_true rfl)
    have N47 := Fr.snoc X47 N43 g_b24
    have Z49 : n0 ≤ h47.size := Nat.le_trans Z44 (Keep.of_wr W47).1
    have K49 : Keep h0 h47 [] := K44.wr W47 (Or.inr sz_b24)
    refine Go.st (S' := T47.setTop (mkF m 60 A35 [])) st47 ?_
    refine Go.st (S' := T47.setTop (mkF m 62 A35 [(.ref b24)])) (fun t k => XS.aload X47.here hx rfl (hb hby at_60) rfl rfl k) ?_
    refine Go.st (S' := T47.setTop (mkF m 63 A35 [(.int (2 : Int32)), (.ref b24)])) (fun t k => XS.iconst X47.here hx rfl (hb hby at_62) k) ?_
    refine Go.st (S' := T47.setTop (mkF m 64 A35 [(.int p0), (.int (2 : Int32)), (.ref b24)])) (fun t k => XS.iloadN X47.here hx rfl (hb hby at_63) rfl k) ?_
    refine Go.st (S' := T47.setTop (mkF m 66 A35 [(.int (16 : Int32)), (.int p0), (.int (2 : Int32)), (.ref b24)])) (fun t k => XS.bipush X47.here hx rfl (hb hby at_64) k) ?_
    refine Go.op (F := fun z => T47.setTop (mkF m 67 A35 [(.int z), (.int (2 : Int32)), (.ref b24)])) (x := ((p0.toUInt32 >>> ((16 : Int32) &&& 31).toUInt32).toInt32)) (fun t k => XS.iushr X47.here hx rfl (hb hby at_66) rfl k) ?_
    intro v50 hv50
    refine Go.op (F := fun z => T47.setTop (mkF m 68 A35 [(.int z), (.int (2 : Int32)), (.ref b24)])) (x := v50.toInt8.toInt32) (fun t k => XS.i2b X47.here hx rfl (hb hby at_67) rfl k) ?_
    intro v51 hv51
    obtain ⟨cl52, Ar52, q52, S52, N52_, H52, G52⟩ := id V47
    have hin52 : ¬ ((2 : Int32) < 0 ∨ cl52.slots.size ≤ ((2 : Int32)).toNatClampNeg) := inb_of S52 ⟨by decide, by decide⟩
    obtain ⟨v53, hv53⟩ : ∃ z, z = v51.toInt8.toInt32 := ⟨_, rfl⟩
    obtain ⟨T52, h52, X52, e52, W52, st52⟩ := stB X47 hx hZ e47 Ar52 (j := (2 : Int32)) hin52 (g := (mkF m 68 A35 [(.int v51), (.int (2 : Int32)), (.ref b24)])) rfl rfl (hb hby at_68)
    have W52 : Wr h47 h52 b24 ((2 : Int32)).toNatClampNeg (.int v53) := by rw [hv53]; exact W52
    have V52 : Arv Z h52 b24 k24 .byte (4 : Int32) [(.int v39), (.int v48), (.int v53), (.int (0 : Int32))] (.int (0 : Int32)) := Arv.set Ar52 q52 S52 N52_ H52 G52 (by rw [hv53]; exact fits_nar_byte _) W52 2 rfl (Nat.le_of_ble_eq_true rfl)
    have N52 := Fr.snoc X52 N47 g_b24
    have Z54 : n0 ≤ h52.size := Nat.le_trans Z49 (Keep.of_wr W52).1
    have K54 : Keep h0 h52 [] := K49.wr W52 (Or.inr sz_b24)
    refine Go.st (S' := T52.setTop (mkF m 69 A35 [])) st52 ?_
    refine Go.st (S' := T52.setTop (mkF m 71 A35 [(.ref b24)])) (fun t k => XS.aload X52.here hx rfl (hb hby at_69) rfl rfl k) ?_
    refine Go.st (S' := T52.setTop (mkF m 72 A35 [(.int (3 : Int32)), (.ref b24)])) (fun t k => XS.iconst X52.here hx rfl (hb hby at_71) k) ?_
    refine Go.st (S' := T52.setTop (mkF m 73 A35 [(.int p0), (.int (3 : Int32)), (.ref b24)])) (fun t k => XS.iloadN X52.here hx rfl (hb hby at_72) rfl k) ?_
    refine Go.st (S' := T52.setTop (mkF m 75 A35 [(.int (24 : Int32)), (.int p0), (.int (3 : Int32)), (.ref b24)])) (fun t k => XS.bipush X52.here hx rfl (hb hby at_73) k) ?_
    refine Go.op (F := fun z => T52.setTop (mkF m 76 A35 [(.int z), (.int (3 : Int32)), (.ref b24)])) (x := ((p0.toUInt32 >>> ((24 : Int32) &&& 31).toUInt32).toInt32)) (fun t k => XS.iushr X52.here hx rfl (hb hby at_75) rfl k) ?_
    intro v55 hv55
    refine Go.op (F := fun z => T52.setTop (mkF m 77 A35 [(.int z), (.int (3 : Int32)), (.ref b24)])) (x := v55.toInt8.toInt32) (fun t k => XS.i2b X52.here hx rfl (hb hby at_76) rfl k) ?_
    intro v56 hv56
    obtain ⟨cl57, Ar57, q57, S57, N57_, H57, G57⟩ := id V52
    have hin57 : ¬ ((3 : Int32) < 0 ∨ cl57.slots.size ≤ ((3 : Int32)).toNatClampNeg) := inb_of S57 ⟨by decide, by decide⟩
    obtain ⟨v58, hv58⟩ : ∃ z, z = v56.toInt8.toInt32 := ⟨_, rfl⟩
    obtain ⟨T57, h57, X57, e57, W57, st57⟩ := stB X52 hx hZ e52 Ar57 (j := (3 : Int32)) hin57 (g := (mkF m 77 A35 [(.int v56), (.int (3 : Int32)), (.ref b24)])) rfl rfl (hb hby at_77)
    have W57 : Wr h52 h57 b24 ((3 : Int32)).toNatClampNeg (.int v58) := by rw [hv58]; exact W57
    have V57 : Arv Z h57 b24 k24 .byte (4 : Int32) [(.int v39), (.int v48), (.int v53), (.int v58)] (.int (0 : Int32)) := Arv.set Ar57 q57 S57 N57_ H57 G57 (by rw [hv58]; exact fits_nar_byte _) W57 3 rfl (Nat.le_of_ble_eq_true rfl)
    have N57 := Fr.snoc X57 N52 g_b24
    have Z59 : n0 ≤ h57.size := Nat.le_trans Z54 (Keep.of_wr W57).1
    have K59 : Keep h0 h57 [] := K54.wr W57 (Or.inr sz_b24)
    refine Go.st (S' := T57.setTop (mkF m 78 A35 [])) st57 ?_
    refine Go.st (S' := T57.setTop (mkF m 80 A35 [(.ref b27)])) (fun t k => XS.aload X57.here hx rfl (hb hby at_78) rfl rfl k) ?_
    refine Go.st (S' := T57.setTop (mkF m 81 A35 [(.int (0 : Int32)), (.ref b27)])) (fun t k => XS.iconst X57.here hx rfl (hb hby at_80) k) ?_
    refine Go.st (S' := T57.setTop (mkF m 82 A35 [(.int p1), (.int (0 : Int32)), (.ref b27)])) (fun t k => XS.iloadN X57.here hx rfl (hb hby at_81) rfl k) ?_
    refine Go.op (F := fun z => T57.setTop (mkF m 83 A35 [(.int z), (.int (0 : Int32)), (.ref b27)])) (x := p1.toInt8.toInt32) (fun t k => XS.i2b X57.here hx rfl (hb hby at_82) rfl k) ?_
    intro v60 hv60
    have f61 := ((((((((((((V27).ext E31)).other W38 (Nat.ne_of_gt lt_b21_b27))).other W43 (Nat.ne_of_gt lt_b24_b27))).other W47 (Nat.ne_of_gt lt_b24_b27))).other W52 (Nat.ne_of_gt lt_b24_b27))).other W57 (Nat.ne_of_gt lt_b24_b27))
    obtain ⟨cl62, Ar62, q62, S62, N62_, H62, G62⟩ := id f61
    have hin62 : ¬ ((0 : Int32) < 0 ∨ cl62.slots.size ≤ ((0 : Int32)).toNatClampNeg) := inb_of S62 ⟨by decide, by decide⟩
    obtain ⟨v63, hv63⟩ : ∃ z, z = v60.toInt8.toInt32 := ⟨_, rfl⟩
    obtain ⟨T62, h62, X62, e62, W62, st62⟩ := stB X57 hx hZ e57 Ar62 (j := (0 : Int32)) hin62 (g := (mkF m 83 A35 [(.int v60), (.int (0 : Int32)), (.ref b27)])) rfl rfl (hb hby at_83)
    have W62 : Wr h57 h62 b27 ((0 : Int32)).toNatClampNeg (.int v63) := by rw [hv63]; exact W62
    have V62 : Arv Z h62 b27 k27 .byte (1 : Int32) [(.int v63)] (.int (0 : Int32)) := Arv.set Ar62 q62 S62 N62_ H62 G62 (by rw [hv63]; exact fits_nar_byte _) W62 0 rfl (Nat.le_of_ble_eq_true rfl)
    have N62 := Fr.snoc X62 N57 g_b27
    have Z64 : n0 ≤ h62.size := Nat.le_trans Z59 (Keep.of_wr W62).1
    have K64 : Keep h0 h62 [] := K59.wr W62 (Or.inr sz_b27)
    refine Go.st (S' := T62.setTop (mkF m 84 A35 [])) st62 ?_
    refine Go.st (S' := T62.setTop (mkF m 86 A35 [(.ref b31)])) (fun t k => XS.aload X62.here hx rfl (hb hby at_84) rfl rfl k) ?_
    refine Go.st (S' := T62.setTop (mkF m 87 A35 [(.int (0 : Int32)), (.ref b31)])) (fun t k => XS.iconst X62.here hx rfl (hb hby at_86) k) ?_
    refine Go.st (S' := T62.setTop (mkF m 88 A35 [(.int p1), (.int (0 : Int32)), (.ref b31)])) (fun t k => XS.iloadN X62.here hx rfl (hb hby at_87) rfl k) ?_
    refine Go.op (F := fun z => T62.setTop (mkF m 89 A35 [(.int z), (.int (0 : Int32)), (.ref b31)])) (x := p1.toInt8.toInt32) (fun t k => XS.i2b X62.here hx rfl (hb hby at_88) rfl k) ?_
    intro v65 hv65
    obtain rfl : v60 = v65 := hv60.trans hv65.symm
    have f66 := ((((((((((((V31).other W38 (Nat.ne_of_gt lt_b21_b31))).other W43 (Nat.ne_of_gt lt_b24_b31))).other W47 (Nat.ne_of_gt lt_b24_b31))).other W52 (Nat.ne_of_gt lt_b24_b31))).other W57 (Nat.ne_of_gt lt_b24_b31))).other W62 (Nat.ne_of_gt lt_b27_b31))
    obtain ⟨cl67, Ar67, q67, S67, N67_, H67, G67⟩ := id f66
    have hin67 : ¬ ((0 : Int32) < 0 ∨ cl67.slots.size ≤ ((0 : Int32)).toNatClampNeg) := inb_of S67 ⟨by decide, by decide⟩
    obtain ⟨T67, h67, X67, e67, W67, st67⟩ := stB X62 hx hZ e62 Ar67 (j := (0 : Int32)) hin67 (g := (mkF m 89 A35 [(.int v60), (.int (0 : Int32)), (.ref b31)])) rfl rfl (hb hby at_89)
    have W67 : Wr h62 h67 b31 ((0 : Int32)).toNatClampNeg (.int v63) := by rw [hv63]; exact W67
    have V67 : Arv Z h67 b31 k31 .byte (4 : Int32) [(.int v63), (.int (0 : Int32)), (.int (0 : Int32)), (.int (0 : Int32))] (.int (0 : Int32)) := Arv.set Ar67 q67 S67 N67_ H67 G67 (by rw [hv63]; exact fits_nar_byte _) W67 0 rfl (Nat.le_of_ble_eq_true rfl)
    have N67 := Fr.snoc X67 N62 g_b31
    have Z68 : n0 ≤ h67.size := Nat.le_trans Z64 (Keep.of_wr W67).1
    have K68 : Keep h0 h67 [] := K64.wr W67 (Or.inr sz_b31)
    refine Go.st (S' := T67.setTop (mkF m 90 A35 [])) st67 ?_
    refine Go.st (S' := T67.setTop (mkF m 92 A35 [(.ref b31)])) (fun t k => XS.aload X67.here hx rfl (hb hby at_90) rfl rfl k) ?_
    refine Go.st (S' := T67.setTop (mkF m 93 A35 [(.int (1 : Int32)), (.ref b31)])) (fun t k => XS.iconst X67.here hx rfl (hb hby at_92) k) ?_
    refine Go.st (S' := T67.setTop (mkF m 94 A35 [(.int p1), (.int (1 : Int32)), (.ref b31)])) (fun t k => XS.iloadN X67.here hx rfl (hb hby at_93) rfl k) ?_
    refine Go.st (S' := T67.setTop (mkF m 96 A35 [(.int (8 : Int32)), (.int p1), (.int (1 : Int32)), (.ref b31)])) (fun t k => XS.bipush X67.here hx rfl (hb hby at_94) k) ?_
    refine Go.op (F := fun z => T67.setTop (mkF m 97 A35 [(.int z), (.int (1 : Int32)), (.ref b31)])) (x := ((p1.toUInt32 >>> ((8 : Int32) &&& 31).toUInt32).toInt32)) (fun t k => XS.iushr X67.here hx rfl (hb hby at_96) rfl k) ?_
    intro v69 hv69
    refine Go.op (F := fun z => T67.setTop (mkF m 98 A35 [(.int z), (.int (1 : Int32)), (.ref b31)])) (x := v69.toInt8.toInt32) (fun t k => XS.i2b X67.here hx rfl (hb hby at_97) rfl k) ?_
    intro v70 hv70
    obtain ⟨cl71, Ar71, q71, S71, N71_, H71, G71⟩ := id V67
    have hin71 : ¬ ((1 : Int32) < 0 ∨ cl71.slots.size ≤ ((1 : Int32)).toNatClampNeg) := inb_of S71 ⟨by decide, by decide⟩
    obtain ⟨v72, hv72⟩ : ∃ z, z = v70.toInt8.toInt32 := ⟨_, rfl⟩
    obtain ⟨T71, h71, X71, e71, W71, st71⟩ := stB X67 hx hZ e67 Ar71 (j := (1 : Int32)) hin71 (g := (mkF m 98 A35 [(.int v70), (.int (1 : Int32)), (.ref b31)])) rfl rfl (hb hby at_98)
    have W71 : Wr h67 h71 b31 ((1 : Int32)).toNatClampNeg (.int v72) := by rw [hv72]; exact W71
    have V71 : Arv Z h71 b31 k31 .byte (4 : Int32) [(.int v63), (.int v72), (.int (0 : Int32)), (.int (0 : Int32))] (.int (0 : Int32)) := Arv.set Ar71 q71 S71 N71_ H71 G71 (by rw [hv72]; exact fits_nar_byte _) W71 1 rfl (Nat.le_of_ble_eq_true rfl)
    have N71 := Fr.snoc X71 N67 g_b31
    have Z73 : n0 ≤ h71.size := Nat.le_trans Z68 (Keep.of_wr W71).1
    have K73 : Keep h0 h71 [] := K68.wr W71 (Or.inr sz_b31)
    refine Go.st (S' := T71.setTop (mkF m 99 A35 [])) st71 ?_
    refine Go.st (S' := T71.setTop (mkF m 101 A35 [(.ref b31)])) (fun t k => XS.aload X71.here hx rfl (hb hby at_99) rfl rfl k) ?_
    refine Go.st (S' := T71.setTop (mkF m 102 A35 [(.int (2 : Int32)), (.ref b31)])) (fun t k => XS.iconst X71.here hx rfl (hb hby at_101) k) ?_
    refine Go.st (S' := T71.setTop (mkF m 103 A35 [(.int p1), (.int (2 : Int32)), (.ref b31)])) (fun t k => XS.iloadN X71.here hx rfl (hb hby at_102) rfl k) ?_
    refine Go.st (S' := T71.setTop (mkF m 105 A35 [(.int (16 : Int32)), (.int p1), (.int (2 : Int32)), (.ref b31)])) (fun t k => XS.bipush X71.here hx rfl (hb hby at_103) k) ?_
    refine Go.op (F := fun z => T71.setTop (mkF m 106 A35 [(.int z), (.int (2 : Int32)), (.ref b31)])) (x := ((p1.toUInt32 >>> ((16 : Int32) &&& 31).toUInt32).toInt32)) (fun t k => XS.iushr X71.here hx rfl (hb hby at_105) rfl k) ?_
    intro v74 hv74
    refine Go.op (F := fun z => T71.setTop (mkF m 107 A35 [(.int z), (.int (2 : Int32)), (.ref b31)])) (x := v74.toInt8.toInt32) (fun t k => XS.i2b X71.here hx rfl (hb hby at_106) rfl k) ?_
    intro v75 hv75
    obtain ⟨cl76, Ar76, q76, S76, N76_, H76, G76⟩ := id V71
    have hin76 : ¬ ((2 : Int32) < 0 ∨ cl76.slots.size ≤ ((2 : Int32)).toNatClampNeg) := inb_of S76 ⟨by decide, by decide⟩
    obtain ⟨v77, hv77⟩ : ∃ z, z = v75.toInt8.toInt32 := ⟨_, rfl⟩
    obtain ⟨T76, h76, X76, e76, W76, st76⟩ := stB X71 hx hZ e71 Ar76 (j := (2 : Int32)) hin76 (g := (mkF m 107 A35 [(.int v75), (.int (2 : Int32)), (.ref b31)])) rfl rfl (hb hby at_107)
    have W76 : Wr h71 h76 b31 ((2 : Int32)).toNatClampNeg (.int v77) := by rw [hv77]; exact W76
    have V76 : Arv Z h76 b31 k31 .byte (4 : Int32) [(.int v63), (.int v72), (.int v77), (.int (0 : Int32))] (.int (0 : Int32)) := Arv.set Ar76 q76 S76 N76_ H76 G76 (by rw [hv77]; exact fits_nar_byte _) W76 2 rfl (Nat.le_of_ble_eq_true rfl)
    have N76 := Fr.snoc X76 N71 g_b31
    have Z78 : n0 ≤ h76.size := Nat.le_trans Z73 (Keep.of_wr W76).1
    have K78 : Keep h0 h76 [] := K73.wr W76 (Or.inr sz_b31)
    refine Go.st (S' := T76.setTop (mkF m 108 A35 [])) st76 ?_
    refine Go.st (S' := T76.setTop (mkF m 110 A35 [(.ref b31)])) (fun t k => XS.aload X76.here hx rfl (hb hby at_108) rfl rfl k) ?_
    refine Go.st (S' := T76.setTop (mkF m 111 A35 [(.int (3 : Int32)), (.ref b31)])) (fun t k => XS.iconst X76.here hx rfl (hb hby at_110) k) ?_
    refine Go.st (S' := T76.setTop (mkF m 112 A35 [(.int p1), (.int (3 : Int32)), (.ref b31)])) (fun t k => XS.iloadN X76.here hx rfl (hb hby at_111) rfl k) ?_
    refine Go.st (S' := T76.setTop (mkF m 114 A35 [(.int (24 : Int32)), (.int p1), (.int (3 : Int32)), (.ref b31)])) (fun t k => XS.bipush X76.here hx rfl (hb hby at_112) k) ?_
    refine Go.op (F := fun z => T76.setTop (mkF m 115 A35 [(.int z), (.int (3 : Int32)), (.ref b31)])) (x := ((p1.toUInt32 >>> ((24 : Int32) &&& 31).toUInt32).toInt32)) (fun t k => XS.iushr X76.here hx rfl (hb hby at_114) rfl k) ?_
    intro v79 hv79
    refine Go.op (F := fun z => T76.setTop (mkF m 116 A35 [(.int z), (.int (3 : Int32)), (.ref b31)])) (x := v79.toInt8.toInt32) (fun t k => XS.i2b X76.here hx rfl (hb hby at_115) rfl k) ?_
    intro v80 hv80
    obtain ⟨cl81, Ar81, q81, S81, N81_, H81, G81⟩ := id V76
    have hin81 : ¬ ((3 : Int32) < 0 ∨ cl81.slots.size ≤ ((3 : Int32)).toNatClampNeg) := inb_of S81 ⟨by decide, by decide⟩
    obtain ⟨v82, hv82⟩ : ∃ z, z = v80.toInt8.toInt32 := ⟨_, rfl⟩
    obtain ⟨T81, h81, X81, e81, W81, st81⟩ := stB X76 hx hZ e76 Ar81 (j := (3 : Int32)) hin81 (g := (mkF m 116 A35 [(.int v80), (.int (3 : Int32)), (.ref b31)])) rfl rfl (hb hby at_116)
    have W81 : Wr h76 h81 b31 ((3 : Int32)).toNatClampNeg (.int v82) := by rw [hv82]; exact W81
    have V81 : Arv Z h81 b31 k31 .byte (4 : Int32) [(.int v63), (.int v72), (.int v77), (.int v82)] (.int (0 : Int32)) := Arv.set Ar81 q81 S81 N81_ H81 G81 (by rw [hv82]; exact fits_nar_byte _) W81 3 rfl (Nat.le_of_ble_eq_true rfl)
    have N81 := Fr.snoc X81 N76 g_b31
    have Z83 : n0 ≤ h81.size := Nat.le_trans Z78 (Keep.of_wr W81).1
    have K83 : Keep h0 h81 [] := K78.wr W81 (Or.inr sz_b31)
    refine Go.st (S' := T81.setTop (mkF m 117 A35 [])) st81 ?_
    refine Go.st (S' := T81.setTop (mkF m 119 A35 [(.int r18)])) (fun t k => XS.iload X81.here hx rfl (hb hby at_117) rfl k) ?_
    by_cases hc86 : (r18 = (0 : Int32))
    · refine Go.st (S' := T81.setTop (mkF m 127 A35 [])) (fun t k => XS.ifYes X81.here hx rfl (pc0 := 119) (pc' := 127) rfl (hb hby at_119) rfl ((if0 _ _).trans (teq hc86).1) (by decide) (by decide) k) ?_
      refine Go.st (S' := T81.setTop (mkF m 129 A35 [(.ref b21)])) (fun t k => XS.aload X81.here hx rfl (hb hby at_127) rfl rfl k) ?_
      let A87 : Array Slot := #[.val (.int p0), .val (.int p1), .val (.int p2), .val (.int p3), .val (.ref r12), .val (.int r18), .val (.ref b21), .val (.ref b24), .val (.ref b27), .val (.ref b31), .val (.ref b21), .unset, .unset, .unset, .unset, .unset]
      refine Go.st (S' := T81.setTop (mkF m 131 A87 [])) (fun t k => XS.astore X81.here hx rfl (hb hby at_129) rfl rfl (l' := A87) rfl k) ?_
      refine Go.st (S' := T81.setTop (mkF m 133 A87 [(.int r18)])) (fun t k => XS.iload X81.here hx rfl (hb hby at_131) rfl k) ?_
      refine Go.st (S' := T81.setTop (mkF m 141 A87 [])) (fun t k => XS.ifYes X81.here hx rfl (pc0 := 133) (pc' := 141) rfl (hb hby at_133) rfl ((if0 _ _).trans (teq hc86).1) (by decide) (by decide) k) ?_
      refine Go.st (S' := T81.setTop (mkF m 143 A87 [(.ref b27)])) (fun t k => XS.aload X81.here hx rfl (hb hby at_141) rfl rfl k) ?_
      let A88 : Array Slot := #[.val (.int p0), .val (.int p1), .val (.int p2), .val (.int p3), .val (.ref r12), .val (.int r18), .val (.ref b21), .val (.ref b24), .val (.ref b27), .val (.ref b31), .val (.ref b21), .val (.ref b27), .unset, .unset, .unset, .unset]
      refine Go.st (S' := T81.setTop (mkF m 145 A88 [])) (fun t k => XS.astore X81.here hx rfl (hb hby at_143) rfl rfl (l' := A88) rfl k) ?_
      obtain ⟨T89, h89, X89, e89, E89, A89, D89, -, st89⟩ := newO X81 hx hZ hown (hw _ (List.mem_of_getElem? (i := 9) rfl)) (hw _ (List.mem_of_getElem? (i := 10) rfl)) (hw _ (List.mem_of_getElem? (i := 11) rfl)) e81 (g := (mkF m 145 A88 [])) rfl (hb hby at_145) (by decide) (by decide)
      obtain ⟨b89, gg89⟩ : ∃ z, z = h81.size := ⟨_, rfl⟩
      rw [← gg89] at A89 D89 st89
      have g_b89 : n0 ≤ b89 := Nat.le_trans Z83 (Nat.le_of_eq gg89.symm)
      have sz_b89 : h0.size ≤ b89 := Nat.le_trans K83.1 (Nat.le_of_eq gg89.symm)
      have f90 := ((((((((((((((((((((((f32).ext E31)).wr W38)).wr W43)).wr W47)).wr W52)).wr W57)).wr W62)).wr W67)).wr W71)).wr W76)).wr W81)
      have lt_b21_b89 : b21 < b89 := Nat.lt_of_lt_of_le (f90).lt (Nat.le_of_eq gg89.symm)
      have f91 := ((((((((((((((((((((((f33).ext E31)).wr W38)).wr W43)).wr W47)).wr W52)).wr W57)).wr W62)).wr W67)).wr W71)).wr W76)).wr W81)
      have lt_b24_b89 : b24 < b89 := Nat.lt_of_lt_of_le (f91).lt (Nat.le_of_eq gg89.symm)
      have f92 := ((((((((((((((((((((((B27).ext E31)).wr W38)).wr W43)).wr W47)).wr W52)).wr W57)).wr W62)).wr W67)).wr W71)).wr W76)).wr W81)
      have lt_b27_b89 : b27 < b89 := Nat.lt_of_lt_of_le (f92).lt (Nat.le_of_eq gg89.symm)
      have f93 := ((((((((((((((((((((B31).wr W38)).wr W43)).wr W47)).wr W52)).wr W57)).wr W62)).wr W67)).wr W71)).wr W76)).wr W81)
      have lt_b31_b89 : b31 < b89 := Nat.lt_of_lt_of_le (f93).lt (Nat.le_of_eq gg89.symm)
      have Z94 : n0 ≤ h89.size := Nat.le_trans Z83 E89.1
      have K94 : Keep h0 h89 [] := K83.ext E89
      have Fb89_template : Fld Z h89 b89 "com/example/consulate/consulate/cvc/Chat" "template" "Lcom/example/consulate/consulate/cvc/Chat$Template;" .null := D89 (Or.inr (hw _ (List.mem_of_getElem? (i := 24) rfl))) (ty := (.object "com/example/consulate/consulate/cvc/Chat$Template")) (by decide)
      have Fb89_data : Fld Z h89 b89 "com/example/consulate/consulate/cvc/Chat" "data" "[B" .null := D89 (Or.inr (hw _ (List.mem_of_getElem? (i := 26) rfl))) (ty := (.array .byte)) (by decide)
      refine Go.st (S' := T89.setTop (mkF m 148 A88 [(.ref b89)])) st89 ?_
      refine Go.st (S' := T89.setTop (mkF m 149 A88 [(.ref b89), (.ref b89)])) (fun t k => XS.dup X89.here hx rfl (hb hby at_148) rfl rfl k) ?_
      refine Go.st (S' := T89.setTop (mkF m 151 A88 [(.ref r12), (.ref b89), (.ref b89)])) (fun t k => XS.aload X89.here hx rfl (hb hby at_149) rfl rfl k) ?_
      refine Go.st (S' := T89.setTop (mkF m 153 A88 [(.ref b21), (.ref r12), (.ref b89), (.ref b89)])) (fun t k => XS.aload X89.here hx rfl (hb hby at_151) rfl rfl k) ?_
      have f108 := ((((((((((((((((((((V38).other W43 (Nat.ne_of_lt lt_b21_b24))).other W47 (Nat.ne_of_lt lt_b21_b24))).other W52 (Nat.ne_of_lt lt_b21_b24))).other W57 (Nat.ne_of_lt lt_b21_b24))).other W62 (Nat.ne_of_lt lt_b21_b27))).other W67 (Nat.ne_of_lt lt_b21_b31))).other W71 (Nat.ne_of_lt lt_b21_b31))).other W76 (Nat.ne_of_lt lt_b21_b31))).other W81 (Nat.ne_of_lt lt_b21_b31))).ext E89)
      obtain ⟨r109, T109, L109, X109, hQ109, st109⟩ := own_callI (W := 1) (a := b89) X89 hx hZ e89 hown (y := (⟨"com/example/consulate/consulate/cvc/Chat", "<init>", "(Lcom/example/consulate/consulate/cvc/Chat$Template;[B)V"⟩ : MethodName)) rfl (hw _ (List.mem_of_getElem? (i := 12) rfl)) (hw _ (List.mem_of_getElem? (i := 13) rfl)) (hw _ (List.mem_of_getElem? (i := 11) rfl)) (hw _ (List.mem_of_getElem? (i := 14) rfl)) (by decide) (rm3 l Z a0 hw [] b89 r12 b21 k21 v39 (.null) (.null) h89 n0 Z94 (f108) (A89) (Fb89_template) (g_b89) (Fb89_data)) (by decide) (by decide) (by decide) (by decide) (g := (mkF m 153 A88 [(.ref b21), (.ref r12), (.ref b89), (.ref b89)])) rfl (by rw [hml]; rfl) (argsL := [(.ref r12), (.ref b21)]) (rest := [(.ref b89)]) rfl (lenOf pd_2 rfl) rfl (by show 2 * 0 + _ ≤ _; exact Nat.le_of_eq rfl) (hb hby at_153)
      obtain ⟨rfl, N109, K109_, f110, f111, f112⟩ := hQ109
      have N109_ := Fr.app N81 N109
      have Z113 : n0 ≤ T109.heap.size := Nat.le_trans Z94 K109_.1
      have K113 : Keep h0 T109.heap [] := K94.trans K109_ (allS (Or.inr sz_b89) all0)
      refine Go.st (S' := T109.setTop (mkF m 156 A88 [(.ref b89)])) st109 ?_
      let A114 : Array Slot := #[.val (.int p0), .val (.int p1), .val (.int p2), .val (.int p3), .val (.ref r12), .val (.int r18), .val (.ref b21), .val (.ref b24), .val (.ref b27), .val (.ref b31), .val (.ref b21), .val (.ref b27), .val (.ref b89), .unset, .unset, .unset]
      refine Go.st (S' := T109.setTop (mkF m 158 A114 [])) (fun t k => XS.astore X109.here hx rfl (hb hby at_156) rfl rfl (l' := A114) rfl k) ?_
      refine Go.st (S' := T109.setTop (mkF m 160 A114 [(.ref b89)])) (fun t k => XS.aload X109.here hx rfl (hb hby at_158) rfl rfl k) ?_
      refine Go.st (S' := T109.setTop (mkF m 162 A114 [(.ref b27), (.ref b89)])) (fun t k => XS.aload X109.here hx rfl (hb hby at_160) rfl rfl k) ?_
      have f158 := ((((((((((((V62).other W67 (Nat.ne_of_lt lt_b27_b31))).other W71 (Nat.ne_of_lt lt_b27_b31))).other W76 (Nat.ne_of_lt lt_b27_b31))).other W81 (Nat.ne_of_lt lt_b27_b31))).ext E89)).keep K109_ (ninS (Nat.ne_of_lt lt_b27_b89) nin0))
      have f159 := ((f108).keep K109_ (ninS (Nat.ne_of_lt lt_b21_b89) nin0))
      obtain ⟨r160, T160, L160, X160, hQ160, st160⟩ := own_callV (W := 0) (a := b89) (C := "com/example/consulate/consulate/cvc/Chat") X109 hx hZ rfl hown (y := (⟨"com/example/consulate/consulate/cvc/Chat", "restrictedTo", "([B)Lcom/example/consulate/consulate/cvc/Chat;"⟩ : MethodName)) (z := (⟨"com/example/consulate/consulate/cvc/Chat", "restrictedTo", "([B)Lcom/example/consulate/consulate/cvc/Chat;"⟩ : MethodName)) (hw _ (List.mem_of_getElem? (i := 27) rfl)) (hw _ (List.mem_of_getElem? (i := 28) rfl)) (notFace_of_selects (args := #[]) (mvT hZ (hw _ (List.mem_of_getElem? (i := 30) rfl)))) (hw _ (List.mem_of_getElem? (i := 30) rfl)) (hw _ (List.mem_of_getElem? (i := 29) rfl)) (hw _ (List.mem_of_getElem? (i := 11) rfl)) (hw _ (List.mem_of_getElem? (i := 31) rfl)) (by decide) (f110) (rm4 l Z a0 hw [] b89 b27 k27 v63 b21 k21 v39 r12 T109.heap n0 Z113 (f158) (f112) (f159) (f111)) (by decide) (by decide) (by decide) (by decide) (g := (mkF m 162 A114 [(.ref b27), (.ref b89)])) rfl (by rw [hml]; rfl) (argsL := [(.ref b27)]) (rest := []) rfl (lenOf pd_3 rfl) rfl (by show 2 * 0 + _ ≤ _; exact Nat.le_of_eq rfl) (hb hby at_162)
      obtain ⟨v161, v162, v163, b164, b165, k166, hv161, hv162, hv163, rfl, N160, K160_, sz_b164_, sz_b165_, f167, f168, f169, f170, f171, hlt172⟩ := hQ160
      have N160_ := Fr.app N109_ N160
      have g_b164 : n0 ≤ b164 := Nat.le_trans Z113 sz_b164_
      have sz_b164 : h0.size ≤ b164 := Nat.le_trans K113.1 sz_b164_
      have f173 := ((((f90).ext E89)).keep K109_)
      have lt_b21_b164 : b21 < b164 := Nat.lt_of_lt_of_le (f173).lt sz_b164_
      have f174 := ((((f91).ext E89)).keep K109_)
      have lt_b24_b164 : b24 < b164 := Nat.lt_of_lt_of_le (f174).lt sz_b164_
      have f175 := ((((f92).ext E89)).keep K109_)
      have lt_b27_b164 : b27 < b164 := Nat.lt_of_lt_of_le (f175).lt sz_b164_
      have f176 := ((((f93).ext E89)).keep K109_)
      have lt_b31_b164 : b31 < b164 := Nat.lt_of_lt_of_le (f176).lt sz_b164_
      have lt_b89_b164 : b89 < b164 := Nat.lt_of_lt_of_le (f110).lt sz_b164_
      have g_b165 : n0 ≤ b165 := Nat.le_trans Z113 sz_b165_
      have sz_b165 : h0.size ≤ b165 := Nat.le_trans K113.1 sz_b165_
      have lt_b21_b165 : b21 < b165 := Nat.lt_of_lt_of_le (f173).lt sz_b165_
      have lt_b24_b165 : b24 < b165 := Nat.lt_of_lt_of_le (f174).lt sz_b165_
      have lt_b27_b165 : b27 < b165 := Nat.lt_of_lt_of_le (f175).lt sz_b165_
      have lt_b31_b165 : b31 < b165 := Nat.lt_of_lt_of_le (f176).lt sz_b165_
      have lt_b89_b165 : b89 < b165 := Nat.lt_of_lt_of_le (f110).lt sz_b165_
      have Z177 : n0 ≤ T160.heap.size := Nat.le_trans Z113 K160_.1
      have K177 : Keep h0 T160.heap [] := K113.trans K160_ all0
      refine Go.st (S' := T160.setTop (mkF m 165 A114 [(.ref b165)])) st160 ?_
      let A178 : Array Slot := #[.val (.int p0), .val (.int p1), .val (.int p2), .val (.int p3), .val (.ref r12), .val (.int r18), .val (.ref b21), .val (.ref b24), .val (.ref b27), .val (.ref b31), .val (.ref b21), .val (.ref b27), .val (.ref b89), .val (.ref b165), .unset, .unset]
      refine Go.st (S' := T160.setTop (mkF m 167 A178 [])) (fun t k => XS.astore X160.here hx rfl (hb hby at_165) rfl rfl (l' := A178) rfl k) ?_
      refine Go.st (S' := T160.setTop (mkF m 169 A178 [(.ref b165)])) (fun t k => XS.aload X160.here hx rfl (hb hby at_167) rfl rfl k) ?_
      obtain ⟨r180, T180, L180, X180, hQ180, st180⟩ := own_callV (W := 0) (a := b165) (C := "com/example/consulate/consulate/cvc/Chat") X160 hx hZ rfl hown (y := (⟨"com/example/consulate/consulate/cvc/Chat", "data", "()[B"⟩ : MethodName)) (z := (⟨"com/example/consulate/consulate/cvc/Chat", "data", "()[B"⟩ : MethodName)) (hw _ (List.mem_of_getElem? (i := 34) rfl)) (hw _ (List.mem_of_getElem? (i := 35) rfl)) (notFace_of_selects (args := #[]) (mvT hZ (hw _ (List.mem_of_getElem? (i := 37) rfl)))) (hw _ (List.mem_of_getElem? (i := 37) rfl)) (hw _ (List.mem_of_getElem? (i := 36) rfl)) (hw _ (List.mem_of_getElem? (i := 11) rfl)) (hw _ (List.mem_of_getElem? (i := 38) rfl)) (by decide) (f169) (rm5 l Z a0 hw [] b165 b164 T160.heap n0 Z177 (f171)) (by decide) (by decide) (by decide) (by decide) (g := (mkF m 169 A178 [(.ref b165)])) rfl (by rw [hml]; rfl) (argsL := []) (rest := []) rfl (lenOf pd_4 rfl) rfl (by show 2 * 0 + _ ≤ _; exact Nat.le_of_eq rfl) (hb hby at_169)
      obtain ⟨rfl, N180, e180⟩ := hQ180
      have N180_ := Fr.app N160_ N180
      refine Go.st (S' := T180.setTop (mkF m 172 A178 [(.ref b164)])) st180 ?_
      let A181 : Array Slot := #[.val (.int p0), .val (.int p1), .val (.int p2), .val (.int p3), .val (.ref r12), .val (.int r18), .val (.ref b21), .val (.ref b24), .val (.ref b27), .val (.ref b31), .val (.ref b21), .val (.ref b27), .val (.ref b89), .val (.ref b165), .val (.ref b164), .unset]
      refine Go.st (S' := T180.setTop (mkF m 174 A181 [])) (fun t k => XS.astore X180.here hx rfl (hb hby at_172) rfl rfl (l' := A181) rfl k) ?_
      refine Go.st (S' := T180.setTop (mkF m 176 A181 [(.ref b165)])) (fun t k => XS.aload X180.here hx rfl (hb hby at_174) rfl rfl k) ?_
      obtain ⟨r183, T183, L183, X183, hQ183, st183⟩ := own_callV (W := 0) (a := b165) (C := "com/example/consulate/consulate/cvc/Chat") X180 hx hZ e180 hown (y := (⟨"com/example/consulate/consulate/cvc/Chat", "template", "()Lcom/example/consulate/consulate/cvc/Chat$Template;"⟩ : MethodName)) (z := (⟨"com/example/consulate/consulate/cvc/Chat", "template", "()Lcom/example/consulate/consulate/cvc/Chat$Template;"⟩ : MethodName)) (hw _ (List.mem_of_getElem? (i := 39) rfl)) (hw _ (List.mem_of_getElem? (i := 40) rfl)) (notFace_of_selects (args := #[]) (mvT hZ (hw _ (List.mem_of_getElem? (i := 42) rfl)))) (hw _ (List.mem_of_getElem? (i := 42) rfl)) (hw _ (List.mem_of_getElem? (i := 41) rfl)) (hw _ (List.mem_of_getElem? (i := 11) rfl)) (hw _ (List.mem_of_getElem? (i := 43) rfl)) (by decide) (f169) (rm6 l Z a0 hw [] b165 r12 T160.heap n0 Z177 (f170)) (by decide) (by decide) (by decide) (by decide) (g := (mkF m 176 A181 [(.ref b165)])) rfl (by rw [hml]; rfl) (argsL := []) (rest := []) rfl (lenOf pd_5 rfl) rfl (by show 2 * 0 + _ ≤ _; exact Nat.le_of_eq rfl) (hb hby at_176)
      obtain ⟨rfl, N183, e183⟩ := hQ183
      have N183_ := Fr.app N180_ N183
      refine Go.st (S' := T183.setTop (mkF m 179 A181 [(.ref r12)])) st183 ?_
      refine Go.st (S' := T183.setTop (mkF m 181 A181 [(.ref r12), (.ref r12)])) (fun t k => XS.aload X183.here hx rfl (hb hby at_179) rfl rfl k) ?_
      refine Go.st (S' := T183.setTop (mkF m 186 A181 [])) (fun t k => acmp X183 hx rfl rfl rfl (pc0 := 181) (pc' := 186) (same := true) rfl (hb hby at_181) rfl (by simp) (by decide) (by decide) k) ?_
      refine Go.st (S' := T183.setTop (mkF m 188 A181 [(.ref b164)])) (fun t k => XS.aload X183.here hx rfl (hb hby at_186) rfl rfl k) ?_
      obtain ⟨cl184, Ar184, -, S184, N184_, -, -⟩ := id f167
      refine Go.op (F := fun z => T183.setTop (mkF m 189 A181 [(.int z)])) (x := cl184.slots.size.toInt32) (fun t k => X183.arraylength hx (own_eh e183 Ar184.1) (State.isArrayOf_alike hZ.alike Ar184.2.1) (g := (mkF m 188 A181 [(.ref b164)])) rfl rfl (hb hby at_188) t k) ?_
      intro v185 hv185
      obtain rfl : (1 : Int32) = v185 := (hv185.trans (len_of S184 N184_)).symm
      refine Go.st (S' := T183.setTop (mkF m 191 A181 [(.ref b21), (.int (1 : Int32))])) (fun t k => XS.aload X183.here hx rfl (hb hby at_189) rfl rfl k) ?_
      have f186 := ((f159).keep K160_ nin0)
      obtain ⟨cl187, Ar187, -, S187, N187_, -, -⟩ := id f186
      refine Go.op (F := fun z => T183.setTop (mkF m 192 A181 [(.int z), (.int (1 : Int32))])) (x := cl187.slots.size.toInt32) (fun t k => X183.arraylength hx (own_eh e183 Ar187.1) (State.isArrayOf_alike hZ.alike Ar187.2.1) (g := (mkF m 191 A181 [(.ref b21), (.int (1 : Int32))])) rfl rfl (hb hby at_191) t k) ?_
      intro v188 hv188
      obtain rfl : (1 : Int32) = v188 := (hv188.trans (len_of S187 N187_)).symm
      refine Go.st (S' := T183.setTop (mkF m 197 A181 [])) (fun t k => XS.icmpYes X183.here hx rfl (pc0 := 192) (pc' := 197) rfl (hb hby at_192) rfl (teq (by decide : ((1 : Int32) = (1 : Int32)))).1 (by decide) (by decide) k) ?_
      refine Go.st (S' := T183.setTop (mkF m 198 A181 [(.int p0)])) (fun t k => XS.iloadN X183.here hx rfl (hb hby at_197) rfl k) ?_
      refine Go.st (S' := T183.setTop (mkF m 199 A181 [(.int p1), (.int p0)])) (fun t k => XS.iloadN X183.here hx rfl (hb hby at_198) rfl k) ?_
      refine Go.op (F := fun z => T183.setTop (mkF m 200 A181 [(.int z)])) (x := (p0 &&& p1)) (fun t k => XS.iand X183.here hx rfl (hb hby at_199) rfl k) ?_
      intro v189 hv189
      let A190 : Array Slot := #[.val (.int p0), .val (.int p1), .val (.int p2), .val (.int p3), .val (.ref r12), .val (.int r18), .val (.ref b21), .val (.ref b24), .val (.ref b27), .val (.ref b31), .val (.ref b21), .val (.ref b27), .val (.ref b89), .val (.ref b165), .val (.ref b164), .val (.int v189)]
      refine Go.st (S' := T183.setTop (mkF m 202 A190 [])) (fun t k => XS.istore X183.here hx rfl (hb hby at_200) rfl (l' := A190) rfl k) ?_
      refine Go.st (S' := T183.setTop (mkF m 204 A190 [(.ref b164)])) (fun t k => XS.aload X183.here hx rfl (hb hby at_202) rfl rfl k) ?_
      refine Go.st (S' := T183.setTop (mkF m 205 A190 [(.int (0 : Int32)), (.ref b164)])) (fun t k => XS.iconst X183.here hx rfl (hb hby at_204) k) ?_
      obtain ⟨cl191, Ar191, -, S191, N191_, H191, -⟩ := id f167
      have hin191 : ¬ ((0 : Int32) < 0 ∨ cl191.slots.size ≤ ((0 : Int32)).toNatClampNeg) := inb_of S191 ⟨by decide, by decide⟩
      have hat191 : cl191.slots[((0 : Int32)).toNatClampNeg]? = some (.int v163) := Has.at H191 hin191 rfl
      refine Go.st (S' := T183.setTop (mkF m 206 A190 [(.int v163)])) (fun t k => X183.baloadBytes hx (j := (0 : Int32)) (v := (.int v163)) (own_eh e183 Ar191.1) (State.isArrayOf_alike hZ.alike Ar191.2.1) Ar191.2.2 hin191 hat191 (g := (mkF m 205 A190 [(.int (0 : Int32)), (.ref b164)])) rfl rfl (hb hby at_205) t k) ?_
      refine Go.st (S' := T183.setTop (mkF m 208 A190 [(.int v189), (.int v163)])) (fun t k => XS.iload X183.here hx rfl (hb hby at_206) rfl k) ?_
      refine Go.op (F := fun z => T183.setTop (mkF m 209 A190 [(.int z), (.int v163)])) (x := v189.toInt8.toInt32) (fun t k => XS.i2b X183.here hx rfl (hb hby at_208) rfl k) ?_
      intro v192 hv192
      by_cases hc193 : (v163 = v192)
      · refine Go.st (S' := T183.setTop (mkF m 214 A190 [])) (fun t k => XS.icmpYes X183.here hx rfl (pc0 := 209) (pc' := 214) rfl (hb hby at_209) rfl (teq hc193).1 (by decide) (by decide) k) ?_
        refine Go.st (S' := T183.setTop (mkF m 216 A190 [(.ref b21)])) (fun t k => XS.aload X183.here hx rfl (hb hby at_214) rfl rfl k) ?_
        refine Go.st (S' := T183.setTop (mkF m 217 A190 [(.int (0 : Int32)), (.ref b21)])) (fun t k => XS.iconst X183.here hx rfl (hb hby at_216) k) ?_
        obtain ⟨cl194, Ar194, -, S194, N194_, H194, -⟩ := id f186
        have hin194 : ¬ ((0 : Int32) < 0 ∨ cl194.slots.size ≤ ((0 : Int32)).toNatClampNeg) := inb_of S194 ⟨by decide, by decide⟩
        have hat194 : cl194.slots[((0 : Int32)).toNatClampNeg]? = some (.int v39) := Has.at H194 hin194 rfl
        refine Go.st (S' := T183.setTop (mkF m 218 A190 [(.int v39)])) (fun t k => X183.baloadBytes hx (j := (0 : Int32)) (v := (.int v39)) (own_eh e183 Ar194.1) (State.isArrayOf_alike hZ.alike Ar194.2.1) Ar194.2.2 hin194 hat194 (g := (mkF m 217 A190 [(.int (0 : Int32)), (.ref b21)])) rfl rfl (hb hby at_217) t k) ?_
        refine Go.st (S' := T183.setTop (mkF m 219 A190 [(.int p0), (.int v39)])) (fun t k => XS.iloadN X183.here hx rfl (hb hby at_218) rfl k) ?_
        refine Go.op (F := fun z => T183.setTop (mkF m 220 A190 [(.int z), (.int v39)])) (x := p0.toInt8.toInt32) (fun t k => XS.i2b X183.here hx rfl (hb hby at_219) rfl k) ?_
        intro v195 hv195
        obtain rfl : v36 = v195 := hv36.trans hv195.symm
        by_cases hc196 : (v39 = v36)
        · refine Go.st (S' := T183.setTop (mkF m 223 A190 [])) (fun t k => XS.icmpNo X183.here hx rfl (hb hby at_220) rfl (teq hc196).2 k) ?_
          refine Go.st (S' := T183.setTop (mkF m 225 A190 [(.ref b27)])) (fun t k => XS.aload X183.here hx rfl (hb hby at_223) rfl rfl k) ?_
          refine Go.st (S' := T183.setTop (mkF m 226 A190 [(.int (0 : Int32)), (.ref b27)])) (fun t k => XS.iconst X183.here hx rfl (hb hby at_225) k) ?_
          have f197 := ((f158).keep K160_ nin0)
          obtain ⟨cl198, Ar198, -, S198, N198_, H198, -⟩ := id f197
          have hin198 : ¬ ((0 : Int32) < 0 ∨ cl198.slots.size ≤ ((0 : Int32)).toNatClampNeg) := inb_of S198 ⟨by decide, by decide⟩
          have hat198 : cl198.slots[((0 : Int32)).toNatClampNeg]? = some (.int v63) := Has.at H198 hin198 rfl
          refine Go.st (S' := T183.setTop (mkF m 227 A190 [(.int v63)])) (fun t k => X183.baloadBytes hx (j := (0 : Int32)) (v := (.int v63)) (own_eh e183 Ar198.1) (State.isArrayOf_alike hZ.alike Ar198.2.1) Ar198.2.2 hin198 hat198 (g := (mkF m 226 A190 [(.int (0 : Int32)), (.ref b27)])) rfl rfl (hb hby at_226) t k) ?_
          refine Go.st (S' := T183.setTop (mkF m 228 A190 [(.int p1), (.int v63)])) (fun t k => XS.iloadN X183.here hx rfl (hb hby at_227) rfl k) ?_
          refine Go.op (F := fun z => T183.setTop (mkF m 229 A190 [(.int z), (.int v63)])) (x := p1.toInt8.toInt32) (fun t k => XS.i2b X183.here hx rfl (hb hby at_228) rfl k) ?_
          intro v199 hv199
          obtain rfl : v60 = v199 := hv60.trans hv199.symm
          by_cases hc200 : (v63 = v60)
          · refine Go.st (S' := T183.setTop (mkF m 234 A190 [])) (fun t k => XS.icmpYes X183.here hx rfl (pc0 := 229) (pc' := 234) rfl (hb hby at_229) rfl (teq hc200).1 (by decide) (by decide) k) ?_
            refine Go.st (S' := T183.setTop (mkF m 236 A190 [(.int r18)])) (fun t k => XS.iload X183.here hx rfl (hb hby at_234) rfl k) ?_
            refine Go.st (S' := T183.setTop (mkF m 360 A190 [])) (fun t k => XS.ifYes X183.here hx rfl (pc0 := 236) (pc' := 360) rfl (hb hby at_236) rfl ((if0 _ _).trans (teq hc86).1) (by decide) (by decide) k) ?_
            refine Go.st (S' := T183.setTop (mkF m 361 A190 [(.int (1 : Int32))])) (fun t k => XS.iconst X183.here hx rfl (hb hby at_360) k) ?_
            exact Go.ret X183 (v := some (.int (1 : Int32))) (fun h => by rw [Bd.returns] at h; cases h) Bd.notSynchronized (fun fs hr => retN X183 hx (t := .boolean) Bd.returns (by simp) (hb hby at_361) hr) (by decide) (by decide) ⟨rfl, N183_⟩
          · exfalso
            exact hc200 (by simp only [hv60, hv63, ushr_and, Int32.toInt8_and, Int8.toInt8_toInt32])
        · exfalso
          exact hc196 (by simp only [hv36, hv39, ushr_and, Int32.toInt8_and, Int8.toInt8_toInt32])
      · exfalso
        exact hc193 (by simp only [hv36, hv39, hv60, hv63, hv161, hv162, hv163, hv189, hv192, ushr_and, Int32.toInt8_and, Int8.toInt8_toInt32])
    · refine Go.st (S' := T81.setTop (mkF m 122 A35 [])) (fun t k => XS.ifNo X81.here hx rfl (hb hby at_119) rfl ((if0 _ _).trans (feq hc86).1) k) ?_
      refine Go.st (S' := T81.setTop (mkF m 124 A35 [(.ref b24)])) (fun t k => XS.aload X81.here hx rfl (hb hby at_122) rfl rfl k) ?_
      refine Go.st (S' := T81.setTop (mkF m 129 A35 [(.ref b24)])) (fun t k => XS.goto X81.here hx rfl (pc0 := 124) (pc' := 129) rfl (hb hby at_124) (by decide) (by decide) k) ?_
      let A201 : Array Slot := #[.val (.int p0), .val (.int p1), .val (.int p2), .val (.int p3), .val (.ref r12), .val (.int r18), .val (.ref b21), .val (.ref b24), .val (.ref b27), .val (.ref b31), .val (.ref b24), .unset, .unset, .unset, .unset, .unset]
      refine Go.st (S' := T81.setTop (mkF m 131 A201 [])) (fun t k => XS.astore X81.here hx rfl (hb hby at_129) rfl rfl (l' := A201) rfl k) ?_
      refine Go.st (S' := T81.setTop (mkF m 133 A201 [(.int r18)])) (fun t k => XS.iload X81.here hx rfl (hb hby at_131) rfl k) ?_
      refine Go.st (S' := T81.setTop (mkF m 136 A201 [])) (fun t k => XS.ifNo X81.here hx rfl (hb hby at_133) rfl ((if0 _ _).trans (feq hc86).1) k) ?_
      refine Go.st (S' := T81.setTop (mkF m 138 A201 [(.ref b31)])) (fun t k => XS.aload X81.here hx rfl (hb hby at_136) rfl rfl k) ?_
      refine Go.st (S' := T81.setTop (mkF m 143 A201 [(.ref b31)])) (fun t k => XS.goto X81.here hx rfl (pc0 := 138) (pc' := 143) rfl (hb hby at_138) (by decide) (by decide) k) ?_
      let A202 : Array Slot := #[.val (.int p0), .val (.int p1), .val (.int p2), .val (.int p3), .val (.ref r12), .val (.int r18), .val (.ref b21), .val (.ref b24), .val (.ref b27), .val (.ref b31), .val (.ref b24), .val (.ref b31), .unset, .unset, .unset, .unset]
      refine Go.st (S' := T81.setTop (mkF m 145 A202 [])) (fun t k => XS.astore X81.here hx rfl (hb hby at_143) rfl rfl (l' := A202) rfl k) ?_
      obtain ⟨T203, h203, X203, e203, E203, A203, D203, -, st203⟩ := newO X81 hx hZ hown (hw _ (List.mem_of_getElem? (i := 9) rfl)) (hw _ (List.mem_of_getElem? (i := 10) rfl)) (hw _ (List.mem_of_getElem? (i := 11) rfl)) e81 (g := (mkF m 145 A202 [])) rfl (hb hby at_145) (by decide) (by decide)
      obtain ⟨b203, gg203⟩ : ∃ z, z = h81.size := ⟨_, rfl⟩
      rw [← gg203] at A203 D203 st203
      have g_b203 : n0 ≤ b203 := Nat.le_trans Z83 (Nat.le_of_eq gg203.symm)
      have sz_b203 : h0.size ≤ b203 := Nat.le_trans K83.1 (Nat.le_of_eq gg203.symm)
      have f204 := ((((((((((((((((((((((f32).ext E31)).wr W38)).wr W43)).wr W47)).wr W52)).wr W57)).wr W62)).wr W67)).wr W71)).wr W76)).wr W81)
      have lt_b21_b203 : b21 < b203 := Nat.lt_of_lt_of_le (f204).lt (Nat.le_of_eq gg203.symm)
      have f205 := ((((((((((((((((((((((f33).ext E31)).wr W38)).wr W43)).wr W47)).wr W52)).wr W57)).wr W62)).wr W67)).wr W71)).wr W76)).wr W81)
      have lt_b24_b203 : b24 < b203 := Nat.lt_of_lt_of_le (f205).lt (Nat.le_of_eq gg203.symm)
      have f206 := ((((((((((((((((((((((B27).ext E31)).wr W38)).wr W43)).wr W47)).wr W52)).wr W57)).wr W62)).wr W67)).wr W71)).wr W76)).wr W81)
      have lt_b27_b203 : b27 < b203 := Nat.lt_of_lt_of_le (f206).lt (Nat.le_of_eq gg203.symm)
      have f207 := ((((((((((((((((((((B31).wr W38)).wr W43)).wr W47)).wr W52)).wr W57)).wr W62)).wr W67)).wr W71)).wr W76)).wr W81)
      have lt_b31_b203 : b31 < b203 := Nat.lt_of_lt_of_le (f207).lt (Nat.le_of_eq gg203.symm)
      have Z208 : n0 ≤ h203.size := Nat.le_trans Z83 E203.1
      have K208 : Keep h0 h203 [] := K83.ext E203
      have Fb203_template : Fld Z h203 b203 "com/example/consulate/consulate/cvc/Chat" "template" "Lcom/example/consulate/consulate/cvc/Chat$Template;" .null := D203 (Or.inr (hw _ (List.mem_of_getElem? (i := 24) rfl))) (ty := (.object "com/example/consulate/consulate/cvc/Chat$Template")) (by decide)
      have Fb203_data : Fld Z h203 b203 "com/example/consulate/consulate/cvc/Chat" "data" "[B" .null := D203 (Or.inr (hw _ (List.mem_of_getElem? (i := 26) rfl))) (ty := (.array .byte)) (by decide)
      refine Go.st (S' := T203.setTop (mkF m 148 A202 [(.ref b203)])) st203 ?_
      refine Go.st (S' := T203.setTop (mkF m 149 A202 [(.ref b203), (.ref b203)])) (fun t k => XS.dup X203.here hx rfl (hb hby at_148) rfl rfl k) ?_
      refine Go.st (S' := T203.setTop (mkF m 151 A202 [(.ref r12), (.ref b203), (.ref b203)])) (fun t k => XS.aload X203.here hx rfl (hb hby at_149) rfl rfl k) ?_
      refine Go.st (S' := T203.setTop (mkF m 153 A202 [(.ref b24), (.ref r12), (.ref b203), (.ref b203)])) (fun t k => XS.aload X203.here hx rfl (hb hby at_151) rfl rfl k) ?_
      have f222 := ((((((((((((V57).other W62 (Nat.ne_of_lt lt_b24_b27))).other W67 (Nat.ne_of_lt lt_b24_b31))).other W71 (Nat.ne_of_lt lt_b24_b31))).other W76 (Nat.ne_of_lt lt_b24_b31))).other W81 (Nat.ne_of_lt lt_b24_b31))).ext E203)
      obtain ⟨r223, T223, L223, X223, hQ223, st223⟩ := own_callI (W := 1) (a := b203) X203 hx hZ e203 hown (y := (⟨"com/example/consulate/consulate/cvc/Chat", "<init>", "(Lcom/example/consulate/consulate/cvc/Chat$Template;[B)V"⟩ : MethodName)) rfl (hw _ (List.mem_of_getElem? (i := 12) rfl)) (hw _ (List.mem_of_getElem? (i := 13) rfl)) (hw _ (List.mem_of_getElem? (i := 11) rfl)) (hw _ (List.mem_of_getElem? (i := 14) rfl)) (by decide) (rm7 l Z a0 hw [] b203 r12 b24 k24 v39 v48 v53 v58 (.null) (.null) h203 n0 Z208 (f222) (A203) (Fb203_template) (g_b203) (Fb203_data)) (by decide) (by decide) (by decide) (by decide) (g := (mkF m 153 A202 [(.ref b24), (.ref r12), (.ref b203), (.ref b203)])) rfl (by rw [hml]; rfl) (argsL := [(.ref r12), (.ref b24)]) (rest := [(.ref b203)]) rfl (lenOf pd_2 rfl) rfl (by show 2 * 0 + _ ≤ _; exact Nat.le_of_eq rfl) (hb hby at_153)
      obtain ⟨rfl, N223, K223_, f224, f225, f226⟩ := hQ223
      have N223_ := Fr.app N81 N223
      have Z227 : n0 ≤ T223.heap.size := Nat.le_trans Z208 K223_.1
      have K227 : Keep h0 T223.heap [] := K208.trans K223_ (allS (Or.inr sz_b203) all0)
      refine Go.st (S' := T223.setTop (mkF m 156 A202 [(.ref b203)])) st223 ?_
      let A228 : Array Slot := #[.val (.int p0), .val (.int p1), .val (.int p2), .val (.int p3), .val (.ref r12), .val (.int r18), .val (.ref b21), .val (.ref b24), .val (.ref b27), .val (.ref b31), .val (.ref b24), .val (.ref b31), .val (.ref b203), .unset, .unset, .unset]
      refine Go.st (S' := T223.setTop (mkF m 158 A228 [])) (fun t k => XS.astore X223.here hx rfl (hb hby at_156) rfl rfl (l' := A228) rfl k) ?_
      refine Go.st (S' := T223.setTop (mkF m 160 A228 [(.ref b203)])) (fun t k => XS.aload X223.here hx rfl (hb hby at_158) rfl rfl k) ?_
      refine Go.st (S' := T223.setTop (mkF m 162 A228 [(.ref b31), (.ref b203)])) (fun t k => XS.aload X223.here hx rfl (hb hby at_160) rfl rfl k) ?_
      have f319 := ((((V81).ext E203)).keep K223_ (ninS (Nat.ne_of_lt lt_b31_b203) nin0))
      have f320 := ((f222).keep K223_ (ninS (Nat.ne_of_lt lt_b24_b203) nin0))
      obtain ⟨r321, T321, L321, X321, hQ321, st321⟩ := own_callV (W := 0) (a := b203) (C := "com/example/consulate/consulate/cvc/Chat") X223 hx hZ rfl hown (y := (⟨"com/example/consulate/consulate/cvc/Chat", "restrictedTo", "([B)Lcom/example/consulate/consulate/cvc/Chat;"⟩ : MethodName)) (z := (⟨"com/example/consulate/consulate/cvc/Chat", "restrictedTo", "([B)Lcom/example/consulate/consulate/cvc/Chat;"⟩ : MethodName)) (hw _ (List.mem_of_getElem? (i := 27) rfl)) (hw _ (List.mem_of_getElem? (i := 28) rfl)) (notFace_of_selects (args := #[]) (mvT hZ (hw _ (List.mem_of_getElem? (i := 30) rfl)))) (hw _ (List.mem_of_getElem? (i := 30) rfl)) (hw _ (List.mem_of_getElem? (i := 29) rfl)) (hw _ (List.mem_of_getElem? (i := 11) rfl)) (hw _ (List.mem_of_getElem? (i := 31) rfl)) (by decide) (f224) (rm8 l Z a0 hw [] b203 b31 k31 v63 v72 v77 v82 b24 k24 v39 v48 v53 v58 r12 T223.heap n0 Z227 (f319) (f226) (f320) (f225)) (by decide) (by decide) (by decide) (by decide) (g := (mkF m 162 A228 [(.ref b31), (.ref b203)])) rfl (by rw [hml]; rfl) (argsL := [(.ref b31)]) (rest := []) rfl (lenOf pd_3 rfl) rfl (by show 2 * 0 + _ ≤ _; exact Nat.le_of_eq rfl) (hb hby at_162)
      obtain ⟨v322, v323, v324, v325, v326, v327, v328, v329, v330, v331, v332, v333, b334, b335, k336, hv322, hv323, hv324, hv325, hv326, hv327, hv328, hv329, hv330, hv331, hv332, hv333, rfl, N321, K321_, sz_b334_, sz_b335_, f337, f338, f339, f340, f341, hlt342⟩ := hQ321
      have N321_ := Fr.app N223_ N321
      have g_b334 : n0 ≤ b334 := Nat.le_trans Z227 sz_b334_
      have sz_b334 : h0.size ≤ b334 := Nat.le_trans K227.1 sz_b334_
      have f343 := ((((f204).ext E203)).keep K223_)
      have lt_b21_b334 : b21 < b334 := Nat.lt_of_lt_of_le (f343).lt sz_b334_
      have f344 := ((((f205).ext E203)).keep K223_)
      have lt_b24_b334 : b24 < b334 := Nat.lt_of_lt_of_le (f344).lt sz_b334_
      have f345 := ((((f206).ext E203)).keep K223_)
      have lt_b27_b334 : b27 < b334 := Nat.lt_of_lt_of_le (f345).lt sz_b334_
      have f346 := ((((f207).ext E203)).keep K223_)
      have lt_b31_b334 : b31 < b334 := Nat.lt_of_lt_of_le (f346).lt sz_b334_
      have lt_b203_b334 : b203 < b334 := Nat.lt_of_lt_of_le (f224).lt sz_b334_
      have g_b335 : n0 ≤ b335 := Nat.le_trans Z227 sz_b335_
      have sz_b335 : h0.size ≤ b335 := Nat.le_trans K227.1 sz_b335_
      have lt_b21_b335 : b21 < b335 := Nat.lt_of_lt_of_le (f343).lt sz_b335_
      have lt_b24_b335 : b24 < b335 := Nat.lt_of_lt_of_le (f344).lt sz_b335_
      have lt_b27_b335 : b27 < b335 := Nat.lt_of_lt_of_le (f345).lt sz_b335_
      have lt_b31_b335 : b31 < b335 := Nat.lt_of_lt_of_le (f346).lt sz_b335_
      have lt_b203_b335 : b203 < b335 := Nat.lt_of_lt_of_le (f224).lt sz_b335_
      have Z347 : n0 ≤ T321.heap.size := Nat.le_trans Z227 K321_.1
      have K347 : Keep h0 T321.heap [] := K227.trans K321_ all0
      refine Go.st (S' := T321.setTop (mkF m 165 A228 [(.ref b335)])) st321 ?_
      let A348 : Array Slot := #[.val (.int p0), .val (.int p1), .val (.int p2), .val (.int p3), .val (.ref r12), .val (.int r18), .val (.ref b21), .val (.ref b24), .val (.ref b27), .val (.ref b31), .val (.ref b24), .val (.ref b31), .val (.ref b203), .val (.ref b335), .unset, .unset]
      refine Go.st (S' := T321.setTop (mkF m 167 A348 [])) (fun t k => XS.astore X321.here hx rfl (hb hby at_165) rfl rfl (l' := A348) rfl k) ?_
      refine Go.st (S' := T321.setTop (mkF m 169 A348 [(.ref b335)])) (fun t k => XS.aload X321.here hx rfl (hb hby at_167) rfl rfl k) ?_
      obtain ⟨r349, T349, L349, X349, hQ349, st349⟩ := own_callV (W := 0) (a := b335) (C := "com/example/consulate/consulate/cvc/Chat") X321 hx hZ rfl hown (y := (⟨"com/example/consulate/consulate/cvc/Chat", "data", "()[B"⟩ : MethodName)) (z := (⟨"com/example/consulate/consulate/cvc/Chat", "data", "()[B"⟩ : MethodName)) (hw _ (List.mem_of_getElem? (i := 34) rfl)) (hw _ (List.mem_of_getElem? (i := 35) rfl)) (notFace_of_selects (args := #[]) (mvT hZ (hw _ (List.mem_of_getElem? (i := 37) rfl)))) (hw _ (List.mem_of_getElem? (i := 37) rfl)) (hw _ (List.mem_of_getElem? (i := 36) rfl)) (hw _ (List.mem_of_getElem? (i := 11) rfl)) (hw _ (List.mem_of_getElem? (i := 38) rfl)) (by decide) (f339) (rm5 l Z a0 hw [] b335 b334 T321.heap n0 Z347 (f341)) (by decide) (by decide) (by decide) (by decide) (g := (mkF m 169 A348 [(.ref b335)])) rfl (by rw [hml]; rfl) (argsL := []) (rest := []) rfl (lenOf pd_4 rfl) rfl (by show 2 * 0 + _ ≤ _; exact Nat.le_of_eq rfl) (hb hby at_169)
      obtain ⟨rfl, N349, e349⟩ := hQ349
      have N349_ := Fr.app N321_ N349
      refine Go.st (S' := T349.setTop (mkF m 172 A348 [(.ref b334)])) st349 ?_
      let A350 : Array Slot := #[.val (.int p0), .val (.int p1), .val (.int p2), .val (.int p3), .val (.ref r12), .val (.int r18), .val (.ref b21), .val (.ref b24), .val (.ref b27), .val (.ref b31), .val (.ref b24), .val (.ref b31), .val (.ref b203), .val (.ref b335), .val (.ref b334), .unset]
      refine Go.st (S' := T349.setTop (mkF m 174 A350 [])) (fun t k => XS.astore X349.here hx rfl (hb hby at_172) rfl rfl (l' := A350) rfl k) ?_
      refine Go.st (S' := T349.setTop (mkF m 176 A350 [(.ref b335)])) (fun t k => XS.aload X349.here hx rfl (hb hby at_174) rfl rfl k) ?_
      obtain ⟨r351, T351, L351, X351, hQ351, st351⟩ := own_callV (W := 0) (a := b335) (C := "com/example/consulate/consulate/cvc/Chat") X349 hx hZ e349 hown (y := (⟨"com/example/consulate/consulate/cvc/Chat", "template", "()Lcom/example/consulate/consulate/cvc/Chat$Template;"⟩ : MethodName)) (z := (⟨"com/example/consulate/consulate/cvc/Chat", "template", "()Lcom/example/consulate/consulate/cvc/Chat$Template;"⟩ : MethodName)) (hw _ (List.mem_of_getElem? (i := 39) rfl)) (hw _ (List.mem_of_getElem? (i := 40) rfl)) (notFace_of_selects (args := #[]) (mvT hZ (hw _ (List.mem_of_getElem? (i := 42) rfl)))) (hw _ (List.mem_of_getElem? (i := 42) rfl)) (hw _ (List.mem_of_getElem? (i := 41) rfl)) (hw _ (List.mem_of_getElem? (i := 11) rfl)) (hw _ (List.mem_of_getElem? (i := 43) rfl)) (by decide) (f339) (rm6 l Z a0 hw [] b335 r12 T321.heap n0 Z347 (f340)) (by decide) (by decide) (by decide) (by decide) (g := (mkF m 176 A350 [(.ref b335)])) rfl (by rw [hml]; rfl) (argsL := []) (rest := []) rfl (lenOf pd_5 rfl) rfl (by show 2 * 0 + _ ≤ _; exact Nat.le_of_eq rfl) (hb hby at_176)
      obtain ⟨rfl, N351, e351⟩ := hQ351
      have N351_ := Fr.app N349_ N351
      refine Go.st (S' := T351.setTop (mkF m 179 A350 [(.ref r12)])) st351 ?_
      refine Go.st (S' := T351.setTop (mkF m 181 A350 [(.ref r12), (.ref r12)])) (fun t k => XS.aload X351.here hx rfl (hb hby at_179) rfl rfl k) ?_
      refine Go.st (S' := T351.setTop (mkF m 186 A350 [])) (fun t k => acmp X351 hx rfl rfl rfl (pc0 := 181) (pc' := 186) (same := true) rfl (hb hby at_181) rfl (by simp) (by decide) (by decide) k) ?_
      refine Go.st (S' := T351.setTop (mkF m 188 A350 [(.ref b334)])) (fun t k => XS.aload X351.here hx rfl (hb hby at_186) rfl rfl k) ?_
      obtain ⟨cl352, Ar352, -, S352, N352_, -, -⟩ := id f337
      refine Go.op (F := fun z => T351.setTop (mkF m 189 A350 [(.int z)])) (x := cl352.slots.size.toInt32) (fun t k => X351.arraylength hx (own_eh e351 Ar352.1) (State.isArrayOf_alike hZ.alike Ar352.2.1) (g := (mkF m 188 A350 [(.ref b334)])) rfl rfl (hb hby at_188) t k) ?_
      intro v353 hv353
      obtain rfl : (4 : Int32) = v353 := (hv353.trans (len_of S352 N352_)).symm
      refine Go.st (S' := T351.setTop (mkF m 191 A350 [(.ref b24), (.int (4 : Int32))])) (fun t k => XS.aload X351.here hx rfl (hb hby at_189) rfl rfl k) ?_
      have f354 := ((f320).keep K321_ nin0)
      obtain ⟨cl355, Ar355, -, S355, N355_, -, -⟩ := id f354
      refine Go.op (F := fun z => T351.setTop (mkF m 192 A350 [(.int z), (.int (4 : Int32))])) (x := cl355.slots.size.toInt32) (fun t k => X351.arraylength hx (own_eh e351 Ar355.1) (State.isArrayOf_alike hZ.alike Ar355.2.1) (g := (mkF m 191 A350 [(.ref b24), (.int (4 : Int32))])) rfl rfl (hb hby at_191) t k) ?_
      intro v356 hv356
      obtain rfl : (4 : Int32) = v356 := (hv356.trans (len_of S355 N355_)).symm
      refine Go.st (S' := T351.setTop (mkF m 197 A350 [])) (fun t k => XS.icmpYes X351.here hx rfl (pc0 := 192) (pc' := 197) rfl (hb hby at_192) rfl (teq (by decide : ((4 : Int32) = (4 : Int32)))).1 (by decide) (by decide) k) ?_
      refine Go.st (S' := T351.setTop (mkF m 198 A350 [(.int p0)])) (fun t k => XS.iloadN X351.here hx rfl (hb hby at_197) rfl k) ?_
      refine Go.st (S' := T351.setTop (mkF m 199 A350 [(.int p1), (.int p0)])) (fun t k => XS.iloadN X351.here hx rfl (hb hby at_198) rfl k) ?_
      refine Go.op (F := fun z => T351.setTop (mkF m 200 A350 [(.int z)])) (x := (p0 &&& p1)) (fun t k => XS.iand X351.here hx rfl (hb hby at_199) rfl k) ?_
      intro v357 hv357
      let A358 : Array Slot := #[.val (.int p0), .val (.int p1), .val (.int p2), .val (.int p3), .val (.ref r12), .val (.int r18), .val (.ref b21), .val (.ref b24), .val (.ref b27), .val (.ref b31), .val (.ref b24), .val (.ref b31), .val (.ref b203), .val (.ref b335), .val (.ref b334), .val (.int v357)]
      refine Go.st (S' := T351.setTop (mkF m 202 A358 [])) (fun t k => XS.istore X351.here hx rfl (hb hby at_200) rfl (l' := A358) rfl k) ?_
      refine Go.st (S' := T351.setTop (mkF m 204 A358 [(.ref b334)])) (fun t k => XS.aload X351.here hx rfl (hb hby at_202) rfl rfl k) ?_
      refine Go.st (S' := T351.setTop (mkF m 205 A358 [(.int (0 : Int32)), (.ref b334)])) (fun t k => XS.iconst X351.here hx rfl (hb hby at_204) k) ?_
      obtain ⟨cl359, Ar359, -, S359, N359_, H359, -⟩ := id f337
      have hin359 : ¬ ((0 : Int32) < 0 ∨ cl359.slots.size ≤ ((0 : Int32)).toNatClampNeg) := inb_of S359 ⟨by decide, by decide⟩
      have hat359 : cl359.slots[((0 : Int32)).toNatClampNeg]? = some (.int v324) := Has.at H359 hin359 rfl
      refine Go.st (S' := T351.setTop (mkF m 206 A358 [(.int v324)])) (fun t k => X351.baloadBytes hx (j := (0 : Int32)) (v := (.int v324)) (own_eh e351 Ar359.1) (State.isArrayOf_alike hZ.alike Ar359.2.1) Ar359.2.2 hin359 hat359 (g := (mkF m 205 A358 [(.int (0 : Int32)), (.ref b334)])) rfl rfl (hb hby at_205) t k) ?_
      refine Go.st (S' := T351.setTop (mkF m 208 A358 [(.int v357), (.int v324)])) (fun t k => XS.iload X351.here hx rfl (hb hby at_206) rfl k) ?_
      refine Go.op (F := fun z => T351.setTop (mkF m 209 A358 [(.int z), (.int v324)])) (x := v357.toInt8.toInt32) (fun t k => XS.i2b X351.here hx rfl (hb hby at_208) rfl k) ?_
      intro v360 hv360
      by_cases hc361 : (v324 = v360)
      · refine Go.st (S' := T351.setTop (mkF m 214 A358 [])) (fun t k => XS.icmpYes X351.here hx rfl (pc0 := 209) (pc' := 214) rfl (hb hby at_209) rfl (teq hc361).1 (by decide) (by decide) k) ?_
        refine Go.st (S' := T351.setTop (mkF m 216 A358 [(.ref b24)])) (fun t k => XS.aload X351.here hx rfl (hb hby at_214) rfl rfl k) ?_
        refine Go.st (S' := T351.setTop (mkF m 217 A358 [(.int (0 : Int32)), (.ref b24)])) (fun t k => XS.iconst X351.here hx rfl (hb hby at_216) k) ?_
        obtain ⟨cl362, Ar362, -, S362, N362_, H362, -⟩ := id f354
        have hin362 : ¬ ((0 : Int32) < 0 ∨ cl362.slots.size ≤ ((0 : Int32)).toNatClampNeg) := inb_of S362 ⟨by decide, by decide⟩
        have hat362 : cl362.slots[((0 : Int32)).toNatClampNeg]? = some (.int v39) := Has.at H362 hin362 rfl
        refine Go.st (S' := T351.setTop (mkF m 218 A358 [(.int v39)])) (fun t k => X351.baloadBytes hx (j := (0 : Int32)) (v := (.int v39)) (own_eh e351 Ar362.1) (State.isArrayOf_alike hZ.alike Ar362.2.1) Ar362.2.2 hin362 hat362 (g := (mkF m 217 A358 [(.int (0 : Int32)), (.ref b24)])) rfl rfl (hb hby at_217) t k) ?_
        refine Go.st (S' := T351.setTop (mkF m 219 A358 [(.int p0), (.int v39)])) (fun t k => XS.iloadN X351.here hx rfl (hb hby at_218) rfl k) ?_
        refine Go.op (F := fun z => T351.setTop (mkF m 220 A358 [(.int z), (.int v39)])) (x := p0.toInt8.toInt32) (fun t k => XS.i2b X351.here hx rfl (hb hby at_219) rfl k) ?_
        intro v363 hv363
        obtain rfl : v36 = v363 := hv36.trans hv363.symm
        by_cases hc364 : (v39 = v36)
        · refine Go.st (S' := T351.setTop (mkF m 223 A358 [])) (fun t k => XS.icmpNo X351.here hx rfl (hb hby at_220) rfl (teq hc364).2 k) ?_
          refine Go.st (S' := T351.setTop (mkF m 225 A358 [(.ref b31)])) (fun t k => XS.aload X351.here hx rfl (hb hby at_223) rfl rfl k) ?_
          refine Go.st (S' := T351.setTop (mkF m 226 A358 [(.int (0 : Int32)), (.ref b31)])) (fun t k => XS.iconst X351.here hx rfl (hb hby at_225) k) ?_
          have f365 := ((f319).keep K321_ nin0)
          obtain ⟨cl366, Ar366, -, S366, N366_, H366, -⟩ := id f365
          have hin366 : ¬ ((0 : Int32) < 0 ∨ cl366.slots.size ≤ ((0 : Int32)).toNatClampNeg) := inb_of S366 ⟨by decide, by decide⟩
          have hat366 : cl366.slots[((0 : Int32)).toNatClampNeg]? = some (.int v63) := Has.at H366 hin366 rfl
          refine Go.st (S' := T351.setTop (mkF m 227 A358 [(.int v63)])) (fun t k => X351.baloadBytes hx (j := (0 : Int32)) (v := (.int v63)) (own_eh e351 Ar366.1) (State.isArrayOf_alike hZ.alike Ar366.2.1) Ar366.2.2 hin366 hat366 (g := (mkF m 226 A358 [(.int (0 : Int32)), (.ref b31)])) rfl rfl (hb hby at_226) t k) ?_
          refine Go.st (S' := T351.setTop (mkF m 228 A358 [(.int p1), (.int v63)])) (fun t k => XS.iloadN X351.here hx rfl (hb hby at_227) rfl k) ?_
          refine Go.op (F := fun z => T351.setTop (mkF m 229 A358 [(.int z), (.int v63)])) (x := p1.toInt8.toInt32) (fun t k => XS.i2b X351.here hx rfl (hb hby at_228) rfl k) ?_
          intro v367 hv367
          obtain rfl : v60 = v367 := hv60.trans hv367.symm
          by_cases hc368 : (v63 = v60)
          · refine Go.st (S' := T351.setTop (mkF m 234 A358 [])) (fun t k => XS.icmpYes X351.here hx rfl (pc0 := 229) (pc' := 234) rfl (hb hby at_229) rfl (teq hc368).1 (by decide) (by decide) k) ?_
            refine Go.st (S' := T351.setTop (mkF m 236 A358 [(.int r18)])) (fun t k => XS.iload X351.here hx rfl (hb hby at_234) rfl k) ?_
            refine Go.st (S' := T351.setTop (mkF m 239 A358 [])) (fun t k => XS.ifNo X351.here hx rfl (hb hby at_236) rfl ((if0 _ _).trans (feq hc86).1) k) ?_
            refine Go.st (S' := T351.setTop (mkF m 241 A358 [(.ref b334)])) (fun t k => XS.aload X351.here hx rfl (hb hby at_239) rfl rfl k) ?_
            refine Go.st (S' := T351.setTop (mkF m 242 A358 [(.int (1 : Int32)), (.ref b334)])) (fun t k => XS.iconst X351.here hx rfl (hb hby at_241) k) ?_
            obtain ⟨cl369, Ar369, -, S369, N369_, H369, -⟩ := id f337
            have hin369 : ¬ ((1 : Int32) < 0 ∨ cl369.slots.size ≤ ((1 : Int32)).toNatClampNeg) := inb_of S369 ⟨by decide, by decide⟩
            have hat369 : cl369.slots[((1 : Int32)).toNatClampNeg]? = some (.int v327) := Has.at H369 hin369 rfl
            refine Go.st (S' := T351.setTop (mkF m 243 A358 [(.int v327)])) (fun t k => X351.baloadBytes hx (j := (1 : Int32)) (v := (.int v327)) (own_eh e351 Ar369.1) (State.isArrayOf_alike hZ.alike Ar369.2.1) Ar369.2.2 hin369 hat369 (g := (mkF m 242 A358 [(.int (1 : Int32)), (.ref b334)])) rfl rfl (hb hby at_242) t k) ?_
            refine Go.st (S' := T351.setTop (mkF m 245 A358 [(.int v357), (.int v327)])) (fun t k => XS.iload X351.here hx rfl (hb hby at_243) rfl k) ?_
            refine Go.st (S' := T351.setTop (mkF m 247 A358 [(.int (8 : Int32)), (.int v357), (.int v327)])) (fun t k => XS.bipush X351.here hx rfl (hb hby at_245) k) ?_
            refine Go.op (F := fun z => T351.setTop (mkF m 248 A358 [(.int z), (.int v327)])) (x := ((v357.toUInt32 >>> ((8 : Int32) &&& 31).toUInt32).toInt32)) (fun t k => XS.iushr X351.here hx rfl (hb hby at_247) rfl k) ?_
            intro v370 hv370
            refine Go.op (F := fun z => T351.setTop (mkF m 249 A358 [(.int z), (.int v327)])) (x := v370.toInt8.toInt32) (fun t k => XS.i2b X351.here hx rfl (hb hby at_248) rfl k) ?_
            intro v371 hv371
            by_cases hc372 : (v327 = v371)
            · refine Go.st (S' := T351.setTop (mkF m 254 A358 [])) (fun t k => XS.icmpYes X351.here hx rfl (pc0 := 249) (pc' := 254) rfl (hb hby at_249) rfl (teq hc372).1 (by decide) (by decide) k) ?_
              refine Go.st (S' := T351.setTop (mkF m 256 A358 [(.ref b334)])) (fun t k => XS.aload X351.here hx rfl (hb hby at_254) rfl rfl k) ?_
              refine Go.st (S' := T351.setTop (mkF m 257 A358 [(.int (2 : Int32)), (.ref b334)])) (fun t k => XS.iconst X351.here hx rfl (hb hby at_256) k) ?_
              obtain ⟨cl373, Ar373, -, S373, N373_, H373, -⟩ := id f337
              have hin373 : ¬ ((2 : Int32) < 0 ∨ cl373.slots.size ≤ ((2 : Int32)).toNatClampNeg) := inb_of S373 ⟨by decide, by decide⟩
              have hat373 : cl373.slots[((2 : Int32)).toNatClampNeg]? = some (.int v330) := Has.at H373 hin373 rfl
              refine Go.st (S' := T351.setTop (mkF m 258 A358 [(.int v330)])) (fun t k => X351.baloadBytes hx (j := (2 : Int32)) (v := (.int v330)) (own_eh e351 Ar373.1) (State.isArrayOf_alike hZ.alike Ar373.2.1) Ar373.2.2 hin373 hat373 (g := (mkF m 257 A358 [(.int (2 : Int32)), (.ref b334)])) rfl rfl (hb hby at_257) t k) ?_
              refine Go.st (S' := T351.setTop (mkF m 260 A358 [(.int v357), (.int v330)])) (fun t k => XS.iload X351.here hx rfl (hb hby at_258) rfl k) ?_
              refine Go.st (S' := T351.setTop (mkF m 262 A358 [(.int (16 : Int32)), (.int v357), (.int v330)])) (fun t k => XS.bipush X351.here hx rfl (hb hby at_260) k) ?_
              refine Go.op (F := fun z => T351.setTop (mkF m 263 A358 [(.int z), (.int v330)])) (x := ((v357.toUInt32 >>> ((16 : Int32) &&& 31).toUInt32).toInt32)) (fun t k => XS.iushr X351.here hx rfl (hb hby at_262) rfl k) ?_
              intro v374 hv374
              refine Go.op (F := fun z => T351.setTop (mkF m 264 A358 [(.int z), (.int v330)])) (x := v374.toInt8.toInt32) (fun t k => XS.i2b X351.here hx rfl (hb hby at_263) rfl k) ?_
              intro v375 hv375
              by_cases hc376 : (v330 = v375)
              · refine Go.st (S' := T351.setTop (mkF m 269 A358 [])) (fun t k => XS.icmpYes X351.here hx rfl (pc0 := 264) (pc' := 269) rfl (hb hby at_264) rfl (teq hc376).1 (by decide) (by decide) k) ?_
                refine Go.st (S' := T351.setTop (mkF m 271 A358 [(.ref b334)])) (fun t k => XS.aload X351.here hx rfl (hb hby at_269) rfl rfl k) ?_
                refine Go.st (S' := T351.setTop (mkF m 272 A358 [(.int (3 : Int32)), (.ref b334)])) (fun t k => XS.iconst X351.here hx rfl (hb hby at_271) k) ?_
                obtain ⟨cl377, Ar377, -, S377, N377_, H377, -⟩ := id f337
                have hin377 : ¬ ((3 : Int32) < 0 ∨ cl377.slots.size ≤ ((3 : Int32)).toNatClampNeg) := inb_of S377 ⟨by decide, by decide⟩
                have hat377 : cl377.slots[((3 : Int32)).toNatClampNeg]? = some (.int v333) := Has.at H377 hin377 rfl
                refine Go.st (S' := T351.setTop (mkF m 273 A358 [(.int v333)])) (fun t k => X351.baloadBytes hx (j := (3 : Int32)) (v := (.int v333)) (own_eh e351 Ar377.1) (State.isArrayOf_alike hZ.alike Ar377.2.1) Ar377.2.2 hin377 hat377 (g := (mkF m 272 A358 [(.int (3 : Int32)), (.ref b334)])) rfl rfl (hb hby at_272) t k) ?_
                refine Go.st (S' := T351.setTop (mkF m 275 A358 [(.int v357), (.int v333)])) (fun t k => XS.iload X351.here hx rfl (hb hby at_273) rfl k) ?_
                refine Go.st (S' := T351.setTop (mkF m 277 A358 [(.int (24 : Int32)), (.int v357), (.int v333)])) (fun t k => XS.bipush X351.here hx rfl (hb hby at_275) k) ?_
                refine Go.op (F := fun z => T351.setTop (mkF m 278 A358 [(.int z), (.int v333)])) (x := ((v357.toUInt32 >>> ((24 : Int32) &&& 31).toUInt32).toInt32)) (fun t k => XS.iushr X351.here hx rfl (hb hby at_277) rfl k) ?_
                intro v378 hv378
                refine Go.op (F := fun z => T351.setTop (mkF m 279 A358 [(.int z), (.int v333)])) (x := v378.toInt8.toInt32) (fun t k => XS.i2b X351.here hx rfl (hb hby at_278) rfl k) ?_
                intro v379 hv379
                by_cases hc380 : (v333 = v379)
                · refine Go.st (S' := T351.setTop (mkF m 284 A358 [])) (fun t k => XS.icmpYes X351.here hx rfl (pc0 := 279) (pc' := 284) rfl (hb hby at_279) rfl (teq hc380).1 (by decide) (by decide) k) ?_
                  refine Go.st (S' := T351.setTop (mkF m 286 A358 [(.ref b24)])) (fun t k => XS.aload X351.here hx rfl (hb hby at_284) rfl rfl k) ?_
                  refine Go.st (S' := T351.setTop (mkF m 287 A358 [(.int (1 : Int32)), (.ref b24)])) (fun t k => XS.iconst X351.here hx rfl (hb hby at_286) k) ?_
                  obtain ⟨cl381, Ar381, -, S381, N381_, H381, -⟩ := id f354
                  have hin381 : ¬ ((1 : Int32) < 0 ∨ cl381.slots.size ≤ ((1 : Int32)).toNatClampNeg) := inb_of S381 ⟨by decide, by decide⟩
                  have hat381 : cl381.slots[((1 : Int32)).toNatClampNeg]? = some (.int v48) := Has.at H381 hin381 rfl
                  refine Go.st (S' := T351.setTop (mkF m 288 A358 [(.int v48)])) (fun t k => X351.baloadBytes hx (j := (1 : Int32)) (v := (.int v48)) (own_eh e351 Ar381.1) (State.isArrayOf_alike hZ.alike Ar381.2.1) Ar381.2.2 hin381 hat381 (g := (mkF m 287 A358 [(.int (1 : Int32)), (.ref b24)])) rfl rfl (hb hby at_287) t k) ?_
                  refine Go.st (S' := T351.setTop (mkF m 289 A358 [(.int p0), (.int v48)])) (fun t k => XS.iloadN X351.here hx rfl (hb hby at_288) rfl k) ?_
                  refine Go.st (S' := T351.setTop (mkF m 291 A358 [(.int (8 : Int32)), (.int p0), (.int v48)])) (fun t k => XS.bipush X351.here hx rfl (hb hby at_289) k) ?_
                  refine Go.op (F := fun z => T351.setTop (mkF m 292 A358 [(.int z), (.int v48)])) (x := ((p0.toUInt32 >>> ((8 : Int32) &&& 31).toUInt32).toInt32)) (fun t k => XS.iushr X351.here hx rfl (hb hby at_291) rfl k) ?_
                  intro v382 hv382
                  obtain rfl : v45 = v382 := hv45.trans hv382.symm
                  refine Go.op (F := fun z => T351.setTop (mkF m 293 A358 [(.int z), (.int v48)])) (x := v45.toInt8.toInt32) (fun t k => XS.i2b X351.here hx rfl (hb hby at_292) rfl k) ?_
                  intro v383 hv383
                  obtain rfl : v46 = v383 := hv46.trans hv383.symm
                  by_cases hc384 : (v48 = v46)
                  · refine Go.st (S' := T351.setTop (mkF m 296 A358 [])) (fun t k => XS.icmpNo X351.here hx rfl (hb hby at_293) rfl (teq hc384).2 k) ?_
                    refine Go.st (S' := T351.setTop (mkF m 298 A358 [(.ref b24)])) (fun t k => XS.aload X351.here hx rfl (hb hby at_296) rfl rfl k) ?_
                    refine Go.st (S' := T351.setTop (mkF m 299 A358 [(.int (2 : Int32)), (.ref b24)])) (fun t k => XS.iconst X351.here hx rfl (hb hby at_298) k) ?_
                    obtain ⟨cl385, Ar385, -, S385, N385_, H385, -⟩ := id f354
                    have hin385 : ¬ ((2 : Int32) < 0 ∨ cl385.slots.size ≤ ((2 : Int32)).toNatClampNeg) := inb_of S385 ⟨by decide, by decide⟩
                    have hat385 : cl385.slots[((2 : Int32)).toNatClampNeg]? = some (.int v53) := Has.at H385 hin385 rfl
                    refine Go.st (S' := T351.setTop (mkF m 300 A358 [(.int v53)])) (fun t k => X351.baloadBytes hx (j := (2 : Int32)) (v := (.int v53)) (own_eh e351 Ar385.1) (State.isArrayOf_alike hZ.alike Ar385.2.1) Ar385.2.2 hin385 hat385 (g := (mkF m 299 A358 [(.int (2 : Int32)), (.ref b24)])) rfl rfl (hb hby at_299) t k) ?_
                    refine Go.st (S' := T351.setTop (mkF m 301 A358 [(.int p0), (.int v53)])) (fun t k => XS.iloadN X351.here hx rfl (hb hby at_300) rfl k) ?_
                    refine Go.st (S' := T351.setTop (mkF m 303 A358 [(.int (16 : Int32)), (.int p0), (.int v53)])) (fun t k => XS.bipush X351.here hx rfl (hb hby at_301) k) ?_
                    refine Go.op (F := fun z => T351.setTop (mkF m 304 A358 [(.int z), (.int v53)])) (x := ((p0.toUInt32 >>> ((16 : Int32) &&& 31).toUInt32).toInt32)) (fun t k => XS.iushr X351.here hx rfl (hb hby at_303) rfl k) ?_
                    intro v386 hv386
                    obtain rfl : v50 = v386 := hv50.trans hv386.symm
                    refine Go.op (F := fun z => T351.setTop (mkF m 305 A358 [(.int z), (.int v53)])) (x := v50.toInt8.toInt32) (fun t k => XS.i2b X351.here hx rfl (hb hby at_304) rfl k) ?_
                    intro v387 hv387
                    obtain rfl : v51 = v387 := hv51.trans hv387.symm
                    by_cases hc388 : (v53 = v51)
                    · refine Go.st (S' := T351.setTop (mkF m 308 A358 [])) (fun t k => XS.icmpNo X351.here hx rfl (hb hby at_305) rfl (teq hc388).2 k) ?_
                      refine Go.st (S' := T351.setTop (mkF m 310 A358 [(.ref b24)])) (fun t k => XS.aload X351.here hx rfl (hb hby at_308) rfl rfl k) ?_
                      refine Go.st (S' := T351.setTop (mkF m 311 A358 [(.int (3 : Int32)), (.ref b24)])) (fun t k => XS.iconst X351.here hx rfl (hb hby at_310) k) ?_
                      obtain ⟨cl389, Ar389, -, S389, N389_, H389, -⟩ := id f354
                      have hin389 : ¬ ((3 : Int32) < 0 ∨ cl389.slots.size ≤ ((3 : Int32)).toNatClampNeg) := inb_of S389 ⟨by decide, by decide⟩
                      have hat389 : cl389.slots[((3 : Int32)).toNatClampNeg]? = some (.int v58) := Has.at H389 hin389 rfl
                      refine Go.st (S' := T351.setTop (mkF m 312 A358 [(.int v58)])) (fun t k => X351.baloadBytes hx (j := (3 : Int32)) (v := (.int v58)) (own_eh e351 Ar389.1) (State.isArrayOf_alike hZ.alike Ar389.2.1) Ar389.2.2 hin389 hat389 (g := (mkF m 311 A358 [(.int (3 : Int32)), (.ref b24)])) rfl rfl (hb hby at_311) t k) ?_
                      refine Go.st (S' := T351.setTop (mkF m 313 A358 [(.int p0), (.int v58)])) (fun t k => XS.iloadN X351.here hx rfl (hb hby at_312) rfl k) ?_
                      refine Go.st (S' := T351.setTop (mkF m 315 A358 [(.int (24 : Int32)), (.int p0), (.int v58)])) (fun t k => XS.bipush X351.here hx rfl (hb hby at_313) k) ?_
                      refine Go.op (F := fun z => T351.setTop (mkF m 316 A358 [(.int z), (.int v58)])) (x := ((p0.toUInt32 >>> ((24 : Int32) &&& 31).toUInt32).toInt32)) (fun t k => XS.iushr X351.here hx rfl (hb hby at_315) rfl k) ?_
                      intro v390 hv390
                      obtain rfl : v55 = v390 := hv55.trans hv390.symm
                      refine Go.op (F := fun z => T351.setTop (mkF m 317 A358 [(.int z), (.int v58)])) (x := v55.toInt8.toInt32) (fun t k => XS.i2b X351.here hx rfl (hb hby at_316) rfl k) ?_
                      intro v391 hv391
                      obtain rfl : v56 = v391 := hv56.trans hv391.symm
                      by_cases hc392 : (v58 = v56)
                      · refine Go.st (S' := T351.setTop (mkF m 322 A358 [])) (fun t k => XS.icmpYes X351.here hx rfl (pc0 := 317) (pc' := 322) rfl (hb hby at_317) rfl (teq hc392).1 (by decide) (by decide) k) ?_
                        refine Go.st (S' := T351.setTop (mkF m 324 A358 [(.ref b31)])) (fun t k => XS.aload X351.here hx rfl (hb hby at_322) rfl rfl k) ?_
                        refine Go.st (S' := T351.setTop (mkF m 325 A358 [(.int (1 : Int32)), (.ref b31)])) (fun t k => XS.iconst X351.here hx rfl (hb hby at_324) k) ?_
                        obtain ⟨cl393, Ar393, -, S393, N393_, H393, -⟩ := id f365
                        have hin393 : ¬ ((1 : Int32) < 0 ∨ cl393.slots.size ≤ ((1 : Int32)).toNatClampNeg) := inb_of S393 ⟨by decide, by decide⟩
                        have hat393 : cl393.slots[((1 : Int32)).toNatClampNeg]? = some (.int v72) := Has.at H393 hin393 rfl
                        refine Go.st (S' := T351.setTop (mkF m 326 A358 [(.int v72)])) (fun t k => X351.baloadBytes hx (j := (1 : Int32)) (v := (.int v72)) (own_eh e351 Ar393.1) (State.isArrayOf_alike hZ.alike Ar393.2.1) Ar393.2.2 hin393 hat393 (g := (mkF m 325 A358 [(.int (1 : Int32)), (.ref b31)])) rfl rfl (hb hby at_325) t k) ?_
                        refine Go.st (S' := T351.setTop (mkF m 327 A358 [(.int p1), (.int v72)])) (fun t k => XS.iloadN X351.here hx rfl (hb hby at_326) rfl k) ?_
                        refine Go.st (S' := T351.setTop (mkF m 329 A358 [(.int (8 : Int32)), (.int p1), (.int v72)])) (fun t k => XS.bipush X351.here hx rfl (hb hby at_327) k) ?_
                        refine Go.op (F := fun z => T351.setTop (mkF m 330 A358 [(.int z), (.int v72)])) (x := ((p1.toUInt32 >>> ((8 : Int32) &&& 31).toUInt32).toInt32)) (fun t k => XS.iushr X351.here hx rfl (hb hby at_329) rfl k) ?_
                        intro v394 hv394
                        obtain rfl : v69 = v394 := hv69.trans hv394.symm
                        refine Go.op (F := fun z => T351.setTop (mkF m 331 A358 [(.int z), (.int v72)])) (x := v69.toInt8.toInt32) (fun t k => XS.i2b X351.here hx rfl (hb hby at_330) rfl k) ?_
                        intro v395 hv395
                        obtain rfl : v70 = v395 := hv70.trans hv395.symm
                        by_cases hc396 : (v72 = v70)
                        · refine Go.st (S' := T351.setTop (mkF m 334 A358 [])) (fun t k => XS.icmpNo X351.here hx rfl (hb hby at_331) rfl (teq hc396).2 k) ?_
                          refine Go.st (S' := T351.setTop (mkF m 336 A358 [(.ref b31)])) (fun t k => XS.aload X351.here hx rfl (hb hby at_334) rfl rfl k) ?_
                          refine Go.st (S' := T351.setTop (mkF m 337 A358 [(.int (2 : Int32)), (.ref b31)])) (fun t k => XS.iconst X351.here hx rfl (hb hby at_336) k) ?_
                          obtain ⟨cl397, Ar397, -, S397, N397_, H397, -⟩ := id f365
                          have hin397 : ¬ ((2 : Int32) < 0 ∨ cl397.slots.size ≤ ((2 : Int32)).toNatClampNeg) := inb_of S397 ⟨by decide, by decide⟩
                          have hat397 : cl397.slots[((2 : Int32)).toNatClampNeg]? = some (.int v77) := Has.at H397 hin397 rfl
                          refine Go.st (S' := T351.setTop (mkF m 338 A358 [(.int v77)])) (fun t k => X351.baloadBytes hx (j := (2 : Int32)) (v := (.int v77)) (own_eh e351 Ar397.1) (State.isArrayOf_alike hZ.alike Ar397.2.1) Ar397.2.2 hin397 hat397 (g := (mkF m 337 A358 [(.int (2 : Int32)), (.ref b31)])) rfl rfl (hb hby at_337) t k) ?_
                          refine Go.st (S' := T351.setTop (mkF m 339 A358 [(.int p1), (.int v77)])) (fun t k => XS.iloadN X351.here hx rfl (hb hby at_338) rfl k) ?_
                          refine Go.st (S' := T351.setTop (mkF m 341 A358 [(.int (16 : Int32)), (.int p1), (.int v77)])) (fun t k => XS.bipush X351.here hx rfl (hb hby at_339) k) ?_
                          refine Go.op (F := fun z => T351.setTop (mkF m 342 A358 [(.int z), (.int v77)])) (x := ((p1.toUInt32 >>> ((16 : Int32) &&& 31).toUInt32).toInt32)) (fun t k => XS.iushr X351.here hx rfl (hb hby at_341) rfl k) ?_
                          intro v398 hv398
                          obtain rfl : v74 = v398 := hv74.trans hv398.symm
                          refine Go.op (F := fun z => T351.setTop (mkF m 343 A358 [(.int z), (.int v77)])) (x := v74.toInt8.toInt32) (fun t k => XS.i2b X351.here hx rfl (hb hby at_342) rfl k) ?_
                          intro v399 hv399
                          obtain rfl : v75 = v399 := hv75.trans hv399.symm
                          by_cases hc400 : (v77 = v75)
                          · refine Go.st (S' := T351.setTop (mkF m 346 A358 [])) (fun t k => XS.icmpNo X351.here hx rfl (hb hby at_343) rfl (teq hc400).2 k) ?_
                            refine Go.st (S' := T351.setTop (mkF m 348 A358 [(.ref b31)])) (fun t k => XS.aload X351.here hx rfl (hb hby at_346) rfl rfl k) ?_
                            refine Go.st (S' := T351.setTop (mkF m 349 A358 [(.int (3 : Int32)), (.ref b31)])) (fun t k => XS.iconst X351.here hx rfl (hb hby at_348) k) ?_
                            obtain ⟨cl401, Ar401, -, S401, N401_, H401, -⟩ := id f365
                            have hin401 : ¬ ((3 : Int32) < 0 ∨ cl401.slots.size ≤ ((3 : Int32)).toNatClampNeg) := inb_of S401 ⟨by decide, by decide⟩
                            have hat401 : cl401.slots[((3 : Int32)).toNatClampNeg]? = some (.int v82) := Has.at H401 hin401 rfl
                            refine Go.st (S' := T351.setTop (mkF m 350 A358 [(.int v82)])) (fun t k => X351.baloadBytes hx (j := (3 : Int32)) (v := (.int v82)) (own_eh e351 Ar401.1) (State.isArrayOf_alike hZ.alike Ar401.2.1) Ar401.2.2 hin401 hat401 (g := (mkF m 349 A358 [(.int (3 : Int32)), (.ref b31)])) rfl rfl (hb hby at_349) t k) ?_
                            refine Go.st (S' := T351.setTop (mkF m 351 A358 [(.int p1), (.int v82)])) (fun t k => XS.iloadN X351.here hx rfl (hb hby at_350) rfl k) ?_
                            refine Go.st (S' := T351.setTop (mkF m 353 A358 [(.int (24 : Int32)), (.int p1), (.int v82)])) (fun t k => XS.bipush X351.here hx rfl (hb hby at_351) k) ?_
                            refine Go.op (F := fun z => T351.setTop (mkF m 354 A358 [(.int z), (.int v82)])) (x := ((p1.toUInt32 >>> ((24 : Int32) &&& 31).toUInt32).toInt32)) (fun t k => XS.iushr X351.here hx rfl (hb hby at_353) rfl k) ?_
                            intro v402 hv402
                            obtain rfl : v79 = v402 := hv79.trans hv402.symm
                            refine Go.op (F := fun z => T351.setTop (mkF m 355 A358 [(.int z), (.int v82)])) (x := v79.toInt8.toInt32) (fun t k => XS.i2b X351.here hx rfl (hb hby at_354) rfl k) ?_
                            intro v403 hv403
                            obtain rfl : v80 = v403 := hv80.trans hv403.symm
                            by_cases hc404 : (v82 = v80)
                            · refine Go.st (S' := T351.setTop (mkF m 360 A358 [])) (fun t k => XS.icmpYes X351.here hx rfl (pc0 := 355) (pc' := 360) rfl (hb hby at_355) rfl (teq hc404).1 (by decide) (by decide) k) ?_
                              refine Go.st (S' := T351.setTop (mkF m 361 A358 [(.int (1 : Int32))])) (fun t k => XS.iconst X351.here hx rfl (hb hby at_360) k) ?_
                              exact Go.ret X351 (v := some (.int (1 : Int32))) (fun h => by rw [Bd.returns] at h; cases h) Bd.notSynchronized (fun fs hr => retN X351 hx (t := .boolean) Bd.returns (by simp) (hb hby at_361) hr) (by decide) (by decide) ⟨rfl, N351_⟩
                            · exfalso
                              exact hc404 (by simp only [hv79, hv80, hv82, ushr_and, Int32.toInt8_and, Int8.toInt8_toInt32])
                          · exfalso
                            exact hc400 (by simp only [hv74, hv75, hv77, ushr_and, Int32.toInt8_and, Int8.toInt8_toInt32])
                        · exfalso
                          exact hc396 (by simp only [hv69, hv70, hv72, ushr_and, Int32.toInt8_and, Int8.toInt8_toInt32])
                      · exfalso
                        exact hc392 (by simp only [hv55, hv56, hv58, ushr_and, Int32.toInt8_and, Int8.toInt8_toInt32])
                    · exfalso
                      exact hc388 (by simp only [hv50, hv51, hv53, ushr_and, Int32.toInt8_and, Int8.toInt8_toInt32])
                  · exfalso
                    exact hc384 (by simp only [hv45, hv46, hv48, ushr_and, Int32.toInt8_and, Int8.toInt8_toInt32])
                · exfalso
                  exact hc380 (by simp only [hv55, hv56, hv58, hv79, hv80, hv82, hv331, hv332, hv333, hv357, hv378, hv379, ushr_and, Int32.toInt8_and, Int8.toInt8_toInt32])
              · exfalso
                exact hc376 (by simp only [hv50, hv51, hv53, hv74, hv75, hv77, hv328, hv329, hv330, hv357, hv374, hv375, ushr_and, Int32.toInt8_and, Int8.toInt8_toInt32])
            · exfalso
              exact hc372 (by simp only [hv45, hv46, hv48, hv69, hv70, hv72, hv325, hv326, hv327, hv357, hv370, hv371, ushr_and, Int32.toInt8_and, Int8.toInt8_toInt32])
          · exfalso
            exact hc368 (by simp only [hv60, hv63, ushr_and, Int32.toInt8_and, Int8.toInt8_toInt32])
        · exfalso
          exact hc364 (by simp only [hv36, hv39, ushr_and, Int32.toInt8_and, Int8.toInt8_toInt32])
      · exfalso
        exact hc361 (by simp only [hv36, hv39, hv60, hv63, hv322, hv323, hv324, hv357, hv360, ushr_and, Int32.toInt8_and, Int8.toInt8_toInt32])
  · intro J405
    by_cases hc406 : (v15 = (0 : Int32))
    · refine Go.st (S' := T9.setTop (mkF m 16 A14 [])) (fun t k => XS.ifYes X9.here hx rfl (pc0 := 9) (pc' := 16) rfl (hb hby at_9) rfl ((if0 _ _).trans (teq hc406).1) (by decide) (by decide) k) ?_
      refine Go.st (S' := T9.setTop (mkF m 17 A14 [(.int (0 : Int32))])) (fun t k => XS.iconst X9.here hx rfl (hb hby at_16) k) ?_
      exact J405 ((0 : Int32)) (Or.inl ⟨hc406, rfl⟩)
    · refine Go.st (S' := T9.setTop (mkF m 12 A14 [])) (fun t k => XS.ifNo X9.here hx rfl (hb hby at_9) rfl ((if0 _ _).trans (feq hc406).1) k) ?_
      refine Go.st (S' := T9.setTop (mkF m 13 A14 [(.int (1 : Int32))])) (fun t k => XS.iconst X9.here hx rfl (hb hby at_12) k) ?_
      refine Go.st (S' := T9.setTop (mkF m 17 A14 [(.int (1 : Int32))])) (fun t k => XS.goto X9.here hx rfl (pc0 := 13) (pc' := 17) rfl (hb hby at_13) (by decide) (by decide) k) ?_
      exact J405 ((1 : Int32)) (Or.inr ⟨hc406, rfl⟩)
set_option maxRecDepth 65536 in
set_option maxHeartbeats 40000000 in
theorem comes_1 {Post : Tables → Env → Array Value → State → Outcome → State → Prop} (hpost : ∀ tb e args s v u, (limb_1_1.after args s (.returned v) u = true ∧ limb_1_2.after args s (.returned v) u = true ∧ True) → FrameEnd s (.returned v) u (Jvm.fieldLocs frame_1_writes args s ++ Jvm.arrayLocs frame_1_arrays args s ++ Jvm.staticLocs frame_1_statics s) 24 128 → Post tb e args s (.returned v) u) :
    ArmFor flags0 classFile x code maxLocals ret World_1 tables_1 room_1 Calls_1 rest_1 Pre_1 Post := by
  intro l hfl _ _ p e ha hc hk s m args below hf hA hF happ hP
  obtain ⟨hcalls, hrest, hpre⟩ := hP
  obtain ⟨-, -, -, hnamed, -, -, -, hat⟩ := (Spec.applies_iff hf).mp happ
  obtain ⟨hg, hn⟩ := and_e (Cond.before_iff.mp (show (Jvm.Cond.and given_1 narrow_1).before args s = true from hpre))
  obtain ⟨h1, h2⟩ := and_e hg
  obtain ⟨w0, w1, w2, w3, rfl⟩ : ∃ w0 w1 w2 w3 : Value, args = #[w0, w1, w2, w3] := by
    have hs : args.size = 4 := by simpa [Cond.value, given_1] using h1
    obtain ⟨L⟩ := args
    match L, hs with
    | [w0, w1, w2, w3], _ => exact ⟨w0, w1, w2, w3, rfl⟩
  have hw := fun d (hd : d ∈ tables_1) => atoms_spec (ws := Jvm.Cond.code x code maxLocals ret :: tables_1) hat d (List.mem_cons_of_mem _ hd)
  have hfit : Fit s := fun {y c} hc i hi => by
    obtain ⟨ha, rfl⟩ := Array.getElem?_eq_some_iff.mp hc
    have q := List.all_eq_true.mp ((Array.all_eq_true_iff_forall_mem.mp hF) _ (Array.getElem_mem ha)) i (List.mem_range.mpr hi)
    simpa [Array.getElem?_eq_getElem hi] using q
  obtain ⟨q0, h2_0⟩ := and_e h2
  obtain ⟨i0, ee0⟩ := is_v q0
  obtain rfl : w0 = (.int i0) := Option.some.inj ee0
  obtain ⟨q1, h2_1⟩ := and_e h2_0
  obtain ⟨i1, ee1⟩ := is_v q1
  obtain rfl : w1 = (.int i1) := Option.some.inj ee1
  obtain ⟨q2, h2_2⟩ := and_e h2_1
  obtain ⟨i2, ee2⟩ := is_v q2
  obtain rfl : w2 = (.int i2) := Option.some.inj ee2
  obtain ⟨i3, ee3⟩ := is_v h2_2
  obtain rfl : w3 = (.int i3) := Option.some.inj ee3
  obtain ⟨n0, hn0⟩ := and_e hn
  obtain ⟨n1, hn1⟩ := and_e hn0
  obtain ⟨s_Chat_Template_ST, ev_s_Chat_Template_ST⟩ := exa_v n0
  obtain ⟨s_Chat_Template_AT, ev_s_Chat_Template_AT⟩ := exa_v n1
  obtain ⟨s_Chat_Template_IS, ev_s_Chat_Template_IS⟩ := exa_v hn1
  have E_s_Chat_Template_ST : Exa s s.heap s_Chat_Template_ST "com/example/consulate/consulate/cvc/Chat$Template" := Exa.start ev_s_Chat_Template_ST n0
  have E_s_Chat_Template_AT : Exa s s.heap s_Chat_Template_AT "com/example/consulate/consulate/cvc/Chat$Template" := Exa.start ev_s_Chat_Template_AT n1
  have E_s_Chat_Template_IS : Exa s s.heap s_Chat_Template_IS "com/example/consulate/consulate/cvc/Chat$Template" := Exa.start ev_s_Chat_Template_IS hn1
  obtain ⟨n, o, h1, h2, h3, _, L, rfl, ⟨rfl, N⟩, hq⟩ := rm9 l s _ hw tables_1 i0 i1 i2 i3 s_Chat_Template_IS s_Chat_Template_AT s_Chat_Template_ST s.heap s.heap.size (Nat.le_refl _) (Sta.start ev_s_Chat_Template_IS (Or.inr ⟨(hw _ (List.mem_of_getElem? (i := 6) rfl)), (hw _ (List.mem_of_getElem? (i := 47) rfl))⟩)) (Sta.start ev_s_Chat_Template_AT (Or.inr ⟨(hw _ (List.mem_of_getElem? (i := 6) rfl)), (hw _ (List.mem_of_getElem? (i := 45) rfl))⟩)) (Sta.start ev_s_Chat_Template_ST (Or.inr ⟨(hw _ (List.mem_of_getElem? (i := 6) rfl)), (hw _ (List.mem_of_getElem? (i := 7) rfl))⟩)) p e ha hc hk s m _ below hf ((Spec.applies_iff_loose hf).mp happ).1 ⟨rfl, State.Warmed39.refl s, rfl⟩ trivial
  refine ⟨n, _, h1, h2, h3, hpost _ _ _ _ _ _ ⟨Cond.after_iff.mpr rfl, Cond.after_iff.mpr (eq_i res_at (Term.int_eval (1)) rfl), trivial⟩ ⟨hq.1, hq.2.1, (hq.2.2.sift fun y hy => Or.inr (N y hy)).mono (by decide) (by decide)⟩⟩
theorem main_1_1 : Claimed_1_1 := comes_1 fun _ _ _ _ _ _ h hF => ⟨h.1, hF⟩
theorem main_1_2 : Claimed_1_2 := comes_1 fun _ _ _ _ _ _ h hF => ⟨h.2.1, hF⟩
end Jvm.Pilot.@@N@@
namespace Jvm.Pilot.@@N@@
open Jvm Jvm.ClassFile Sem Op Lib Jvm.Free Jvm.Stand Jvm.Pilot.@@N@@.Jvm.D
/-! MADE BY PROGRAM (witnessworld.py) out of the Statement's table words and the real class files: 14 classes; the members and pool entries that the words name. The judged class is class 1, her method 2. -/
namespace start1
open Jvm.ClassFile
def u (s : String) : CpInfo := .utf8 (stringToUtf16 s)
/-- a pool by its gaps: so many unusable entries, then the entry; so many at the end -/
def gap : Nat → List CpInfo → List CpInfo
  | 0, r => r
  | n + 1, r => .unusable :: gap n r
def poolList (es : List (Nat × CpInfo)) (last : Nat) : List CpInfo := es.foldr (fun e r => gap e.1 (e.2 :: r)) (gap last [])
def pool (es : List (Nat × CpInfo)) (last : Nat) : Array CpInfo := ⟨poolList es last⟩
def fileOf (pool : Array CpInfo) (this : Nat) (attrs : Array Attribute := #[]) (ms : Array MethodInfo := #[]) (fl : Nat := 33) (sup : Nat := 0) (ifs : Array Nat := #[]) (fds : Array FieldInfo := #[]) : ClassFile where
  minorVersion := 0
  majorVersion := 65
  constantPool := pool
  accessFlags := fl
  thisClass := this
  superClass := sup
  interfaces := ifs
  fields := fds
  methods := ms
  attributes := attrs
def plain (name : String) (sup : Option ClassId) : Class where
  name := name
  kind := .ordinary
  loader := none
  accessFlags := 33
  super := sup
  interfaces := #[]
  cf := none
  fields := #[]
  methods := #[]
  instanceTypes := #[]
  staticTypes := #[]
  resolved := #[]
  callSites := []
  init := .initialized
  statics := none
  mirror := none

def pool0 : Array CpInfo := pool [(5, u "<init>"), (0, u "()V"), (1, .class_ 10), (1, u "java/lang/Object")] 113

def k0c0 : Code := { maxStack := 0, maxLocals := 1, code := object_method_1_code, exceptionTable := #[], attributes := #[] }
def k0m0 : Method := { name := "<init>", desc := "()V", sig := { parameters := [], returnType := none }, accessFlags := 1, code := some k0c0 }
/-- java/lang/Object -/
def k0 : Class := { plain "java/lang/Object" none with
  accessFlags := 33
  interfaces := #[]
  cf := some (fileOf pool0 8 #[] #[{ accessFlags := 1, nameIndex := 5, descriptorIndex := 6, attributes := #[] }] 33 0 #[] #[])
  fields := #[]
  methods := #[k0m0]
  instanceTypes := #[]
  staticTypes := #[]
  resolved := Array.replicate 124 none
  statics := none }

def pool1 : Array CpInfo := pool [(2, .class_ 4), (1, u "java/lang/Object"), (0, u "<init>"), (0, u "()V"), (0, .integer 2147483647), (0, .fieldref 9 10), (0, .class_ 11), (0, .nameAndType 12 13), (0, u "com/example/consulate/consulate/cvc/Chat$Template"), (0, u "IS"), (0, u "Lcom/example/consulate/consulate/cvc/Chat$Template;"), (0, .fieldref 9 15), (0, .nameAndType 16 13), (0, u "AT"), (0, .fieldref 9 18), (0, .nameAndType 19 13), (0, u "ST"), (0, .methodref 21 22), (0, .class_ 23), (0, .nameAndType 24 25), (0, u "com/example/consulate/consulate/cvc/ChatRestrictedToPinLaw"), (0, u "pick"), (0, u "(I)Lcom/example/consulate/consulate/cvc/Chat$Template;"), (0, .class_ 27), (0, u "com/example/consulate/consulate/cvc/Chat"), (0, .methodref 26 29), (0, .nameAndType 5 30), (0, u "(Lcom/example/consulate/consulate/cvc/Chat$Template;[B)V"), (0, .methodref 26 32), (0, .nameAndType 33 34), (0, u "restrictedTo"), (0, u "([B)Lcom/example/consulate/consulate/cvc/Chat;"), (0, .methodref 26 36), (0, .nameAndType 37 38), (0, u "data"), (0, u "()[B"), (0, .methodref 26 40), (0, .nameAndType 41 42), (0, u "template"), (0, u "()Lcom/example/consulate/consulate/cvc/Chat$Template;"), (3, u "law"), (0, u "(IIII)Z")] 6

def k1m0 : Method := { name := "<init>", desc := "()V", sig := { parameters := [], returnType := none }, accessFlags := 1, code := none }
def k1c1 : Code := { maxStack := 2, maxLocals := 2, code := method_2_code, exceptionTable := #[], attributes := #[] }
def k1m1 : Method := { name := "pick", desc := "(I)Lcom/example/consulate/consulate/cvc/Chat$Template;", sig := { parameters := [.int], returnType := some (.object "com/example/consulate/consulate/cvc/Chat$Template") }, accessFlags := 10, code := some k1c1 }
def k1c2 : Code := { maxStack := 4, maxLocals := 16, code := code, exceptionTable := #[], attributes := #[] }
def k1m2 : Method := { name := "law", desc := "(IIII)Z", sig := { parameters := [.int, .int, .int, .int], returnType := some .boolean }, accessFlags := 9, code := some k1c2 }
/-- com/example/consulate/consulate/cvc/ChatRestrictedToPinLaw -/
def k1 : Class := { plain "com/example/consulate/consulate/cvc/ChatRestrictedToPinLaw" (some 0) with
  accessFlags := 49
  interfaces := #[]
  cf := some (fileOf pool1 21 #[] #[{ accessFlags := 1, nameIndex := 5, descriptorIndex := 6, attributes := #[] }, { accessFlags := 10, nameIndex := 24, descriptorIndex := 25, attributes := #[] }, { accessFlags := 9, nameIndex := 46, descriptorIndex := 47, attributes := #[] }] 49 2 #[] #[])
  fields := #[]
  methods := #[k1m0, k1m1, k1m2]
  instanceTypes := #[]
  staticTypes := #[]
  resolved := Array.replicate 54 none
  statics := none }

def pool2 : Array CpInfo := pool [(1, .class_ 2), (0, u "java/lang/constant/Constable"), (0, .class_ 4), (0, u "java/lang/Object")] 6

/-- java/lang/constant/Constable -/
def k2 : Class := { plain "java/lang/constant/Constable" (some 0) with
  accessFlags := 1537
  interfaces := #[]
  cf := some (fileOf pool2 1 #[] #[] 1537 3 #[] #[])
  fields := #[]
  methods := #[]
  instanceTypes := #[]
  staticTypes := #[]
  resolved := Array.replicate 11 none
  statics := none }

def pool3 : Array CpInfo := pool [(1, .class_ 2), (0, u "java/lang/Comparable"), (0, .class_ 4), (0, u "java/lang/Object")] 7

/-- java/lang/Comparable -/
def k3 : Class := { plain "java/lang/Comparable" (some 0) with
  accessFlags := 1537
  interfaces := #[]
  cf := some (fileOf pool3 1 #[] #[] 1537 3 #[] #[])
  fields := #[]
  methods := #[]
  instanceTypes := #[]
  staticTypes := #[]
  resolved := Array.replicate 12 none
  statics := none }

def pool4 : Array CpInfo := pool [(1, .class_ 2), (0, u "java/io/Serializable"), (0, .class_ 4), (0, u "java/lang/Object")] 2

/-- java/io/Serializable -/
def k4 : Class := { plain "java/io/Serializable" (some 0) with
  accessFlags := 1537
  interfaces := #[]
  cf := some (fileOf pool4 1 #[] #[] 1537 3 #[] #[])
  fields := #[]
  methods := #[]
  instanceTypes := #[]
  staticTypes := #[]
  resolved := Array.replicate 7 none
  statics := none }

def pool5 : Array CpInfo := pool [(2, .class_ 4), (1, u "java/lang/Enum"), (0, u "name"), (0, u "Ljava/lang/String;"), (2, u "ordinal"), (0, u "I"), (1, .class_ 14), (1, u "java/lang/Object"), (4, u "hash"), (86, .class_ 108), (1, u "java/lang/Enum$EnumDesc"), (2, .class_ 112), (0, u "java/lang/constant/Constable"), (0, .class_ 114), (0, u "java/lang/Comparable"), (0, .class_ 116), (0, u "java/io/Serializable")] 87

/-- java/lang/Enum -/
def k5 : Class := { plain "java/lang/Enum" (some 0) with
  accessFlags := 1057
  interfaces := #[2, 3, 4]
  cf := some (fileOf pool5 2 #[.nestMembers #[106]] #[] 1057 12 #[111, 113, 115] #[{ accessFlags := 18, nameIndex := 5, descriptorIndex := 6, attributes := #[] }, { accessFlags := 18, nameIndex := 9, descriptorIndex := 10, attributes := #[] }, { accessFlags := 2, nameIndex := 19, descriptorIndex := 10, attributes := #[] }])
  fields := #[{ name := "name", type := (.object "java/lang/String"), accessFlags := 18, slot := 0, constantValue := 0 }, { name := "ordinal", type := .int, accessFlags := 18, slot := 1, constantValue := 0 }, { name := "hash", type := .int, accessFlags := 2, slot := 2, constantValue := 0 }]
  methods := #[]
  instanceTypes := #[(.object "java/lang/String"), .int, .int]
  staticTypes := #[]
  resolved := Array.replicate 204 none
  statics := none }

def pool6 : Array CpInfo := pool [(1, .class_ 2), (0, u "com/example/consulate/consulate/cvc/Chat$Template"), (2, u "IS"), (0, u "Lcom/example/consulate/consulate/cvc/Chat$Template;"), (2, u "AT"), (2, u "ST"), (2, u "$VALUES"), (0, u "[Lcom/example/consulate/consulate/cvc/Chat$Template;"), (6, .class_ 25), (1, u "java/lang/Enum"), (8, u "label"), (0, u "Ljava/lang/String;"), (2, u "oid"), (2, u "dataLength"), (0, u "I"), (76, .class_ 120), (0, u "com/example/consulate/consulate/cvc/Chat")] 24

/-- com/example/consulate/consulate/cvc/Chat$Template -/
def k6 : Class := { plain "com/example/consulate/consulate/cvc/Chat$Template" (some 5) with
  accessFlags := 16433
  interfaces := #[]
  cf := some (fileOf pool6 1 #[.nestHost 119] #[] 16433 23 #[] #[{ accessFlags := 16409, nameIndex := 5, descriptorIndex := 6, attributes := #[] }, { accessFlags := 16409, nameIndex := 9, descriptorIndex := 6, attributes := #[] }, { accessFlags := 16409, nameIndex := 12, descriptorIndex := 6, attributes := #[] }, { accessFlags := 18, nameIndex := 34, descriptorIndex := 35, attributes := #[] }, { accessFlags := 18, nameIndex := 38, descriptorIndex := 35, attributes := #[] }, { accessFlags := 18, nameIndex := 41, descriptorIndex := 42, attributes := #[] }, { accessFlags := 4122, nameIndex := 15, descriptorIndex := 16, attributes := #[] }])
  fields := #[{ name := "IS", type := (.object "com/example/consulate/consulate/cvc/Chat$Template"), accessFlags := 16409, slot := 0, constantValue := 0 }, { name := "AT", type := (.object "com/example/consulate/consulate/cvc/Chat$Template"), accessFlags := 16409, slot := 1, constantValue := 0 }, { name := "ST", type := (.object "com/example/consulate/consulate/cvc/Chat$Template"), accessFlags := 16409, slot := 2, constantValue := 0 }, { name := "label", type := (.object "java/lang/String"), accessFlags := 18, slot := 3, constantValue := 0 }, { name := "oid", type := (.object "java/lang/String"), accessFlags := 18, slot := 4, constantValue := 0 }, { name := "dataLength", type := .int, accessFlags := 18, slot := 5, constantValue := 0 }, { name := "$VALUES", type := (.array (.object "com/example/consulate/consulate/cvc/Chat$Template")), accessFlags := 4122, slot := 3, constantValue := 0 }]
  methods := #[]
  instanceTypes := #[(.object "java/lang/String"), .int, .int, (.object "java/lang/String"), (.object "java/lang/String"), .int]
  staticTypes := #[(.object "com/example/consulate/consulate/cvc/Chat$Template"), (.object "com/example/consulate/consulate/cvc/Chat$Template"), (.object "com/example/consulate/consulate/cvc/Chat$Template"), (.array (.object "com/example/consulate/consulate/cvc/Chat$Template"))]
  resolved := Array.replicate 145 none
  statics := some 0 }

def pool7 : Array CpInfo := pool [(1, .methodref 2 3), (0, .class_ 4), (0, .nameAndType 5 6), (0, u "java/lang/Object"), (0, u "<init>"), (0, u "()V"), (0, .class_ 8), (0, u "java/lang/Record")] 13

def k7c0 : Code := { maxStack := 1, maxLocals := 1, code := jdk_30_method_1_code, exceptionTable := #[], attributes := #[] }
def k7m0 : Method := { name := "<init>", desc := "()V", sig := { parameters := [], returnType := none }, accessFlags := 4, code := some k7c0 }
/-- java/lang/Record -/
def k7 : Class := { plain "java/lang/Record" (some 0) with
  accessFlags := 1057
  interfaces := #[]
  cf := some (fileOf pool7 7 #[] #[{ accessFlags := 4, nameIndex := 5, descriptorIndex := 6, attributes := #[] }] 1057 2 #[] #[])
  fields := #[]
  methods := #[k7m0]
  instanceTypes := #[]
  staticTypes := #[]
  resolved := Array.replicate 22 none
  statics := none }

def pool8 : Array CpInfo := pool [(1, .methodref 2 3), (0, .class_ 4), (0, .nameAndType 5 6), (0, u "java/lang/Record"), (0, u "<init>"), (0, u "()V"), (7, .fieldref 15 16), (0, .class_ 17), (0, .nameAndType 18 19), (0, u "com/example/consulate/consulate/cvc/Chat"), (0, u "template"), (0, u "Lcom/example/consulate/consulate/cvc/Chat$Template;"), (0, .fieldref 15 21), (0, .nameAndType 22 23), (0, u "data"), (0, u "[B"), (1, .class_ 27), (1, u "com/example/consulate/consulate/cvc/Chat$Role"), (11, .methodref 15 40), (0, .nameAndType 5 41), (0, u "(Lcom/example/consulate/consulate/cvc/Chat$Template;[B)V"), (19, .class_ 62), (0, u "com/example/consulate/consulate/cvc/Chat$Template"), (5, u "restrictedTo"), (0, u "([B)Lcom/example/consulate/consulate/cvc/Chat;"), (3, u "()Lcom/example/consulate/consulate/cvc/Chat$Template;"), (0, u "()[B")] 32

def k8c0 : Code := { maxStack := 3, maxLocals := 3, code := prog_20_method_1_code, exceptionTable := #[], attributes := #[] }
def k8m0 : Method := { name := "<init>", desc := "(Lcom/example/consulate/consulate/cvc/Chat$Template;[B)V", sig := { parameters := [(.object "com/example/consulate/consulate/cvc/Chat$Template"), (.array .byte)], returnType := none }, accessFlags := 1, code := some k8c0 }
def k8c1 : Code := { maxStack := 5, maxLocals := 4, code := prog_20_method_4_code, exceptionTable := #[], attributes := #[] }
def k8m1 : Method := { name := "restrictedTo", desc := "([B)Lcom/example/consulate/consulate/cvc/Chat;", sig := { parameters := [(.array .byte)], returnType := some (.object "com/example/consulate/consulate/cvc/Chat") }, accessFlags := 1, code := some k8c1 }
def k8c2 : Code := { maxStack := 1, maxLocals := 1, code := prog_20_method_8_code, exceptionTable := #[], attributes := #[] }
def k8m2 : Method := { name := "template", desc := "()Lcom/example/consulate/consulate/cvc/Chat$Template;", sig := { parameters := [], returnType := some (.object "com/example/consulate/consulate/cvc/Chat$Template") }, accessFlags := 1, code := some k8c2 }
def k8c3 : Code := { maxStack := 1, maxLocals := 1, code := prog_20_method_9_code, exceptionTable := #[], attributes := #[] }
def k8m3 : Method := { name := "data", desc := "()[B", sig := { parameters := [], returnType := some (.array .byte) }, accessFlags := 1, code := some k8c3 }
/-- com/example/consulate/consulate/cvc/Chat -/
def k8 : Class := { plain "com/example/consulate/consulate/cvc/Chat" (some 7) with
  accessFlags := 49
  interfaces := #[]
  cf := some (fileOf pool8 15 #[.nestMembers #[25, 61]] #[{ accessFlags := 1, nameIndex := 5, descriptorIndex := 41, attributes := #[] }, { accessFlags := 1, nameIndex := 68, descriptorIndex := 69, attributes := #[] }, { accessFlags := 1, nameIndex := 18, descriptorIndex := 73, attributes := #[] }, { accessFlags := 1, nameIndex := 22, descriptorIndex := 74, attributes := #[] }] 49 2 #[] #[{ accessFlags := 18, nameIndex := 18, descriptorIndex := 19, attributes := #[] }, { accessFlags := 18, nameIndex := 22, descriptorIndex := 23, attributes := #[] }])
  fields := #[{ name := "template", type := (.object "com/example/consulate/consulate/cvc/Chat$Template"), accessFlags := 18, slot := 0, constantValue := 0 }, { name := "data", type := (.array .byte), accessFlags := 18, slot := 1, constantValue := 0 }]
  methods := #[k8m0, k8m1, k8m2, k8m3]
  instanceTypes := #[(.object "com/example/consulate/consulate/cvc/Chat$Template"), (.array .byte)]
  staticTypes := #[]
  resolved := Array.replicate 107 none
  statics := none }

def pool9 : Array CpInfo := pool [(1, u "java/lang/Cloneable"), (0, .class_ 1), (0, u "java/lang/Object"), (0, .class_ 3)] 3

/-- java/lang/Cloneable -/
def k9 : Class := { plain "java/lang/Cloneable" (some 0) with
  accessFlags := 1537
  interfaces := #[]
  cf := some (fileOf pool9 2 #[] #[] 1537 4 #[] #[])
  fields := #[]
  methods := #[]
  instanceTypes := #[]
  staticTypes := #[]
  resolved := Array.replicate 8 none
  statics := none }

/-- the primitive byte -/
def k10 : Class := { plain "byte" none with kind := .primitive 'B', accessFlags := 0x411 }
/-- [B -/
def k11 : Class := { plain "[B" (some 0) with kind := .array 10 .byte, interfaces := #[9, 4], accessFlags := 1041 }

/-- the primitive int -/
def k12 : Class := { plain "int" none with kind := .primitive 'I', accessFlags := 0x411 }
/-- [I -/
def k13 : Class := { plain "[I" (some 0) with kind := .array 12 .int, interfaces := #[9, 4], accessFlags := 1041 }

def heap : Heap := #[{ cls := 6, slots := #[.ref 1, .ref 2, .ref 3, .null], vm := .statics 6 },
  { cls := 6, slots := #[.null, .int 0, .int 0, .null, .null, .int 0], vm := .none },
  { cls := 6, slots := #[.null, .int 1, .int 0, .null, .null, .int 0], vm := .none },
  { cls := 6, slots := #[.null, .int 2, .int 0, .null, .null, .int 0], vm := .none }]
def classes : Array Class := #[k0, k1, k2, k3, k4, k5, k6, k7, k8, k9, k10, k11, k12, k13]
def interned : List (Array UInt16 × Addr) := []
def slotsUsed : Nat := 22
def theMethod : MethodId := ⟨1, 2⟩
def args0 : Array Value := #[.int 1, .int 2, .int 3, .int 4]
def aboutOver (below : List Frame) : State where
  vm := { classes := classes, interned := interned.toArray }
  heap := heap
  slotsUsed := slotsUsed
  threads := #[{ frames := .invoking theMethod args0 :: below }]
def below0 : List Frame := [.native { method := ⟨0, 0⟩, args := #[] }]
def about1 : State := aboutOver below0
def p0 : Program := .bare "" "" ""
def e0 : Env := launch0.env 0 0 0
theorem w_frames : about1.frames = Frame.invoking theMethod args0 :: below0 := rfl
set_option maxRecDepth 65536 in
theorem w_args : argsFit about1.vm theMethod args0 = true := by decide +kernel
set_option maxRecDepth 65536 in
theorem w_heap : heapFits about1 = true := by decide +kernel
set_option maxRecDepth 65536 in
theorem w_runnable : about1.curStatus? = some .runnable := by decide +kernel
set_option maxRecDepth 65536 in
theorem w_alone : about1.alone = true := by decide +kernel
set_option maxRecDepth 65536 in
theorem w_named : about1.methodNamed? x = some theMethod := by decide +kernel
set_option maxRecDepth 65536 in
theorem w_hears : about1.hears theMethod below0 = true := by decide +kernel
set_option maxRecDepth 65536 in
theorem w_ripe : about1.ripe theMethod args0 below0 = true := by decide +kernel
theorem w_running : about1.status = .running := rfl
set_option maxRecDepth 65536 in
theorem w_room : about1.hasRoom e0.platform room_1 = true :=
  launch0.hasRoom_least _ room_1 (by decide +kernel) (by decide +kernel) (by decide +kernel) (by decide +kernel) (by decide +kernel) (by decide +kernel)
theorem allAtoms_all (ts : List Jvm.Cond) (a : Array Jvm.Value) (st : Jvm.State) : (allAtoms ts).before a st = ts.all (fun c => c.before a st) := by
  induction ts with
  | nil => rfl
  | cons c t ih =>
    show (Jvm.Cond.and c (allAtoms t)).before a st = _
    rw [Jvm.Cond.before_and, ih, List.all_cons]
def words1 : List Jvm.Cond := Jvm.Cond.code x code maxLocals ret :: tables_1
/-- a 'code' word, met by the world's own term for the bytes: nothing is compared byte by byte -/
theorem code_word {y : MethodName} {bytes : ByteArray} {mx : Nat} {rt : Option FieldType} {a : Array Value} {s : State} {m : MethodId} {meth : Method} {c : Code} (h1 : s.methodNamed? y = some m) (h2 : s.vm.method? m = some meth) (h3 : meth.code = some c) (h4 : c.code = bytes)
    (h5 : (c.maxLocals == mx && c.exceptionTable.isEmpty && decide (c.maxStack ≤ mostOperands) && decide (meth.sig.returnType = rt) && !meth.locks && decide (parseMethodDescriptor y.desc = some meth.sig)) = true) : (Jvm.Cond.code y bytes mx rt).before a s = true := by
  simp only [Bool.and_eq_true, beq_iff_eq, Bool.not_eq_true', decide_eq_true_eq] at h5
  obtain ⟨⟨⟨⟨⟨g1, g2⟩, g3⟩, g4⟩, g5⟩, g6⟩ := h5
  simp [Cond.before, Cond.holds, Cond.value, h1, h2, h3, h4, g1, g2, g3, g4, g5, g6]
def isCode : Jvm.Cond → Bool
  | .code _ _ _ _ => true
  | _ => false
theorem all_split {L : List Jvm.Cond} {P : Jvm.Cond → Bool} (h1 : L.all (fun c => isCode c || P c) = true) (h2 : ∀ c ∈ L.filter isCode, P c = true) : L.all P = true := by
  refine List.all_eq_true.mpr fun c hc => ?_
  have h := List.all_eq_true.mp h1 c hc
  rcases Bool.eq_false_or_eq_true (isCode c) with hi | hi
  · exact h2 c (List.mem_filter.mpr ⟨hc, hi⟩)
  · simpa [hi] using h
set_option maxRecDepth 65536 in
theorem w_c0 : (Jvm.Cond.code x code maxLocals ret).before args0 about1 = true := code_word (m := ⟨1, 2⟩) (meth := k1m2) (c := k1c2) (by decide +kernel) rfl rfl rfl (by decide +kernel)
set_option maxRecDepth 65536 in
theorem w_c1 : (Jvm.Cond.code ({ cls := "com/example/consulate/consulate/cvc/ChatRestrictedToPinLaw", name := "pick", desc := "(I)Lcom/example/consulate/consulate/cvc/Chat$Template;" } : Jvm.MethodName) method_2_code (2 : Nat) (Option.some (Jvm.ClassFile.FieldType.object "com/example/consulate/consulate/cvc/Chat$Template"))).before args0 about1 = true := code_word (m := ⟨1, 1⟩) (meth := k1m1) (c := k1c1) (by decide +kernel) rfl rfl rfl (by decide +kernel)
set_option maxRecDepth 65536 in
theorem w_c2 : (Jvm.Cond.code ({ cls := "com/example/consulate/consulate/cvc/Chat", name := "<init>", desc := "(Lcom/example/consulate/consulate/cvc/Chat$Template;[B)V" } : Jvm.MethodName) prog_20_method_1_code (3 : Nat) (Option.none : Option Jvm.ClassFile.FieldType)).before args0 about1 = true := code_word (m := ⟨8, 0⟩) (meth := k8m0) (c := k8c0) (by decide +kernel) rfl rfl rfl (by decide +kernel)
set_option maxRecDepth 65536 in
theorem w_c3 : (Jvm.Cond.code ({ cls := "java/lang/Record", name := "<init>", desc := "()V" } : Jvm.MethodName) jdk_30_method_1_code (1 : Nat) (Option.none : Option Jvm.ClassFile.FieldType)).before args0 about1 = true := code_word (m := ⟨7, 0⟩) (meth := k7m0) (c := k7c0) (by decide +kernel) rfl rfl rfl (by decide +kernel)
set_option maxRecDepth 65536 in
theorem w_c4 : (Jvm.Cond.code ({ cls := "java/lang/Object", name := "<init>", desc := "()V" } : Jvm.MethodName) object_method_1_code (1 : Nat) (Option.none : Option Jvm.ClassFile.FieldType)).before args0 about1 = true := code_word (m := ⟨0, 0⟩) (meth := k0m0) (c := k0c0) (by decide +kernel) rfl rfl rfl (by decide +kernel)
set_option maxRecDepth 65536 in
theorem w_c5 : (Jvm.Cond.code ({ cls := "com/example/consulate/consulate/cvc/Chat", name := "restrictedTo", desc := "([B)Lcom/example/consulate/consulate/cvc/Chat;" } : Jvm.MethodName) prog_20_method_4_code (4 : Nat) (Option.some (Jvm.ClassFile.FieldType.object "com/example/consulate/consulate/cvc/Chat"))).before args0 about1 = true := code_word (m := ⟨8, 1⟩) (meth := k8m1) (c := k8c1) (by decide +kernel) rfl rfl rfl (by decide +kernel)
set_option maxRecDepth 65536 in
theorem w_c6 : (Jvm.Cond.code ({ cls := "com/example/consulate/consulate/cvc/Chat", name := "data", desc := "()[B" } : Jvm.MethodName) prog_20_method_9_code (1 : Nat) (Option.some (Jvm.ClassFile.FieldType.array Jvm.ClassFile.FieldType.byte))).before args0 about1 = true := code_word (m := ⟨8, 3⟩) (meth := k8m3) (c := k8c3) (by decide +kernel) rfl rfl rfl (by decide +kernel)
set_option maxRecDepth 65536 in
theorem w_c7 : (Jvm.Cond.code ({ cls := "com/example/consulate/consulate/cvc/Chat", name := "template", desc := "()Lcom/example/consulate/consulate/cvc/Chat$Template;" } : Jvm.MethodName) prog_20_method_8_code (1 : Nat) (Option.some (Jvm.ClassFile.FieldType.object "com/example/consulate/consulate/cvc/Chat$Template"))).before args0 about1 = true := code_word (m := ⟨8, 2⟩) (meth := k8m2) (c := k8c2) (by decide +kernel) rfl rfl rfl (by decide +kernel)
def codes1 : List Jvm.Cond := [Jvm.Cond.code x code maxLocals ret, Jvm.Cond.code ({ cls := "com/example/consulate/consulate/cvc/ChatRestrictedToPinLaw", name := "pick", desc := "(I)Lcom/example/consulate/consulate/cvc/Chat$Template;" } : Jvm.MethodName) method_2_code (2 : Nat) (Option.some (Jvm.ClassFile.FieldType.object "com/example/consulate/consulate/cvc/Chat$Template")), Jvm.Cond.code ({ cls := "com/example/consulate/consulate/cvc/Chat", name := "<init>", desc := "(Lcom/example/consulate/consulate/cvc/Chat$Template;[B)V" } : Jvm.MethodName) prog_20_method_1_code (3 : Nat) (Option.none : Option Jvm.ClassFile.FieldType), Jvm.Cond.code ({ cls := "java/lang/Record", name := "<init>", desc := "()V" } : Jvm.MethodName) jdk_30_method_1_code (1 : Nat) (Option.none : Option Jvm.ClassFile.FieldType), Jvm.Cond.code ({ cls := "java/lang/Object", name := "<init>", desc := "()V" } : Jvm.MethodName) object_method_1_code (1 : Nat) (Option.none : Option Jvm.ClassFile.FieldType), Jvm.Cond.code ({ cls := "com/example/consulate/consulate/cvc/Chat", name := "restrictedTo", desc := "([B)Lcom/example/consulate/consulate/cvc/Chat;" } : Jvm.MethodName) prog_20_method_4_code (4 : Nat) (Option.some (Jvm.ClassFile.FieldType.object "com/example/consulate/consulate/cvc/Chat")), Jvm.Cond.code ({ cls := "com/example/consulate/consulate/cvc/Chat", name := "data", desc := "()[B" } : Jvm.MethodName) prog_20_method_9_code (1 : Nat) (Option.some (Jvm.ClassFile.FieldType.array Jvm.ClassFile.FieldType.byte)), Jvm.Cond.code ({ cls := "com/example/consulate/consulate/cvc/Chat", name := "template", desc := "()Lcom/example/consulate/consulate/cvc/Chat$Template;" } : Jvm.MethodName) prog_20_method_8_code (1 : Nat) (Option.some (Jvm.ClassFile.FieldType.object "com/example/consulate/consulate/cvc/Chat$Template"))]
set_option maxRecDepth 65536 in
theorem codes_eq : words1.filter isCode = codes1 := rfl
theorem w_codes : ∀ c ∈ words1.filter isCode, c.before args0 about1 = true := by
  rw [codes_eq]
  intro c hc
  simp only [codes1, List.mem_cons, List.not_mem_nil, or_false] at hc
  rcases hc with rfl | rfl | rfl | rfl | rfl | rfl | rfl | rfl
  · exact w_c0
  · exact w_c1
  · exact w_c2
  · exact w_c3
  · exact w_c4
  · exact w_c5
  · exact w_c6
  · exact w_c7
set_option maxRecDepth 65536 in
theorem w_t1 : (words1.take 24).all (fun c => isCode c || c.before args0 about1) = true := by decide +kernel
set_option maxRecDepth 65536 in
theorem w_t2 : ((words1.drop 24).take 24).all (fun c => isCode c || c.before args0 about1) = true := by decide +kernel
set_option maxRecDepth 65536 in
theorem w_t3 : ((words1.drop 24).drop 24).all (fun c => isCode c || c.before args0 about1) = true := by decide +kernel
theorem w_tables : (allAtoms (Jvm.Cond.code x code maxLocals ret :: tables_1)).before args0 about1 = true := by
  rw [allAtoms_all]
  show words1.all (fun c => c.before args0 about1) = true
  refine all_split ?_ w_codes
  rw [← List.take_append_drop 24 words1, List.all_append, w_t1, ← List.take_append_drop 24 (words1.drop 24), List.all_append, w_t2, w_t3]
  rfl
set_option maxRecDepth 65536 in
theorem w_case : (Jvm.Cond.and given_1 narrow_1).before args0 about1 = true := by decide +kernel
theorem w_applies : (headSpec (Jvm.Cond.code x code maxLocals ret :: tables_1) room_1).applies x e0.platform about1 = true :=
  (Spec.applies_iff w_frames).mpr ⟨w_running, w_runnable, w_alone, w_named, w_hears, w_ripe, w_room, w_tables⟩
theorem atStart : AtStart classFile x code maxLocals ret World_1 tables_1 room_1 Calls_1 rest_1 Pre_1 launch0 p0 e0 about1 theMethod args0 below0 :=
  ⟨lists_1, trivial, launch0.admits_env _ _ _, launch0.least_env, fairChoices_fair.cas, fairChoices_fair.clock, w_frames, w_args, w_heap, w_applies, trivial, trivial, w_case⟩
end start1
theorem witness_1 : WitnessClaimed_1 := ⟨start1.p0, start1.e0, start1.about1, start1.theMethod, start1.args0, start1.below0, start1.atStart⟩
end Jvm.Pilot.@@N@@
