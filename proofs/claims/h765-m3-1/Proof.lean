import JvmDerived
import JvmDerived.Pilot.@@N@@Statement
import JvmDerived.Pilot.@@N@@Code
set_option linter.unusedVariables false
set_option linter.unusedSimpArgs false
namespace Jvm.RoadKit
open Sem ClassFile Op Lib Jvm.Stand Jvm.Free Jvm.LawKit
section New
variable {p : Program} {l : Launch} {e : Env} {R : Room} {s : State} {m : MethodId} {args : Array Value} {below : List Frame} {meth : Method} {c : Code} {T : State} {locs : List Loc} {cells slots : Nat}
theorem retI (X : Stand p l e R s m args below meth c T locs cells slots) (hx : p.tables.exec = Jvm.exec) {pc : Nat} {Ls : Array Slot} {z : Int32} {rest : List Value} (hret : meth.sig.returnType = some .int) (hd : decode c.code pc = .ok (.ireturn, 1)) {fs : List Frame}
    (hl : ∀ (f : JFrame) (acts : List Action), f.method = m → f.locked = none → f.entered = [] → (doReturn e (T.setTop f) acts (some (.int z))).1 = T.setFrames fs) : Steps p.tables e below (T.setTop (mkF m pc Ls (.int z :: rest))) (T.setFrames fs) := retOut X hx hret rfl (Or.inl ⟨rfl, Or.inl rfl, _, rfl⟩) hd hl
end New
end Jvm.RoadKit
namespace Jvm.Pilot.@@N@@
open Jvm Jvm.ClassFile Sem Op Lib Jvm.Free Jvm.Stand Jvm.LawKit Jvm.RoadKit Bundle Jvm.Pilot.@@N@@.Jvm.D
section OwnKit
variable {p : Program} {l : Launch} {e : Env} {R : Room} {s : State} {m : MethodId} {args : Array Value} {below : List Frame} {meth : Method} {c : Code} {T : State} {locs : List Loc} {cells slots : Nat} {Z : State} {a0 : Array Value} {h : Heap}
def Go (p : Program) (e : Env) (below : List Frame) (Q : Outcome → State → Prop) (S : State) : Prop := ∃ s₂ o, Steps p.tables e below S s₂ ∧ s₂.status = .running ∧ Ended s₂ below o ∧ Q o s₂
theorem Go.of {Q : Outcome → State → Prop} {S : State} (k : Go p e below Q S) : ∃ s₂ o, Steps p.tables e below S s₂ ∧ s₂.status = .running ∧ Ended s₂ below o ∧ Q o s₂ := k
theorem Go.st {Q : Outcome → State → Prop} {S S' : State} (h : ∀ t, Steps p.tables e below S' t → Steps p.tables e below S t) (k : Go p e below Q S') : Go p e below Q S := by
  obtain ⟨s2, o, h1, h2⟩ := k; exact ⟨s2, o, h _ h1, h2⟩
theorem Go.op {α : Type} {Q : Outcome → State → Prop} {S : State} {F : α → State} {x : α} (h : ∀ t, Steps p.tables e below (F x) t → Steps p.tables e below S t) (k : ∀ z, z = x → Go p e below Q (F z)) : Go p e below Q S := Go.st h (k x rfl)
theorem Go.join {α : Type} {Q : Outcome → State → Prop} {S : State} (C : α → Prop) (F : α → State) (k : ∀ r, C r → Go p e below Q (F r)) (j : (∀ r, C r → Go p e below Q (F r)) → Go p e below Q S) : Go p e below Q S := j k
theorem Go.joinT {α : Type} {Q : Outcome → State → Prop} {S : State} (X : Stand p l e R s m args below meth c T locs cells slots) (eT : T.heap = h) (C : α → Prop) (F : State → α → State) (k : ∀ T', Stand p l e R s m args below meth c T' locs cells slots → T'.heap = h → ∀ r, C r → Go p e below Q (F T' r)) (j : (∀ T', Stand p l e R s m args below meth c T' locs cells slots → T'.heap = h → ∀ r, C r → Go p e below Q (F T' r)) → Go p e below Q S) : Go p e below Q S := j k
theorem Go.loop {α : Type} {Q : Outcome → State → Prop} (I : Nat → α → Prop) (F : α → State) (k0 : Nat) (x0 : α) (h0 : I k0 x0) (step : ∀ k x, I k x → (∀ k' x', k' < k → I k' x' → Go p e below Q (F x')) → Go p e below Q (F x)) : Go p e below Q (F x0) := by
  have H : ∀ k x, I k x → Go p e below Q (F x) := by
    intro k
    induction k using Nat.strongRecOn with
    | _ k ih => intro x hx; exact step k x hx fun k' x' hk hx' => ih k' hk x' hx'
  exact H k0 x0 h0
theorem Go.ret {Qn : Option Value → Heap → List Loc → Prop} {rc rs : Nat} (X : Stand p l e R s m args below meth c T locs cells slots) {v : Option Value} (hv : meth.sig.returnType = none → v = none) (hlk : meth.locks = false) {f : JFrame}
    (st : ∀ fs, (∀ (f : JFrame) (acts : List Action), f.method = m → f.locked = none → f.entered = [] → (doReturn e (T.setTop f) acts v).1 = T.setFrames fs) → Steps p.tables e below (T.setTop f) (T.setFrames fs))
    (hc : cells ≤ rc) (hs : slots ≤ rs) (hQ : Qn v T.heap locs) : Go p e below (fun o U' => ∃ v L, o = .returned v ∧ Qn v U'.heap L ∧ FrameEnd s o U' L rc rs) (T.setTop f) := by
  obtain ⟨fs, hr, hrun, hended, hW, hsame⟩ := X.leave (v := v) hv hlk
  exact ⟨_, _, st fs hr, hrun, hended, v, locs, rfl, hQ, ⟨_, rfl⟩, hW, hsame.mono hc hs⟩
abbrev Con (l : Launch) (Z : State) (y : MethodName) (bytes : ByteArray) (maxL : Nat) (ret : Option FieldType) (ws : List Jvm.Cond) (rm : Room) (as' : Array Value) (h : Heap) (rc rs : Nat) (Q : Option Value → Heap → List Loc → Prop) : Prop :=
  MetFree l y (head1 (Jvm.Cond.code y bytes maxL ret :: ws) rm) (fun a U => a = as' ∧ Z.Warmed39 U.vm ∧ U.heap = h) (fun _ _ _ _ _ => True) (fun _ U o U' => ∃ v L, o = .returned v ∧ Q v U'.heap L ∧ FrameEnd U o U' L rc rs)
theorem own_eh {a : Addr} {cl : Cell} (eT : T.heap = h) (q : h[a]? = some cl) : T.heap[a]? = some cl := by rw [eT]; exact q
theorem own_callS {own : String} {index : Nat} {y : MethodName} {bytes : ByteArray} {maxL : Nat} {ret : Option FieldType} {rm : Room} {as' : Array Value} {Q : Option Value → Heap → List Loc → Prop} {W : Nat} {g : JFrame} {argsL rest : List Value}
    (X : Stand p l e R s m args below meth c T locs cells slots) (hx : p.tables.exec = Jvm.exec) (hZ : Z.Warmed39 s.vm) (eT : T.heap = h) (hown : s.vm.findClass own = some m.cls)
    (w1 : (Jvm.Cond.methodLink own index y).before a0 Z = true) (w2 : (Jvm.Cond.static y).before a0 Z = true) (w3 : (Jvm.Cond.initialized y.cls).before a0 Z = true) (w4 : (Jvm.Cond.code y bytes maxL ret).before a0 Z = true)
    (hy : y.cls ≠ "java/lang/invoke/MethodHandle" ∧ y.cls ≠ "java/lang/invoke/VarHandle")
    (hM : Con l Z y bytes maxL ret [] rm as' h rm.cells rm.slots Q)
    (hf : rm.frames + 1 ≤ R.frames) (hl : W + (maxL + 11) + rm.locals ≤ R.locals) (hc : cells + rm.cells ≤ R.cells) (hs : slots + rm.slots ≤ R.slots)
    (hg : g.method = m) (hsize : g.locals.size = c.maxLocals) (has : argsL.toArray = as') (hlen : ∀ sig, parseMethodDescriptor y.desc = some sig → argsL.length = sig.parameters.length)
    (hstack : g.stack = argsL.reverse ++ rest) (hW : 2 * g.monitorRoom + (rest.map fun v => v.category).sum ≤ W) (hdg : decode c.code g.pc = .ok (.invokestatic index, 3)) :
    ∃ v T' L, Stand p l e R s m args below meth c T' (locs ++ L) (cells + rm.cells) (slots + rm.slots) ∧ Q v T'.heap L ∧ ∀ target, Steps p.tables e below (T'.setTop { g with pc := g.pc + 3, stack := v.toList ++ rest }) target → Steps p.tables e below (T.setTop g) target := by
  obtain ⟨v, _, ⟨T', L', k', n'⟩, -, X', ⟨L, hQ, l', y', z'⟩, st⟩ := Jvm.LawKit.callS X hx (y := y) hown (mvT hZ w1) (mvT hZ w2) (mvT hZ w3) (mvT hZ w4) hy (backOf (W := W) hM hZ w4 w3 hf hl) (g := g) hg hsize (argsL := argsL) (rest := rest) hlen hstack hW hdg (fun _ _ => ⟨has, eT, hc, hs⟩)
  dsimp only [Pt.U, Pt.locs, Pt.cells, Pt.slots] at X' l' y' z' st hQ
  subst l' y' z'
  exact ⟨v, T', L, X', hQ, st⟩
theorem own_callI {own : String} {index : Nat} {y : MethodName} {bytes : ByteArray} {maxL : Nat} {rm : Room} {as' : Array Value} {Q : Option Value → Heap → List Loc → Prop} {W : Nat} {g : JFrame} {a : Addr} {argsL rest : List Value}
    (X : Stand p l e R s m args below meth c T locs cells slots) (hx : p.tables.exec = Jvm.exec) (hZ : Z.Warmed39 s.vm) (eT : T.heap = h) (hown : s.vm.findClass own = some m.cls) (hyn : y.name = "<init>")
    (w1 : (Jvm.Cond.methodLink own index y).before a0 Z = true) (w2 : (Jvm.Cond.instanceMethod y).before a0 Z = true) (w3 : (Jvm.Cond.initialized y.cls).before a0 Z = true) (w4 : (Jvm.Cond.code y bytes maxL none).before a0 Z = true)
    (hy : y.cls ≠ "java/lang/invoke/MethodHandle" ∧ y.cls ≠ "java/lang/invoke/VarHandle")
    (hM : Con l Z y bytes maxL none [] rm as' h rm.cells rm.slots Q)
    (hf : rm.frames + 1 ≤ R.frames) (hl : W + (maxL + 11) + rm.locals ≤ R.locals) (hc : cells + rm.cells ≤ R.cells) (hs : slots + rm.slots ≤ R.slots)
    (hg : g.method = m) (hsize : g.locals.size = c.maxLocals) (has : (Value.ref a :: argsL).toArray = as') (hlen : ∀ sig, parseMethodDescriptor y.desc = some sig → argsL.length = sig.parameters.length)
    (hstack : g.stack = argsL.reverse ++ .ref a :: rest) (hW : 2 * g.monitorRoom + (rest.map fun v => v.category).sum ≤ W) (hdg : decode c.code g.pc = .ok (.invokespecial index, 3)) :
    ∃ v T' L, Stand p l e R s m args below meth c T' (locs ++ L) (cells + rm.cells) (slots + rm.slots) ∧ Q v T'.heap L ∧ ∀ target, Steps p.tables e below (T'.setTop { g with pc := g.pc + 3, stack := v.toList ++ rest }) target → Steps p.tables e below (T.setTop g) target := by
  obtain ⟨v, _, ⟨T', L', k', n'⟩, -, X', ⟨L, hQ, l', y', z'⟩, st⟩ := X.specialBack hx (y := y) hyn hown (mvT hZ w1) (mvT hZ w2) (mvT hZ w4) hy (backOf (W := W) hM hZ w4 w3 hf hl) (g := g) hg hsize (Steps.refl _) (a := a) (argsL := argsL) (rest := rest) hlen hstack hW hdg (fun _ _ => ⟨has, eT, hc, hs⟩)
  dsimp only [Pt.U, Pt.locs, Pt.cells, Pt.slots] at X' l' y' z' st hQ
  subst l' y' z'
  exact ⟨v, T', L, X', hQ, fun _ k => st.trans k⟩
theorem own_callV {own C : String} {index : Nat} {y z : MethodName} {bytes : ByteArray} {maxL : Nat} {ret : Option FieldType} {rm : Room} {as' : Array Value} {Q : Option Value → Heap → List Loc → Prop} {W : Nat} {g : JFrame} {a : Addr} {argsL rest : List Value}
    (X : Stand p l e R s m args below meth c T locs cells slots) (hx : p.tables.exec = Jvm.exec) (hZ : Z.Warmed39 s.vm) (eT : T.heap = h) (hown : s.vm.findClass own = some m.cls)
    (w1 : (Jvm.Cond.methodLink own index y).before a0 Z = true) (w2 : (Jvm.Cond.declares y).before a0 Z = true) (nf : NotFace s y) (w5 : (Jvm.Cond.selects C y z).before a0 Z = true) (w6 : (Jvm.Cond.instanceMethod z).before a0 Z = true) (w3 : (Jvm.Cond.initialized z.cls).before a0 Z = true) (w4 : (Jvm.Cond.code z bytes maxL ret).before a0 Z = true)
    (hy : y.cls ≠ "java/lang/invoke/MethodHandle" ∧ y.cls ≠ "java/lang/invoke/VarHandle") (E : Exa Z h a C)
    (hM : Con l Z z bytes maxL ret [] rm as' h rm.cells rm.slots Q)
    (hf : rm.frames + 1 ≤ R.frames) (hl : W + (maxL + 11) + rm.locals ≤ R.locals) (hc : cells + rm.cells ≤ R.cells) (hs : slots + rm.slots ≤ R.slots)
    (hg : g.method = m) (hsize : g.locals.size = c.maxLocals) (has : (Value.ref a :: argsL).toArray = as') (hlen : ∀ sig, parseMethodDescriptor y.desc = some sig → argsL.length = sig.parameters.length)
    (hstack : g.stack = argsL.reverse ++ .ref a :: rest) (hW : 2 * g.monitorRoom + (rest.map fun v => v.category).sum ≤ W) (hdg : decode c.code g.pc = .ok (.invokevirtual index, 3)) :
    ∃ v T' L, Stand p l e R s m args below meth c T' (locs ++ L) (cells + rm.cells) (slots + rm.slots) ∧ Q v T'.heap L ∧ ∀ target, Steps p.tables e below (T'.setTop { g with pc := g.pc + 3, stack := v.toList ++ rest }) target → Steps p.tables e below (T.setTop g) target := by
  obtain ⟨cq, kq, qa, qb, qc⟩ := isOf hZ eT E
  obtain ⟨v, _, ⟨T', L', k', n'⟩, -, X', ⟨L, hQ, l', y', z'⟩, st⟩ := X.virtualBack hx (y := y) (z := z) hown (mvT hZ w1) (mvT hZ w2) nf (mvT hZ w5) (mvT hZ w6) hy (backOf (W := W) hM hZ w4 w3 hf hl) qa qc (g := g) hg hsize (Steps.refl _) (argsL := argsL) (rest := rest) hlen hstack hW hdg (fun _ _ => ⟨has, eT, hc, hs⟩)
  dsimp only [Pt.U, Pt.locs, Pt.cells, Pt.slots] at X' l' y' z' st hQ
  subst l' y' z'
  exact ⟨v, T', L, X', hQ, fun _ k => st.trans k⟩
theorem own_sta_keep {C n d : String} {w : Value} {h h' : Heap} {ws : List Addr} (F : Sta Z h C n d w) (K : Keep h h' ws) (q : ∀ x ∈ ws, ∃ cl : Cell, h[x]? = some cl ∧ cl.vm.isStatics = false) : Sta Z h' C n d w := by
  obtain ⟨cf, i, k, f, st, cell, h1, h2, h3, h4, h5, h6, h7⟩ := F
  refine ⟨cf, i, k, f, st, cell, h1, h2, h3, h4, K.2.1 st cell h5 fun z => ?_, h6, h7⟩
  obtain ⟨cl, q1, q2⟩ := q st z
  cases h5.symm.trans q1
  rw [h6] at q2; cases q2
theorem own_exa_plain {a : Addr} {C : String} {h : Heap} (F : Exa Z h a C) : ∃ cl : Cell, h[a]? = some cl ∧ cl.vm.isStatics = false := by
  obtain ⟨cell, k, h1, -, -, h4, -⟩ := F; exact ⟨cell, h1, h4⟩
theorem own_arv_plain {a : Addr} {k : ClassId} {ty : FieldType} {z : Int32} {vs : List Value} {dv : Value} {h : Heap} (F : Arv Z h a k ty z vs dv) : ∃ cl : Cell, h[a]? = some cl ∧ cl.vm.isStatics = false := by
  obtain ⟨cell, A, -⟩ := F; exact ⟨cell, A.1, A.plain⟩
theorem own_getR {own O n d : String} {index : Nat} {a : Addr} {v : Value} {g : JFrame} {rest : List Value} (X : Stand p l e R s m args below meth c T locs cells slots) (hx : p.tables.exec = Jvm.exec) (hZ : Z.Warmed39 s.vm) (hown : s.vm.findClass own = some m.cls)
    (w : (Jvm.Cond.fieldRef own index O n d).before a0 Z = true) (eT : T.heap = h) (F : Fld Z h a O n d v) (hg : g.method = m) (hs : g.stack = .ref a :: rest) (hd : decode c.code g.pc = .ok (.getfield index, 3)) :
    ∀ target, Steps p.tables e below (T.setTop { g with pc := g.pc + 3, stack := v :: rest }) target → Steps p.tables e below (T.setTop g) target := by
  have hU : Z.Warmed39 T.vm := wtrans hZ X.warmed
  have w2 := Cond.fieldRef_warmed39 hU w
  have hc : (Z.setVm T.vm).vm.findClass own = some m.cls := by
    show T.vm.findClass own = some m.cls
    rw [X.warmed.alike.findClass]; exact hown
  obtain ⟨c1, k1, i1, f1, hf1, hr⟩ := Cond.fieldRef_spec hc w2
  obtain ⟨cell, cf, k, i, f, h1, h2, h3, h4, -, -, h7⟩ := F
  obtain ⟨k', hi, -⟩ := State.fieldFound?_setVm (s := Z) hU.alike h2
  cases hi.symm.trans hf1
  intro t kk
  exact (X.getfieldR hx hg hr h3 hs (by rw [eT]; exact h1) h4 h7 hd (Steps.refl _)).trans kk
theorem own_callP {own C : String} {index : Nat} {y : MethodName} {bytes : ByteArray} {maxL : Nat} {ret : Option FieldType} {rm : Room} {as' : Array Value} {Q : Option Value → Heap → List Loc → Prop} {W : Nat} {g : JFrame} {a : Addr} {argsL rest : List Value}
    (X : Stand p l e R s m args below meth c T locs cells slots) (hx : p.tables.exec = Jvm.exec) (hZ : Z.Warmed39 s.vm) (eT : T.heap = h) (hown : s.vm.findClass own = some m.cls)
    (w1 : (Jvm.Cond.methodLink own index y).before a0 Z = true) (w2 : (Jvm.Cond.instanceMethod y).before a0 Z = true) (w5 : (Jvm.Cond.selects y.cls y y).before a0 Z = true) (w6 : (Jvm.Cond.privateMethod y).before a0 Z = true) (w3 : (Jvm.Cond.initialized y.cls).before a0 Z = true) (w4 : (Jvm.Cond.code y bytes maxL ret).before a0 Z = true)
    (hy : y.cls ≠ "java/lang/invoke/MethodHandle" ∧ y.cls ≠ "java/lang/invoke/VarHandle") (E : Exa Z h a C)
    (hM : Con l Z y bytes maxL ret [] rm as' h rm.cells rm.slots Q)
    (hf : rm.frames + 1 ≤ R.frames) (hl : W + (maxL + 11) + rm.locals ≤ R.locals) (hc : cells + rm.cells ≤ R.cells) (hs : slots + rm.slots ≤ R.slots)
    (hg : g.method = m) (hsize : g.locals.size = c.maxLocals) (has : (Value.ref a :: argsL).toArray = as') (hlen : ∀ sig, parseMethodDescriptor y.desc = some sig → argsL.length = sig.parameters.length)
    (hstack : g.stack = argsL.reverse ++ .ref a :: rest) (hW : 2 * g.monitorRoom + (rest.map fun v => v.category).sum ≤ W) (hdg : decode c.code g.pc = .ok (.invokevirtual index, 3)) :
    ∃ v T' L, Stand p l e R s m args below meth c T' (locs ++ L) (cells + rm.cells) (slots + rm.slots) ∧ Q v T'.heap L ∧ ∀ target, Steps p.tables e below (T'.setTop { g with pc := g.pc + 3, stack := v.toList ++ rest }) target → Steps p.tables e below (T.setTop g) target := by
  obtain ⟨cq, q1, q2⟩ := E.cell
  obtain ⟨v, _, ⟨T', L', k', n'⟩, -, X', ⟨L, hQ, l', y', z'⟩, st⟩ := X.privateBack hx (y := y) hown (mvT hZ w1) (mvT hZ w2) (mvT hZ w5) (Cond.privateMethod_at (mvP hZ w6 (args := #[]))) (mvT hZ w4) hy (backOf (W := W) hM hZ w4 w3 hf hl) (g := g) hg hsize (Steps.refl _) (a := a) (by rw [eT]; exact q1) q2 (argsL := argsL) (rest := rest) hlen hstack hW hdg (fun _ _ => ⟨has, eT, hc, hs⟩)
  dsimp only [Pt.U, Pt.locs, Pt.cells, Pt.slots] at X' l' y' z' st hQ
  subst l' y' z'
  exact ⟨v, T', L, X', hQ, fun _ k => st.trans k⟩
theorem own_callF {own C : String} {index count : Nat} {xi y : MethodName} {bytes : ByteArray} {maxL : Nat} {ret : Option FieldType} {rm : Room} {as' : Array Value} {Q : Option Value → Heap → List Loc → Prop} {W : Nat} {g : JFrame} {a : Addr} {argsL rest : List Value}
    (X : Stand p l e R s m args below meth c T locs cells slots) (hx : p.tables.exec = Jvm.exec) (hZ : Z.Warmed39 s.vm) (eT : T.heap = h) (hown : s.vm.findClass own = some m.cls)
    (w1 : (Jvm.Cond.methodLink own index xi).before a0 Z = true) (w2 : (Jvm.Cond.declares xi).before a0 Z = true) (w7 : (Jvm.Cond.interfaceMethod xi.cls xi.cls xi.name xi.desc).before args s = true) (w5 : (Jvm.Cond.selects C xi y).before a0 Z = true) (w6 : (Jvm.Cond.instanceMethod y).before a0 Z = true)
    (w8 : (Jvm.Cond.publicMethod y).before a0 Z = true) (w9 : (Jvm.Cond.unhidden C xi.name xi.desc).before a0 Z = true) (w10 : (Jvm.Cond.castable C xi.cls).before a0 Z = true) (w3 : (Jvm.Cond.initialized y.cls).before a0 Z = true) (w4 : (Jvm.Cond.code y bytes maxL ret).before a0 Z = true)
    (hy : xi.cls ≠ "java/lang/invoke/MethodHandle" ∧ xi.cls ≠ "java/lang/invoke/VarHandle") (E : Exa Z h a C)
    (hM : Con l Z y bytes maxL ret [] rm as' h rm.cells rm.slots Q)
    (hf : rm.frames + 1 ≤ R.frames) (hl : W + (maxL + 11) + rm.locals ≤ R.locals) (hc : cells + rm.cells ≤ R.cells) (hs : slots + rm.slots ≤ R.slots)
    (hg : g.method = m) (hsize : g.locals.size = c.maxLocals) (has : (Value.ref a :: argsL).toArray = as') (hlen : ∀ sig, parseMethodDescriptor xi.desc = some sig → argsL.length = sig.parameters.length)
    (hstack : g.stack = argsL.reverse ++ .ref a :: rest) (hW : 2 * g.monitorRoom + (rest.map fun v => v.category).sum ≤ W) (hdg : decode c.code g.pc = .ok (.invokeinterface index count, 5)) :
    ∃ v T' L, Stand p l e R s m args below meth c T' (locs ++ L) (cells + rm.cells) (slots + rm.slots) ∧ Q v T'.heap L ∧ ∀ target, Steps p.tables e below (T'.setTop { g with pc := g.pc + 5, stack := v.toList ++ rest }) target → Steps p.tables e below (T.setTop g) target := by
  obtain ⟨cq, kq, qa, qb, qc⟩ := isOf hZ eT E
  obtain ⟨v, _, ⟨T', L', k', n'⟩, -, X', ⟨L, hQ, l', y', z'⟩, st⟩ := X.interfaceBack hx (xi := xi) (y := y) hown (mvT hZ w1) (mvT hZ w2) w7 (mvT hZ w5) (mvT hZ w6) (mvT hZ w8) (mvT hZ w9) (mvT hZ w10) hy (backOf (W := W) hM hZ w4 w3 hf hl) qa qb qc (g := g) hg hsize (Steps.refl _) (argsL := argsL) (rest := rest) hlen hstack hW hdg (fun _ _ => ⟨has, eT, hc, hs⟩)
  dsimp only [Pt.U, Pt.locs, Pt.cells, Pt.slots] at X' l' y' z' st hQ
  subst l' y' z'
  exact ⟨v, T', L, X', hQ, fun _ k => st.trans k⟩
theorem own_ns_root {O K : String} {n : Nat} (w : (Jvm.Cond.noSuperclass O).before a0 Z = true) (wk : (Jvm.Cond.instantiable K n).before a0 Z = true) (hn : O ≠ K) : NS Z O K := by
  obtain ⟨c, k, h1, h2, h3, -, -⟩ := Cond.noSuperclass_spec w
  obtain ⟨t, kt, g1, -⟩ := Cond.instantiable_spec wk
  have ne := ids_ne h1 g1 hn
  refine ⟨c, t, h1, g1, fun fuel => ?_⟩
  cases fuel with
  | zero => rfl
  | succ f => simp [Vm.isSubclassAux, ne, h2, h3]
theorem own_ns_no {C S K : String} {n : Nat} (w : (Jvm.Cond.superclass C S).before a0 Z = true) (wk : (Jvm.Cond.instantiable K n).before a0 Z = true) (hN : NS Z C K) (hn : C ≠ K) : ∃ c t, Z.vm.findClass C = some c ∧ Z.vm.findClass K = some t ∧ Z.vm.assignable c t = false := by
  obtain ⟨c, t, h0, g0, n3⟩ := hN
  obtain ⟨p, k, kp, h1, h2, h3, h4, h5, -, h7⟩ := Cond.superclass_spec h0 w
  obtain ⟨t', kt, g1, g2, g3, g4, -⟩ := Cond.instantiable_spec wk
  cases g0.symm.trans g1
  have g7 : kt.isInterface = false := by
    cases hq : kt.isInterface
    · rfl
    · simp [hq] at g4
  have ne := ids_ne h0 g0 hn
  refine ⟨c, t, h0, g0, ?_⟩
  show Z.vm.assignableAux (255 + 1) c t = false
  simp [Vm.assignableAux, ne, h2, g2, h5, g3, g7, Vm.isSubclass, n3]
end OwnKit
section OwnStart
variable {args : Array Value} {Z : State}
theorem own_eq_int {t : Term} {k : Int32} (h : (Jvm.Cond.eq t (.int k)).value args Z none Z [] = some true) : t.eval args Z none [] Z = some (.int k) := by
  obtain ⟨a, b, h1, h2, h3, h4⟩ := cmp_v (Or.inl h)
  have hb : b = .int k := Option.some.inj (h2.symm.trans (Term.int_eval k))
  subst hb
  obtain ⟨z, rfl⟩ : ∃ z, a = .int z := h4
  have q : z = k := by simpa [Cond.value, h1, h2] using h
  rw [h1, q]
theorem own_eq_ref {t u : Term} {a : Addr} (h : (Jvm.Cond.eq t u).value args Z none Z [] = some true) (hu : u.eval args Z none [] Z = some (.ref a)) : t.eval args Z none [] Z = some (.ref a) := by
  obtain ⟨x, y, h1, h2, h3, h4⟩ := cmp_v (Or.inl h)
  have hb : y = .ref a := Option.some.inj (h2.symm.trans hu)
  subst hb
  obtain ⟨-, q⟩ : Value.isRef (.ref a) = true ∧ x.isRef = true := h4
  have e := eq_R (a := t) (b := u) h1 h2 q rfl
  rw [e] at h
  have r : x = .ref a := by simpa using h
  rw [h1, r]
theorem own_ne0 {t : Term} {z : Int32} (ht : t.eval args Z none [] Z = some (.int z)) (h : (Jvm.Cond.not (Jvm.Cond.eq t (.int 0))).value args Z none Z [] = some true) : z ≠ 0 := by
  have q := not_v h
  intro e
  subst e
  simp [Cond.value, ht, Term.eval] at q
theorem own_fld {t : Term} {C n d : String} {a : Addr} {v : Value} (ht : t.eval args Z none [] Z = some (.ref a)) (h : (Term.field t C n d).eval args Z none [] Z = some v) : Fld Z Z.heap a C n d v := Fld.start ((fld_at ht).symm.trans h)
theorem own_len {t : Term} {a : Addr} {c : Cell} {k : Int32} {ty : FieldType} (ht : t.eval args Z none [] Z = some (.ref a)) (A : Arr Z Z.heap a c ty) (h : (Term.length t).eval args Z none [] Z = some (.int k)) : c.slots.size < 2 ^ 31 ∧ c.slots.size.toInt32 = k := by
  have q : Z.arrayAt? a = some c := A.fin (Vm.Alike.refl _)
  by_cases hl : c.slots.size < 2 ^ 31
  · have e := (len_f (t := t) ht q hl).symm.trans h
    exact ⟨hl, by simpa using e⟩
  · exfalso
    have hl' : ¬ c.slots.size < 2147483648 := hl
    simp [Term.eval, ht, q, hl'] at h
theorem own_slot {t : Term} {a : Addr} {c : Cell} {ty : FieldType} {v : Value} {j : Int32} (ht : t.eval args Z none [] Z = some (.ref a)) (A : Arr Z Z.heap a c ty) (h : (Term.elem t (.int j)).eval args Z none [] Z = some v) : c.slots[j.toNatClampNeg]? = some v := (elem_in h ht (Term.int_eval j) A.1).2
end OwnStart
theorem djdk_30_method_1_code_0 : decode jdk_30_method_1_code 0 = .ok (.aload_n 0, 1) := by decide +kernel
theorem djdk_30_method_1_code_1 : decode jdk_30_method_1_code 1 = .ok (.invokespecial 1, 3) := by decide +kernel
theorem djdk_30_method_1_code_4 : decode jdk_30_method_1_code 4 = .ok (.return_, 1) := by decide +kernel
theorem dprog_20_method_1_code_0 : decode prog_20_method_1_code 0 = .ok (.aload_n 0, 1) := by decide +kernel
theorem dprog_20_method_1_code_1 : decode prog_20_method_1_code 1 = .ok (.invokespecial 1, 3) := by decide +kernel
theorem dprog_20_method_1_code_4 : decode prog_20_method_1_code 4 = .ok (.aload_n 2, 1) := by decide +kernel
theorem dprog_20_method_1_code_5 : decode prog_20_method_1_code 5 = .ok (.arraylength, 1) := by decide +kernel
theorem dprog_20_method_1_code_6 : decode prog_20_method_1_code 6 = .ok (.ifCond .ne 13, 3) := by decide +kernel
theorem dprog_20_method_1_code_19 : decode prog_20_method_1_code 19 = .ok (.aload_n 0, 1) := by decide +kernel
theorem dprog_20_method_1_code_20 : decode prog_20_method_1_code 20 = .ok (.aload_n 1, 1) := by decide +kernel
theorem dprog_20_method_1_code_21 : decode prog_20_method_1_code 21 = .ok (.putfield 14, 3) := by decide +kernel
theorem dprog_20_method_1_code_24 : decode prog_20_method_1_code 24 = .ok (.aload_n 0, 1) := by decide +kernel
theorem dprog_20_method_1_code_25 : decode prog_20_method_1_code 25 = .ok (.aload_n 2, 1) := by decide +kernel
theorem dprog_20_method_1_code_26 : decode prog_20_method_1_code 26 = .ok (.putfield 20, 3) := by decide +kernel
theorem dprog_20_method_1_code_29 : decode prog_20_method_1_code 29 = .ok (.return_, 1) := by decide +kernel
theorem dprog_20_method_3_code_0 : decode prog_20_method_3_code 0 = .ok (.aload_n 0, 1) := by decide +kernel
theorem dprog_20_method_3_code_1 : decode prog_20_method_3_code 1 = .ok (.getfield 20, 3) := by decide +kernel
theorem dprog_20_method_3_code_4 : decode prog_20_method_3_code 4 = .ok (.invokevirtual 30, 3) := by decide +kernel
theorem dprog_20_method_3_code_7 : decode prog_20_method_3_code 7 = .ok (.checkcast 31, 3) := by decide +kernel
theorem dprog_20_method_3_code_10 : decode prog_20_method_3_code 10 = .ok (.astore_n 2, 1) := by decide +kernel
theorem dprog_20_method_3_code_11 : decode prog_20_method_3_code 11 = .ok (.aload_n 2, 1) := by decide +kernel
theorem dprog_20_method_3_code_12 : decode prog_20_method_3_code 12 = .ok (.iconst 0, 1) := by decide +kernel
theorem dprog_20_method_3_code_13 : decode prog_20_method_3_code 13 = .ok (.aload_n 2, 1) := by decide +kernel
theorem dprog_20_method_3_code_14 : decode prog_20_method_3_code 14 = .ok (.iconst 0, 1) := by decide +kernel
theorem dprog_20_method_3_code_15 : decode prog_20_method_3_code 15 = .ok (.baload, 1) := by decide +kernel
theorem dprog_20_method_3_code_16 : decode prog_20_method_3_code 16 = .ok (.bipush 63, 2) := by decide +kernel
theorem dprog_20_method_3_code_18 : decode prog_20_method_3_code 18 = .ok (.iand, 1) := by decide +kernel
theorem dprog_20_method_3_code_19 : decode prog_20_method_3_code 19 = .ok (.aload_n 1, 1) := by decide +kernel
theorem dprog_20_method_3_code_20 : decode prog_20_method_3_code 20 = .ok (.getfield 35, 3) := by decide +kernel
theorem dprog_20_method_3_code_23 : decode prog_20_method_3_code 23 = .ok (.bipush 6, 2) := by decide +kernel
theorem dprog_20_method_3_code_25 : decode prog_20_method_3_code 25 = .ok (.ishl, 1) := by decide +kernel
theorem dprog_20_method_3_code_26 : decode prog_20_method_3_code 26 = .ok (.ior, 1) := by decide +kernel
theorem dprog_20_method_3_code_27 : decode prog_20_method_3_code 27 = .ok (.i2b, 1) := by decide +kernel
theorem dprog_20_method_3_code_28 : decode prog_20_method_3_code 28 = .ok (.bastore, 1) := by decide +kernel
theorem dprog_20_method_3_code_29 : decode prog_20_method_3_code 29 = .ok (.new 15, 3) := by decide +kernel
theorem dprog_20_method_3_code_32 : decode prog_20_method_3_code 32 = .ok (.dup, 1) := by decide +kernel
theorem dprog_20_method_3_code_33 : decode prog_20_method_3_code 33 = .ok (.aload_n 0, 1) := by decide +kernel
theorem dprog_20_method_3_code_34 : decode prog_20_method_3_code 34 = .ok (.getfield 14, 3) := by decide +kernel
theorem dprog_20_method_3_code_37 : decode prog_20_method_3_code 37 = .ok (.aload_n 2, 1) := by decide +kernel
theorem dprog_20_method_3_code_38 : decode prog_20_method_3_code 38 = .ok (.invokespecial 39, 3) := by decide +kernel
theorem dprog_20_method_3_code_41 : decode prog_20_method_3_code 41 = .ok (.areturn, 1) := by decide +kernel
theorem dprog_20_method_8_code_0 : decode prog_20_method_8_code 0 = .ok (.aload_n 0, 1) := by decide +kernel
theorem dprog_20_method_8_code_1 : decode prog_20_method_8_code 1 = .ok (.getfield 14, 3) := by decide +kernel
theorem dprog_20_method_8_code_4 : decode prog_20_method_8_code 4 = .ok (.areturn, 1) := by decide +kernel
theorem dprog_20_method_9_code_0 : decode prog_20_method_9_code 0 = .ok (.aload_n 0, 1) := by decide +kernel
theorem dprog_20_method_9_code_1 : decode prog_20_method_9_code 1 = .ok (.getfield 20, 3) := by decide +kernel
theorem dprog_20_method_9_code_4 : decode prog_20_method_9_code 4 = .ok (.areturn, 1) := by decide +kernel
theorem pn_0 : plainName "java/lang/Record" = true := by first | (simp [plainName, overriddenIn]; done) | decide +kernel
theorem pn_1 : plainName "com/example/consulate/consulate/cvc/Chat" = true := by first | (simp [plainName, overriddenIn]; done) | decide +kernel
theorem pn_2 : plainName "com/example/consulate/consulate/cvc/ChatWithRolePinLaw" = true := by first | (simp [plainName, overriddenIn]; done) | decide +kernel
theorem pd_0 : parseMethodDescriptor "()V" = some ⟨[], none⟩ := by decide +kernel
theorem pd_1 : parseMethodDescriptor "(Lcom/example/consulate/consulate/cvc/Chat$Template;[B)V" = some ⟨[(.object "com/example/consulate/consulate/cvc/Chat$Template"), (.array .byte)], none⟩ := by decide +kernel
theorem pd_2 : parseMethodDescriptor "(Lcom/example/consulate/consulate/cvc/Chat$Role;)Lcom/example/consulate/consulate/cvc/Chat;" = some ⟨[(.object "com/example/consulate/consulate/cvc/Chat$Role")], some (.object "com/example/consulate/consulate/cvc/Chat")⟩ := by decide +kernel
theorem pd_3 : parseMethodDescriptor "()[B" = some ⟨[], some (.array .byte)⟩ := by decide +kernel
theorem pd_4 : parseMethodDescriptor "()Lcom/example/consulate/consulate/cvc/Chat$Template;" = some ⟨[], some (.object "com/example/consulate/consulate/cvc/Chat$Template")⟩ := by decide +kernel
theorem ef_1 (m : MethodId) (o0 : Addr) : entryFrame m #[(.ref o0)] 1 = mkF m 0 #[.val (.ref o0)] [] := by first | (simp [entryFrame, mkF, argsToLocals, Value.category, maxLocals]; done) | rfl
def Q1 (Z : State) (o0 : Addr) (h0 : Heap) (n0 : Nat) (v : Option Value) (h : Heap) (L : List Loc) : Prop := (v = none ∧ Fr n0 L ∧ h = h0)
set_option maxRecDepth 65536 in
set_option maxHeartbeats 40000000 in
theorem rm1 (l : Launch) (Z : State) (a0 : Array Value) (hw : ∀ d ∈ tables_1, d.before a0 Z = true) (ws : List Jvm.Cond) (o0 : Addr) (h0 : Heap) (n0 : Nat) (Z0 : n0 ≤ h0.size)  :
    Con l Z (⟨"java/lang/Record", "<init>", "()V"⟩ : MethodName) jdk_30_method_1_code 1 none ws ({ frames := 1, cells := 0, slots := 0, locals := 12 } : Room) #[(.ref o0)] h0 0 0 (Q1 Z o0 h0 n0) := by
  refine MetFree.of_bodySF (plainFor_of_name pn_0) hisR ?_
  intro p e s m args below meth c s₁ Bd hml0 hP hK
  obtain ⟨rfl, hZ, hh⟩ := hP
  have hx := Bd.exec
  have hby := Bd.bytes
  have hml : c.maxLocals = 1 := hml0
  have hown : s.vm.findClass "java/lang/Record" = some m.cls := findClass_of_methodNamed Bd.named
  have hnm := (name_of_methodNamed Bd.named Bd.method).1
  have X0 : Stand p l e ({ frames := 1, cells := 0, slots := 0, locals := 12 } : Room) s m #[(.ref o0)] below meth c s₁ [] 0 0 := Stand.of_body Bd
  have e0 : s₁.heap = h0 := by rw [← hh, Bd.state]; rfl
  have N0 := Fr.nil n0
  refine Go.of ?_
  refine Go.st (S' := s₁.setTop (mkF m 0 #[.val (.ref o0)] [])) (fun t k => castTop (ef_1 m o0) k) ?_
  refine Go.st (S' := s₁.setTop (mkF m 1 #[.val (.ref o0)] [(.ref o0)])) (fun t k => XS.aloadN X0.here hx rfl (hb hby djdk_30_method_1_code_0) rfl rfl k) ?_
  obtain ⟨T83, X83, e83, st83⟩ := initO X0 hx hZ hown (hw _ (List.mem_of_getElem? (i := 19) rfl)) (hw _ (List.mem_of_getElem? (i := 20) rfl)) (hw _ (List.mem_of_getElem? (i := 21) rfl)) e0 (g := (mkF m 1 #[.val (.ref o0)] [(.ref o0)])) rfl (by rw [hml]; rfl) rfl (hb hby djdk_30_method_1_code_1) (by decide) (W := 0) (by show 2 * 0 + _ ≤ _; exact Nat.le_of_eq rfl) (by decide)
  refine Go.st (S' := T83.setTop (mkF m 4 #[.val (.ref o0)] [])) st83 ?_
  exact Go.ret X83 (v := none) (fun _ => rfl) Bd.notSynchronized (fun fs hr => X83.returnOut hx Bd.returns (hb hby djdk_30_method_1_code_4) hr) (by decide) (by decide) (⟨rfl, N0, (e83)⟩)
theorem ef_2 (m : MethodId) (o0 : Addr) (o1 : Addr) (o2 : Addr) : entryFrame m #[(.ref o0), (.ref o1), (.ref o2)] 3 = mkF m 0 #[.val (.ref o0), .val (.ref o1), .val (.ref o2)] [] := by first | (simp [entryFrame, mkF, argsToLocals, Value.category, maxLocals]; done) | rfl
def Q2 (Z : State) (o0 : Addr) (o1 : Addr) (o2 : Addr) (k_o2 : ClassId) (e0_o2 : Int32) (u_o0_template : Value) (u_o0_data : Value) (h0 : Heap) (n0 : Nat) (v : Option Value) (h : Heap) (L : List Loc) : Prop := (v = none ∧ Fr n0 L ∧ Keep h0 h [o0] ∧ Exa Z h o0 "com/example/consulate/consulate/cvc/Chat" ∧ Fld Z h o0 "com/example/consulate/consulate/cvc/Chat" "template" "Lcom/example/consulate/consulate/cvc/Chat$Template;" (.ref o1) ∧ Fld Z h o0 "com/example/consulate/consulate/cvc/Chat" "data" "[B" (.ref o2))
set_option maxRecDepth 65536 in
set_option maxHeartbeats 40000000 in
theorem rm2 (l : Launch) (Z : State) (a0 : Array Value) (hw : ∀ d ∈ tables_1, d.before a0 Z = true) (ws : List Jvm.Cond) (o0 : Addr) (o1 : Addr) (o2 : Addr) (k_o2 : ClassId) (e0_o2 : Int32) (u_o0_template : Value) (u_o0_data : Value) (h0 : Heap) (n0 : Nat) (Z0 : n0 ≤ h0.size) (V_o2 : Arv Z h0 o2 k_o2 .byte (1 : Int32) [(.int e0_o2)] (.int (0 : Int32))) (E_o0 : Exa Z h0 o0 "com/example/consulate/consulate/cvc/Chat") (F_o0_template : Fld Z h0 o0 "com/example/consulate/consulate/cvc/Chat" "template" "Lcom/example/consulate/consulate/cvc/Chat$Template;" u_o0_template) (g_o0 : n0 ≤ o0) (F_o0_data : Fld Z h0 o0 "com/example/consulate/consulate/cvc/Chat" "data" "[B" u_o0_data) :
    Con l Z (⟨"com/example/consulate/consulate/cvc/Chat", "<init>", "(Lcom/example/consulate/consulate/cvc/Chat$Template;[B)V"⟩ : MethodName) prog_20_method_1_code 3 none ws ({ frames := 2, cells := 0, slots := 0, locals := 24 } : Room) #[(.ref o0), (.ref o1), (.ref o2)] h0 0 0 (Q2 Z o0 o1 o2 k_o2 e0_o2 u_o0_template u_o0_data h0 n0) := by
  refine MetFree.of_bodySF (plainFor_of_name pn_1) hisR ?_
  intro p e s m args below meth c s₁ Bd hml0 hP hK
  obtain ⟨rfl, hZ, hh⟩ := hP
  have hx := Bd.exec
  have hby := Bd.bytes
  have hml : c.maxLocals = 3 := hml0
  have hown : s.vm.findClass "com/example/consulate/consulate/cvc/Chat" = some m.cls := findClass_of_methodNamed Bd.named
  have hnm := (name_of_methodNamed Bd.named Bd.method).1
  have X0 : Stand p l e ({ frames := 2, cells := 0, slots := 0, locals := 24 } : Room) s m #[(.ref o0), (.ref o1), (.ref o2)] below meth c s₁ [] 0 0 := Stand.of_body Bd
  have e0 : s₁.heap = h0 := by rw [← hh, Bd.state]; rfl
  have N0 := Fr.nil n0
  refine Go.of ?_
  refine Go.st (S' := s₁.setTop (mkF m 0 #[.val (.ref o0), .val (.ref o1), .val (.ref o2)] [])) (fun t k => castTop (ef_2 m o0 o1 o2) k) ?_
  refine Go.st (S' := s₁.setTop (mkF m 1 #[.val (.ref o0), .val (.ref o1), .val (.ref o2)] [(.ref o0)])) (fun t k => XS.aloadN X0.here hx rfl (hb hby dprog_20_method_1_code_0) rfl rfl k) ?_
  obtain ⟨r84, T84, L84, X84, hQ84, st84⟩ := own_callI (W := 0) (a := o0) X0 hx hZ e0 hown (y := (⟨"java/lang/Record", "<init>", "()V"⟩ : MethodName)) rfl (hw _ (List.mem_of_getElem? (i := 14) rfl)) (hw _ (List.mem_of_getElem? (i := 15) rfl)) (hw _ (List.mem_of_getElem? (i := 17) rfl)) (hw _ (List.mem_of_getElem? (i := 18) rfl)) (by decide) (rm1 l Z a0 hw [] o0 h0 n0 Z0 ) (by decide) (by decide) (by decide) (by decide) (g := (mkF m 1 #[.val (.ref o0), .val (.ref o1), .val (.ref o2)] [(.ref o0)])) rfl (by rw [hml]; rfl) (argsL := []) (rest := []) rfl (lenOf pd_0 rfl) rfl (by show 2 * 0 + _ ≤ _; exact Nat.le_of_eq rfl) (hb hby dprog_20_method_1_code_1)
  obtain ⟨rfl, N84, e84⟩ := hQ84
  have N84_ := Fr.app N0 N84
  refine Go.st (S' := T84.setTop (mkF m 4 #[.val (.ref o0), .val (.ref o1), .val (.ref o2)] [])) st84 ?_
  refine Go.st (S' := T84.setTop (mkF m 5 #[.val (.ref o0), .val (.ref o1), .val (.ref o2)] [(.ref o2)])) (fun t k => XS.aloadN X84.here hx rfl (hb hby dprog_20_method_1_code_4) rfl rfl k) ?_
  obtain ⟨cl86, Ar86, -, S86, N86_, -, -⟩ := id V_o2
  refine Go.op (F := fun z => T84.setTop (mkF m 6 #[.val (.ref o0), .val (.ref o1), .val (.ref o2)] [(.int z)])) (x := cl86.slots.size.toInt32) (fun t k => X84.arraylength hx (own_eh e84 Ar86.1) (State.isArrayOf_alike hZ.alike Ar86.2.1) (g := (mkF m 5 #[.val (.ref o0), .val (.ref o1), .val (.ref o2)] [(.ref o2)])) rfl rfl (hb hby dprog_20_method_1_code_5) t k) ?_
  intro v87 hv87
  obtain rfl : (1 : Int32) = v87 := (hv87.trans (len_of S86 N86_)).symm
  refine Go.st (S' := T84.setTop (mkF m 19 #[.val (.ref o0), .val (.ref o1), .val (.ref o2)] [])) (fun t k => XS.ifYes X84.here hx rfl (pc0 := 6) (pc' := 19) rfl (hb hby dprog_20_method_1_code_6) rfl ((if0 _ _).trans (feq (by decide : (¬ ((1 : Int32) = (0 : Int32))))).2) (by decide) (by decide) k) ?_
  refine Go.st (S' := T84.setTop (mkF m 20 #[.val (.ref o0), .val (.ref o1), .val (.ref o2)] [(.ref o0)])) (fun t k => XS.aloadN X84.here hx rfl (hb hby dprog_20_method_1_code_19) rfl rfl k) ?_
  refine Go.st (S' := T84.setTop (mkF m 21 #[.val (.ref o0), .val (.ref o1), .val (.ref o2)] [(.ref o1), (.ref o0)])) (fun t k => XS.aloadN X84.here hx rfl (hb hby dprog_20_method_1_code_20) rfl rfl k) ?_
  obtain ⟨T88, h88, X88, e88, W88, st88⟩ := putF X84 hx hZ hown (host := "") (Or.inl (hw _ (List.mem_of_getElem? (i := 22) rfl))) Via.refl e84 F_o0_template E_o0 (Or.inr ⟨(hw _ (List.mem_of_getElem? (i := 23) rfl)), rfl, hnm⟩) (hw _ (List.mem_of_getElem? (i := 9) rfl)) (ty := (.object "com/example/consulate/consulate/cvc/Chat$Template")) (by decide) rfl rfl (g := (mkF m 21 #[.val (.ref o0), .val (.ref o1), .val (.ref o2)] [(.ref o1), (.ref o0)])) rfl rfl (hb hby dprog_20_method_1_code_21)
  have Fw88 := (F_o0_template).same W88
  have N88 := Fr.snoc X88 N84_ g_o0
  have Z89 : n0 ≤ h88.size := Nat.le_trans Z0 (Keep.of_wr W88).1
  have K89 : Keep h0 h88 [o0] := (Keep.refl h0 [o0]).wr W88 (Or.inl (by simp))
  refine Go.st (S' := T88.setTop (mkF m 24 #[.val (.ref o0), .val (.ref o1), .val (.ref o2)] [])) st88 ?_
  refine Go.st (S' := T88.setTop (mkF m 25 #[.val (.ref o0), .val (.ref o1), .val (.ref o2)] [(.ref o0)])) (fun t k => XS.aloadN X88.here hx rfl (hb hby dprog_20_method_1_code_24) rfl rfl k) ?_
  refine Go.st (S' := T88.setTop (mkF m 26 #[.val (.ref o0), .val (.ref o1), .val (.ref o2)] [(.ref o2), (.ref o0)])) (fun t k => XS.aloadN X88.here hx rfl (hb hby dprog_20_method_1_code_25) rfl rfl k) ?_
  have f90 := ((E_o0).wr W88)
  have f91 := ((F_o0_data).other W88 (Or.inr (slot_ne (Or.inr (hw _ (List.mem_of_getElem? (i := 25) rfl))) (Or.inr (hw _ (List.mem_of_getElem? (i := 23) rfl))) (by decide) (t := (.array .byte)) (t' := (.object "com/example/consulate/consulate/cvc/Chat$Template")) (by decide) (by decide))))
  obtain ⟨T92, h92, X92, e92, W92, st92⟩ := putF X88 hx hZ hown (host := "") (Or.inl (hw _ (List.mem_of_getElem? (i := 24) rfl))) Via.refl e88 f91 f90 (Or.inr ⟨(hw _ (List.mem_of_getElem? (i := 25) rfl)), rfl, hnm⟩) (hw _ (List.mem_of_getElem? (i := 9) rfl)) (ty := (.array .byte)) (by decide) rfl rfl (g := (mkF m 26 #[.val (.ref o0), .val (.ref o1), .val (.ref o2)] [(.ref o2), (.ref o0)])) rfl rfl (hb hby dprog_20_method_1_code_26)
  have Fw92 := (f91).same W92
  have N92 := Fr.snoc X92 N88 g_o0
  have Z93 : n0 ≤ h92.size := Nat.le_trans Z89 (Keep.of_wr W92).1
  have K93 : Keep h0 h92 [o0] := K89.wr W92 (Or.inl (by simp))
  refine Go.st (S' := T92.setTop (mkF m 29 #[.val (.ref o0), .val (.ref o1), .val (.ref o2)] [])) st92 ?_
  have f94 := ((f90).wr W92)
  have f95 := ((Fw88).other W92 (Or.inr (slot_ne (Or.inr (hw _ (List.mem_of_getElem? (i := 23) rfl))) (Or.inr (hw _ (List.mem_of_getElem? (i := 25) rfl))) (by decide) (t := (.object "com/example/consulate/consulate/cvc/Chat$Template")) (t' := (.array .byte)) (by decide) (by decide))))
  exact Go.ret X92 (v := none) (fun _ => rfl) Bd.notSynchronized (fun fs hr => X92.returnOut hx Bd.returns (hb hby dprog_20_method_1_code_29) hr) (by decide) (by decide) (by rw [e92]; exact ⟨rfl, N92, K93, f94, f95, Fw92⟩)
theorem ef_3 (m : MethodId) (o0 : Addr) (s_Chat_Role_CVCA : Addr) : entryFrame m #[(.ref o0), (.ref s_Chat_Role_CVCA)] 3 = mkF m 0 #[.val (.ref o0), .val (.ref s_Chat_Role_CVCA), .unset] [] := by first | (simp [entryFrame, mkF, argsToLocals, Value.category, maxLocals]; done) | rfl
def Q3 (Z : State) (o0 : Addr) (s_Chat_Role_CVCA : Addr) (o_2 : Addr) (k_o_2 : ClassId) (e0_o_2 : Int32) (o_3 : Addr) (h0 : Heap) (n0 : Nat) (v : Option Value) (h : Heap) (L : List Loc) : Prop := (∃ (v111 : Int32) (v114 : Int32) (v115 : Int32) (v117 : Int32) (b106 : Addr) (b119 : Addr), v111 = (e0_o_2 &&& (63 : Int32)) ∧ v114 = (v111 ||| (192 : Int32)) ∧ v115 = v114.toInt8.toInt32 ∧ v117 = v115.toInt8.toInt32 ∧ v = some (.ref b119) ∧ Fr n0 L ∧ Keep h0 h [] ∧ h0.size ≤ b106 ∧ h0.size ≤ b119 ∧ Arv Z h b106 k_o_2 .byte (1 : Int32) [(.int v117)] (.int (0 : Int32)) ∧ Exa Z h b106 "[B" ∧ Exa Z h b119 "com/example/consulate/consulate/cvc/Chat" ∧ Fld Z h b119 "com/example/consulate/consulate/cvc/Chat" "template" "Lcom/example/consulate/consulate/cvc/Chat$Template;" (.ref o_3) ∧ Fld Z h b119 "com/example/consulate/consulate/cvc/Chat" "data" "[B" (.ref b106) ∧ b106 < b119)
set_option maxRecDepth 65536 in
set_option maxHeartbeats 40000000 in
theorem rm3 (l : Launch) (Z : State) (a0 : Array Value) (hw : ∀ d ∈ tables_1, d.before a0 Z = true) (ws : List Jvm.Cond) (o0 : Addr) (s_Chat_Role_CVCA : Addr) (o_2 : Addr) (k_o_2 : ClassId) (e0_o_2 : Int32) (o_3 : Addr) (h0 : Heap) (n0 : Nat) (Z0 : n0 ≤ h0.size) (F_o0_data : Fld Z h0 o0 "com/example/consulate/consulate/cvc/Chat" "data" "[B" (.ref o_2)) (V_o_2 : Arv Z h0 o_2 k_o_2 .byte (1 : Int32) [(.int e0_o_2)] (.int (0 : Int32))) (E_o_2 : Exa Z h0 o_2 "[B") (F_s_Chat_Role_CVCA_bits : Fld Z h0 s_Chat_Role_CVCA "com/example/consulate/consulate/cvc/Chat$Role" "bits" "I" (.int (3 : Int32))) (F_o0_template : Fld Z h0 o0 "com/example/consulate/consulate/cvc/Chat" "template" "Lcom/example/consulate/consulate/cvc/Chat$Template;" (.ref o_3)) :
    Con l Z (⟨"com/example/consulate/consulate/cvc/Chat", "withRole", "(Lcom/example/consulate/consulate/cvc/Chat$Role;)Lcom/example/consulate/consulate/cvc/Chat;"⟩ : MethodName) prog_20_method_3_code 3 (some (.object "com/example/consulate/consulate/cvc/Chat")) ws ({ frames := 3, cells := 2, slots := 3, locals := 39 } : Room) #[(.ref o0), (.ref s_Chat_Role_CVCA)] h0 2 3 (Q3 Z o0 s_Chat_Role_CVCA o_2 k_o_2 e0_o_2 o_3 h0 n0) := by
  refine MetFree.of_bodySF (plainFor_of_name pn_1) hisR ?_
  intro p e s m args below meth c s₁ Bd hml0 hP hK
  obtain ⟨rfl, hZ, hh⟩ := hP
  have hx := Bd.exec
  have hby := Bd.bytes
  have hml : c.maxLocals = 3 := hml0
  have hown : s.vm.findClass "com/example/consulate/consulate/cvc/Chat" = some m.cls := findClass_of_methodNamed Bd.named
  have hnm := (name_of_methodNamed Bd.named Bd.method).1
  have X0 : Stand p l e ({ frames := 3, cells := 2, slots := 3, locals := 39 } : Room) s m #[(.ref o0), (.ref s_Chat_Role_CVCA)] below meth c s₁ [] 0 0 := Stand.of_body Bd
  have e0 : s₁.heap = h0 := by rw [← hh, Bd.state]; rfl
  have N0 := Fr.nil n0
  refine Go.of ?_
  refine Go.st (S' := s₁.setTop (mkF m 0 #[.val (.ref o0), .val (.ref s_Chat_Role_CVCA), .unset] [])) (fun t k => castTop (ef_3 m o0 s_Chat_Role_CVCA) k) ?_
  refine Go.st (S' := s₁.setTop (mkF m 1 #[.val (.ref o0), .val (.ref s_Chat_Role_CVCA), .unset] [(.ref o0)])) (fun t k => XS.aloadN X0.here hx rfl (hb hby dprog_20_method_3_code_0) rfl rfl k) ?_
  obtain ⟨T103, X103, e103, st103⟩ := getF X0 hx hZ hown (host := "") (Or.inl (hw _ (List.mem_of_getElem? (i := 24) rfl))) Via.refl e0 F_o0_data (g := (mkF m 1 #[.val (.ref o0), .val (.ref s_Chat_Role_CVCA), .unset] [(.ref o0)])) rfl rfl (hb hby dprog_20_method_3_code_1)
  refine Go.st (S' := T103.setTop (mkF m 4 #[.val (.ref o0), .val (.ref s_Chat_Role_CVCA), .unset] [(.ref o_2)])) st103 ?_
  obtain ⟨T106, h106, X106, e106, E106, A106, B106, st106⟩ := cloneH X103 hx hZ hown (ad := "[B") (hw _ (List.mem_of_getElem? (i := 31) rfl)) (hw _ (List.mem_of_getElem? (i := 32) rfl)) (hw _ (List.mem_of_getElem? (i := 36) rfl)) (hw _ (List.mem_of_getElem? (i := 34) rfl)) (hw _ (List.mem_of_getElem? (i := 35) rfl)) (hw _ (List.mem_of_getElem? (i := 37) rfl)) e103 (Arv.arh V_o_2) (E_o_2) (g := (mkF m 4 #[.val (.ref o0), .val (.ref s_Chat_Role_CVCA), .unset] [(.ref o_2)])) rfl (by rw [hml]; rfl) rfl (hb hby dprog_20_method_3_code_4) (by decide) (W := 0) (cap := 1) (by show 2 * 0 + _ ≤ _; exact Nat.le_of_eq rfl) (by decide) (by decide) (by decide) (by decide)
  obtain ⟨b106, gg106⟩ : ∃ z, z = h0.size := ⟨_, rfl⟩
  rw [← gg106] at A106 B106 st106
  have g_b106 : n0 ≤ b106 := Nat.le_trans Z0 (Nat.le_of_eq gg106.symm)
  have sz_b106 : h0.size ≤ b106 := Nat.le_trans (Keep.refl h0 []).1 (Nat.le_of_eq gg106.symm)
  have Z107 : n0 ≤ h106.size := Nat.le_trans Z0 E106.1
  have K107 : Keep h0 h106 [] := (Keep.refl h0 []).ext E106
  have V106 : Arv Z h106 b106 k_o_2 .byte (1 : Int32) [(.int e0_o_2)] (.int (0 : Int32)) := A106
  refine Go.st (S' := T106.setTop (mkF m 7 #[.val (.ref o0), .val (.ref s_Chat_Role_CVCA), .unset] [(.ref b106)])) st106 ?_
  obtain ⟨T108, X108, e108, st108⟩ := castY X106 hx hZ hown (hw _ (List.mem_of_getElem? (i := 38) rfl)) e106 (Ins.self B106) (g := (mkF m 7 #[.val (.ref o0), .val (.ref s_Chat_Role_CVCA), .unset] [(.ref b106)])) rfl rfl (hb hby dprog_20_method_3_code_7)
  refine Go.st (S' := T108.setTop (mkF m 10 #[.val (.ref o0), .val (.ref s_Chat_Role_CVCA), .unset] [(.ref b106)])) st108 ?_
  let A109 : Array Slot := #[.val (.ref o0), .val (.ref s_Chat_Role_CVCA), .val (.ref b106)]
  refine Go.st (S' := T108.setTop (mkF m 11 A109 [])) (fun t k => XS.astoreN X108.here hx rfl (hb hby dprog_20_method_3_code_10) rfl rfl (l' := A109) rfl k) ?_
  refine Go.st (S' := T108.setTop (mkF m 12 A109 [(.ref b106)])) (fun t k => XS.aloadN X108.here hx rfl (hb hby dprog_20_method_3_code_11) rfl rfl k) ?_
  refine Go.st (S' := T108.setTop (mkF m 13 A109 [(.int (0 : Int32)), (.ref b106)])) (fun t k => XS.iconst X108.here hx rfl (hb hby dprog_20_method_3_code_12) k) ?_
  refine Go.st (S' := T108.setTop (mkF m 14 A109 [(.ref b106), (.int (0 : Int32)), (.ref b106)])) (fun t k => XS.aloadN X108.here hx rfl (hb hby dprog_20_method_3_code_13) rfl rfl k) ?_
  refine Go.st (S' := T108.setTop (mkF m 15 A109 [(.int (0 : Int32)), (.ref b106), (.int (0 : Int32)), (.ref b106)])) (fun t k => XS.iconst X108.here hx rfl (hb hby dprog_20_method_3_code_14) k) ?_
  obtain ⟨cl110, Ar110, -, S110, N110_, H110, -⟩ := id V106
  have hin110 : ¬ ((0 : Int32) < 0 ∨ cl110.slots.size ≤ ((0 : Int32)).toNatClampNeg) := inb_of S110 ⟨by decide, by decide⟩
  have hat110 : cl110.slots[((0 : Int32)).toNatClampNeg]? = some (.int e0_o_2) := Has.at H110 hin110 rfl
  refine Go.st (S' := T108.setTop (mkF m 16 A109 [(.int e0_o_2), (.int (0 : Int32)), (.ref b106)])) (fun t k => X108.baloadBytes hx (j := (0 : Int32)) (v := (.int e0_o_2)) (own_eh e108 Ar110.1) (State.isArrayOf_alike hZ.alike Ar110.2.1) Ar110.2.2 hin110 hat110 (g := (mkF m 15 A109 [(.int (0 : Int32)), (.ref b106), (.int (0 : Int32)), (.ref b106)])) rfl rfl (hb hby dprog_20_method_3_code_15) t k) ?_
  refine Go.st (S' := T108.setTop (mkF m 18 A109 [(.int (63 : Int32)), (.int e0_o_2), (.int (0 : Int32)), (.ref b106)])) (fun t k => XS.bipush X108.here hx rfl (hb hby dprog_20_method_3_code_16) k) ?_
  refine Go.op (F := fun z => T108.setTop (mkF m 19 A109 [(.int z), (.int (0 : Int32)), (.ref b106)])) (x := (e0_o_2 &&& (63 : Int32))) (fun t k => XS.iand X108.here hx rfl (hb hby dprog_20_method_3_code_18) rfl k) ?_
  intro v111 hv111
  refine Go.st (S' := T108.setTop (mkF m 20 A109 [(.ref s_Chat_Role_CVCA), (.int v111), (.int (0 : Int32)), (.ref b106)])) (fun t k => XS.aloadN X108.here hx rfl (hb hby dprog_20_method_3_code_19) rfl rfl k) ?_
  have f112 := ((F_s_Chat_Role_CVCA_bits).ext E106)
  refine Go.st (S' := T108.setTop (mkF m 23 A109 [(.int (3 : Int32)), (.int v111), (.int (0 : Int32)), (.ref b106)])) (own_getR X108 hx hZ hown (hw _ (List.mem_of_getElem? (i := 40) rfl)) e108 f112 (g := (mkF m 20 A109 [(.ref s_Chat_Role_CVCA), (.int v111), (.int (0 : Int32)), (.ref b106)])) rfl rfl (hb hby dprog_20_method_3_code_20)) ?_
  refine Go.st (S' := T108.setTop (mkF m 25 A109 [(.int (6 : Int32)), (.int (3 : Int32)), (.int v111), (.int (0 : Int32)), (.ref b106)])) (fun t k => XS.bipush X108.here hx rfl (hb hby dprog_20_method_3_code_23) k) ?_
  refine Go.op (F := fun z => T108.setTop (mkF m 26 A109 [(.int z), (.int v111), (.int (0 : Int32)), (.ref b106)])) (x := ((3 : Int32) <<< ((6 : Int32) &&& 31))) (fun t k => XS.ishl X108.here hx rfl (hb hby dprog_20_method_3_code_25) rfl k) ?_
  intro v113 hv113
  obtain rfl : (192 : Int32) = v113 := (hv113.trans (by decide)).symm
  refine Go.op (F := fun z => T108.setTop (mkF m 27 A109 [(.int z), (.int (0 : Int32)), (.ref b106)])) (x := (v111 ||| (192 : Int32))) (fun t k => XS.ior X108.here hx rfl (hb hby dprog_20_method_3_code_26) rfl k) ?_
  intro v114 hv114
  refine Go.op (F := fun z => T108.setTop (mkF m 28 A109 [(.int z), (.int (0 : Int32)), (.ref b106)])) (x := v114.toInt8.toInt32) (fun t k => XS.i2b X108.here hx rfl (hb hby dprog_20_method_3_code_27) rfl k) ?_
  intro v115 hv115
  obtain ⟨cl116, Ar116, q116, S116, N116_, H116, G116⟩ := id V106
  have hin116 : ¬ ((0 : Int32) < 0 ∨ cl116.slots.size ≤ ((0 : Int32)).toNatClampNeg) := inb_of S116 ⟨by decide, by decide⟩
  obtain ⟨v117, hv117⟩ : ∃ z, z = v115.toInt8.toInt32 := ⟨_, rfl⟩
  obtain ⟨T116, h116, X116, e116, W116, st116⟩ := stB X108 hx hZ e108 Ar116 (j := (0 : Int32)) hin116 (g := (mkF m 28 A109 [(.int v115), (.int (0 : Int32)), (.ref b106)])) rfl rfl (hb hby dprog_20_method_3_code_28)
  have W116 : Wr h106 h116 b106 ((0 : Int32)).toNatClampNeg (.int v117) := by rw [hv117]; exact W116
  have V116 : Arv Z h116 b106 k_o_2 .byte (1 : Int32) [(.int v117)] (.int (0 : Int32)) := Arv.set Ar116 q116 S116 N116_ H116 G116 (by rw [hv117]; exact fits_nar_byte _) W116 0 rfl (Nat.le_of_ble_eq_true rfl)
  have N116 := Fr.snoc X116 N0 g_b106
  have Z118 : n0 ≤ h116.size := Nat.le_trans Z107 (Keep.of_wr W116).1
  have K118 : Keep h0 h116 [] := K107.wr W116 (Or.inr sz_b106)
  refine Go.st (S' := T116.setTop (mkF m 29 A109 [])) st116 ?_
  obtain ⟨T119, h119, X119, e119, E119, A119, D119, -, st119⟩ := newO X116 hx hZ hown (hw _ (List.mem_of_getElem? (i := 42) rfl)) (hw _ (List.mem_of_getElem? (i := 9) rfl)) (hw _ (List.mem_of_getElem? (i := 10) rfl)) e116 (g := (mkF m 29 A109 [])) rfl (hb hby dprog_20_method_3_code_29) (by decide) (by decide)
  obtain ⟨b119, gg119⟩ : ∃ z, z = h116.size := ⟨_, rfl⟩
  rw [← gg119] at A119 D119 st119
  have g_b119 : n0 ≤ b119 := Nat.le_trans Z118 (Nat.le_of_eq gg119.symm)
  have sz_b119 : h0.size ≤ b119 := Nat.le_trans K118.1 (Nat.le_of_eq gg119.symm)
  have f120 := ((B106).wr W116)
  have lt_b106_b119 : b106 < b119 := Nat.lt_of_lt_of_le (f120).lt (Nat.le_of_eq gg119.symm)
  have Z121 : n0 ≤ h119.size := Nat.le_trans Z118 E119.1
  have K121 : Keep h0 h119 [] := K118.ext E119
  have Fb119_template : Fld Z h119 b119 "com/example/consulate/consulate/cvc/Chat" "template" "Lcom/example/consulate/consulate/cvc/Chat$Template;" .null := D119 (Or.inr (hw _ (List.mem_of_getElem? (i := 23) rfl))) (ty := (.object "com/example/consulate/consulate/cvc/Chat$Template")) (by decide)
  have Fb119_data : Fld Z h119 b119 "com/example/consulate/consulate/cvc/Chat" "data" "[B" .null := D119 (Or.inr (hw _ (List.mem_of_getElem? (i := 25) rfl))) (ty := (.array .byte)) (by decide)
  refine Go.st (S' := T119.setTop (mkF m 32 A109 [(.ref b119)])) st119 ?_
  refine Go.st (S' := T119.setTop (mkF m 33 A109 [(.ref b119), (.ref b119)])) (fun t k => XS.dup X119.here hx rfl (hb hby dprog_20_method_3_code_32) rfl rfl k) ?_
  refine Go.st (S' := T119.setTop (mkF m 34 A109 [(.ref o0), (.ref b119), (.ref b119)])) (fun t k => XS.aloadN X119.here hx rfl (hb hby dprog_20_method_3_code_33) rfl rfl k) ?_
  have f122 := ((((((F_o0_template).ext E106)).other W116 (Or.inl (Nat.ne_of_lt (Nat.lt_of_lt_of_le (F_o0_data).lt sz_b106))))).ext E119)
  obtain ⟨T123, X123, e123, st123⟩ := getF X119 hx hZ hown (host := "") (Or.inl (hw _ (List.mem_of_getElem? (i := 22) rfl))) Via.refl e119 f122 (g := (mkF m 34 A109 [(.ref o0), (.ref b119), (.ref b119)])) rfl rfl (hb hby dprog_20_method_3_code_34)
  refine Go.st (S' := T123.setTop (mkF m 37 A109 [(.ref o_3), (.ref b119), (.ref b119)])) st123 ?_
  refine Go.st (S' := T123.setTop (mkF m 38 A109 [(.ref b106), (.ref o_3), (.ref b119), (.ref b119)])) (fun t k => XS.aloadN X123.here hx rfl (hb hby dprog_20_method_3_code_37) rfl rfl k) ?_
  have f124 := ((V116).ext E119)
  obtain ⟨r125, T125, L125, X125, hQ125, st125⟩ := own_callI (W := 1) (a := b119) X123 hx hZ e123 hown (y := (⟨"com/example/consulate/consulate/cvc/Chat", "<init>", "(Lcom/example/consulate/consulate/cvc/Chat$Template;[B)V"⟩ : MethodName)) rfl (hw _ (List.mem_of_getElem? (i := 43) rfl)) (hw _ (List.mem_of_getElem? (i := 12) rfl)) (hw _ (List.mem_of_getElem? (i := 10) rfl)) (hw _ (List.mem_of_getElem? (i := 13) rfl)) (by decide) (rm2 l Z a0 hw [] b119 o_3 b106 k_o_2 v117 (.null) (.null) h119 n0 Z121 (f124) (A119) (Fb119_template) (g_b119) (Fb119_data)) (by decide) (by decide) (by decide) (by decide) (g := (mkF m 38 A109 [(.ref b106), (.ref o_3), (.ref b119), (.ref b119)])) rfl (by rw [hml]; rfl) (argsL := [(.ref o_3), (.ref b106)]) (rest := [(.ref b119)]) rfl (lenOf pd_1 rfl) rfl (by show 2 * 0 + _ ≤ _; exact Nat.le_of_eq rfl) (hb hby dprog_20_method_3_code_38)
  obtain ⟨rfl, N125, K125_, f126, f127, f128⟩ := hQ125
  have N125_ := Fr.app N116 N125
  have Z129 : n0 ≤ T125.heap.size := Nat.le_trans Z121 K125_.1
  have K129 : Keep h0 T125.heap [] := K121.trans K125_ (allS (Or.inr sz_b119) all0)
  refine Go.st (S' := T125.setTop (mkF m 41 A109 [(.ref b119)])) st125 ?_
  have f130 := ((f124).keep K125_ (ninS (Nat.ne_of_lt lt_b106_b119) nin0))
  have f131 := ((((f120).ext E119)).keep K125_)
  exact Go.ret X125 (v := some (.ref b119)) (fun h => by rw [Bd.returns] at h; cases h) Bd.notSynchronized (fun fs hr => retOut X125 hx Bd.returns rfl (Or.inr (Or.inr (Or.inr (Or.inr ⟨rfl, rfl, rfl⟩)))) (hb hby dprog_20_method_3_code_41) hr) (by decide) (by decide) (⟨v111, v114, v115, v117, b106, b119, hv111, hv114, hv115, hv117, rfl, N125_, K129, sz_b106, sz_b119, f130, f131, f126, f127, f128, lt_b106_b119⟩)
theorem ef_4 (m : MethodId) (o0 : Addr) : entryFrame m #[(.ref o0)] 1 = mkF m 0 #[.val (.ref o0)] [] := by first | (simp [entryFrame, mkF, argsToLocals, Value.category, maxLocals]; done) | rfl
def Q4 (Z : State) (o0 : Addr) (o_1 : Addr) (h0 : Heap) (n0 : Nat) (v : Option Value) (h : Heap) (L : List Loc) : Prop := (v = some (.ref o_1) ∧ Fr n0 L ∧ h = h0)
set_option maxRecDepth 65536 in
set_option maxHeartbeats 40000000 in
theorem rm4 (l : Launch) (Z : State) (a0 : Array Value) (hw : ∀ d ∈ tables_1, d.before a0 Z = true) (ws : List Jvm.Cond) (o0 : Addr) (o_1 : Addr) (h0 : Heap) (n0 : Nat) (Z0 : n0 ≤ h0.size) (F_o0_data : Fld Z h0 o0 "com/example/consulate/consulate/cvc/Chat" "data" "[B" (.ref o_1)) :
    Con l Z (⟨"com/example/consulate/consulate/cvc/Chat", "data", "()[B"⟩ : MethodName) prog_20_method_9_code 1 (some (.array .byte)) ws ({ frames := 0, cells := 0, slots := 0, locals := 0 } : Room) #[(.ref o0)] h0 0 0 (Q4 Z o0 o_1 h0 n0) := by
  refine MetFree.of_bodySF (plainFor_of_name pn_1) hisR ?_
  intro p e s m args below meth c s₁ Bd hml0 hP hK
  obtain ⟨rfl, hZ, hh⟩ := hP
  have hx := Bd.exec
  have hby := Bd.bytes
  have hml : c.maxLocals = 1 := hml0
  have hown : s.vm.findClass "com/example/consulate/consulate/cvc/Chat" = some m.cls := findClass_of_methodNamed Bd.named
  have hnm := (name_of_methodNamed Bd.named Bd.method).1
  have X0 : Stand p l e ({ frames := 0, cells := 0, slots := 0, locals := 0 } : Room) s m #[(.ref o0)] below meth c s₁ [] 0 0 := Stand.of_body Bd
  have e0 : s₁.heap = h0 := by rw [← hh, Bd.state]; rfl
  have N0 := Fr.nil n0
  refine Go.of ?_
  refine Go.st (S' := s₁.setTop (mkF m 0 #[.val (.ref o0)] [])) (fun t k => castTop (ef_4 m o0) k) ?_
  refine Go.st (S' := s₁.setTop (mkF m 1 #[.val (.ref o0)] [(.ref o0)])) (fun t k => XS.aloadN X0.here hx rfl (hb hby dprog_20_method_9_code_0) rfl rfl k) ?_
  obtain ⟨T150, X150, e150, st150⟩ := getF X0 hx hZ hown (host := "") (Or.inl (hw _ (List.mem_of_getElem? (i := 24) rfl))) Via.refl e0 F_o0_data (g := (mkF m 1 #[.val (.ref o0)] [(.ref o0)])) rfl rfl (hb hby dprog_20_method_9_code_1)
  refine Go.st (S' := T150.setTop (mkF m 4 #[.val (.ref o0)] [(.ref o_1)])) st150 ?_
  exact Go.ret X150 (v := some (.ref o_1)) (fun h => by rw [Bd.returns] at h; cases h) Bd.notSynchronized (fun fs hr => retOut X150 hx Bd.returns rfl (Or.inr (Or.inr (Or.inr (Or.inr ⟨rfl, rfl, rfl⟩)))) (hb hby dprog_20_method_9_code_4) hr) (by decide) (by decide) (⟨rfl, N0, (e150)⟩)
theorem ef_5 (m : MethodId) (o0 : Addr) : entryFrame m #[(.ref o0)] 1 = mkF m 0 #[.val (.ref o0)] [] := by first | (simp [entryFrame, mkF, argsToLocals, Value.category, maxLocals]; done) | rfl
def Q5 (Z : State) (o0 : Addr) (o_1 : Addr) (h0 : Heap) (n0 : Nat) (v : Option Value) (h : Heap) (L : List Loc) : Prop := (v = some (.ref o_1) ∧ Fr n0 L ∧ h = h0)
set_option maxRecDepth 65536 in
set_option maxHeartbeats 40000000 in
theorem rm5 (l : Launch) (Z : State) (a0 : Array Value) (hw : ∀ d ∈ tables_1, d.before a0 Z = true) (ws : List Jvm.Cond) (o0 : Addr) (o_1 : Addr) (h0 : Heap) (n0 : Nat) (Z0 : n0 ≤ h0.size) (F_o0_template : Fld Z h0 o0 "com/example/consulate/consulate/cvc/Chat" "template" "Lcom/example/consulate/consulate/cvc/Chat$Template;" (.ref o_1)) :
    Con l Z (⟨"com/example/consulate/consulate/cvc/Chat", "template", "()Lcom/example/consulate/consulate/cvc/Chat$Template;"⟩ : MethodName) prog_20_method_8_code 1 (some (.object "com/example/consulate/consulate/cvc/Chat$Template")) ws ({ frames := 0, cells := 0, slots := 0, locals := 0 } : Room) #[(.ref o0)] h0 0 0 (Q5 Z o0 o_1 h0 n0) := by
  refine MetFree.of_bodySF (plainFor_of_name pn_1) hisR ?_
  intro p e s m args below meth c s₁ Bd hml0 hP hK
  obtain ⟨rfl, hZ, hh⟩ := hP
  have hx := Bd.exec
  have hby := Bd.bytes
  have hml : c.maxLocals = 1 := hml0
  have hown : s.vm.findClass "com/example/consulate/consulate/cvc/Chat" = some m.cls := findClass_of_methodNamed Bd.named
  have hnm := (name_of_methodNamed Bd.named Bd.method).1
  have X0 : Stand p l e ({ frames := 0, cells := 0, slots := 0, locals := 0 } : Room) s m #[(.ref o0)] below meth c s₁ [] 0 0 := Stand.of_body Bd
  have e0 : s₁.heap = h0 := by rw [← hh, Bd.state]; rfl
  have N0 := Fr.nil n0
  refine Go.of ?_
  refine Go.st (S' := s₁.setTop (mkF m 0 #[.val (.ref o0)] [])) (fun t k => castTop (ef_5 m o0) k) ?_
  refine Go.st (S' := s₁.setTop (mkF m 1 #[.val (.ref o0)] [(.ref o0)])) (fun t k => XS.aloadN X0.here hx rfl (hb hby dprog_20_method_8_code_0) rfl rfl k) ?_
  obtain ⟨T153, X153, e153, st153⟩ := getF X0 hx hZ hown (host := "") (Or.inl (hw _ (List.mem_of_getElem? (i := 22) rfl))) Via.refl e0 F_o0_template (g := (mkF m 1 #[.val (.ref o0)] [(.ref o0)])) rfl rfl (hb hby dprog_20_method_8_code_1)
  refine Go.st (S' := T153.setTop (mkF m 4 #[.val (.ref o0)] [(.ref o_1)])) st153 ?_
  exact Go.ret X153 (v := some (.ref o_1)) (fun h => by rw [Bd.returns] at h; cases h) Bd.notSynchronized (fun fs hr => retOut X153 hx Bd.returns rfl (Or.inr (Or.inr (Or.inr (Or.inr ⟨rfl, rfl, rfl⟩)))) (hb hby dprog_20_method_8_code_4) hr) (by decide) (by decide) (⟨rfl, N0, (e153)⟩)
theorem ef_6 (m : MethodId) (o0 : Addr) (o1 : Addr) (o2 : Addr) : entryFrame m #[(.ref o0), (.ref o1), (.ref o2)] 3 = mkF m 0 #[.val (.ref o0), .val (.ref o1), .val (.ref o2)] [] := by first | (simp [entryFrame, mkF, argsToLocals, Value.category, maxLocals]; done) | rfl
def Q6 (Z : State) (o0 : Addr) (o1 : Addr) (o2 : Addr) (k_o2 : ClassId) (e0_o2 : Int32) (e1_o2 : Int32) (e2_o2 : Int32) (u_o0_template : Value) (u_o0_data : Value) (h0 : Heap) (n0 : Nat) (v : Option Value) (h : Heap) (L : List Loc) : Prop := (v = none ∧ Fr n0 L ∧ Keep h0 h [o0] ∧ Exa Z h o0 "com/example/consulate/consulate/cvc/Chat" ∧ Fld Z h o0 "com/example/consulate/consulate/cvc/Chat" "template" "Lcom/example/consulate/consulate/cvc/Chat$Template;" (.ref o1) ∧ Fld Z h o0 "com/example/consulate/consulate/cvc/Chat" "data" "[B" (.ref o2))
set_option maxRecDepth 65536 in
set_option maxHeartbeats 40000000 in
theorem rm6 (l : Launch) (Z : State) (a0 : Array Value) (hw : ∀ d ∈ tables_1, d.before a0 Z = true) (ws : List Jvm.Cond) (o0 : Addr) (o1 : Addr) (o2 : Addr) (k_o2 : ClassId) (e0_o2 : Int32) (e1_o2 : Int32) (e2_o2 : Int32) (u_o0_template : Value) (u_o0_data : Value) (h0 : Heap) (n0 : Nat) (Z0 : n0 ≤ h0.size) (V_o2 : Arv Z h0 o2 k_o2 .byte (3 : Int32) [(.int e0_o2), (.int e1_o2), (.int e2_o2)] (.int (0 : Int32))) (E_o0 : Exa Z h0 o0 "com/example/consulate/consulate/cvc/Chat") (F_o0_template : Fld Z h0 o0 "com/example/consulate/consulate/cvc/Chat" "template" "Lcom/example/consulate/consulate/cvc/Chat$Template;" u_o0_template) (g_o0 : n0 ≤ o0) (F_o0_data : Fld Z h0 o0 "com/example/consulate/consulate/cvc/Chat" "data" "[B" u_o0_data) :
    Con l Z (⟨"com/example/consulate/consulate/cvc/Chat", "<init>", "(Lcom/example/consulate/consulate/cvc/Chat$Template;[B)V"⟩ : MethodName) prog_20_method_1_code 3 none ws ({ frames := 2, cells := 0, slots := 0, locals := 24 } : Room) #[(.ref o0), (.ref o1), (.ref o2)] h0 0 0 (Q6 Z o0 o1 o2 k_o2 e0_o2 e1_o2 e2_o2 u_o0_template u_o0_data h0 n0) := by
  refine MetFree.of_bodySF (plainFor_of_name pn_1) hisR ?_
  intro p e s m args below meth c s₁ Bd hml0 hP hK
  obtain ⟨rfl, hZ, hh⟩ := hP
  have hx := Bd.exec
  have hby := Bd.bytes
  have hml : c.maxLocals = 3 := hml0
  have hown : s.vm.findClass "com/example/consulate/consulate/cvc/Chat" = some m.cls := findClass_of_methodNamed Bd.named
  have hnm := (name_of_methodNamed Bd.named Bd.method).1
  have X0 : Stand p l e ({ frames := 2, cells := 0, slots := 0, locals := 24 } : Room) s m #[(.ref o0), (.ref o1), (.ref o2)] below meth c s₁ [] 0 0 := Stand.of_body Bd
  have e0 : s₁.heap = h0 := by rw [← hh, Bd.state]; rfl
  have N0 := Fr.nil n0
  refine Go.of ?_
  refine Go.st (S' := s₁.setTop (mkF m 0 #[.val (.ref o0), .val (.ref o1), .val (.ref o2)] [])) (fun t k => castTop (ef_6 m o0 o1 o2) k) ?_
  refine Go.st (S' := s₁.setTop (mkF m 1 #[.val (.ref o0), .val (.ref o1), .val (.ref o2)] [(.ref o0)])) (fun t k => XS.aloadN X0.here hx rfl (hb hby dprog_20_method_1_code_0) rfl rfl k) ?_
  obtain ⟨r190, T190, L190, X190, hQ190, st190⟩ := own_callI (W := 0) (a := o0) X0 hx hZ e0 hown (y := (⟨"java/lang/Record", "<init>", "()V"⟩ : MethodName)) rfl (hw _ (List.mem_of_getElem? (i := 14) rfl)) (hw _ (List.mem_of_getElem? (i := 15) rfl)) (hw _ (List.mem_of_getElem? (i := 17) rfl)) (hw _ (List.mem_of_getElem? (i := 18) rfl)) (by decide) (rm1 l Z a0 hw [] o0 h0 n0 Z0 ) (by decide) (by decide) (by decide) (by decide) (g := (mkF m 1 #[.val (.ref o0), .val (.ref o1), .val (.ref o2)] [(.ref o0)])) rfl (by rw [hml]; rfl) (argsL := []) (rest := []) rfl (lenOf pd_0 rfl) rfl (by show 2 * 0 + _ ≤ _; exact Nat.le_of_eq rfl) (hb hby dprog_20_method_1_code_1)
  obtain ⟨rfl, N190, e190⟩ := hQ190
  have N190_ := Fr.app N0 N190
  refine Go.st (S' := T190.setTop (mkF m 4 #[.val (.ref o0), .val (.ref o1), .val (.ref o2)] [])) st190 ?_
  refine Go.st (S' := T190.setTop (mkF m 5 #[.val (.ref o0), .val (.ref o1), .val (.ref o2)] [(.ref o2)])) (fun t k => XS.aloadN X190.here hx rfl (hb hby dprog_20_method_1_code_4) rfl rfl k) ?_
  obtain ⟨cl192, Ar192, -, S192, N192_, -, -⟩ := id V_o2
  refine Go.op (F := fun z => T190.setTop (mkF m 6 #[.val (.ref o0), .val (.ref o1), .val (.ref o2)] [(.int z)])) (x := cl192.slots.size.toInt32) (fun t k => X190.arraylength hx (own_eh e190 Ar192.1) (State.isArrayOf_alike hZ.alike Ar192.2.1) (g := (mkF m 5 #[.val (.ref o0), .val (.ref o1), .val (.ref o2)] [(.ref o2)])) rfl rfl (hb hby dprog_20_method_1_code_5) t k) ?_
  intro v193 hv193
  obtain rfl : (3 : Int32) = v193 := (hv193.trans (len_of S192 N192_)).symm
  refine Go.st (S' := T190.setTop (mkF m 19 #[.val (.ref o0), .val (.ref o1), .val (.ref o2)] [])) (fun t k => XS.ifYes X190.here hx rfl (pc0 := 6) (pc' := 19) rfl (hb hby dprog_20_method_1_code_6) rfl ((if0 _ _).trans (feq (by decide : (¬ ((3 : Int32) = (0 : Int32))))).2) (by decide) (by decide) k) ?_
  refine Go.st (S' := T190.setTop (mkF m 20 #[.val (.ref o0), .val (.ref o1), .val (.ref o2)] [(.ref o0)])) (fun t k => XS.aloadN X190.here hx rfl (hb hby dprog_20_method_1_code_19) rfl rfl k) ?_
  refine Go.st (S' := T190.setTop (mkF m 21 #[.val (.ref o0), .val (.ref o1), .val (.ref o2)] [(.ref o1), (.ref o0)])) (fun t k => XS.aloadN X190.here hx rfl (hb hby dprog_20_method_1_code_20) rfl rfl k) ?_
  obtain ⟨T194, h194, X194, e194, W194, st194⟩ := putF X190 hx hZ hown (host := "") (Or.inl (hw _ (List.mem_of_getElem? (i := 22) rfl))) Via.refl e190 F_o0_template E_o0 (Or.inr ⟨(hw _ (List.mem_of_getElem? (i := 23) rfl)), rfl, hnm⟩) (hw _ (List.mem_of_getElem? (i := 9) rfl)) (ty := (.object "com/example/consulate/consulate/cvc/Chat$Template")) (by decide) rfl rfl (g := (mkF m 21 #[.val (.ref o0), .val (.ref o1), .val (.ref o2)] [(.ref o1), (.ref o0)])) rfl rfl (hb hby dprog_20_method_1_code_21)
  have Fw194 := (F_o0_template).same W194
  have N194 := Fr.snoc X194 N190_ g_o0
  have Z195 : n0 ≤ h194.size := Nat.le_trans Z0 (Keep.of_wr W194).1
  have K195 : Keep h0 h194 [o0] := (Keep.refl h0 [o0]).wr W194 (Or.inl (by simp))
  refine Go.st (S' := T194.setTop (mkF m 24 #[.val (.ref o0), .val (.ref o1), .val (.ref o2)] [])) st194 ?_
  refine Go.st (S' := T194.setTop (mkF m 25 #[.val (.ref o0), .val (.ref o1), .val (.ref o2)] [(.ref o0)])) (fun t k => XS.aloadN X194.here hx rfl (hb hby dprog_20_method_1_code_24) rfl rfl k) ?_
  refine Go.st (S' := T194.setTop (mkF m 26 #[.val (.ref o0), .val (.ref o1), .val (.ref o2)] [(.ref o2), (.ref o0)])) (fun t k => XS.aloadN X194.here hx rfl (hb hby dprog_20_method_1_code_25) rfl rfl k) ?_
  have f196 := ((E_o0).wr W194)
  have f197 := ((F_o0_data).other W194 (Or.inr (slot_ne (Or.inr (hw _ (List.mem_of_getElem? (i := 25) rfl))) (Or.inr (hw _ (List.mem_of_getElem? (i := 23) rfl))) (by decide) (t := (.array .byte)) (t' := (.object "com/example/consulate/consulate/cvc/Chat$Template")) (by decide) (by decide))))
  obtain ⟨T198, h198, X198, e198, W198, st198⟩ := putF X194 hx hZ hown (host := "") (Or.inl (hw _ (List.mem_of_getElem? (i := 24) rfl))) Via.refl e194 f197 f196 (Or.inr ⟨(hw _ (List.mem_of_getElem? (i := 25) rfl)), rfl, hnm⟩) (hw _ (List.mem_of_getElem? (i := 9) rfl)) (ty := (.array .byte)) (by decide) rfl rfl (g := (mkF m 26 #[.val (.ref o0), .val (.ref o1), .val (.ref o2)] [(.ref o2), (.ref o0)])) rfl rfl (hb hby dprog_20_method_1_code_26)
  have Fw198 := (f197).same W198
  have N198 := Fr.snoc X198 N194 g_o0
  have Z199 : n0 ≤ h198.size := Nat.le_trans Z195 (Keep.of_wr W198).1
  have K199 : Keep h0 h198 [o0] := K195.wr W198 (Or.inl (by simp))
  refine Go.st (S' := T198.setTop (mkF m 29 #[.val (.ref o0), .val (.ref o1), .val (.ref o2)] [])) st198 ?_
  have f200 := ((f196).wr W198)
  have f201 := ((Fw194).other W198 (Or.inr (slot_ne (Or.inr (hw _ (List.mem_of_getElem? (i := 23) rfl))) (Or.inr (hw _ (List.mem_of_getElem? (i := 25) rfl))) (by decide) (t := (.object "com/example/consulate/consulate/cvc/Chat$Template")) (t' := (.array .byte)) (by decide) (by decide))))
  exact Go.ret X198 (v := none) (fun _ => rfl) Bd.notSynchronized (fun fs hr => X198.returnOut hx Bd.returns (hb hby dprog_20_method_1_code_29) hr) (by decide) (by decide) (by rw [e198]; exact ⟨rfl, N198, K199, f200, f201, Fw198⟩)
theorem ef_7 (m : MethodId) (o0 : Addr) (s_Chat_Role_CVCA : Addr) : entryFrame m #[(.ref o0), (.ref s_Chat_Role_CVCA)] 3 = mkF m 0 #[.val (.ref o0), .val (.ref s_Chat_Role_CVCA), .unset] [] := by first | (simp [entryFrame, mkF, argsToLocals, Value.category, maxLocals]; done) | rfl
def Q7 (Z : State) (o0 : Addr) (s_Chat_Role_CVCA : Addr) (o_2 : Addr) (k_o_2 : ClassId) (e0_o_2 : Int32) (e1_o_2 : Int32) (e2_o_2 : Int32) (o_3 : Addr) (h0 : Heap) (n0 : Nat) (v : Option Value) (h : Heap) (L : List Loc) : Prop := (∃ (v218 : Int32) (v221 : Int32) (v222 : Int32) (v224 : Int32) (b213 : Addr) (b226 : Addr), v218 = (e0_o_2 &&& (63 : Int32)) ∧ v221 = (v218 ||| (192 : Int32)) ∧ v222 = v221.toInt8.toInt32 ∧ v224 = v222.toInt8.toInt32 ∧ v = some (.ref b226) ∧ Fr n0 L ∧ Keep h0 h [] ∧ h0.size ≤ b213 ∧ h0.size ≤ b226 ∧ Arv Z h b213 k_o_2 .byte (3 : Int32) [(.int v224), (.int e1_o_2), (.int e2_o_2)] (.int (0 : Int32)) ∧ Exa Z h b213 "[B" ∧ Exa Z h b226 "com/example/consulate/consulate/cvc/Chat" ∧ Fld Z h b226 "com/example/consulate/consulate/cvc/Chat" "template" "Lcom/example/consulate/consulate/cvc/Chat$Template;" (.ref o_3) ∧ Fld Z h b226 "com/example/consulate/consulate/cvc/Chat" "data" "[B" (.ref b213) ∧ b213 < b226)
set_option maxRecDepth 65536 in
set_option maxHeartbeats 40000000 in
theorem rm7 (l : Launch) (Z : State) (a0 : Array Value) (hw : ∀ d ∈ tables_1, d.before a0 Z = true) (ws : List Jvm.Cond) (o0 : Addr) (s_Chat_Role_CVCA : Addr) (o_2 : Addr) (k_o_2 : ClassId) (e0_o_2 : Int32) (e1_o_2 : Int32) (e2_o_2 : Int32) (o_3 : Addr) (h0 : Heap) (n0 : Nat) (Z0 : n0 ≤ h0.size) (F_o0_data : Fld Z h0 o0 "com/example/consulate/consulate/cvc/Chat" "data" "[B" (.ref o_2)) (V_o_2 : Arv Z h0 o_2 k_o_2 .byte (3 : Int32) [(.int e0_o_2), (.int e1_o_2), (.int e2_o_2)] (.int (0 : Int32))) (E_o_2 : Exa Z h0 o_2 "[B") (F_s_Chat_Role_CVCA_bits : Fld Z h0 s_Chat_Role_CVCA "com/example/consulate/consulate/cvc/Chat$Role" "bits" "I" (.int (3 : Int32))) (F_o0_template : Fld Z h0 o0 "com/example/consulate/consulate/cvc/Chat" "template" "Lcom/example/consulate/consulate/cvc/Chat$Template;" (.ref o_3)) :
    Con l Z (⟨"com/example/consulate/consulate/cvc/Chat", "withRole", "(Lcom/example/consulate/consulate/cvc/Chat$Role;)Lcom/example/consulate/consulate/cvc/Chat;"⟩ : MethodName) prog_20_method_3_code 3 (some (.object "com/example/consulate/consulate/cvc/Chat")) ws ({ frames := 3, cells := 2, slots := 5, locals := 39 } : Room) #[(.ref o0), (.ref s_Chat_Role_CVCA)] h0 2 5 (Q7 Z o0 s_Chat_Role_CVCA o_2 k_o_2 e0_o_2 e1_o_2 e2_o_2 o_3 h0 n0) := by
  refine MetFree.of_bodySF (plainFor_of_name pn_1) hisR ?_
  intro p e s m args below meth c s₁ Bd hml0 hP hK
  obtain ⟨rfl, hZ, hh⟩ := hP
  have hx := Bd.exec
  have hby := Bd.bytes
  have hml : c.maxLocals = 3 := hml0
  have hown : s.vm.findClass "com/example/consulate/consulate/cvc/Chat" = some m.cls := findClass_of_methodNamed Bd.named
  have hnm := (name_of_methodNamed Bd.named Bd.method).1
  have X0 : Stand p l e ({ frames := 3, cells := 2, slots := 5, locals := 39 } : Room) s m #[(.ref o0), (.ref s_Chat_Role_CVCA)] below meth c s₁ [] 0 0 := Stand.of_body Bd
  have e0 : s₁.heap = h0 := by rw [← hh, Bd.state]; rfl
  have N0 := Fr.nil n0
  refine Go.of ?_
  refine Go.st (S' := s₁.setTop (mkF m 0 #[.val (.ref o0), .val (.ref s_Chat_Role_CVCA), .unset] [])) (fun t k => castTop (ef_7 m o0 s_Chat_Role_CVCA) k) ?_
  refine Go.st (S' := s₁.setTop (mkF m 1 #[.val (.ref o0), .val (.ref s_Chat_Role_CVCA), .unset] [(.ref o0)])) (fun t k => XS.aloadN X0.here hx rfl (hb hby dprog_20_method_3_code_0) rfl rfl k) ?_
  obtain ⟨T210, X210, e210, st210⟩ := getF X0 hx hZ hown (host := "") (Or.inl (hw _ (List.mem_of_getElem? (i := 24) rfl))) Via.refl e0 F_o0_data (g := (mkF m 1 #[.val (.ref o0), .val (.ref s_Chat_Role_CVCA), .unset] [(.ref o0)])) rfl rfl (hb hby dprog_20_method_3_code_1)
  refine Go.st (S' := T210.setTop (mkF m 4 #[.val (.ref o0), .val (.ref s_Chat_Role_CVCA), .unset] [(.ref o_2)])) st210 ?_
  obtain ⟨T213, h213, X213, e213, E213, A213, B213, st213⟩ := cloneH X210 hx hZ hown (ad := "[B") (hw _ (List.mem_of_getElem? (i := 31) rfl)) (hw _ (List.mem_of_getElem? (i := 32) rfl)) (hw _ (List.mem_of_getElem? (i := 36) rfl)) (hw _ (List.mem_of_getElem? (i := 34) rfl)) (hw _ (List.mem_of_getElem? (i := 35) rfl)) (hw _ (List.mem_of_getElem? (i := 37) rfl)) e210 (Arv.arh V_o_2) (E_o_2) (g := (mkF m 4 #[.val (.ref o0), .val (.ref s_Chat_Role_CVCA), .unset] [(.ref o_2)])) rfl (by rw [hml]; rfl) rfl (hb hby dprog_20_method_3_code_4) (by decide) (W := 0) (cap := 3) (by show 2 * 0 + _ ≤ _; exact Nat.le_of_eq rfl) (by decide) (by decide) (by decide) (by decide)
  obtain ⟨b213, gg213⟩ : ∃ z, z = h0.size := ⟨_, rfl⟩
  rw [← gg213] at A213 B213 st213
  have g_b213 : n0 ≤ b213 := Nat.le_trans Z0 (Nat.le_of_eq gg213.symm)
  have sz_b213 : h0.size ≤ b213 := Nat.le_trans (Keep.refl h0 []).1 (Nat.le_of_eq gg213.symm)
  have Z214 : n0 ≤ h213.size := Nat.le_trans Z0 E213.1
  have K214 : Keep h0 h213 [] := (Keep.refl h0 []).ext E213
  have V213 : Arv Z h213 b213 k_o_2 .byte (3 : Int32) [(.int e0_o_2), (.int e1_o_2), (.int e2_o_2)] (.int (0 : Int32)) := A213
  refine Go.st (S' := T213.setTop (mkF m 7 #[.val (.ref o0), .val (.ref s_Chat_Role_CVCA), .unset] [(.ref b213)])) st213 ?_
  obtain ⟨T215, X215, e215, st215⟩ := castY X213 hx hZ hown (hw _ (List.mem_of_getElem? (i := 38) rfl)) e213 (Ins.self B213) (g := (mkF m 7 #[.val (.ref o0), .val (.ref s_Chat_Role_CVCA), .unset] [(.ref b213)])) rfl rfl (hb hby dprog_20_method_3_code_7)
  refine Go.st (S' := T215.setTop (mkF m 10 #[.val (.ref o0), .val (.ref s_Chat_Role_CVCA), .unset] [(.ref b213)])) st215 ?_
  let A216 : Array Slot := #[.val (.ref o0), .val (.ref s_Chat_Role_CVCA), .val (.ref b213)]
  refine Go.st (S' := T215.setTop (mkF m 11 A216 [])) (fun t k => XS.astoreN X215.here hx rfl (hb hby dprog_20_method_3_code_10) rfl rfl (l' := A216) rfl k) ?_
  refine Go.st (S' := T215.setTop (mkF m 12 A216 [(.ref b213)])) (fun t k => XS.aloadN X215.here hx rfl (hb hby dprog_20_method_3_code_11) rfl rfl k) ?_
  refine Go.st (S' := T215.setTop (mkF m 13 A216 [(.int (0 : Int32)), (.ref b213)])) (fun t k => XS.iconst X215.here hx rfl (hb hby dprog_20_method_3_code_12) k) ?_
  refine Go.st (S' := T215.setTop (mkF m 14 A216 [(.ref b213), (.int (0 : Int32)), (.ref b213)])) (fun t k => XS.aloadN X215.here hx rfl (hb hby dprog_20_method_3_code_13) rfl rfl k) ?_
  refine Go.st (S' := T215.setTop (mkF m 15 A216 [(.int (0 : Int32)), (.ref b213), (.int (0 : Int32)), (.ref b213)])) (fun t k => XS.iconst X215.here hx rfl (hb hby dprog_20_method_3_code_14) k) ?_
  obtain ⟨cl217, Ar217, -, S217, N217_, H217, -⟩ := id V213
  have hin217 : ¬ ((0 : Int32) < 0 ∨ cl217.slots.size ≤ ((0 : Int32)).toNatClampNeg) := inb_of S217 ⟨by decide, by decide⟩
  have hat217 : cl217.slots[((0 : Int32)).toNatClampNeg]? = some (.int e0_o_2) := Has.at H217 hin217 rfl
  refine Go.st (S' := T215.setTop (mkF m 16 A216 [(.int e0_o_2), (.int (0 : Int32)), (.ref b213)])) (fun t k => X215.baloadBytes hx (j := (0 : Int32)) (v := (.int e0_o_2)) (own_eh e215 Ar217.1) (State.isArrayOf_alike hZ.alike Ar217.2.1) Ar217.2.2 hin217 hat217 (g := (mkF m 15 A216 [(.int (0 : Int32)), (.ref b213), (.int (0 : Int32)), (.ref b213)])) rfl rfl (hb hby dprog_20_method_3_code_15) t k) ?_
  refine Go.st (S' := T215.setTop (mkF m 18 A216 [(.int (63 : Int32)), (.int e0_o_2), (.int (0 : Int32)), (.ref b213)])) (fun t k => XS.bipush X215.here hx rfl (hb hby dprog_20_method_3_code_16) k) ?_
  refine Go.op (F := fun z => T215.setTop (mkF m 19 A216 [(.int z), (.int (0 : Int32)), (.ref b213)])) (x := (e0_o_2 &&& (63 : Int32))) (fun t k => XS.iand X215.here hx rfl (hb hby dprog_20_method_3_code_18) rfl k) ?_
  intro v218 hv218
  refine Go.st (S' := T215.setTop (mkF m 20 A216 [(.ref s_Chat_Role_CVCA), (.int v218), (.int (0 : Int32)), (.ref b213)])) (fun t k => XS.aloadN X215.here hx rfl (hb hby dprog_20_method_3_code_19) rfl rfl k) ?_
  have f219 := ((F_s_Chat_Role_CVCA_bits).ext E213)
  refine Go.st (S' := T215.setTop (mkF m 23 A216 [(.int (3 : Int32)), (.int v218), (.int (0 : Int32)), (.ref b213)])) (own_getR X215 hx hZ hown (hw _ (List.mem_of_getElem? (i := 40) rfl)) e215 f219 (g := (mkF m 20 A216 [(.ref s_Chat_Role_CVCA), (.int v218), (.int (0 : Int32)), (.ref b213)])) rfl rfl (hb hby dprog_20_method_3_code_20)) ?_
  refine Go.st (S' := T215.setTop (mkF m 25 A216 [(.int (6 : Int32)), (.int (3 : Int32)), (.int v218), (.int (0 : Int32)), (.ref b213)])) (fun t k => XS.bipush X215.here hx rfl (hb hby dprog_20_method_3_code_23) k) ?_
  refine Go.op (F := fun z => T215.setTop (mkF m 26 A216 [(.int z), (.int v218), (.int (0 : Int32)), (.ref b213)])) (x := ((3 : Int32) <<< ((6 : Int32) &&& 31))) (fun t k => XS.ishl X215.here hx rfl (hb hby dprog_20_method_3_code_25) rfl k) ?_
  intro v220 hv220
  obtain rfl : (192 : Int32) = v220 := (hv220.trans (by decide)).symm
  refine Go.op (F := fun z => T215.setTop (mkF m 27 A216 [(.int z), (.int (0 : Int32)), (.ref b213)])) (x := (v218 ||| (192 : Int32))) (fun t k => XS.ior X215.here hx rfl (hb hby dprog_20_method_3_code_26) rfl k) ?_
  intro v221 hv221
  refine Go.op (F := fun z => T215.setTop (mkF m 28 A216 [(.int z), (.int (0 : Int32)), (.ref b213)])) (x := v221.toInt8.toInt32) (fun t k => XS.i2b X215.here hx rfl (hb hby dprog_20_method_3_code_27) rfl k) ?_
  intro v222 hv222
  obtain ⟨cl223, Ar223, q223, S223, N223_, H223, G223⟩ := id V213
  have hin223 : ¬ ((0 : Int32) < 0 ∨ cl223.slots.size ≤ ((0 : Int32)).toNatClampNeg) := inb_of S223 ⟨by decide, by decide⟩
  obtain ⟨v224, hv224⟩ : ∃ z, z = v222.toInt8.toInt32 := ⟨_, rfl⟩
  obtain ⟨T223, h223, X223, e223, W223, st223⟩ := stB X215 hx hZ e215 Ar223 (j := (0 : Int32)) hin223 (g := (mkF m 28 A216 [(.int v222), (.int (0 : Int32)), (.ref b213)])) rfl rfl (hb hby dprog_20_method_3_code_28)
  have W223 : Wr h213 h223 b213 ((0 : Int32)).toNatClampNeg (.int v224) := by rw [hv224]; exact W223
  have V223 : Arv Z h223 b213 k_o_2 .byte (3 : Int32) [(.int v224), (.int e1_o_2), (.int e2_o_2)] (.int (0 : Int32)) := Arv.set Ar223 q223 S223 N223_ H223 G223 (by rw [hv224]; exact fits_nar_byte _) W223 0 rfl (Nat.le_of_ble_eq_true rfl)
  have N223 := Fr.snoc X223 N0 g_b213
  have Z225 : n0 ≤ h223.size := Nat.le_trans Z214 (Keep.of_wr W223).1
  have K225 : Keep h0 h223 [] := K214.wr W223 (Or.inr sz_b213)
  refine Go.st (S' := T223.setTop (mkF m 29 A216 [])) st223 ?_
  obtain ⟨T226, h226, X226, e226, E226, A226, D226, -, st226⟩ := newO X223 hx hZ hown (hw _ (List.mem_of_getElem? (i := 42) rfl)) (hw _ (List.mem_of_getElem? (i := 9) rfl)) (hw _ (List.mem_of_getElem? (i := 10) rfl)) e223 (g := (mkF m 29 A216 [])) rfl (hb hby dprog_20_method_3_code_29) (by decide) (by decide)
  obtain ⟨b226, gg226⟩ : ∃ z, z = h223.size := ⟨_, rfl⟩
  rw [← gg226] at A226 D226 st226
  have g_b226 : n0 ≤ b226 := Nat.le_trans Z225 (Nat.le_of_eq gg226.symm)
  have sz_b226 : h0.size ≤ b226 := Nat.le_trans K225.1 (Nat.le_of_eq gg226.symm)
  have f227 := ((B213).wr W223)
  have lt_b213_b226 : b213 < b226 := Nat.lt_of_lt_of_le (f227).lt (Nat.le_of_eq gg226.symm)
  have Z228 : n0 ≤ h226.size := Nat.le_trans Z225 E226.1
  have K228 : Keep h0 h226 [] := K225.ext E226
  have Fb226_template : Fld Z h226 b226 "com/example/consulate/consulate/cvc/Chat" "template" "Lcom/example/consulate/consulate/cvc/Chat$Template;" .null := D226 (Or.inr (hw _ (List.mem_of_getElem? (i := 23) rfl))) (ty := (.object "com/example/consulate/consulate/cvc/Chat$Template")) (by decide)
  have Fb226_data : Fld Z h226 b226 "com/example/consulate/consulate/cvc/Chat" "data" "[B" .null := D226 (Or.inr (hw _ (List.mem_of_getElem? (i := 25) rfl))) (ty := (.array .byte)) (by decide)
  refine Go.st (S' := T226.setTop (mkF m 32 A216 [(.ref b226)])) st226 ?_
  refine Go.st (S' := T226.setTop (mkF m 33 A216 [(.ref b226), (.ref b226)])) (fun t k => XS.dup X226.here hx rfl (hb hby dprog_20_method_3_code_32) rfl rfl k) ?_
  refine Go.st (S' := T226.setTop (mkF m 34 A216 [(.ref o0), (.ref b226), (.ref b226)])) (fun t k => XS.aloadN X226.here hx rfl (hb hby dprog_20_method_3_code_33) rfl rfl k) ?_
  have f229 := ((((((F_o0_template).ext E213)).other W223 (Or.inl (Nat.ne_of_lt (Nat.lt_of_lt_of_le (F_o0_data).lt sz_b213))))).ext E226)
  obtain ⟨T230, X230, e230, st230⟩ := getF X226 hx hZ hown (host := "") (Or.inl (hw _ (List.mem_of_getElem? (i := 22) rfl))) Via.refl e226 f229 (g := (mkF m 34 A216 [(.ref o0), (.ref b226), (.ref b226)])) rfl rfl (hb hby dprog_20_method_3_code_34)
  refine Go.st (S' := T230.setTop (mkF m 37 A216 [(.ref o_3), (.ref b226), (.ref b226)])) st230 ?_
  refine Go.st (S' := T230.setTop (mkF m 38 A216 [(.ref b213), (.ref o_3), (.ref b226), (.ref b226)])) (fun t k => XS.aloadN X230.here hx rfl (hb hby dprog_20_method_3_code_37) rfl rfl k) ?_
  have f232 := ((V223).ext E226)
  obtain ⟨r233, T233, L233, X233, hQ233, st233⟩ := own_callI (W := 1) (a := b226) X230 hx hZ e230 hown (y := (⟨"com/example/consulate/consulate/cvc/Chat", "<init>", "(Lcom/example/consulate/consulate/cvc/Chat$Template;[B)V"⟩ : MethodName)) rfl (hw _ (List.mem_of_getElem? (i := 43) rfl)) (hw _ (List.mem_of_getElem? (i := 12) rfl)) (hw _ (List.mem_of_getElem? (i := 10) rfl)) (hw _ (List.mem_of_getElem? (i := 13) rfl)) (by decide) (rm6 l Z a0 hw [] b226 o_3 b213 k_o_2 v224 e1_o_2 e2_o_2 (.null) (.null) h226 n0 Z228 (f232) (A226) (Fb226_template) (g_b226) (Fb226_data)) (by decide) (by decide) (by decide) (by decide) (g := (mkF m 38 A216 [(.ref b213), (.ref o_3), (.ref b226), (.ref b226)])) rfl (by rw [hml]; rfl) (argsL := [(.ref o_3), (.ref b213)]) (rest := [(.ref b226)]) rfl (lenOf pd_1 rfl) rfl (by show 2 * 0 + _ ≤ _; exact Nat.le_of_eq rfl) (hb hby dprog_20_method_3_code_38)
  obtain ⟨rfl, N233, K233_, f234, f235, f236⟩ := hQ233
  have N233_ := Fr.app N223 N233
  have Z237 : n0 ≤ T233.heap.size := Nat.le_trans Z228 K233_.1
  have K237 : Keep h0 T233.heap [] := K228.trans K233_ (allS (Or.inr sz_b226) all0)
  refine Go.st (S' := T233.setTop (mkF m 41 A216 [(.ref b226)])) st233 ?_
  have f238 := ((f232).keep K233_ (ninS (Nat.ne_of_lt lt_b213_b226) nin0))
  have f239 := ((((f227).ext E226)).keep K233_)
  exact Go.ret X233 (v := some (.ref b226)) (fun h => by rw [Bd.returns] at h; cases h) Bd.notSynchronized (fun fs hr => retOut X233 hx Bd.returns rfl (Or.inr (Or.inr (Or.inr (Or.inr ⟨rfl, rfl, rfl⟩)))) (hb hby dprog_20_method_3_code_41) hr) (by decide) (by decide) (⟨v218, v221, v222, v224, b213, b226, hv218, hv221, hv222, hv224, rfl, N233_, K237, sz_b213, sz_b226, f238, f239, f234, f235, f236, lt_b213_b226⟩)
theorem ef_8 (m : MethodId) (o0 : Addr) (s_Chat_Role_DV_DOMESTIC : Addr) : entryFrame m #[(.ref o0), (.ref s_Chat_Role_DV_DOMESTIC)] 3 = mkF m 0 #[.val (.ref o0), .val (.ref s_Chat_Role_DV_DOMESTIC), .unset] [] := by first | (simp [entryFrame, mkF, argsToLocals, Value.category, maxLocals]; done) | rfl
def Q8 (Z : State) (o0 : Addr) (s_Chat_Role_DV_DOMESTIC : Addr) (o_2 : Addr) (k_o_2 : ClassId) (e0_o_2 : Int32) (o_3 : Addr) (h0 : Heap) (n0 : Nat) (v : Option Value) (h : Heap) (L : List Loc) : Prop := (∃ (v352 : Int32) (v355 : Int32) (v356 : Int32) (v358 : Int32) (b347 : Addr) (b360 : Addr), v352 = (e0_o_2 &&& (63 : Int32)) ∧ v355 = (v352 ||| (128 : Int32)) ∧ v356 = v355.toInt8.toInt32 ∧ v358 = v356.toInt8.toInt32 ∧ v = some (.ref b360) ∧ Fr n0 L ∧ Keep h0 h [] ∧ h0.size ≤ b347 ∧ h0.size ≤ b360 ∧ Arv Z h b347 k_o_2 .byte (1 : Int32) [(.int v358)] (.int (0 : Int32)) ∧ Exa Z h b347 "[B" ∧ Exa Z h b360 "com/example/consulate/consulate/cvc/Chat" ∧ Fld Z h b360 "com/example/consulate/consulate/cvc/Chat" "template" "Lcom/example/consulate/consulate/cvc/Chat$Template;" (.ref o_3) ∧ Fld Z h b360 "com/example/consulate/consulate/cvc/Chat" "data" "[B" (.ref b347) ∧ b347 < b360)
set_option maxRecDepth 65536 in
set_option maxHeartbeats 40000000 in
theorem rm8 (l : Launch) (Z : State) (a0 : Array Value) (hw : ∀ d ∈ tables_1, d.before a0 Z = true) (ws : List Jvm.Cond) (o0 : Addr) (s_Chat_Role_DV_DOMESTIC : Addr) (o_2 : Addr) (k_o_2 : ClassId) (e0_o_2 : Int32) (o_3 : Addr) (h0 : Heap) (n0 : Nat) (Z0 : n0 ≤ h0.size) (F_o0_data : Fld Z h0 o0 "com/example/consulate/consulate/cvc/Chat" "data" "[B" (.ref o_2)) (V_o_2 : Arv Z h0 o_2 k_o_2 .byte (1 : Int32) [(.int e0_o_2)] (.int (0 : Int32))) (E_o_2 : Exa Z h0 o_2 "[B") (F_s_Chat_Role_DV_DOMESTIC_bits : Fld Z h0 s_Chat_Role_DV_DOMESTIC "com/example/consulate/consulate/cvc/Chat$Role" "bits" "I" (.int (2 : Int32))) (F_o0_template : Fld Z h0 o0 "com/example/consulate/consulate/cvc/Chat" "template" "Lcom/example/consulate/consulate/cvc/Chat$Template;" (.ref o_3)) :
    Con l Z (⟨"com/example/consulate/consulate/cvc/Chat", "withRole", "(Lcom/example/consulate/consulate/cvc/Chat$Role;)Lcom/example/consulate/consulate/cvc/Chat;"⟩ : MethodName) prog_20_method_3_code 3 (some (.object "com/example/consulate/consulate/cvc/Chat")) ws ({ frames := 3, cells := 2, slots := 3, locals := 39 } : Room) #[(.ref o0), (.ref s_Chat_Role_DV_DOMESTIC)] h0 2 3 (Q8 Z o0 s_Chat_Role_DV_DOMESTIC o_2 k_o_2 e0_o_2 o_3 h0 n0) := by
  refine MetFree.of_bodySF (plainFor_of_name pn_1) hisR ?_
  intro p e s m args below meth c s₁ Bd hml0 hP hK
  obtain ⟨rfl, hZ, hh⟩ := hP
  have hx := Bd.exec
  have hby := Bd.bytes
  have hml : c.maxLocals = 3 := hml0
  have hown : s.vm.findClass "com/example/consulate/consulate/cvc/Chat" = some m.cls := findClass_of_methodNamed Bd.named
  have hnm := (name_of_methodNamed Bd.named Bd.method).1
  have X0 : Stand p l e ({ frames := 3, cells := 2, slots := 3, locals := 39 } : Room) s m #[(.ref o0), (.ref s_Chat_Role_DV_DOMESTIC)] below meth c s₁ [] 0 0 := Stand.of_body Bd
  have e0 : s₁.heap = h0 := by rw [← hh, Bd.state]; rfl
  have N0 := Fr.nil n0
  refine Go.of ?_
  refine Go.st (S' := s₁.setTop (mkF m 0 #[.val (.ref o0), .val (.ref s_Chat_Role_DV_DOMESTIC), .unset] [])) (fun t k => castTop (ef_8 m o0 s_Chat_Role_DV_DOMESTIC) k) ?_
  refine Go.st (S' := s₁.setTop (mkF m 1 #[.val (.ref o0), .val (.ref s_Chat_Role_DV_DOMESTIC), .unset] [(.ref o0)])) (fun t k => XS.aloadN X0.here hx rfl (hb hby dprog_20_method_3_code_0) rfl rfl k) ?_
  obtain ⟨T344, X344, e344, st344⟩ := getF X0 hx hZ hown (host := "") (Or.inl (hw _ (List.mem_of_getElem? (i := 24) rfl))) Via.refl e0 F_o0_data (g := (mkF m 1 #[.val (.ref o0), .val (.ref s_Chat_Role_DV_DOMESTIC), .unset] [(.ref o0)])) rfl rfl (hb hby dprog_20_method_3_code_1)
  refine Go.st (S' := T344.setTop (mkF m 4 #[.val (.ref o0), .val (.ref s_Chat_Role_DV_DOMESTIC), .unset] [(.ref o_2)])) st344 ?_
  obtain ⟨T347, h347, X347, e347, E347, A347, B347, st347⟩ := cloneH X344 hx hZ hown (ad := "[B") (hw _ (List.mem_of_getElem? (i := 31) rfl)) (hw _ (List.mem_of_getElem? (i := 32) rfl)) (hw _ (List.mem_of_getElem? (i := 36) rfl)) (hw _ (List.mem_of_getElem? (i := 34) rfl)) (hw _ (List.mem_of_getElem? (i := 35) rfl)) (hw _ (List.mem_of_getElem? (i := 37) rfl)) e344 (Arv.arh V_o_2) (E_o_2) (g := (mkF m 4 #[.val (.ref o0), .val (.ref s_Chat_Role_DV_DOMESTIC), .unset] [(.ref o_2)])) rfl (by rw [hml]; rfl) rfl (hb hby dprog_20_method_3_code_4) (by decide) (W := 0) (cap := 1) (by show 2 * 0 + _ ≤ _; exact Nat.le_of_eq rfl) (by decide) (by decide) (by decide) (by decide)
  obtain ⟨b347, gg347⟩ : ∃ z, z = h0.size := ⟨_, rfl⟩
  rw [← gg347] at A347 B347 st347
  have g_b347 : n0 ≤ b347 := Nat.le_trans Z0 (Nat.le_of_eq gg347.symm)
  have sz_b347 : h0.size ≤ b347 := Nat.le_trans (Keep.refl h0 []).1 (Nat.le_of_eq gg347.symm)
  have Z348 : n0 ≤ h347.size := Nat.le_trans Z0 E347.1
  have K348 : Keep h0 h347 [] := (Keep.refl h0 []).ext E347
  have V347 : Arv Z h347 b347 k_o_2 .byte (1 : Int32) [(.int e0_o_2)] (.int (0 : Int32)) := A347
  refine Go.st (S' := T347.setTop (mkF m 7 #[.val (.ref o0), .val (.ref s_Chat_Role_DV_DOMESTIC), .unset] [(.ref b347)])) st347 ?_
  obtain ⟨T349, X349, e349, st349⟩ := castY X347 hx hZ hown (hw _ (List.mem_of_getElem? (i := 38) rfl)) e347 (Ins.self B347) (g := (mkF m 7 #[.val (.ref o0), .val (.ref s_Chat_Role_DV_DOMESTIC), .unset] [(.ref b347)])) rfl rfl (hb hby dprog_20_method_3_code_7)
  refine Go.st (S' := T349.setTop (mkF m 10 #[.val (.ref o0), .val (.ref s_Chat_Role_DV_DOMESTIC), .unset] [(.ref b347)])) st349 ?_
  let A350 : Array Slot := #[.val (.ref o0), .val (.ref s_Chat_Role_DV_DOMESTIC), .val (.ref b347)]
  refine Go.st (S' := T349.setTop (mkF m 11 A350 [])) (fun t k => XS.astoreN X349.here hx rfl (hb hby dprog_20_method_3_code_10) rfl rfl (l' := A350) rfl k) ?_
  refine Go.st (S' := T349.setTop (mkF m 12 A350 [(.ref b347)])) (fun t k => XS.aloadN X349.here hx rfl (hb hby dprog_20_method_3_code_11) rfl rfl k) ?_
  refine Go.st (S' := T349.setTop (mkF m 13 A350 [(.int (0 : Int32)), (.ref b347)])) (fun t k => XS.iconst X349.here hx rfl (hb hby dprog_20_method_3_code_12) k) ?_
  refine Go.st (S' := T349.setTop (mkF m 14 A350 [(.ref b347), (.int (0 : Int32)), (.ref b347)])) (fun t k => XS.aloadN X349.here hx rfl (hb hby dprog_20_method_3_code_13) rfl rfl k) ?_
  refine Go.st (S' := T349.setTop (mkF m 15 A350 [(.int (0 : Int32)), (.ref b347), (.int (0 : Int32)), (.ref b347)])) (fun t k => XS.iconst X349.here hx rfl (hb hby dprog_20_method_3_code_14) k) ?_
  obtain ⟨cl351, Ar351, -, S351, N351_, H351, -⟩ := id V347
  have hin351 : ¬ ((0 : Int32) < 0 ∨ cl351.slots.size ≤ ((0 : Int32)).toNatClampNeg) := inb_of S351 ⟨by decide, by decide⟩
  have hat351 : cl351.slots[((0 : Int32)).toNatClampNeg]? = some (.int e0_o_2) := Has.at H351 hin351 rfl
  refine Go.st (S' := T349.setTop (mkF m 16 A350 [(.int e0_o_2), (.int (0 : Int32)), (.ref b347)])) (fun t k => X349.baloadBytes hx (j := (0 : Int32)) (v := (.int e0_o_2)) (own_eh e349 Ar351.1) (State.isArrayOf_alike hZ.alike Ar351.2.1) Ar351.2.2 hin351 hat351 (g := (mkF m 15 A350 [(.int (0 : Int32)), (.ref b347), (.int (0 : Int32)), (.ref b347)])) rfl rfl (hb hby dprog_20_method_3_code_15) t k) ?_
  refine Go.st (S' := T349.setTop (mkF m 18 A350 [(.int (63 : Int32)), (.int e0_o_2), (.int (0 : Int32)), (.ref b347)])) (fun t k => XS.bipush X349.here hx rfl (hb hby dprog_20_method_3_code_16) k) ?_
  refine Go.op (F := fun z => T349.setTop (mkF m 19 A350 [(.int z), (.int (0 : Int32)), (.ref b347)])) (x := (e0_o_2 &&& (63 : Int32))) (fun t k => XS.iand X349.here hx rfl (hb hby dprog_20_method_3_code_18) rfl k) ?_
  intro v352 hv352
  refine Go.st (S' := T349.setTop (mkF m 20 A350 [(.ref s_Chat_Role_DV_DOMESTIC), (.int v352), (.int (0 : Int32)), (.ref b347)])) (fun t k => XS.aloadN X349.here hx rfl (hb hby dprog_20_method_3_code_19) rfl rfl k) ?_
  have f353 := ((F_s_Chat_Role_DV_DOMESTIC_bits).ext E347)
  refine Go.st (S' := T349.setTop (mkF m 23 A350 [(.int (2 : Int32)), (.int v352), (.int (0 : Int32)), (.ref b347)])) (own_getR X349 hx hZ hown (hw _ (List.mem_of_getElem? (i := 40) rfl)) e349 f353 (g := (mkF m 20 A350 [(.ref s_Chat_Role_DV_DOMESTIC), (.int v352), (.int (0 : Int32)), (.ref b347)])) rfl rfl (hb hby dprog_20_method_3_code_20)) ?_
  refine Go.st (S' := T349.setTop (mkF m 25 A350 [(.int (6 : Int32)), (.int (2 : Int32)), (.int v352), (.int (0 : Int32)), (.ref b347)])) (fun t k => XS.bipush X349.here hx rfl (hb hby dprog_20_method_3_code_23) k) ?_
  refine Go.op (F := fun z => T349.setTop (mkF m 26 A350 [(.int z), (.int v352), (.int (0 : Int32)), (.ref b347)])) (x := ((2 : Int32) <<< ((6 : Int32) &&& 31))) (fun t k => XS.ishl X349.here hx rfl (hb hby dprog_20_method_3_code_25) rfl k) ?_
  intro v354 hv354
  obtain rfl : (128 : Int32) = v354 := (hv354.trans (by decide)).symm
  refine Go.op (F := fun z => T349.setTop (mkF m 27 A350 [(.int z), (.int (0 : Int32)), (.ref b347)])) (x := (v352 ||| (128 : Int32))) (fun t k => XS.ior X349.here hx rfl (hb hby dprog_20_method_3_code_26) rfl k) ?_
  intro v355 hv355
  refine Go.op (F := fun z => T349.setTop (mkF m 28 A350 [(.int z), (.int (0 : Int32)), (.ref b347)])) (x := v355.toInt8.toInt32) (fun t k => XS.i2b X349.here hx rfl (hb hby dprog_20_method_3_code_27) rfl k) ?_
  intro v356 hv356
  obtain ⟨cl357, Ar357, q357, S357, N357_, H357, G357⟩ := id V347
  have hin357 : ¬ ((0 : Int32) < 0 ∨ cl357.slots.size ≤ ((0 : Int32)).toNatClampNeg) := inb_of S357 ⟨by decide, by decide⟩
  obtain ⟨v358, hv358⟩ : ∃ z, z = v356.toInt8.toInt32 := ⟨_, rfl⟩
  obtain ⟨T357, h357, X357, e357, W357, st357⟩ := stB X349 hx hZ e349 Ar357 (j := (0 : Int32)) hin357 (g := (mkF m 28 A350 [(.int v356), (.int (0 : Int32)), (.ref b347)])) rfl rfl (hb hby dprog_20_method_3_code_28)
  have W357 : Wr h347 h357 b347 ((0 : Int32)).toNatClampNeg (.int v358) := by rw [hv358]; exact W357
  have V357 : Arv Z h357 b347 k_o_2 .byte (1 : Int32) [(.int v358)] (.int (0 : Int32)) := Arv.set Ar357 q357 S357 N357_ H357 G357 (by rw [hv358]; exact fits_nar_byte _) W357 0 rfl (Nat.le_of_ble_eq_true rfl)
  have N357 := Fr.snoc X357 N0 g_b347
  have Z359 : n0 ≤ h357.size := Nat.le_trans Z348 (Keep.of_wr W357).1
  have K359 : Keep h0 h357 [] := K348.wr W357 (Or.inr sz_b347)
  refine Go.st (S' := T357.setTop (mkF m 29 A350 [])) st357 ?_
  obtain ⟨T360, h360, X360, e360, E360, A360, D360, -, st360⟩ := newO X357 hx hZ hown (hw _ (List.mem_of_getElem? (i := 42) rfl)) (hw _ (List.mem_of_getElem? (i := 9) rfl)) (hw _ (List.mem_of_getElem? (i := 10) rfl)) e357 (g := (mkF m 29 A350 [])) rfl (hb hby dprog_20_method_3_code_29) (by decide) (by decide)
  obtain ⟨b360, gg360⟩ : ∃ z, z = h357.size := ⟨_, rfl⟩
  rw [← gg360] at A360 D360 st360
  have g_b360 : n0 ≤ b360 := Nat.le_trans Z359 (Nat.le_of_eq gg360.symm)
  have sz_b360 : h0.size ≤ b360 := Nat.le_trans K359.1 (Nat.le_of_eq gg360.symm)
  have f361 := ((B347).wr W357)
  have lt_b347_b360 : b347 < b360 := Nat.lt_of_lt_of_le (f361).lt (Nat.le_of_eq gg360.symm)
  have Z362 : n0 ≤ h360.size := Nat.le_trans Z359 E360.1
  have K362 : Keep h0 h360 [] := K359.ext E360
  have Fb360_template : Fld Z h360 b360 "com/example/consulate/consulate/cvc/Chat" "template" "Lcom/example/consulate/consulate/cvc/Chat$Template;" .null := D360 (Or.inr (hw _ (List.mem_of_getElem? (i := 23) rfl))) (ty := (.object "com/example/consulate/consulate/cvc/Chat$Template")) (by decide)
  have Fb360_data : Fld Z h360 b360 "com/example/consulate/consulate/cvc/Chat" "data" "[B" .null := D360 (Or.inr (hw _ (List.mem_of_getElem? (i := 25) rfl))) (ty := (.array .byte)) (by decide)
  refine Go.st (S' := T360.setTop (mkF m 32 A350 [(.ref b360)])) st360 ?_
  refine Go.st (S' := T360.setTop (mkF m 33 A350 [(.ref b360), (.ref b360)])) (fun t k => XS.dup X360.here hx rfl (hb hby dprog_20_method_3_code_32) rfl rfl k) ?_
  refine Go.st (S' := T360.setTop (mkF m 34 A350 [(.ref o0), (.ref b360), (.ref b360)])) (fun t k => XS.aloadN X360.here hx rfl (hb hby dprog_20_method_3_code_33) rfl rfl k) ?_
  have f363 := ((((((F_o0_template).ext E347)).other W357 (Or.inl (Nat.ne_of_lt (Nat.lt_of_lt_of_le (F_o0_data).lt sz_b347))))).ext E360)
  obtain ⟨T364, X364, e364, st364⟩ := getF X360 hx hZ hown (host := "") (Or.inl (hw _ (List.mem_of_getElem? (i := 22) rfl))) Via.refl e360 f363 (g := (mkF m 34 A350 [(.ref o0), (.ref b360), (.ref b360)])) rfl rfl (hb hby dprog_20_method_3_code_34)
  refine Go.st (S' := T364.setTop (mkF m 37 A350 [(.ref o_3), (.ref b360), (.ref b360)])) st364 ?_
  refine Go.st (S' := T364.setTop (mkF m 38 A350 [(.ref b347), (.ref o_3), (.ref b360), (.ref b360)])) (fun t k => XS.aloadN X364.here hx rfl (hb hby dprog_20_method_3_code_37) rfl rfl k) ?_
  have f365 := ((V357).ext E360)
  obtain ⟨r366, T366, L366, X366, hQ366, st366⟩ := own_callI (W := 1) (a := b360) X364 hx hZ e364 hown (y := (⟨"com/example/consulate/consulate/cvc/Chat", "<init>", "(Lcom/example/consulate/consulate/cvc/Chat$Template;[B)V"⟩ : MethodName)) rfl (hw _ (List.mem_of_getElem? (i := 43) rfl)) (hw _ (List.mem_of_getElem? (i := 12) rfl)) (hw _ (List.mem_of_getElem? (i := 10) rfl)) (hw _ (List.mem_of_getElem? (i := 13) rfl)) (by decide) (rm2 l Z a0 hw [] b360 o_3 b347 k_o_2 v358 (.null) (.null) h360 n0 Z362 (f365) (A360) (Fb360_template) (g_b360) (Fb360_data)) (by decide) (by decide) (by decide) (by decide) (g := (mkF m 38 A350 [(.ref b347), (.ref o_3), (.ref b360), (.ref b360)])) rfl (by rw [hml]; rfl) (argsL := [(.ref o_3), (.ref b347)]) (rest := [(.ref b360)]) rfl (lenOf pd_1 rfl) rfl (by show 2 * 0 + _ ≤ _; exact Nat.le_of_eq rfl) (hb hby dprog_20_method_3_code_38)
  obtain ⟨rfl, N366, K366_, f367, f368, f369⟩ := hQ366
  have N366_ := Fr.app N357 N366
  have Z370 : n0 ≤ T366.heap.size := Nat.le_trans Z362 K366_.1
  have K370 : Keep h0 T366.heap [] := K362.trans K366_ (allS (Or.inr sz_b360) all0)
  refine Go.st (S' := T366.setTop (mkF m 41 A350 [(.ref b360)])) st366 ?_
  have f371 := ((f365).keep K366_ (ninS (Nat.ne_of_lt lt_b347_b360) nin0))
  have f372 := ((((f361).ext E360)).keep K366_)
  exact Go.ret X366 (v := some (.ref b360)) (fun h => by rw [Bd.returns] at h; cases h) Bd.notSynchronized (fun fs hr => retOut X366 hx Bd.returns rfl (Or.inr (Or.inr (Or.inr (Or.inr ⟨rfl, rfl, rfl⟩)))) (hb hby dprog_20_method_3_code_41) hr) (by decide) (by decide) (⟨v352, v355, v356, v358, b347, b360, hv352, hv355, hv356, hv358, rfl, N366_, K370, sz_b347, sz_b360, f371, f372, f367, f368, f369, lt_b347_b360⟩)
theorem ef_9 (m : MethodId) (o0 : Addr) (s_Chat_Role_DV_DOMESTIC : Addr) : entryFrame m #[(.ref o0), (.ref s_Chat_Role_DV_DOMESTIC)] 3 = mkF m 0 #[.val (.ref o0), .val (.ref s_Chat_Role_DV_DOMESTIC), .unset] [] := by first | (simp [entryFrame, mkF, argsToLocals, Value.category, maxLocals]; done) | rfl
def Q9 (Z : State) (o0 : Addr) (s_Chat_Role_DV_DOMESTIC : Addr) (o_2 : Addr) (k_o_2 : ClassId) (e0_o_2 : Int32) (e1_o_2 : Int32) (e2_o_2 : Int32) (o_3 : Addr) (h0 : Heap) (n0 : Nat) (v : Option Value) (h : Heap) (L : List Loc) : Prop := (∃ (v445 : Int32) (v448 : Int32) (v449 : Int32) (v451 : Int32) (b440 : Addr) (b453 : Addr), v445 = (e0_o_2 &&& (63 : Int32)) ∧ v448 = (v445 ||| (128 : Int32)) ∧ v449 = v448.toInt8.toInt32 ∧ v451 = v449.toInt8.toInt32 ∧ v = some (.ref b453) ∧ Fr n0 L ∧ Keep h0 h [] ∧ h0.size ≤ b440 ∧ h0.size ≤ b453 ∧ Arv Z h b440 k_o_2 .byte (3 : Int32) [(.int v451), (.int e1_o_2), (.int e2_o_2)] (.int (0 : Int32)) ∧ Exa Z h b440 "[B" ∧ Exa Z h b453 "com/example/consulate/consulate/cvc/Chat" ∧ Fld Z h b453 "com/example/consulate/consulate/cvc/Chat" "template" "Lcom/example/consulate/consulate/cvc/Chat$Template;" (.ref o_3) ∧ Fld Z h b453 "com/example/consulate/consulate/cvc/Chat" "data" "[B" (.ref b440) ∧ b440 < b453)
set_option maxRecDepth 65536 in
set_option maxHeartbeats 40000000 in
theorem rm9 (l : Launch) (Z : State) (a0 : Array Value) (hw : ∀ d ∈ tables_1, d.before a0 Z = true) (ws : List Jvm.Cond) (o0 : Addr) (s_Chat_Role_DV_DOMESTIC : Addr) (o_2 : Addr) (k_o_2 : ClassId) (e0_o_2 : Int32) (e1_o_2 : Int32) (e2_o_2 : Int32) (o_3 : Addr) (h0 : Heap) (n0 : Nat) (Z0 : n0 ≤ h0.size) (F_o0_data : Fld Z h0 o0 "com/example/consulate/consulate/cvc/Chat" "data" "[B" (.ref o_2)) (V_o_2 : Arv Z h0 o_2 k_o_2 .byte (3 : Int32) [(.int e0_o_2), (.int e1_o_2), (.int e2_o_2)] (.int (0 : Int32))) (E_o_2 : Exa Z h0 o_2 "[B") (F_s_Chat_Role_DV_DOMESTIC_bits : Fld Z h0 s_Chat_Role_DV_DOMESTIC "com/example/consulate/consulate/cvc/Chat$Role" "bits" "I" (.int (2 : Int32))) (F_o0_template : Fld Z h0 o0 "com/example/consulate/consulate/cvc/Chat" "template" "Lcom/example/consulate/consulate/cvc/Chat$Template;" (.ref o_3)) :
    Con l Z (⟨"com/example/consulate/consulate/cvc/Chat", "withRole", "(Lcom/example/consulate/consulate/cvc/Chat$Role;)Lcom/example/consulate/consulate/cvc/Chat;"⟩ : MethodName) prog_20_method_3_code 3 (some (.object "com/example/consulate/consulate/cvc/Chat")) ws ({ frames := 3, cells := 2, slots := 5, locals := 39 } : Room) #[(.ref o0), (.ref s_Chat_Role_DV_DOMESTIC)] h0 2 5 (Q9 Z o0 s_Chat_Role_DV_DOMESTIC o_2 k_o_2 e0_o_2 e1_o_2 e2_o_2 o_3 h0 n0) := by
  refine MetFree.of_bodySF (plainFor_of_name pn_1) hisR ?_
  intro p e s m args below meth c s₁ Bd hml0 hP hK
  obtain ⟨rfl, hZ, hh⟩ := hP
  have hx := Bd.exec
  have hby := Bd.bytes
  have hml : c.maxLocals = 3 := hml0
  have hown : s.vm.findClass "com/example/consulate/consulate/cvc/Chat" = some m.cls := findClass_of_methodNamed Bd.named
  have hnm := (name_of_methodNamed Bd.named Bd.method).1
  have X0 : Stand p l e ({ frames := 3, cells := 2, slots := 5, locals := 39 } : Room) s m #[(.ref o0), (.ref s_Chat_Role_DV_DOMESTIC)] below meth c s₁ [] 0 0 := Stand.of_body Bd
  have e0 : s₁.heap = h0 := by rw [← hh, Bd.state]; rfl
  have N0 := Fr.nil n0
  refine Go.of ?_
  refine Go.st (S' := s₁.setTop (mkF m 0 #[.val (.ref o0), .val (.ref s_Chat_Role_DV_DOMESTIC), .unset] [])) (fun t k => castTop (ef_9 m o0 s_Chat_Role_DV_DOMESTIC) k) ?_
  refine Go.st (S' := s₁.setTop (mkF m 1 #[.val (.ref o0), .val (.ref s_Chat_Role_DV_DOMESTIC), .unset] [(.ref o0)])) (fun t k => XS.aloadN X0.here hx rfl (hb hby dprog_20_method_3_code_0) rfl rfl k) ?_
  obtain ⟨T437, X437, e437, st437⟩ := getF X0 hx hZ hown (host := "") (Or.inl (hw _ (List.mem_of_getElem? (i := 24) rfl))) Via.refl e0 F_o0_data (g := (mkF m 1 #[.val (.ref o0), .val (.ref s_Chat_Role_DV_DOMESTIC), .unset] [(.ref o0)])) rfl rfl (hb hby dprog_20_method_3_code_1)
  refine Go.st (S' := T437.setTop (mkF m 4 #[.val (.ref o0), .val (.ref s_Chat_Role_DV_DOMESTIC), .unset] [(.ref o_2)])) st437 ?_
  obtain ⟨T440, h440, X440, e440, E440, A440, B440, st440⟩ := cloneH X437 hx hZ hown (ad := "[B") (hw _ (List.mem_of_getElem? (i := 31) rfl)) (hw _ (List.mem_of_getElem? (i := 32) rfl)) (hw _ (List.mem_of_getElem? (i := 36) rfl)) (hw _ (List.mem_of_getElem? (i := 34) rfl)) (hw _ (List.mem_of_getElem? (i := 35) rfl)) (hw _ (List.mem_of_getElem? (i := 37) rfl)) e437 (Arv.arh V_o_2) (E_o_2) (g := (mkF m 4 #[.val (.ref o0), .val (.ref s_Chat_Role_DV_DOMESTIC), .unset] [(.ref o_2)])) rfl (by rw [hml]; rfl) rfl (hb hby dprog_20_method_3_code_4) (by decide) (W := 0) (cap := 3) (by show 2 * 0 + _ ≤ _; exact Nat.le_of_eq rfl) (by decide) (by decide) (by decide) (by decide)
  obtain ⟨b440, gg440⟩ : ∃ z, z = h0.size := ⟨_, rfl⟩
  rw [← gg440] at A440 B440 st440
  have g_b440 : n0 ≤ b440 := Nat.le_trans Z0 (Nat.le_of_eq gg440.symm)
  have sz_b440 : h0.size ≤ b440 := Nat.le_trans (Keep.refl h0 []).1 (Nat.le_of_eq gg440.symm)
  have Z441 : n0 ≤ h440.size := Nat.le_trans Z0 E440.1
  have K441 : Keep h0 h440 [] := (Keep.refl h0 []).ext E440
  have V440 : Arv Z h440 b440 k_o_2 .byte (3 : Int32) [(.int e0_o_2), (.int e1_o_2), (.int e2_o_2)] (.int (0 : Int32)) := A440
  refine Go.st (S' := T440.setTop (mkF m 7 #[.val (.ref o0), .val (.ref s_Chat_Role_DV_DOMESTIC), .unset] [(.ref b440)])) st440 ?_
  obtain ⟨T442, X442, e442, st442⟩ := castY X440 hx hZ hown (hw _ (List.mem_of_getElem? (i := 38) rfl)) e440 (Ins.self B440) (g := (mkF m 7 #[.val (.ref o0), .val (.ref s_Chat_Role_DV_DOMESTIC), .unset] [(.ref b440)])) rfl rfl (hb hby dprog_20_method_3_code_7)
  refine Go.st (S' := T442.setTop (mkF m 10 #[.val (.ref o0), .val (.ref s_Chat_Role_DV_DOMESTIC), .unset] [(.ref b440)])) st442 ?_
  let A443 : Array Slot := #[.val (.ref o0), .val (.ref s_Chat_Role_DV_DOMESTIC), .val (.ref b440)]
  refine Go.st (S' := T442.setTop (mkF m 11 A443 [])) (fun t k => XS.astoreN X442.here hx rfl (hb hby dprog_20_method_3_code_10) rfl rfl (l' := A443) rfl k) ?_
  refine Go.st (S' := T442.setTop (mkF m 12 A443 [(.ref b440)])) (fun t k => XS.aloadN X442.here hx rfl (hb hby dprog_20_method_3_code_11) rfl rfl k) ?_
  refine Go.st (S' := T442.setTop (mkF m 13 A443 [(.int (0 : Int32)), (.ref b440)])) (fun t k => XS.iconst X442.here hx rfl (hb hby dprog_20_method_3_code_12) k) ?_
  refine Go.st (S' := T442.setTop (mkF m 14 A443 [(.ref b440), (.int (0 : Int32)), (.ref b440)])) (fun t k => XS.aloadN X442.here hx rfl (hb hby dprog_20_method_3_code_13) rfl rfl k) ?_
  refine Go.st (S' := T442.setTop (mkF m 15 A443 [(.int (0 : Int32)), (.ref b440), (.int (0 : Int32)), (.ref b440)])) (fun t k => XS.iconst X442.here hx rfl (hb hby dprog_20_method_3_code_14) k) ?_
  obtain ⟨cl444, Ar444, -, S444, N444_, H444, -⟩ := id V440
  have hin444 : ¬ ((0 : Int32) < 0 ∨ cl444.slots.size ≤ ((0 : Int32)).toNatClampNeg) := inb_of S444 ⟨by decide, by decide⟩
  have hat444 : cl444.slots[((0 : Int32)).toNatClampNeg]? = some (.int e0_o_2) := Has.at H444 hin444 rfl
  refine Go.st (S' := T442.setTop (mkF m 16 A443 [(.int e0_o_2), (.int (0 : Int32)), (.ref b440)])) (fun t k => X442.baloadBytes hx (j := (0 : Int32)) (v := (.int e0_o_2)) (own_eh e442 Ar444.1) (State.isArrayOf_alike hZ.alike Ar444.2.1) Ar444.2.2 hin444 hat444 (g := (mkF m 15 A443 [(.int (0 : Int32)), (.ref b440), (.int (0 : Int32)), (.ref b440)])) rfl rfl (hb hby dprog_20_method_3_code_15) t k) ?_
  refine Go.st (S' := T442.setTop (mkF m 18 A443 [(.int (63 : Int32)), (.int e0_o_2), (.int (0 : Int32)), (.ref b440)])) (fun t k => XS.bipush X442.here hx rfl (hb hby dprog_20_method_3_code_16) k) ?_
  refine Go.op (F := fun z => T442.setTop (mkF m 19 A443 [(.int z), (.int (0 : Int32)), (.ref b440)])) (x := (e0_o_2 &&& (63 : Int32))) (fun t k => XS.iand X442.here hx rfl (hb hby dprog_20_method_3_code_18) rfl k) ?_
  intro v445 hv445
  refine Go.st (S' := T442.setTop (mkF m 20 A443 [(.ref s_Chat_Role_DV_DOMESTIC), (.int v445), (.int (0 : Int32)), (.ref b440)])) (fun t k => XS.aloadN X442.here hx rfl (hb hby dprog_20_method_3_code_19) rfl rfl k) ?_
  have f446 := ((F_s_Chat_Role_DV_DOMESTIC_bits).ext E440)
  refine Go.st (S' := T442.setTop (mkF m 23 A443 [(.int (2 : Int32)), (.int v445), (.int (0 : Int32)), (.ref b440)])) (own_getR X442 hx hZ hown (hw _ (List.mem_of_getElem? (i := 40) rfl)) e442 f446 (g := (mkF m 20 A443 [(.ref s_Chat_Role_DV_DOMESTIC), (.int v445), (.int (0 : Int32)), (.ref b440)])) rfl rfl (hb hby dprog_20_method_3_code_20)) ?_
  refine Go.st (S' := T442.setTop (mkF m 25 A443 [(.int (6 : Int32)), (.int (2 : Int32)), (.int v445), (.int (0 : Int32)), (.ref b440)])) (fun t k => XS.bipush X442.here hx rfl (hb hby dprog_20_method_3_code_23) k) ?_
  refine Go.op (F := fun z => T442.setTop (mkF m 26 A443 [(.int z), (.int v445), (.int (0 : Int32)), (.ref b440)])) (x := ((2 : Int32) <<< ((6 : Int32) &&& 31))) (fun t k => XS.ishl X442.here hx rfl (hb hby dprog_20_method_3_code_25) rfl k) ?_
  intro v447 hv447
  obtain rfl : (128 : Int32) = v447 := (hv447.trans (by decide)).symm
  refine Go.op (F := fun z => T442.setTop (mkF m 27 A443 [(.int z), (.int (0 : Int32)), (.ref b440)])) (x := (v445 ||| (128 : Int32))) (fun t k => XS.ior X442.here hx rfl (hb hby dprog_20_method_3_code_26) rfl k) ?_
  intro v448 hv448
  refine Go.op (F := fun z => T442.setTop (mkF m 28 A443 [(.int z), (.int (0 : Int32)), (.ref b440)])) (x := v448.toInt8.toInt32) (fun t k => XS.i2b X442.here hx rfl (hb hby dprog_20_method_3_code_27) rfl k) ?_
  intro v449 hv449
  obtain ⟨cl450, Ar450, q450, S450, N450_, H450, G450⟩ := id V440
  have hin450 : ¬ ((0 : Int32) < 0 ∨ cl450.slots.size ≤ ((0 : Int32)).toNatClampNeg) := inb_of S450 ⟨by decide, by decide⟩
  obtain ⟨v451, hv451⟩ : ∃ z, z = v449.toInt8.toInt32 := ⟨_, rfl⟩
  obtain ⟨T450, h450, X450, e450, W450, st450⟩ := stB X442 hx hZ e442 Ar450 (j := (0 : Int32)) hin450 (g := (mkF m 28 A443 [(.int v449), (.int (0 : Int32)), (.ref b440)])) rfl rfl (hb hby dprog_20_method_3_code_28)
  have W450 : Wr h440 h450 b440 ((0 : Int32)).toNatClampNeg (.int v451) := by rw [hv451]; exact W450
  have V450 : Arv Z h450 b440 k_o_2 .byte (3 : Int32) [(.int v451), (.int e1_o_2), (.int e2_o_2)] (.int (0 : Int32)) := Arv.set Ar450 q450 S450 N450_ H450 G450 (by rw [hv451]; exact fits_nar_byte _) W450 0 rfl (Nat.le_of_ble_eq_true rfl)
  have N450 := Fr.snoc X450 N0 g_b440
  have Z452 : n0 ≤ h450.size := Nat.le_trans Z441 (Keep.of_wr W450).1
  have K452 : Keep h0 h450 [] := K441.wr W450 (Or.inr sz_b440)
  refine Go.st (S' := T450.setTop (mkF m 29 A443 [])) st450 ?_
  obtain ⟨T453, h453, X453, e453, E453, A453, D453, -, st453⟩ := newO X450 hx hZ hown (hw _ (List.mem_of_getElem? (i := 42) rfl)) (hw _ (List.mem_of_getElem? (i := 9) rfl)) (hw _ (List.mem_of_getElem? (i := 10) rfl)) e450 (g := (mkF m 29 A443 [])) rfl (hb hby dprog_20_method_3_code_29) (by decide) (by decide)
  obtain ⟨b453, gg453⟩ : ∃ z, z = h450.size := ⟨_, rfl⟩
  rw [← gg453] at A453 D453 st453
  have g_b453 : n0 ≤ b453 := Nat.le_trans Z452 (Nat.le_of_eq gg453.symm)
  have sz_b453 : h0.size ≤ b453 := Nat.le_trans K452.1 (Nat.le_of_eq gg453.symm)
  have f454 := ((B440).wr W450)
  have lt_b440_b453 : b440 < b453 := Nat.lt_of_lt_of_le (f454).lt (Nat.le_of_eq gg453.symm)
  have Z455 : n0 ≤ h453.size := Nat.le_trans Z452 E453.1
  have K455 : Keep h0 h453 [] := K452.ext E453
  have Fb453_template : Fld Z h453 b453 "com/example/consulate/consulate/cvc/Chat" "template" "Lcom/example/consulate/consulate/cvc/Chat$Template;" .null := D453 (Or.inr (hw _ (List.mem_of_getElem? (i := 23) rfl))) (ty := (.object "com/example/consulate/consulate/cvc/Chat$Template")) (by decide)
  have Fb453_data : Fld Z h453 b453 "com/example/consulate/consulate/cvc/Chat" "data" "[B" .null := D453 (Or.inr (hw _ (List.mem_of_getElem? (i := 25) rfl))) (ty := (.array .byte)) (by decide)
  refine Go.st (S' := T453.setTop (mkF m 32 A443 [(.ref b453)])) st453 ?_
  refine Go.st (S' := T453.setTop (mkF m 33 A443 [(.ref b453), (.ref b453)])) (fun t k => XS.dup X453.here hx rfl (hb hby dprog_20_method_3_code_32) rfl rfl k) ?_
  refine Go.st (S' := T453.setTop (mkF m 34 A443 [(.ref o0), (.ref b453), (.ref b453)])) (fun t k => XS.aloadN X453.here hx rfl (hb hby dprog_20_method_3_code_33) rfl rfl k) ?_
  have f456 := ((((((F_o0_template).ext E440)).other W450 (Or.inl (Nat.ne_of_lt (Nat.lt_of_lt_of_le (F_o0_data).lt sz_b440))))).ext E453)
  obtain ⟨T457, X457, e457, st457⟩ := getF X453 hx hZ hown (host := "") (Or.inl (hw _ (List.mem_of_getElem? (i := 22) rfl))) Via.refl e453 f456 (g := (mkF m 34 A443 [(.ref o0), (.ref b453), (.ref b453)])) rfl rfl (hb hby dprog_20_method_3_code_34)
  refine Go.st (S' := T457.setTop (mkF m 37 A443 [(.ref o_3), (.ref b453), (.ref b453)])) st457 ?_
  refine Go.st (S' := T457.setTop (mkF m 38 A443 [(.ref b440), (.ref o_3), (.ref b453), (.ref b453)])) (fun t k => XS.aloadN X457.here hx rfl (hb hby dprog_20_method_3_code_37) rfl rfl k) ?_
  have f459 := ((V450).ext E453)
  obtain ⟨r460, T460, L460, X460, hQ460, st460⟩ := own_callI (W := 1) (a := b453) X457 hx hZ e457 hown (y := (⟨"com/example/consulate/consulate/cvc/Chat", "<init>", "(Lcom/example/consulate/consulate/cvc/Chat$Template;[B)V"⟩ : MethodName)) rfl (hw _ (List.mem_of_getElem? (i := 43) rfl)) (hw _ (List.mem_of_getElem? (i := 12) rfl)) (hw _ (List.mem_of_getElem? (i := 10) rfl)) (hw _ (List.mem_of_getElem? (i := 13) rfl)) (by decide) (rm6 l Z a0 hw [] b453 o_3 b440 k_o_2 v451 e1_o_2 e2_o_2 (.null) (.null) h453 n0 Z455 (f459) (A453) (Fb453_template) (g_b453) (Fb453_data)) (by decide) (by decide) (by decide) (by decide) (g := (mkF m 38 A443 [(.ref b440), (.ref o_3), (.ref b453), (.ref b453)])) rfl (by rw [hml]; rfl) (argsL := [(.ref o_3), (.ref b440)]) (rest := [(.ref b453)]) rfl (lenOf pd_1 rfl) rfl (by show 2 * 0 + _ ≤ _; exact Nat.le_of_eq rfl) (hb hby dprog_20_method_3_code_38)
  obtain ⟨rfl, N460, K460_, f461, f462, f463⟩ := hQ460
  have N460_ := Fr.app N450 N460
  have Z464 : n0 ≤ T460.heap.size := Nat.le_trans Z455 K460_.1
  have K464 : Keep h0 T460.heap [] := K455.trans K460_ (allS (Or.inr sz_b453) all0)
  refine Go.st (S' := T460.setTop (mkF m 41 A443 [(.ref b453)])) st460 ?_
  have f465 := ((f459).keep K460_ (ninS (Nat.ne_of_lt lt_b440_b453) nin0))
  have f466 := ((((f454).ext E453)).keep K460_)
  exact Go.ret X460 (v := some (.ref b453)) (fun h => by rw [Bd.returns] at h; cases h) Bd.notSynchronized (fun fs hr => retOut X460 hx Bd.returns rfl (Or.inr (Or.inr (Or.inr (Or.inr ⟨rfl, rfl, rfl⟩)))) (hb hby dprog_20_method_3_code_41) hr) (by decide) (by decide) (⟨v445, v448, v449, v451, b440, b453, hv445, hv448, hv449, hv451, rfl, N460_, K464, sz_b440, sz_b453, f465, f466, f461, f462, f463, lt_b440_b453⟩)
theorem ef_10 (m : MethodId) (o0 : Addr) (s_Chat_Role_DV_FOREIGN : Addr) : entryFrame m #[(.ref o0), (.ref s_Chat_Role_DV_FOREIGN)] 3 = mkF m 0 #[.val (.ref o0), .val (.ref s_Chat_Role_DV_FOREIGN), .unset] [] := by first | (simp [entryFrame, mkF, argsToLocals, Value.category, maxLocals]; done) | rfl
def Q10 (Z : State) (o0 : Addr) (s_Chat_Role_DV_FOREIGN : Addr) (o_2 : Addr) (k_o_2 : ClassId) (e0_o_2 : Int32) (o_3 : Addr) (h0 : Heap) (n0 : Nat) (v : Option Value) (h : Heap) (L : List Loc) : Prop := (∃ (v571 : Int32) (v574 : Int32) (v575 : Int32) (v577 : Int32) (b566 : Addr) (b579 : Addr), v571 = (e0_o_2 &&& (63 : Int32)) ∧ v574 = (v571 ||| (64 : Int32)) ∧ v575 = v574.toInt8.toInt32 ∧ v577 = v575.toInt8.toInt32 ∧ v = some (.ref b579) ∧ Fr n0 L ∧ Keep h0 h [] ∧ h0.size ≤ b566 ∧ h0.size ≤ b579 ∧ Arv Z h b566 k_o_2 .byte (1 : Int32) [(.int v577)] (.int (0 : Int32)) ∧ Exa Z h b566 "[B" ∧ Exa Z h b579 "com/example/consulate/consulate/cvc/Chat" ∧ Fld Z h b579 "com/example/consulate/consulate/cvc/Chat" "template" "Lcom/example/consulate/consulate/cvc/Chat$Template;" (.ref o_3) ∧ Fld Z h b579 "com/example/consulate/consulate/cvc/Chat" "data" "[B" (.ref b566) ∧ b566 < b579)
set_option maxRecDepth 65536 in
set_option maxHeartbeats 40000000 in
theorem rm10 (l : Launch) (Z : State) (a0 : Array Value) (hw : ∀ d ∈ tables_1, d.before a0 Z = true) (ws : List Jvm.Cond) (o0 : Addr) (s_Chat_Role_DV_FOREIGN : Addr) (o_2 : Addr) (k_o_2 : ClassId) (e0_o_2 : Int32) (o_3 : Addr) (h0 : Heap) (n0 : Nat) (Z0 : n0 ≤ h0.size) (F_o0_data : Fld Z h0 o0 "com/example/consulate/consulate/cvc/Chat" "data" "[B" (.ref o_2)) (V_o_2 : Arv Z h0 o_2 k_o_2 .byte (1 : Int32) [(.int e0_o_2)] (.int (0 : Int32))) (E_o_2 : Exa Z h0 o_2 "[B") (F_s_Chat_Role_DV_FOREIGN_bits : Fld Z h0 s_Chat_Role_DV_FOREIGN "com/example/consulate/consulate/cvc/Chat$Role" "bits" "I" (.int (1 : Int32))) (F_o0_template : Fld Z h0 o0 "com/example/consulate/consulate/cvc/Chat" "template" "Lcom/example/consulate/consulate/cvc/Chat$Template;" (.ref o_3)) :
    Con l Z (⟨"com/example/consulate/consulate/cvc/Chat", "withRole", "(Lcom/example/consulate/consulate/cvc/Chat$Role;)Lcom/example/consulate/consulate/cvc/Chat;"⟩ : MethodName) prog_20_method_3_code 3 (some (.object "com/example/consulate/consulate/cvc/Chat")) ws ({ frames := 3, cells := 2, slots := 3, locals := 39 } : Room) #[(.ref o0), (.ref s_Chat_Role_DV_FOREIGN)] h0 2 3 (Q10 Z o0 s_Chat_Role_DV_FOREIGN o_2 k_o_2 e0_o_2 o_3 h0 n0) := by
  refine MetFree.of_bodySF (plainFor_of_name pn_1) hisR ?_
  intro p e s m args below meth c s₁ Bd hml0 hP hK
  obtain ⟨rfl, hZ, hh⟩ := hP
  have hx := Bd.exec
  have hby := Bd.bytes
  have hml : c.maxLocals = 3 := hml0
  have hown : s.vm.findClass "com/example/consulate/consulate/cvc/Chat" = some m.cls := findClass_of_methodNamed Bd.named
  have hnm := (name_of_methodNamed Bd.named Bd.method).1
  have X0 : Stand p l e ({ frames := 3, cells := 2, slots := 3, locals := 39 } : Room) s m #[(.ref o0), (.ref s_Chat_Role_DV_FOREIGN)] below meth c s₁ [] 0 0 := Stand.of_body Bd
  have e0 : s₁.heap = h0 := by rw [← hh, Bd.state]; rfl
  have N0 := Fr.nil n0
  refine Go.of ?_
  refine Go.st (S' := s₁.setTop (mkF m 0 #[.val (.ref o0), .val (.ref s_Chat_Role_DV_FOREIGN), .unset] [])) (fun t k => castTop (ef_10 m o0 s_Chat_Role_DV_FOREIGN) k) ?_
  refine Go.st (S' := s₁.setTop (mkF m 1 #[.val (.ref o0), .val (.ref s_Chat_Role_DV_FOREIGN), .unset] [(.ref o0)])) (fun t k => XS.aloadN X0.here hx rfl (hb hby dprog_20_method_3_code_0) rfl rfl k) ?_
  obtain ⟨T563, X563, e563, st563⟩ := getF X0 hx hZ hown (host := "") (Or.inl (hw _ (List.mem_of_getElem? (i := 24) rfl))) Via.refl e0 F_o0_data (g := (mkF m 1 #[.val (.ref o0), .val (.ref s_Chat_Role_DV_FOREIGN), .unset] [(.ref o0)])) rfl rfl (hb hby dprog_20_method_3_code_1)
  refine Go.st (S' := T563.setTop (mkF m 4 #[.val (.ref o0), .val (.ref s_Chat_Role_DV_FOREIGN), .unset] [(.ref o_2)])) st563 ?_
  obtain ⟨T566, h566, X566, e566, E566, A566, B566, st566⟩ := cloneH X563 hx hZ hown (ad := "[B") (hw _ (List.mem_of_getElem? (i := 31) rfl)) (hw _ (List.mem_of_getElem? (i := 32) rfl)) (hw _ (List.mem_of_getElem? (i := 36) rfl)) (hw _ (List.mem_of_getElem? (i := 34) rfl)) (hw _ (List.mem_of_getElem? (i := 35) rfl)) (hw _ (List.mem_of_getElem? (i := 37) rfl)) e563 (Arv.arh V_o_2) (E_o_2) (g := (mkF m 4 #[.val (.ref o0), .val (.ref s_Chat_Role_DV_FOREIGN), .unset] [(.ref o_2)])) rfl (by rw [hml]; rfl) rfl (hb hby dprog_20_method_3_code_4) (by decide) (W := 0) (cap := 1) (by show 2 * 0 + _ ≤ _; exact Nat.le_of_eq rfl) (by decide) (by decide) (by decide) (by decide)
  obtain ⟨b566, gg566⟩ : ∃ z, z = h0.size := ⟨_, rfl⟩
  rw [← gg566] at A566 B566 st566
  have g_b566 : n0 ≤ b566 := Nat.le_trans Z0 (Nat.le_of_eq gg566.symm)
  have sz_b566 : h0.size ≤ b566 := Nat.le_trans (Keep.refl h0 []).1 (Nat.le_of_eq gg566.symm)
  have Z567 : n0 ≤ h566.size := Nat.le_trans Z0 E566.1
  have K567 : Keep h0 h566 [] := (Keep.refl h0 []).ext E566
  have V566 : Arv Z h566 b566 k_o_2 .byte (1 : Int32) [(.int e0_o_2)] (.int (0 : Int32)) := A566
  refine Go.st (S' := T566.setTop (mkF m 7 #[.val (.ref o0), .val (.ref s_Chat_Role_DV_FOREIGN), .unset] [(.ref b566)])) st566 ?_
  obtain ⟨T568, X568, e568, st568⟩ := castY X566 hx hZ hown (hw _ (List.mem_of_getElem? (i := 38) rfl)) e566 (Ins.self B566) (g := (mkF m 7 #[.val (.ref o0), .val (.ref s_Chat_Role_DV_FOREIGN), .unset] [(.ref b566)])) rfl rfl (hb hby dprog_20_method_3_code_7)
  refine Go.st (S' := T568.setTop (mkF m 10 #[.val (.ref o0), .val (.ref s_Chat_Role_DV_FOREIGN), .unset] [(.ref b566)])) st568 ?_
  let A569 : Array Slot := #[.val (.ref o0), .val (.ref s_Chat_Role_DV_FOREIGN), .val (.ref b566)]
  refine Go.st (S' := T568.setTop (mkF m 11 A569 [])) (fun t k => XS.astoreN X568.here hx rfl (hb hby dprog_20_method_3_code_10) rfl rfl (l' := A569) rfl k) ?_
  refine Go.st (S' := T568.setTop (mkF m 12 A569 [(.ref b566)])) (fun t k => XS.aloadN X568.here hx rfl (hb hby dprog_20_method_3_code_11) rfl rfl k) ?_
  refine Go.st (S' := T568.setTop (mkF m 13 A569 [(.int (0 : Int32)), (.ref b566)])) (fun t k => XS.iconst X568.here hx rfl (hb hby dprog_20_method_3_code_12) k) ?_
  refine Go.st (S' := T568.setTop (mkF m 14 A569 [(.ref b566), (.int (0 : Int32)), (.ref b566)])) (fun t k => XS.aloadN X568.here hx rfl (hb hby dprog_20_method_3_code_13) rfl rfl k) ?_
  refine Go.st (S' := T568.setTop (mkF m 15 A569 [(.int (0 : Int32)), (.ref b566), (.int (0 : Int32)), (.ref b566)])) (fun t k => XS.iconst X568.here hx rfl (hb hby dprog_20_method_3_code_14) k) ?_
  obtain ⟨cl570, Ar570, -, S570, N570_, H570, -⟩ := id V566
  have hin570 : ¬ ((0 : Int32) < 0 ∨ cl570.slots.size ≤ ((0 : Int32)).toNatClampNeg) := inb_of S570 ⟨by decide, by decide⟩
  have hat570 : cl570.slots[((0 : Int32)).toNatClampNeg]? = some (.int e0_o_2) := Has.at H570 hin570 rfl
  refine Go.st (S' := T568.setTop (mkF m 16 A569 [(.int e0_o_2), (.int (0 : Int32)), (.ref b566)])) (fun t k => X568.baloadBytes hx (j := (0 : Int32)) (v := (.int e0_o_2)) (own_eh e568 Ar570.1) (State.isArrayOf_alike hZ.alike Ar570.2.1) Ar570.2.2 hin570 hat570 (g := (mkF m 15 A569 [(.int (0 : Int32)), (.ref b566), (.int (0 : Int32)), (.ref b566)])) rfl rfl (hb hby dprog_20_method_3_code_15) t k) ?_
  refine Go.st (S' := T568.setTop (mkF m 18 A569 [(.int (63 : Int32)), (.int e0_o_2), (.int (0 : Int32)), (.ref b566)])) (fun t k => XS.bipush X568.here hx rfl (hb hby dprog_20_method_3_code_16) k) ?_
  refine Go.op (F := fun z => T568.setTop (mkF m 19 A569 [(.int z), (.int (0 : Int32)), (.ref b566)])) (x := (e0_o_2 &&& (63 : Int32))) (fun t k => XS.iand X568.here hx rfl (hb hby dprog_20_method_3_code_18) rfl k) ?_
  intro v571 hv571
  refine Go.st (S' := T568.setTop (mkF m 20 A569 [(.ref s_Chat_Role_DV_FOREIGN), (.int v571), (.int (0 : Int32)), (.ref b566)])) (fun t k => XS.aloadN X568.here hx rfl (hb hby dprog_20_method_3_code_19) rfl rfl k) ?_
  have f572 := ((F_s_Chat_Role_DV_FOREIGN_bits).ext E566)
  refine Go.st (S' := T568.setTop (mkF m 23 A569 [(.int (1 : Int32)), (.int v571), (.int (0 : Int32)), (.ref b566)])) (own_getR X568 hx hZ hown (hw _ (List.mem_of_getElem? (i := 40) rfl)) e568 f572 (g := (mkF m 20 A569 [(.ref s_Chat_Role_DV_FOREIGN), (.int v571), (.int (0 : Int32)), (.ref b566)])) rfl rfl (hb hby dprog_20_method_3_code_20)) ?_
  refine Go.st (S' := T568.setTop (mkF m 25 A569 [(.int (6 : Int32)), (.int (1 : Int32)), (.int v571), (.int (0 : Int32)), (.ref b566)])) (fun t k => XS.bipush X568.here hx rfl (hb hby dprog_20_method_3_code_23) k) ?_
  refine Go.op (F := fun z => T568.setTop (mkF m 26 A569 [(.int z), (.int v571), (.int (0 : Int32)), (.ref b566)])) (x := ((1 : Int32) <<< ((6 : Int32) &&& 31))) (fun t k => XS.ishl X568.here hx rfl (hb hby dprog_20_method_3_code_25) rfl k) ?_
  intro v573 hv573
  obtain rfl : (64 : Int32) = v573 := (hv573.trans (by decide)).symm
  refine Go.op (F := fun z => T568.setTop (mkF m 27 A569 [(.int z), (.int (0 : Int32)), (.ref b566)])) (x := (v571 ||| (64 : Int32))) (fun t k => XS.ior X568.here hx rfl (hb hby dprog_20_method_3_code_26) rfl k) ?_
  intro v574 hv574
  refine Go.op (F := fun z => T568.setTop (mkF m 28 A569 [(.int z), (.int (0 : Int32)), (.ref b566)])) (x := v574.toInt8.toInt32) (fun t k => XS.i2b X568.here hx rfl (hb hby dprog_20_method_3_code_27) rfl k) ?_
  intro v575 hv575
  obtain ⟨cl576, Ar576, q576, S576, N576_, H576, G576⟩ := id V566
  have hin576 : ¬ ((0 : Int32) < 0 ∨ cl576.slots.size ≤ ((0 : Int32)).toNatClampNeg) := inb_of S576 ⟨by decide, by decide⟩
  obtain ⟨v577, hv577⟩ : ∃ z, z = v575.toInt8.toInt32 := ⟨_, rfl⟩
  obtain ⟨T576, h576, X576, e576, W576, st576⟩ := stB X568 hx hZ e568 Ar576 (j := (0 : Int32)) hin576 (g := (mkF m 28 A569 [(.int v575), (.int (0 : Int32)), (.ref b566)])) rfl rfl (hb hby dprog_20_method_3_code_28)
  have W576 : Wr h566 h576 b566 ((0 : Int32)).toNatClampNeg (.int v577) := by rw [hv577]; exact W576
  have V576 : Arv Z h576 b566 k_o_2 .byte (1 : Int32) [(.int v577)] (.int (0 : Int32)) := Arv.set Ar576 q576 S576 N576_ H576 G576 (by rw [hv577]; exact fits_nar_byte _) W576 0 rfl (Nat.le_of_ble_eq_true rfl)
  have N576 := Fr.snoc X576 N0 g_b566
  have Z578 : n0 ≤ h576.size := Nat.le_trans Z567 (Keep.of_wr W576).1
  have K578 : Keep h0 h576 [] := K567.wr W576 (Or.inr sz_b566)
  refine Go.st (S' := T576.setTop (mkF m 29 A569 [])) st576 ?_
  obtain ⟨T579, h579, X579, e579, E579, A579, D579, -, st579⟩ := newO X576 hx hZ hown (hw _ (List.mem_of_getElem? (i := 42) rfl)) (hw _ (List.mem_of_getElem? (i := 9) rfl)) (hw _ (List.mem_of_getElem? (i := 10) rfl)) e576 (g := (mkF m 29 A569 [])) rfl (hb hby dprog_20_method_3_code_29) (by decide) (by decide)
  obtain ⟨b579, gg579⟩ : ∃ z, z = h576.size := ⟨_, rfl⟩
  rw [← gg579] at A579 D579 st579
  have g_b579 : n0 ≤ b579 := Nat.le_trans Z578 (Nat.le_of_eq gg579.symm)
  have sz_b579 : h0.size ≤ b579 := Nat.le_trans K578.1 (Nat.le_of_eq gg579.symm)
  have f580 := ((B566).wr W576)
  have lt_b566_b579 : b566 < b579 := Nat.lt_of_lt_of_le (f580).lt (Nat.le_of_eq gg579.symm)
  have Z581 : n0 ≤ h579.size := Nat.le_trans Z578 E579.1
  have K581 : Keep h0 h579 [] := K578.ext E579
  have Fb579_template : Fld Z h579 b579 "com/example/consulate/consulate/cvc/Chat" "template" "Lcom/example/consulate/consulate/cvc/Chat$Template;" .null := D579 (Or.inr (hw _ (List.mem_of_getElem? (i := 23) rfl))) (ty := (.object "com/example/consulate/consulate/cvc/Chat$Template")) (by decide)
  have Fb579_data : Fld Z h579 b579 "com/example/consulate/consulate/cvc/Chat" "data" "[B" .null := D579 (Or.inr (hw _ (List.mem_of_getElem? (i := 25) rfl))) (ty := (.array .byte)) (by decide)
  refine Go.st (S' := T579.setTop (mkF m 32 A569 [(.ref b579)])) st579 ?_
  refine Go.st (S' := T579.setTop (mkF m 33 A569 [(.ref b579), (.ref b579)])) (fun t k => XS.dup X579.here hx rfl (hb hby dprog_20_method_3_code_32) rfl rfl k) ?_
  refine Go.st (S' := T579.setTop (mkF m 34 A569 [(.ref o0), (.ref b579), (.ref b579)])) (fun t k => XS.aloadN X579.here hx rfl (hb hby dprog_20_method_3_code_33) rfl rfl k) ?_
  have f582 := ((((((F_o0_template).ext E566)).other W576 (Or.inl (Nat.ne_of_lt (Nat.lt_of_lt_of_le (F_o0_data).lt sz_b566))))).ext E579)
  obtain ⟨T583, X583, e583, st583⟩ := getF X579 hx hZ hown (host := "") (Or.inl (hw _ (List.mem_of_getElem? (i := 22) rfl))) Via.refl e579 f582 (g := (mkF m 34 A569 [(.ref o0), (.ref b579), (.ref b579)])) rfl rfl (hb hby dprog_20_method_3_code_34)
  refine Go.st (S' := T583.setTop (mkF m 37 A569 [(.ref o_3), (.ref b579), (.ref b579)])) st583 ?_
  refine Go.st (S' := T583.setTop (mkF m 38 A569 [(.ref b566), (.ref o_3), (.ref b579), (.ref b579)])) (fun t k => XS.aloadN X583.here hx rfl (hb hby dprog_20_method_3_code_37) rfl rfl k) ?_
  have f584 := ((V576).ext E579)
  obtain ⟨r585, T585, L585, X585, hQ585, st585⟩ := own_callI (W := 1) (a := b579) X583 hx hZ e583 hown (y := (⟨"com/example/consulate/consulate/cvc/Chat", "<init>", "(Lcom/example/consulate/consulate/cvc/Chat$Template;[B)V"⟩ : MethodName)) rfl (hw _ (List.mem_of_getElem? (i := 43) rfl)) (hw _ (List.mem_of_getElem? (i := 12) rfl)) (hw _ (List.mem_of_getElem? (i := 10) rfl)) (hw _ (List.mem_of_getElem? (i := 13) rfl)) (by decide) (rm2 l Z a0 hw [] b579 o_3 b566 k_o_2 v577 (.null) (.null) h579 n0 Z581 (f584) (A579) (Fb579_template) (g_b579) (Fb579_data)) (by decide) (by decide) (by decide) (by decide) (g := (mkF m 38 A569 [(.ref b566), (.ref o_3), (.ref b579), (.ref b579)])) rfl (by rw [hml]; rfl) (argsL := [(.ref o_3), (.ref b566)]) (rest := [(.ref b579)]) rfl (lenOf pd_1 rfl) rfl (by show 2 * 0 + _ ≤ _; exact Nat.le_of_eq rfl) (hb hby dprog_20_method_3_code_38)
  obtain ⟨rfl, N585, K585_, f586, f587, f588⟩ := hQ585
  have N585_ := Fr.app N576 N585
  have Z589 : n0 ≤ T585.heap.size := Nat.le_trans Z581 K585_.1
  have K589 : Keep h0 T585.heap [] := K581.trans K585_ (allS (Or.inr sz_b579) all0)
  refine Go.st (S' := T585.setTop (mkF m 41 A569 [(.ref b579)])) st585 ?_
  have f590 := ((f584).keep K585_ (ninS (Nat.ne_of_lt lt_b566_b579) nin0))
  have f591 := ((((f580).ext E579)).keep K585_)
  exact Go.ret X585 (v := some (.ref b579)) (fun h => by rw [Bd.returns] at h; cases h) Bd.notSynchronized (fun fs hr => retOut X585 hx Bd.returns rfl (Or.inr (Or.inr (Or.inr (Or.inr ⟨rfl, rfl, rfl⟩)))) (hb hby dprog_20_method_3_code_41) hr) (by decide) (by decide) (⟨v571, v574, v575, v577, b566, b579, hv571, hv574, hv575, hv577, rfl, N585_, K589, sz_b566, sz_b579, f590, f591, f586, f587, f588, lt_b566_b579⟩)
theorem ef_11 (m : MethodId) (o0 : Addr) (s_Chat_Role_DV_FOREIGN : Addr) : entryFrame m #[(.ref o0), (.ref s_Chat_Role_DV_FOREIGN)] 3 = mkF m 0 #[.val (.ref o0), .val (.ref s_Chat_Role_DV_FOREIGN), .unset] [] := by first | (simp [entryFrame, mkF, argsToLocals, Value.category, maxLocals]; done) | rfl
def Q11 (Z : State) (o0 : Addr) (s_Chat_Role_DV_FOREIGN : Addr) (o_2 : Addr) (k_o_2 : ClassId) (e0_o_2 : Int32) (e1_o_2 : Int32) (e2_o_2 : Int32) (o_3 : Addr) (h0 : Heap) (n0 : Nat) (v : Option Value) (h : Heap) (L : List Loc) : Prop := (∃ (v664 : Int32) (v667 : Int32) (v668 : Int32) (v670 : Int32) (b659 : Addr) (b672 : Addr), v664 = (e0_o_2 &&& (63 : Int32)) ∧ v667 = (v664 ||| (64 : Int32)) ∧ v668 = v667.toInt8.toInt32 ∧ v670 = v668.toInt8.toInt32 ∧ v = some (.ref b672) ∧ Fr n0 L ∧ Keep h0 h [] ∧ h0.size ≤ b659 ∧ h0.size ≤ b672 ∧ Arv Z h b659 k_o_2 .byte (3 : Int32) [(.int v670), (.int e1_o_2), (.int e2_o_2)] (.int (0 : Int32)) ∧ Exa Z h b659 "[B" ∧ Exa Z h b672 "com/example/consulate/consulate/cvc/Chat" ∧ Fld Z h b672 "com/example/consulate/consulate/cvc/Chat" "template" "Lcom/example/consulate/consulate/cvc/Chat$Template;" (.ref o_3) ∧ Fld Z h b672 "com/example/consulate/consulate/cvc/Chat" "data" "[B" (.ref b659) ∧ b659 < b672)
set_option maxRecDepth 65536 in
set_option maxHeartbeats 40000000 in
theorem rm11 (l : Launch) (Z : State) (a0 : Array Value) (hw : ∀ d ∈ tables_1, d.before a0 Z = true) (ws : List Jvm.Cond) (o0 : Addr) (s_Chat_Role_DV_FOREIGN : Addr) (o_2 : Addr) (k_o_2 : ClassId) (e0_o_2 : Int32) (e1_o_2 : Int32) (e2_o_2 : Int32) (o_3 : Addr) (h0 : Heap) (n0 : Nat) (Z0 : n0 ≤ h0.size) (F_o0_data : Fld Z h0 o0 "com/example/consulate/consulate/cvc/Chat" "data" "[B" (.ref o_2)) (V_o_2 : Arv Z h0 o_2 k_o_2 .byte (3 : Int32) [(.int e0_o_2), (.int e1_o_2), (.int e2_o_2)] (.int (0 : Int32))) (E_o_2 : Exa Z h0 o_2 "[B") (F_s_Chat_Role_DV_FOREIGN_bits : Fld Z h0 s_Chat_Role_DV_FOREIGN "com/example/consulate/consulate/cvc/Chat$Role" "bits" "I" (.int (1 : Int32))) (F_o0_template : Fld Z h0 o0 "com/example/consulate/consulate/cvc/Chat" "template" "Lcom/example/consulate/consulate/cvc/Chat$Template;" (.ref o_3)) :
    Con l Z (⟨"com/example/consulate/consulate/cvc/Chat", "withRole", "(Lcom/example/consulate/consulate/cvc/Chat$Role;)Lcom/example/consulate/consulate/cvc/Chat;"⟩ : MethodName) prog_20_method_3_code 3 (some (.object "com/example/consulate/consulate/cvc/Chat")) ws ({ frames := 3, cells := 2, slots := 5, locals := 39 } : Room) #[(.ref o0), (.ref s_Chat_Role_DV_FOREIGN)] h0 2 5 (Q11 Z o0 s_Chat_Role_DV_FOREIGN o_2 k_o_2 e0_o_2 e1_o_2 e2_o_2 o_3 h0 n0) := by
  refine MetFree.of_bodySF (plainFor_of_name pn_1) hisR ?_
  intro p e s m args below meth c s₁ Bd hml0 hP hK
  obtain ⟨rfl, hZ, hh⟩ := hP
  have hx := Bd.exec
  have hby := Bd.bytes
  have hml : c.maxLocals = 3 := hml0
  have hown : s.vm.findClass "com/example/consulate/consulate/cvc/Chat" = some m.cls := findClass_of_methodNamed Bd.named
  have hnm := (name_of_methodNamed Bd.named Bd.method).1
  have X0 : Stand p l e ({ frames := 3, cells := 2, slots := 5, locals := 39 } : Room) s m #[(.ref o0), (.ref s_Chat_Role_DV_FOREIGN)] below meth c s₁ [] 0 0 := Stand.of_body Bd
  have e0 : s₁.heap = h0 := by rw [← hh, Bd.state]; rfl
  have N0 := Fr.nil n0
  refine Go.of ?_
  refine Go.st (S' := s₁.setTop (mkF m 0 #[.val (.ref o0), .val (.ref s_Chat_Role_DV_FOREIGN), .unset] [])) (fun t k => castTop (ef_11 m o0 s_Chat_Role_DV_FOREIGN) k) ?_
  refine Go.st (S' := s₁.setTop (mkF m 1 #[.val (.ref o0), .val (.ref s_Chat_Role_DV_FOREIGN), .unset] [(.ref o0)])) (fun t k => XS.aloadN X0.here hx rfl (hb hby dprog_20_method_3_code_0) rfl rfl k) ?_
  obtain ⟨T656, X656, e656, st656⟩ := getF X0 hx hZ hown (host := "") (Or.inl (hw _ (List.mem_of_getElem? (i := 24) rfl))) Via.refl e0 F_o0_data (g := (mkF m 1 #[.val (.ref o0), .val (.ref s_Chat_Role_DV_FOREIGN), .unset] [(.ref o0)])) rfl rfl (hb hby dprog_20_method_3_code_1)
  refine Go.st (S' := T656.setTop (mkF m 4 #[.val (.ref o0), .val (.ref s_Chat_Role_DV_FOREIGN), .unset] [(.ref o_2)])) st656 ?_
  obtain ⟨T659, h659, X659, e659, E659, A659, B659, st659⟩ := cloneH X656 hx hZ hown (ad := "[B") (hw _ (List.mem_of_getElem? (i := 31) rfl)) (hw _ (List.mem_of_getElem? (i := 32) rfl)) (hw _ (List.mem_of_getElem? (i := 36) rfl)) (hw _ (List.mem_of_getElem? (i := 34) rfl)) (hw _ (List.mem_of_getElem? (i := 35) rfl)) (hw _ (List.mem_of_getElem? (i := 37) rfl)) e656 (Arv.arh V_o_2) (E_o_2) (g := (mkF m 4 #[.val (.ref o0), .val (.ref s_Chat_Role_DV_FOREIGN), .unset] [(.ref o_2)])) rfl (by rw [hml]; rfl) rfl (hb hby dprog_20_method_3_code_4) (by decide) (W := 0) (cap := 3) (by show 2 * 0 + _ ≤ _; exact Nat.le_of_eq rfl) (by decide) (by decide) (by decide) (by decide)
  obtain ⟨b659, gg659⟩ : ∃ z, z = h0.size := ⟨_, rfl⟩
  rw [← gg659] at A659 B659 st659
  have g_b659 : n0 ≤ b659 := Nat.le_trans Z0 (Nat.le_of_eq gg659.symm)
  have sz_b659 : h0.size ≤ b659 := Nat.le_trans (Keep.refl h0 []).1 (Nat.le_of_eq gg659.symm)
  have Z660 : n0 ≤ h659.size := Nat.le_trans Z0 E659.1
  have K660 : Keep h0 h659 [] := (Keep.refl h0 []).ext E659
  have V659 : Arv Z h659 b659 k_o_2 .byte (3 : Int32) [(.int e0_o_2), (.int e1_o_2), (.int e2_o_2)] (.int (0 : Int32)) := A659
  refine Go.st (S' := T659.setTop (mkF m 7 #[.val (.ref o0), .val (.ref s_Chat_Role_DV_FOREIGN), .unset] [(.ref b659)])) st659 ?_
  obtain ⟨T661, X661, e661, st661⟩ := castY X659 hx hZ hown (hw _ (List.mem_of_getElem? (i := 38) rfl)) e659 (Ins.self B659) (g := (mkF m 7 #[.val (.ref o0), .val (.ref s_Chat_Role_DV_FOREIGN), .unset] [(.ref b659)])) rfl rfl (hb hby dprog_20_method_3_code_7)
  refine Go.st (S' := T661.setTop (mkF m 10 #[.val (.ref o0), .val (.ref s_Chat_Role_DV_FOREIGN), .unset] [(.ref b659)])) st661 ?_
  let A662 : Array Slot := #[.val (.ref o0), .val (.ref s_Chat_Role_DV_FOREIGN), .val (.ref b659)]
  refine Go.st (S' := T661.setTop (mkF m 11 A662 [])) (fun t k => XS.astoreN X661.here hx rfl (hb hby dprog_20_method_3_code_10) rfl rfl (l' := A662) rfl k) ?_
  refine Go.st (S' := T661.setTop (mkF m 12 A662 [(.ref b659)])) (fun t k => XS.aloadN X661.here hx rfl (hb hby dprog_20_method_3_code_11) rfl rfl k) ?_
  refine Go.st (S' := T661.setTop (mkF m 13 A662 [(.int (0 : Int32)), (.ref b659)])) (fun t k => XS.iconst X661.here hx rfl (hb hby dprog_20_method_3_code_12) k) ?_
  refine Go.st (S' := T661.setTop (mkF m 14 A662 [(.ref b659), (.int (0 : Int32)), (.ref b659)])) (fun t k => XS.aloadN X661.here hx rfl (hb hby dprog_20_method_3_code_13) rfl rfl k) ?_
  refine Go.st (S' := T661.setTop (mkF m 15 A662 [(.int (0 : Int32)), (.ref b659), (.int (0 : Int32)), (.ref b659)])) (fun t k => XS.iconst X661.here hx rfl (hb hby dprog_20_method_3_code_14) k) ?_
  obtain ⟨cl663, Ar663, -, S663, N663_, H663, -⟩ := id V659
  have hin663 : ¬ ((0 : Int32) < 0 ∨ cl663.slots.size ≤ ((0 : Int32)).toNatClampNeg) := inb_of S663 ⟨by decide, by decide⟩
  have hat663 : cl663.slots[((0 : Int32)).toNatClampNeg]? = some (.int e0_o_2) := Has.at H663 hin663 rfl
  refine Go.st (S' := T661.setTop (mkF m 16 A662 [(.int e0_o_2), (.int (0 : Int32)), (.ref b659)])) (fun t k => X661.baloadBytes hx (j := (0 : Int32)) (v := (.int e0_o_2)) (own_eh e661 Ar663.1) (State.isArrayOf_alike hZ.alike Ar663.2.1) Ar663.2.2 hin663 hat663 (g := (mkF m 15 A662 [(.int (0 : Int32)), (.ref b659), (.int (0 : Int32)), (.ref b659)])) rfl rfl (hb hby dprog_20_method_3_code_15) t k) ?_
  refine Go.st (S' := T661.setTop (mkF m 18 A662 [(.int (63 : Int32)), (.int e0_o_2), (.int (0 : Int32)), (.ref b659)])) (fun t k => XS.bipush X661.here hx rfl (hb hby dprog_20_method_3_code_16) k) ?_
  refine Go.op (F := fun z => T661.setTop (mkF m 19 A662 [(.int z), (.int (0 : Int32)), (.ref b659)])) (x := (e0_o_2 &&& (63 : Int32))) (fun t k => XS.iand X661.here hx rfl (hb hby dprog_20_method_3_code_18) rfl k) ?_
  intro v664 hv664
  refine Go.st (S' := T661.setTop (mkF m 20 A662 [(.ref s_Chat_Role_DV_FOREIGN), (.int v664), (.int (0 : Int32)), (.ref b659)])) (fun t k => XS.aloadN X661.here hx rfl (hb hby dprog_20_method_3_code_19) rfl rfl k) ?_
  have f665 := ((F_s_Chat_Role_DV_FOREIGN_bits).ext E659)
  refine Go.st (S' := T661.setTop (mkF m 23 A662 [(.int (1 : Int32)), (.int v664), (.int (0 : Int32)), (.ref b659)])) (own_getR X661 hx hZ hown (hw _ (List.mem_of_getElem? (i := 40) rfl)) e661 f665 (g := (mkF m 20 A662 [(.ref s_Chat_Role_DV_FOREIGN), (.int v664), (.int (0 : Int32)), (.ref b659)])) rfl rfl (hb hby dprog_20_method_3_code_20)) ?_
  refine Go.st (S' := T661.setTop (mkF m 25 A662 [(.int (6 : Int32)), (.int (1 : Int32)), (.int v664), (.int (0 : Int32)), (.ref b659)])) (fun t k => XS.bipush X661.here hx rfl (hb hby dprog_20_method_3_code_23) k) ?_
  refine Go.op (F := fun z => T661.setTop (mkF m 26 A662 [(.int z), (.int v664), (.int (0 : Int32)), (.ref b659)])) (x := ((1 : Int32) <<< ((6 : Int32) &&& 31))) (fun t k => XS.ishl X661.here hx rfl (hb hby dprog_20_method_3_code_25) rfl k) ?_
  intro v666 hv666
  obtain rfl : (64 : Int32) = v666 := (hv666.trans (by decide)).symm
  refine Go.op (F := fun z => T661.setTop (mkF m 27 A662 [(.int z), (.int (0 : Int32)), (.ref b659)])) (x := (v664 ||| (64 : Int32))) (fun t k => XS.ior X661.here hx rfl (hb hby dprog_20_method_3_code_26) rfl k) ?_
  intro v667 hv667
  refine Go.op (F := fun z => T661.setTop (mkF m 28 A662 [(.int z), (.int (0 : Int32)), (.ref b659)])) (x := v667.toInt8.toInt32) (fun t k => XS.i2b X661.here hx rfl (hb hby dprog_20_method_3_code_27) rfl k) ?_
  intro v668 hv668
  obtain ⟨cl669, Ar669, q669, S669, N669_, H669, G669⟩ := id V659
  have hin669 : ¬ ((0 : Int32) < 0 ∨ cl669.slots.size ≤ ((0 : Int32)).toNatClampNeg) := inb_of S669 ⟨by decide, by decide⟩
  obtain ⟨v670, hv670⟩ : ∃ z, z = v668.toInt8.toInt32 := ⟨_, rfl⟩
  obtain ⟨T669, h669, X669, e669, W669, st669⟩ := stB X661 hx hZ e661 Ar669 (j := (0 : Int32)) hin669 (g := (mkF m 28 A662 [(.int v668), (.int (0 : Int32)), (.ref b659)])) rfl rfl (hb hby dprog_20_method_3_code_28)
  have W669 : Wr h659 h669 b659 ((0 : Int32)).toNatClampNeg (.int v670) := by rw [hv670]; exact W669
  have V669 : Arv Z h669 b659 k_o_2 .byte (3 : Int32) [(.int v670), (.int e1_o_2), (.int e2_o_2)] (.int (0 : Int32)) := Arv.set Ar669 q669 S669 N669_ H669 G669 (by rw [hv670]; exact fits_nar_byte _) W669 0 rfl (Nat.le_of_ble_eq_true rfl)
  have N669 := Fr.snoc X669 N0 g_b659
  have Z671 : n0 ≤ h669.size := Nat.le_trans Z660 (Keep.of_wr W669).1
  have K671 : Keep h0 h669 [] := K660.wr W669 (Or.inr sz_b659)
  refine Go.st (S' := T669.setTop (mkF m 29 A662 [])) st669 ?_
  obtain ⟨T672, h672, X672, e672, E672, A672, D672, -, st672⟩ := newO X669 hx hZ hown (hw _ (List.mem_of_getElem? (i := 42) rfl)) (hw _ (List.mem_of_getElem? (i := 9) rfl)) (hw _ (List.mem_of_getElem? (i := 10) rfl)) e669 (g := (mkF m 29 A662 [])) rfl (hb hby dprog_20_method_3_code_29) (by decide) (by decide)
  obtain ⟨b672, gg672⟩ : ∃ z, z = h669.size := ⟨_, rfl⟩
  rw [← gg672] at A672 D672 st672
  have g_b672 : n0 ≤ b672 := Nat.le_trans Z671 (Nat.le_of_eq gg672.symm)
  have sz_b672 : h0.size ≤ b672 := Nat.le_trans K671.1 (Nat.le_of_eq gg672.symm)
  have f673 := ((B659).wr W669)
  have lt_b659_b672 : b659 < b672 := Nat.lt_of_lt_of_le (f673).lt (Nat.le_of_eq gg672.symm)
  have Z674 : n0 ≤ h672.size := Nat.le_trans Z671 E672.1
  have K674 : Keep h0 h672 [] := K671.ext E672
  have Fb672_template : Fld Z h672 b672 "com/example/consulate/consulate/cvc/Chat" "template" "Lcom/example/consulate/consulate/cvc/Chat$Template;" .null := D672 (Or.inr (hw _ (List.mem_of_getElem? (i := 23) rfl))) (ty := (.object "com/example/consulate/consulate/cvc/Chat$Template")) (by decide)
  have Fb672_data : Fld Z h672 b672 "com/example/consulate/consulate/cvc/Chat" "data" "[B" .null := D672 (Or.inr (hw _ (List.mem_of_getElem? (i := 25) rfl))) (ty := (.array .byte)) (by decide)
  refine Go.st (S' := T672.setTop (mkF m 32 A662 [(.ref b672)])) st672 ?_
  refine Go.st (S' := T672.setTop (mkF m 33 A662 [(.ref b672), (.ref b672)])) (fun t k => XS.dup X672.here hx rfl (hb hby dprog_20_method_3_code_32) rfl rfl k) ?_
  refine Go.st (S' := T672.setTop (mkF m 34 A662 [(.ref o0), (.ref b672), (.ref b672)])) (fun t k => XS.aloadN X672.here hx rfl (hb hby dprog_20_method_3_code_33) rfl rfl k) ?_
  have f675 := ((((((F_o0_template).ext E659)).other W669 (Or.inl (Nat.ne_of_lt (Nat.lt_of_lt_of_le (F_o0_data).lt sz_b659))))).ext E672)
  obtain ⟨T676, X676, e676, st676⟩ := getF X672 hx hZ hown (host := "") (Or.inl (hw _ (List.mem_of_getElem? (i := 22) rfl))) Via.refl e672 f675 (g := (mkF m 34 A662 [(.ref o0), (.ref b672), (.ref b672)])) rfl rfl (hb hby dprog_20_method_3_code_34)
  refine Go.st (S' := T676.setTop (mkF m 37 A662 [(.ref o_3), (.ref b672), (.ref b672)])) st676 ?_
  refine Go.st (S' := T676.setTop (mkF m 38 A662 [(.ref b659), (.ref o_3), (.ref b672), (.ref b672)])) (fun t k => XS.aloadN X676.here hx rfl (hb hby dprog_20_method_3_code_37) rfl rfl k) ?_
  have f678 := ((V669).ext E672)
  obtain ⟨r679, T679, L679, X679, hQ679, st679⟩ := own_callI (W := 1) (a := b672) X676 hx hZ e676 hown (y := (⟨"com/example/consulate/consulate/cvc/Chat", "<init>", "(Lcom/example/consulate/consulate/cvc/Chat$Template;[B)V"⟩ : MethodName)) rfl (hw _ (List.mem_of_getElem? (i := 43) rfl)) (hw _ (List.mem_of_getElem? (i := 12) rfl)) (hw _ (List.mem_of_getElem? (i := 10) rfl)) (hw _ (List.mem_of_getElem? (i := 13) rfl)) (by decide) (rm6 l Z a0 hw [] b672 o_3 b659 k_o_2 v670 e1_o_2 e2_o_2 (.null) (.null) h672 n0 Z674 (f678) (A672) (Fb672_template) (g_b672) (Fb672_data)) (by decide) (by decide) (by decide) (by decide) (g := (mkF m 38 A662 [(.ref b659), (.ref o_3), (.ref b672), (.ref b672)])) rfl (by rw [hml]; rfl) (argsL := [(.ref o_3), (.ref b659)]) (rest := [(.ref b672)]) rfl (lenOf pd_1 rfl) rfl (by show 2 * 0 + _ ≤ _; exact Nat.le_of_eq rfl) (hb hby dprog_20_method_3_code_38)
  obtain ⟨rfl, N679, K679_, f680, f681, f682⟩ := hQ679
  have N679_ := Fr.app N669 N679
  have Z683 : n0 ≤ T679.heap.size := Nat.le_trans Z674 K679_.1
  have K683 : Keep h0 T679.heap [] := K674.trans K679_ (allS (Or.inr sz_b672) all0)
  refine Go.st (S' := T679.setTop (mkF m 41 A662 [(.ref b672)])) st679 ?_
  have f684 := ((f678).keep K679_ (ninS (Nat.ne_of_lt lt_b659_b672) nin0))
  have f685 := ((((f673).ext E672)).keep K679_)
  exact Go.ret X679 (v := some (.ref b672)) (fun h => by rw [Bd.returns] at h; cases h) Bd.notSynchronized (fun fs hr => retOut X679 hx Bd.returns rfl (Or.inr (Or.inr (Or.inr (Or.inr ⟨rfl, rfl, rfl⟩)))) (hb hby dprog_20_method_3_code_41) hr) (by decide) (by decide) (⟨v664, v667, v668, v670, b659, b672, hv664, hv667, hv668, hv670, rfl, N679_, K683, sz_b659, sz_b672, f684, f685, f680, f681, f682, lt_b659_b672⟩)
theorem ef_12 (m : MethodId) (o0 : Addr) (s_Chat_Role_TERMINAL : Addr) : entryFrame m #[(.ref o0), (.ref s_Chat_Role_TERMINAL)] 3 = mkF m 0 #[.val (.ref o0), .val (.ref s_Chat_Role_TERMINAL), .unset] [] := by first | (simp [entryFrame, mkF, argsToLocals, Value.category, maxLocals]; done) | rfl
def Q12 (Z : State) (o0 : Addr) (s_Chat_Role_TERMINAL : Addr) (o_2 : Addr) (k_o_2 : ClassId) (e0_o_2 : Int32) (o_3 : Addr) (h0 : Heap) (n0 : Nat) (v : Option Value) (h : Heap) (L : List Loc) : Prop := (∃ (v775 : Int32) (v778 : Int32) (v779 : Int32) (v781 : Int32) (b770 : Addr) (b783 : Addr), v775 = (e0_o_2 &&& (63 : Int32)) ∧ v778 = (v775 ||| (0 : Int32)) ∧ v779 = v778.toInt8.toInt32 ∧ v781 = v779.toInt8.toInt32 ∧ v = some (.ref b783) ∧ Fr n0 L ∧ Keep h0 h [] ∧ h0.size ≤ b770 ∧ h0.size ≤ b783 ∧ Arv Z h b770 k_o_2 .byte (1 : Int32) [(.int v781)] (.int (0 : Int32)) ∧ Exa Z h b770 "[B" ∧ Exa Z h b783 "com/example/consulate/consulate/cvc/Chat" ∧ Fld Z h b783 "com/example/consulate/consulate/cvc/Chat" "template" "Lcom/example/consulate/consulate/cvc/Chat$Template;" (.ref o_3) ∧ Fld Z h b783 "com/example/consulate/consulate/cvc/Chat" "data" "[B" (.ref b770) ∧ b770 < b783)
set_option maxRecDepth 65536 in
set_option maxHeartbeats 40000000 in
theorem rm12 (l : Launch) (Z : State) (a0 : Array Value) (hw : ∀ d ∈ tables_1, d.before a0 Z = true) (ws : List Jvm.Cond) (o0 : Addr) (s_Chat_Role_TERMINAL : Addr) (o_2 : Addr) (k_o_2 : ClassId) (e0_o_2 : Int32) (o_3 : Addr) (h0 : Heap) (n0 : Nat) (Z0 : n0 ≤ h0.size) (F_o0_data : Fld Z h0 o0 "com/example/consulate/consulate/cvc/Chat" "data" "[B" (.ref o_2)) (V_o_2 : Arv Z h0 o_2 k_o_2 .byte (1 : Int32) [(.int e0_o_2)] (.int (0 : Int32))) (E_o_2 : Exa Z h0 o_2 "[B") (F_s_Chat_Role_TERMINAL_bits : Fld Z h0 s_Chat_Role_TERMINAL "com/example/consulate/consulate/cvc/Chat$Role" "bits" "I" (.int (0 : Int32))) (F_o0_template : Fld Z h0 o0 "com/example/consulate/consulate/cvc/Chat" "template" "Lcom/example/consulate/consulate/cvc/Chat$Template;" (.ref o_3)) :
    Con l Z (⟨"com/example/consulate/consulate/cvc/Chat", "withRole", "(Lcom/example/consulate/consulate/cvc/Chat$Role;)Lcom/example/consulate/consulate/cvc/Chat;"⟩ : MethodName) prog_20_method_3_code 3 (some (.object "com/example/consulate/consulate/cvc/Chat")) ws ({ frames := 3, cells := 2, slots := 3, locals := 39 } : Room) #[(.ref o0), (.ref s_Chat_Role_TERMINAL)] h0 2 3 (Q12 Z o0 s_Chat_Role_TERMINAL o_2 k_o_2 e0_o_2 o_3 h0 n0) := by
  refine MetFree.of_bodySF (plainFor_of_name pn_1) hisR ?_
  intro p e s m args below meth c s₁ Bd hml0 hP hK
  obtain ⟨rfl, hZ, hh⟩ := hP
  have hx := Bd.exec
  have hby := Bd.bytes
  have hml : c.maxLocals = 3 := hml0
  have hown : s.vm.findClass "com/example/consulate/consulate/cvc/Chat" = some m.cls := findClass_of_methodNamed Bd.named
  have hnm := (name_of_methodNamed Bd.named Bd.method).1
  have X0 : Stand p l e ({ frames := 3, cells := 2, slots := 3, locals := 39 } : Room) s m #[(.ref o0), (.ref s_Chat_Role_TERMINAL)] below meth c s₁ [] 0 0 := Stand.of_body Bd
  have e0 : s₁.heap = h0 := by rw [← hh, Bd.state]; rfl
  have N0 := Fr.nil n0
  refine Go.of ?_
  refine Go.st (S' := s₁.setTop (mkF m 0 #[.val (.ref o0), .val (.ref s_Chat_Role_TERMINAL), .unset] [])) (fun t k => castTop (ef_12 m o0 s_Chat_Role_TERMINAL) k) ?_
  refine Go.st (S' := s₁.setTop (mkF m 1 #[.val (.ref o0), .val (.ref s_Chat_Role_TERMINAL), .unset] [(.ref o0)])) (fun t k => XS.aloadN X0.here hx rfl (hb hby dprog_20_method_3_code_0) rfl rfl k) ?_
  obtain ⟨T767, X767, e767, st767⟩ := getF X0 hx hZ hown (host := "") (Or.inl (hw _ (List.mem_of_getElem? (i := 24) rfl))) Via.refl e0 F_o0_data (g := (mkF m 1 #[.val (.ref o0), .val (.ref s_Chat_Role_TERMINAL), .unset] [(.ref o0)])) rfl rfl (hb hby dprog_20_method_3_code_1)
  refine Go.st (S' := T767.setTop (mkF m 4 #[.val (.ref o0), .val (.ref s_Chat_Role_TERMINAL), .unset] [(.ref o_2)])) st767 ?_
  obtain ⟨T770, h770, X770, e770, E770, A770, B770, st770⟩ := cloneH X767 hx hZ hown (ad := "[B") (hw _ (List.mem_of_getElem? (i := 31) rfl)) (hw _ (List.mem_of_getElem? (i := 32) rfl)) (hw _ (List.mem_of_getElem? (i := 36) rfl)) (hw _ (List.mem_of_getElem? (i := 34) rfl)) (hw _ (List.mem_of_getElem? (i := 35) rfl)) (hw _ (List.mem_of_getElem? (i := 37) rfl)) e767 (Arv.arh V_o_2) (E_o_2) (g := (mkF m 4 #[.val (.ref o0), .val (.ref s_Chat_Role_TERMINAL), .unset] [(.ref o_2)])) rfl (by rw [hml]; rfl) rfl (hb hby dprog_20_method_3_code_4) (by decide) (W := 0) (cap := 1) (by show 2 * 0 + _ ≤ _; exact Nat.le_of_eq rfl) (by decide) (by decide) (by decide) (by decide)
  obtain ⟨b770, gg770⟩ : ∃ z, z = h0.size := ⟨_, rfl⟩
  rw [← gg770] at A770 B770 st770
  have g_b770 : n0 ≤ b770 := Nat.le_trans Z0 (Nat.le_of_eq gg770.symm)
  have sz_b770 : h0.size ≤ b770 := Nat.le_trans (Keep.refl h0 []).1 (Nat.le_of_eq gg770.symm)
  have Z771 : n0 ≤ h770.size := Nat.le_trans Z0 E770.1
  have K771 : Keep h0 h770 [] := (Keep.refl h0 []).ext E770
  have V770 : Arv Z h770 b770 k_o_2 .byte (1 : Int32) [(.int e0_o_2)] (.int (0 : Int32)) := A770
  refine Go.st (S' := T770.setTop (mkF m 7 #[.val (.ref o0), .val (.ref s_Chat_Role_TERMINAL), .unset] [(.ref b770)])) st770 ?_
  obtain ⟨T772, X772, e772, st772⟩ := castY X770 hx hZ hown (hw _ (List.mem_of_getElem? (i := 38) rfl)) e770 (Ins.self B770) (g := (mkF m 7 #[.val (.ref o0), .val (.ref s_Chat_Role_TERMINAL), .unset] [(.ref b770)])) rfl rfl (hb hby dprog_20_method_3_code_7)
  refine Go.st (S' := T772.setTop (mkF m 10 #[.val (.ref o0), .val (.ref s_Chat_Role_TERMINAL), .unset] [(.ref b770)])) st772 ?_
  let A773 : Array Slot := #[.val (.ref o0), .val (.ref s_Chat_Role_TERMINAL), .val (.ref b770)]
  refine Go.st (S' := T772.setTop (mkF m 11 A773 [])) (fun t k => XS.astoreN X772.here hx rfl (hb hby dprog_20_method_3_code_10) rfl rfl (l' := A773) rfl k) ?_
  refine Go.st (S' := T772.setTop (mkF m 12 A773 [(.ref b770)])) (fun t k => XS.aloadN X772.here hx rfl (hb hby dprog_20_method_3_code_11) rfl rfl k) ?_
  refine Go.st (S' := T772.setTop (mkF m 13 A773 [(.int (0 : Int32)), (.ref b770)])) (fun t k => XS.iconst X772.here hx rfl (hb hby dprog_20_method_3_code_12) k) ?_
  refine Go.st (S' := T772.setTop (mkF m 14 A773 [(.ref b770), (.int (0 : Int32)), (.ref b770)])) (fun t k => XS.aloadN X772.here hx rfl (hb hby dprog_20_method_3_code_13) rfl rfl k) ?_
  refine Go.st (S' := T772.setTop (mkF m 15 A773 [(.int (0 : Int32)), (.ref b770), (.int (0 : Int32)), (.ref b770)])) (fun t k => XS.iconst X772.here hx rfl (hb hby dprog_20_method_3_code_14) k) ?_
  obtain ⟨cl774, Ar774, -, S774, N774_, H774, -⟩ := id V770
  have hin774 : ¬ ((0 : Int32) < 0 ∨ cl774.slots.size ≤ ((0 : Int32)).toNatClampNeg) := inb_of S774 ⟨by decide, by decide⟩
  have hat774 : cl774.slots[((0 : Int32)).toNatClampNeg]? = some (.int e0_o_2) := Has.at H774 hin774 rfl
  refine Go.st (S' := T772.setTop (mkF m 16 A773 [(.int e0_o_2), (.int (0 : Int32)), (.ref b770)])) (fun t k => X772.baloadBytes hx (j := (0 : Int32)) (v := (.int e0_o_2)) (own_eh e772 Ar774.1) (State.isArrayOf_alike hZ.alike Ar774.2.1) Ar774.2.2 hin774 hat774 (g := (mkF m 15 A773 [(.int (0 : Int32)), (.ref b770), (.int (0 : Int32)), (.ref b770)])) rfl rfl (hb hby dprog_20_method_3_code_15) t k) ?_
  refine Go.st (S' := T772.setTop (mkF m 18 A773 [(.int (63 : Int32)), (.int e0_o_2), (.int (0 : Int32)), (.ref b770)])) (fun t k => XS.bipush X772.here hx rfl (hb hby dprog_20_method_3_code_16) k) ?_
  refine Go.op (F := fun z => T772.setTop (mkF m 19 A773 [(.int z), (.int (0 : Int32)), (.ref b770)])) (x := (e0_o_2 &&& (63 : Int32))) (fun t k => XS.iand X772.here hx rfl (hb hby dprog_20_method_3_code_18) rfl k) ?_
  intro v775 hv775
  refine Go.st (S' := T772.setTop (mkF m 20 A773 [(.ref s_Chat_Role_TERMINAL), (.int v775), (.int (0 : Int32)), (.ref b770)])) (fun t k => XS.aloadN X772.here hx rfl (hb hby dprog_20_method_3_code_19) rfl rfl k) ?_
  have f776 := ((F_s_Chat_Role_TERMINAL_bits).ext E770)
  refine Go.st (S' := T772.setTop (mkF m 23 A773 [(.int (0 : Int32)), (.int v775), (.int (0 : Int32)), (.ref b770)])) (own_getR X772 hx hZ hown (hw _ (List.mem_of_getElem? (i := 40) rfl)) e772 f776 (g := (mkF m 20 A773 [(.ref s_Chat_Role_TERMINAL), (.int v775), (.int (0 : Int32)), (.ref b770)])) rfl rfl (hb hby dprog_20_method_3_code_20)) ?_
  refine Go.st (S' := T772.setTop (mkF m 25 A773 [(.int (6 : Int32)), (.int (0 : Int32)), (.int v775), (.int (0 : Int32)), (.ref b770)])) (fun t k => XS.bipush X772.here hx rfl (hb hby dprog_20_method_3_code_23) k) ?_
  refine Go.op (F := fun z => T772.setTop (mkF m 26 A773 [(.int z), (.int v775), (.int (0 : Int32)), (.ref b770)])) (x := ((0 : Int32) <<< ((6 : Int32) &&& 31))) (fun t k => XS.ishl X772.here hx rfl (hb hby dprog_20_method_3_code_25) rfl k) ?_
  intro v777 hv777
  obtain rfl : (0 : Int32) = v777 := (hv777.trans (by decide)).symm
  refine Go.op (F := fun z => T772.setTop (mkF m 27 A773 [(.int z), (.int (0 : Int32)), (.ref b770)])) (x := (v775 ||| (0 : Int32))) (fun t k => XS.ior X772.here hx rfl (hb hby dprog_20_method_3_code_26) rfl k) ?_
  intro v778 hv778
  refine Go.op (F := fun z => T772.setTop (mkF m 28 A773 [(.int z), (.int (0 : Int32)), (.ref b770)])) (x := v778.toInt8.toInt32) (fun t k => XS.i2b X772.here hx rfl (hb hby dprog_20_method_3_code_27) rfl k) ?_
  intro v779 hv779
  obtain ⟨cl780, Ar780, q780, S780, N780_, H780, G780⟩ := id V770
  have hin780 : ¬ ((0 : Int32) < 0 ∨ cl780.slots.size ≤ ((0 : Int32)).toNatClampNeg) := inb_of S780 ⟨by decide, by decide⟩
  obtain ⟨v781, hv781⟩ : ∃ z, z = v779.toInt8.toInt32 := ⟨_, rfl⟩
  obtain ⟨T780, h780, X780, e780, W780, st780⟩ := stB X772 hx hZ e772 Ar780 (j := (0 : Int32)) hin780 (g := (mkF m 28 A773 [(.int v779), (.int (0 : Int32)), (.ref b770)])) rfl rfl (hb hby dprog_20_method_3_code_28)
  have W780 : Wr h770 h780 b770 ((0 : Int32)).toNatClampNeg (.int v781) := by rw [hv781]; exact W780
  have V780 : Arv Z h780 b770 k_o_2 .byte (1 : Int32) [(.int v781)] (.int (0 : Int32)) := Arv.set Ar780 q780 S780 N780_ H780 G780 (by rw [hv781]; exact fits_nar_byte _) W780 0 rfl (Nat.le_of_ble_eq_true rfl)
  have N780 := Fr.snoc X780 N0 g_b770
  have Z782 : n0 ≤ h780.size := Nat.le_trans Z771 (Keep.of_wr W780).1
  have K782 : Keep h0 h780 [] := K771.wr W780 (Or.inr sz_b770)
  refine Go.st (S' := T780.setTop (mkF m 29 A773 [])) st780 ?_
  obtain ⟨T783, h783, X783, e783, E783, A783, D783, -, st783⟩ := newO X780 hx hZ hown (hw _ (List.mem_of_getElem? (i := 42) rfl)) (hw _ (List.mem_of_getElem? (i := 9) rfl)) (hw _ (List.mem_of_getElem? (i := 10) rfl)) e780 (g := (mkF m 29 A773 [])) rfl (hb hby dprog_20_method_3_code_29) (by decide) (by decide)
  obtain ⟨b783, gg783⟩ : ∃ z, z = h780.size := ⟨_, rfl⟩
  rw [← gg783] at A783 D783 st783
  have g_b783 : n0 ≤ b783 := Nat.le_trans Z782 (Nat.le_of_eq gg783.symm)
  have sz_b783 : h0.size ≤ b783 := Nat.le_trans K782.1 (Nat.le_of_eq gg783.symm)
  have f784 := ((B770).wr W780)
  have lt_b770_b783 : b770 < b783 := Nat.lt_of_lt_of_le (f784).lt (Nat.le_of_eq gg783.symm)
  have Z785 : n0 ≤ h783.size := Nat.le_trans Z782 E783.1
  have K785 : Keep h0 h783 [] := K782.ext E783
  have Fb783_template : Fld Z h783 b783 "com/example/consulate/consulate/cvc/Chat" "template" "Lcom/example/consulate/consulate/cvc/Chat$Template;" .null := D783 (Or.inr (hw _ (List.mem_of_getElem? (i := 23) rfl))) (ty := (.object "com/example/consulate/consulate/cvc/Chat$Template")) (by decide)
  have Fb783_data : Fld Z h783 b783 "com/example/consulate/consulate/cvc/Chat" "data" "[B" .null := D783 (Or.inr (hw _ (List.mem_of_getElem? (i := 25) rfl))) (ty := (.array .byte)) (by decide)
  refine Go.st (S' := T783.setTop (mkF m 32 A773 [(.ref b783)])) st783 ?_
  refine Go.st (S' := T783.setTop (mkF m 33 A773 [(.ref b783), (.ref b783)])) (fun t k => XS.dup X783.here hx rfl (hb hby dprog_20_method_3_code_32) rfl rfl k) ?_
  refine Go.st (S' := T783.setTop (mkF m 34 A773 [(.ref o0), (.ref b783), (.ref b783)])) (fun t k => XS.aloadN X783.here hx rfl (hb hby dprog_20_method_3_code_33) rfl rfl k) ?_
  have f786 := ((((((F_o0_template).ext E770)).other W780 (Or.inl (Nat.ne_of_lt (Nat.lt_of_lt_of_le (F_o0_data).lt sz_b770))))).ext E783)
  obtain ⟨T787, X787, e787, st787⟩ := getF X783 hx hZ hown (host := "") (Or.inl (hw _ (List.mem_of_getElem? (i := 22) rfl))) Via.refl e783 f786 (g := (mkF m 34 A773 [(.ref o0), (.ref b783), (.ref b783)])) rfl rfl (hb hby dprog_20_method_3_code_34)
  refine Go.st (S' := T787.setTop (mkF m 37 A773 [(.ref o_3), (.ref b783), (.ref b783)])) st787 ?_
  refine Go.st (S' := T787.setTop (mkF m 38 A773 [(.ref b770), (.ref o_3), (.ref b783), (.ref b783)])) (fun t k => XS.aloadN X787.here hx rfl (hb hby dprog_20_method_3_code_37) rfl rfl k) ?_
  have f788 := ((V780).ext E783)
  obtain ⟨r789, T789, L789, X789, hQ789, st789⟩ := own_callI (W := 1) (a := b783) X787 hx hZ e787 hown (y := (⟨"com/example/consulate/consulate/cvc/Chat", "<init>", "(Lcom/example/consulate/consulate/cvc/Chat$Template;[B)V"⟩ : MethodName)) rfl (hw _ (List.mem_of_getElem? (i := 43) rfl)) (hw _ (List.mem_of_getElem? (i := 12) rfl)) (hw _ (List.mem_of_getElem? (i := 10) rfl)) (hw _ (List.mem_of_getElem? (i := 13) rfl)) (by decide) (rm2 l Z a0 hw [] b783 o_3 b770 k_o_2 v781 (.null) (.null) h783 n0 Z785 (f788) (A783) (Fb783_template) (g_b783) (Fb783_data)) (by decide) (by decide) (by decide) (by decide) (g := (mkF m 38 A773 [(.ref b770), (.ref o_3), (.ref b783), (.ref b783)])) rfl (by rw [hml]; rfl) (argsL := [(.ref o_3), (.ref b770)]) (rest := [(.ref b783)]) rfl (lenOf pd_1 rfl) rfl (by show 2 * 0 + _ ≤ _; exact Nat.le_of_eq rfl) (hb hby dprog_20_method_3_code_38)
  obtain ⟨rfl, N789, K789_, f790, f791, f792⟩ := hQ789
  have N789_ := Fr.app N780 N789
  have Z793 : n0 ≤ T789.heap.size := Nat.le_trans Z785 K789_.1
  have K793 : Keep h0 T789.heap [] := K785.trans K789_ (allS (Or.inr sz_b783) all0)
  refine Go.st (S' := T789.setTop (mkF m 41 A773 [(.ref b783)])) st789 ?_
  have f794 := ((f788).keep K789_ (ninS (Nat.ne_of_lt lt_b770_b783) nin0))
  have f795 := ((((f784).ext E783)).keep K789_)
  exact Go.ret X789 (v := some (.ref b783)) (fun h => by rw [Bd.returns] at h; cases h) Bd.notSynchronized (fun fs hr => retOut X789 hx Bd.returns rfl (Or.inr (Or.inr (Or.inr (Or.inr ⟨rfl, rfl, rfl⟩)))) (hb hby dprog_20_method_3_code_41) hr) (by decide) (by decide) (⟨v775, v778, v779, v781, b770, b783, hv775, hv778, hv779, hv781, rfl, N789_, K793, sz_b770, sz_b783, f794, f795, f790, f791, f792, lt_b770_b783⟩)
theorem ef_13 (m : MethodId) (o0 : Addr) (s_Chat_Role_TERMINAL : Addr) : entryFrame m #[(.ref o0), (.ref s_Chat_Role_TERMINAL)] 3 = mkF m 0 #[.val (.ref o0), .val (.ref s_Chat_Role_TERMINAL), .unset] [] := by first | (simp [entryFrame, mkF, argsToLocals, Value.category, maxLocals]; done) | rfl
def Q13 (Z : State) (o0 : Addr) (s_Chat_Role_TERMINAL : Addr) (o_2 : Addr) (k_o_2 : ClassId) (e0_o_2 : Int32) (e1_o_2 : Int32) (e2_o_2 : Int32) (o_3 : Addr) (h0 : Heap) (n0 : Nat) (v : Option Value) (h : Heap) (L : List Loc) : Prop := (∃ (v868 : Int32) (v871 : Int32) (v872 : Int32) (v874 : Int32) (b863 : Addr) (b876 : Addr), v868 = (e0_o_2 &&& (63 : Int32)) ∧ v871 = (v868 ||| (0 : Int32)) ∧ v872 = v871.toInt8.toInt32 ∧ v874 = v872.toInt8.toInt32 ∧ v = some (.ref b876) ∧ Fr n0 L ∧ Keep h0 h [] ∧ h0.size ≤ b863 ∧ h0.size ≤ b876 ∧ Arv Z h b863 k_o_2 .byte (3 : Int32) [(.int v874), (.int e1_o_2), (.int e2_o_2)] (.int (0 : Int32)) ∧ Exa Z h b863 "[B" ∧ Exa Z h b876 "com/example/consulate/consulate/cvc/Chat" ∧ Fld Z h b876 "com/example/consulate/consulate/cvc/Chat" "template" "Lcom/example/consulate/consulate/cvc/Chat$Template;" (.ref o_3) ∧ Fld Z h b876 "com/example/consulate/consulate/cvc/Chat" "data" "[B" (.ref b863) ∧ b863 < b876)
set_option maxRecDepth 65536 in
set_option maxHeartbeats 40000000 in
theorem rm13 (l : Launch) (Z : State) (a0 : Array Value) (hw : ∀ d ∈ tables_1, d.before a0 Z = true) (ws : List Jvm.Cond) (o0 : Addr) (s_Chat_Role_TERMINAL : Addr) (o_2 : Addr) (k_o_2 : ClassId) (e0_o_2 : Int32) (e1_o_2 : Int32) (e2_o_2 : Int32) (o_3 : Addr) (h0 : Heap) (n0 : Nat) (Z0 : n0 ≤ h0.size) (F_o0_data : Fld Z h0 o0 "com/example/consulate/consulate/cvc/Chat" "data" "[B" (.ref o_2)) (V_o_2 : Arv Z h0 o_2 k_o_2 .byte (3 : Int32) [(.int e0_o_2), (.int e1_o_2), (.int e2_o_2)] (.int (0 : Int32))) (E_o_2 : Exa Z h0 o_2 "[B") (F_s_Chat_Role_TERMINAL_bits : Fld Z h0 s_Chat_Role_TERMINAL "com/example/consulate/consulate/cvc/Chat$Role" "bits" "I" (.int (0 : Int32))) (F_o0_template : Fld Z h0 o0 "com/example/consulate/consulate/cvc/Chat" "template" "Lcom/example/consulate/consulate/cvc/Chat$Template;" (.ref o_3)) :
    Con l Z (⟨"com/example/consulate/consulate/cvc/Chat", "withRole", "(Lcom/example/consulate/consulate/cvc/Chat$Role;)Lcom/example/consulate/consulate/cvc/Chat;"⟩ : MethodName) prog_20_method_3_code 3 (some (.object "com/example/consulate/consulate/cvc/Chat")) ws ({ frames := 3, cells := 2, slots := 5, locals := 39 } : Room) #[(.ref o0), (.ref s_Chat_Role_TERMINAL)] h0 2 5 (Q13 Z o0 s_Chat_Role_TERMINAL o_2 k_o_2 e0_o_2 e1_o_2 e2_o_2 o_3 h0 n0) := by
  refine MetFree.of_bodySF (plainFor_of_name pn_1) hisR ?_
  intro p e s m args below meth c s₁ Bd hml0 hP hK
  obtain ⟨rfl, hZ, hh⟩ := hP
  have hx := Bd.exec
  have hby := Bd.bytes
  have hml : c.maxLocals = 3 := hml0
  have hown : s.vm.findClass "com/example/consulate/consulate/cvc/Chat" = some m.cls := findClass_of_methodNamed Bd.named
  have hnm := (name_of_methodNamed Bd.named Bd.method).1
  have X0 : Stand p l e ({ frames := 3, cells := 2, slots := 5, locals := 39 } : Room) s m #[(.ref o0), (.ref s_Chat_Role_TERMINAL)] below meth c s₁ [] 0 0 := Stand.of_body Bd
  have e0 : s₁.heap = h0 := by rw [← hh, Bd.state]; rfl
  have N0 := Fr.nil n0
  refine Go.of ?_
  refine Go.st (S' := s₁.setTop (mkF m 0 #[.val (.ref o0), .val (.ref s_Chat_Role_TERMINAL), .unset] [])) (fun t k => castTop (ef_13 m o0 s_Chat_Role_TERMINAL) k) ?_
  refine Go.st (S' := s₁.setTop (mkF m 1 #[.val (.ref o0), .val (.ref s_Chat_Role_TERMINAL), .unset] [(.ref o0)])) (fun t k => XS.aloadN X0.here hx rfl (hb hby dprog_20_method_3_code_0) rfl rfl k) ?_
  obtain ⟨T860, X860, e860, st860⟩ := getF X0 hx hZ hown (host := "") (Or.inl (hw _ (List.mem_of_getElem? (i := 24) rfl))) Via.refl e0 F_o0_data (g := (mkF m 1 #[.val (.ref o0), .val (.ref s_Chat_Role_TERMINAL), .unset] [(.ref o0)])) rfl rfl (hb hby dprog_20_method_3_code_1)
  refine Go.st (S' := T860.setTop (mkF m 4 #[.val (.ref o0), .val (.ref s_Chat_Role_TERMINAL), .unset] [(.ref o_2)])) st860 ?_
  obtain ⟨T863, h863, X863, e863, E863, A863, B863, st863⟩ := cloneH X860 hx hZ hown (ad := "[B") (hw _ (List.mem_of_getElem? (i := 31) rfl)) (hw _ (List.mem_of_getElem? (i := 32) rfl)) (hw _ (List.mem_of_getElem? (i := 36) rfl)) (hw _ (List.mem_of_getElem? (i := 34) rfl)) (hw _ (List.mem_of_getElem? (i := 35) rfl)) (hw _ (List.mem_of_getElem? (i := 37) rfl)) e860 (Arv.arh V_o_2) (E_o_2) (g := (mkF m 4 #[.val (.ref o0), .val (.ref s_Chat_Role_TERMINAL), .unset] [(.ref o_2)])) rfl (by rw [hml]; rfl) rfl (hb hby dprog_20_method_3_code_4) (by decide) (W := 0) (cap := 3) (by show 2 * 0 + _ ≤ _; exact Nat.le_of_eq rfl) (by decide) (by decide) (by decide) (by decide)
  obtain ⟨b863, gg863⟩ : ∃ z, z = h0.size := ⟨_, rfl⟩
  rw [← gg863] at A863 B863 st863
  have g_b863 : n0 ≤ b863 := Nat.le_trans Z0 (Nat.le_of_eq gg863.symm)
  have sz_b863 : h0.size ≤ b863 := Nat.le_trans (Keep.refl h0 []).1 (Nat.le_of_eq gg863.symm)
  have Z864 : n0 ≤ h863.size := Nat.le_trans Z0 E863.1
  have K864 : Keep h0 h863 [] := (Keep.refl h0 []).ext E863
  have V863 : Arv Z h863 b863 k_o_2 .byte (3 : Int32) [(.int e0_o_2), (.int e1_o_2), (.int e2_o_2)] (.int (0 : Int32)) := A863
  refine Go.st (S' := T863.setTop (mkF m 7 #[.val (.ref o0), .val (.ref s_Chat_Role_TERMINAL), .unset] [(.ref b863)])) st863 ?_
  obtain ⟨T865, X865, e865, st865⟩ := castY X863 hx hZ hown (hw _ (List.mem_of_getElem? (i := 38) rfl)) e863 (Ins.self B863) (g := (mkF m 7 #[.val (.ref o0), .val (.ref s_Chat_Role_TERMINAL), .unset] [(.ref b863)])) rfl rfl (hb hby dprog_20_method_3_code_7)
  refine Go.st (S' := T865.setTop (mkF m 10 #[.val (.ref o0), .val (.ref s_Chat_Role_TERMINAL), .unset] [(.ref b863)])) st865 ?_
  let A866 : Array Slot := #[.val (.ref o0), .val (.ref s_Chat_Role_TERMINAL), .val (.ref b863)]
  refine Go.st (S' := T865.setTop (mkF m 11 A866 [])) (fun t k => XS.astoreN X865.here hx rfl (hb hby dprog_20_method_3_code_10) rfl rfl (l' := A866) rfl k) ?_
  refine Go.st (S' := T865.setTop (mkF m 12 A866 [(.ref b863)])) (fun t k => XS.aloadN X865.here hx rfl (hb hby dprog_20_method_3_code_11) rfl rfl k) ?_
  refine Go.st (S' := T865.setTop (mkF m 13 A866 [(.int (0 : Int32)), (.ref b863)])) (fun t k => XS.iconst X865.here hx rfl (hb hby dprog_20_method_3_code_12) k) ?_
  refine Go.st (S' := T865.setTop (mkF m 14 A866 [(.ref b863), (.int (0 : Int32)), (.ref b863)])) (fun t k => XS.aloadN X865.here hx rfl (hb hby dprog_20_method_3_code_13) rfl rfl k) ?_
  refine Go.st (S' := T865.setTop (mkF m 15 A866 [(.int (0 : Int32)), (.ref b863), (.int (0 : Int32)), (.ref b863)])) (fun t k => XS.iconst X865.here hx rfl (hb hby dprog_20_method_3_code_14) k) ?_
  obtain ⟨cl867, Ar867, -, S867, N867_, H867, -⟩ := id V863
  have hin867 : ¬ ((0 : Int32) < 0 ∨ cl867.slots.size ≤ ((0 : Int32)).toNatClampNeg) := inb_of S867 ⟨by decide, by decide⟩
  have hat867 : cl867.slots[((0 : Int32)).toNatClampNeg]? = some (.int e0_o_2) := Has.at H867 hin867 rfl
  refine Go.st (S' := T865.setTop (mkF m 16 A866 [(.int e0_o_2), (.int (0 : Int32)), (.ref b863)])) (fun t k => X865.baloadBytes hx (j := (0 : Int32)) (v := (.int e0_o_2)) (own_eh e865 Ar867.1) (State.isArrayOf_alike hZ.alike Ar867.2.1) Ar867.2.2 hin867 hat867 (g := (mkF m 15 A866 [(.int (0 : Int32)), (.ref b863), (.int (0 : Int32)), (.ref b863)])) rfl rfl (hb hby dprog_20_method_3_code_15) t k) ?_
  refine Go.st (S' := T865.setTop (mkF m 18 A866 [(.int (63 : Int32)), (.int e0_o_2), (.int (0 : Int32)), (.ref b863)])) (fun t k => XS.bipush X865.here hx rfl (hb hby dprog_20_method_3_code_16) k) ?_
  refine Go.op (F := fun z => T865.setTop (mkF m 19 A866 [(.int z), (.int (0 : Int32)), (.ref b863)])) (x := (e0_o_2 &&& (63 : Int32))) (fun t k => XS.iand X865.here hx rfl (hb hby dprog_20_method_3_code_18) rfl k) ?_
  intro v868 hv868
  refine Go.st (S' := T865.setTop (mkF m 20 A866 [(.ref s_Chat_Role_TERMINAL), (.int v868), (.int (0 : Int32)), (.ref b863)])) (fun t k => XS.aloadN X865.here hx rfl (hb hby dprog_20_method_3_code_19) rfl rfl k) ?_
  have f869 := ((F_s_Chat_Role_TERMINAL_bits).ext E863)
  refine Go.st (S' := T865.setTop (mkF m 23 A866 [(.int (0 : Int32)), (.int v868), (.int (0 : Int32)), (.ref b863)])) (own_getR X865 hx hZ hown (hw _ (List.mem_of_getElem? (i := 40) rfl)) e865 f869 (g := (mkF m 20 A866 [(.ref s_Chat_Role_TERMINAL), (.int v868), (.int (0 : Int32)), (.ref b863)])) rfl rfl (hb hby dprog_20_method_3_code_20)) ?_
  refine Go.st (S' := T865.setTop (mkF m 25 A866 [(.int (6 : Int32)), (.int (0 : Int32)), (.int v868), (.int (0 : Int32)), (.ref b863)])) (fun t k => XS.bipush X865.here hx rfl (hb hby dprog_20_method_3_code_23) k) ?_
  refine Go.op (F := fun z => T865.setTop (mkF m 26 A866 [(.int z), (.int v868), (.int (0 : Int32)), (.ref b863)])) (x := ((0 : Int32) <<< ((6 : Int32) &&& 31))) (fun t k => XS.ishl X865.here hx rfl (hb hby dprog_20_method_3_code_25) rfl k) ?_
  intro v870 hv870
  obtain rfl : (0 : Int32) = v870 := (hv870.trans (by decide)).symm
  refine Go.op (F := fun z => T865.setTop (mkF m 27 A866 [(.int z), (.int (0 : Int32)), (.ref b863)])) (x := (v868 ||| (0 : Int32))) (fun t k => XS.ior X865.here hx rfl (hb hby dprog_20_method_3_code_26) rfl k) ?_
  intro v871 hv871
  refine Go.op (F := fun z => T865.setTop (mkF m 28 A866 [(.int z), (.int (0 : Int32)), (.ref b863)])) (x := v871.toInt8.toInt32) (fun t k => XS.i2b X865.here hx rfl (hb hby dprog_20_method_3_code_27) rfl k) ?_
  intro v872 hv872
  obtain ⟨cl873, Ar873, q873, S873, N873_, H873, G873⟩ := id V863
  have hin873 : ¬ ((0 : Int32) < 0 ∨ cl873.slots.size ≤ ((0 : Int32)).toNatClampNeg) := inb_of S873 ⟨by decide, by decide⟩
  obtain ⟨v874, hv874⟩ : ∃ z, z = v872.toInt8.toInt32 := ⟨_, rfl⟩
  obtain ⟨T873, h873, X873, e873, W873, st873⟩ := stB X865 hx hZ e865 Ar873 (j := (0 : Int32)) hin873 (g := (mkF m 28 A866 [(.int v872), (.int (0 : Int32)), (.ref b863)])) rfl rfl (hb hby dprog_20_method_3_code_28)
  have W873 : Wr h863 h873 b863 ((0 : Int32)).toNatClampNeg (.int v874) := by rw [hv874]; exact W873
  have V873 : Arv Z h873 b863 k_o_2 .byte (3 : Int32) [(.int v874), (.int e1_o_2), (.int e2_o_2)] (.int (0 : Int32)) := Arv.set Ar873 q873 S873 N873_ H873 G873 (by rw [hv874]; exact fits_nar_byte _) W873 0 rfl (Nat.le_of_ble_eq_true rfl)
  have N873 := Fr.snoc X873 N0 g_b863
  have Z875 : n0 ≤ h873.size := Nat.le_trans Z864 (Keep.of_wr W873).1
  have K875 : Keep h0 h873 [] := K864.wr W873 (Or.inr sz_b863)
  refine Go.st (S' := T873.setTop (mkF m 29 A866 [])) st873 ?_
  obtain ⟨T876, h876, X876, e876, E876, A876, D876, -, st876⟩ := newO X873 hx hZ hown (hw _ (List.mem_of_getElem? (i := 42) rfl)) (hw _ (List.mem_of_getElem? (i := 9) rfl)) (hw _ (List.mem_of_getElem? (i := 10) rfl)) e873 (g := (mkF m 29 A866 [])) rfl (hb hby dprog_20_method_3_code_29) (by decide) (by decide)
  obtain ⟨b876, gg876⟩ : ∃ z, z = h873.size := ⟨_, rfl⟩
  rw [← gg876] at A876 D876 st876
  have g_b876 : n0 ≤ b876 := Nat.le_trans Z875 (Nat.le_of_eq gg876.symm)
  have sz_b876 : h0.size ≤ b876 := Nat.le_trans K875.1 (Nat.le_of_eq gg876.symm)
  have f877 := ((B863).wr W873)
  have lt_b863_b876 : b863 < b876 := Nat.lt_of_lt_of_le (f877).lt (Nat.le_of_eq gg876.symm)
  have Z878 : n0 ≤ h876.size := Nat.le_trans Z875 E876.1
  have K878 : Keep h0 h876 [] := K875.ext E876
  have Fb876_template : Fld Z h876 b876 "com/example/consulate/consulate/cvc/Chat" "template" "Lcom/example/consulate/consulate/cvc/Chat$Template;" .null := D876 (Or.inr (hw _ (List.mem_of_getElem? (i := 23) rfl))) (ty := (.object "com/example/consulate/consulate/cvc/Chat$Template")) (by decide)
  have Fb876_data : Fld Z h876 b876 "com/example/consulate/consulate/cvc/Chat" "data" "[B" .null := D876 (Or.inr (hw _ (List.mem_of_getElem? (i := 25) rfl))) (ty := (.array .byte)) (by decide)
  refine Go.st (S' := T876.setTop (mkF m 32 A866 [(.ref b876)])) st876 ?_
  refine Go.st (S' := T876.setTop (mkF m 33 A866 [(.ref b876), (.ref b876)])) (fun t k => XS.dup X876.here hx rfl (hb hby dprog_20_method_3_code_32) rfl rfl k) ?_
  refine Go.st (S' := T876.setTop (mkF m 34 A866 [(.ref o0), (.ref b876), (.ref b876)])) (fun t k => XS.aloadN X876.here hx rfl (hb hby dprog_20_method_3_code_33) rfl rfl k) ?_
  have f879 := ((((((F_o0_template).ext E863)).other W873 (Or.inl (Nat.ne_of_lt (Nat.lt_of_lt_of_le (F_o0_data).lt sz_b863))))).ext E876)
  obtain ⟨T880, X880, e880, st880⟩ := getF X876 hx hZ hown (host := "") (Or.inl (hw _ (List.mem_of_getElem? (i := 22) rfl))) Via.refl e876 f879 (g := (mkF m 34 A866 [(.ref o0), (.ref b876), (.ref b876)])) rfl rfl (hb hby dprog_20_method_3_code_34)
  refine Go.st (S' := T880.setTop (mkF m 37 A866 [(.ref o_3), (.ref b876), (.ref b876)])) st880 ?_
  refine Go.st (S' := T880.setTop (mkF m 38 A866 [(.ref b863), (.ref o_3), (.ref b876), (.ref b876)])) (fun t k => XS.aloadN X880.here hx rfl (hb hby dprog_20_method_3_code_37) rfl rfl k) ?_
  have f882 := ((V873).ext E876)
  obtain ⟨r883, T883, L883, X883, hQ883, st883⟩ := own_callI (W := 1) (a := b876) X880 hx hZ e880 hown (y := (⟨"com/example/consulate/consulate/cvc/Chat", "<init>", "(Lcom/example/consulate/consulate/cvc/Chat$Template;[B)V"⟩ : MethodName)) rfl (hw _ (List.mem_of_getElem? (i := 43) rfl)) (hw _ (List.mem_of_getElem? (i := 12) rfl)) (hw _ (List.mem_of_getElem? (i := 10) rfl)) (hw _ (List.mem_of_getElem? (i := 13) rfl)) (by decide) (rm6 l Z a0 hw [] b876 o_3 b863 k_o_2 v874 e1_o_2 e2_o_2 (.null) (.null) h876 n0 Z878 (f882) (A876) (Fb876_template) (g_b876) (Fb876_data)) (by decide) (by decide) (by decide) (by decide) (g := (mkF m 38 A866 [(.ref b863), (.ref o_3), (.ref b876), (.ref b876)])) rfl (by rw [hml]; rfl) (argsL := [(.ref o_3), (.ref b863)]) (rest := [(.ref b876)]) rfl (lenOf pd_1 rfl) rfl (by show 2 * 0 + _ ≤ _; exact Nat.le_of_eq rfl) (hb hby dprog_20_method_3_code_38)
  obtain ⟨rfl, N883, K883_, f884, f885, f886⟩ := hQ883
  have N883_ := Fr.app N873 N883
  have Z887 : n0 ≤ T883.heap.size := Nat.le_trans Z878 K883_.1
  have K887 : Keep h0 T883.heap [] := K878.trans K883_ (allS (Or.inr sz_b876) all0)
  refine Go.st (S' := T883.setTop (mkF m 41 A866 [(.ref b876)])) st883 ?_
  have f888 := ((f882).keep K883_ (ninS (Nat.ne_of_lt lt_b863_b876) nin0))
  have f889 := ((((f877).ext E876)).keep K883_)
  exact Go.ret X883 (v := some (.ref b876)) (fun h => by rw [Bd.returns] at h; cases h) Bd.notSynchronized (fun fs hr => retOut X883 hx Bd.returns rfl (Or.inr (Or.inr (Or.inr (Or.inr ⟨rfl, rfl, rfl⟩)))) (hb hby dprog_20_method_3_code_41) hr) (by decide) (by decide) (⟨v868, v871, v872, v874, b863, b876, hv868, hv871, hv872, hv874, rfl, N883_, K887, sz_b863, sz_b876, f888, f889, f884, f885, f886, lt_b863_b876⟩)
theorem ef_14 (m : MethodId) (p0 : Int32) (p1 : Int32) (p2 : Int32) (p3 : Int32) (p4 : Int32) (p5 : Int32) : entryFrame m #[(.int p0), (.int p1), (.int p2), (.int p3), (.int p4), (.int p5)] maxLocals = mkF m 0 #[.val (.int p0), .val (.int p1), .val (.int p2), .val (.int p3), .val (.int p4), .val (.int p5), .unset, .unset, .unset, .unset, .unset, .unset, .unset, .unset, .unset, .unset, .unset] [] := by first | (simp [entryFrame, mkF, argsToLocals, Value.category, maxLocals]; done) | rfl
def Q14 (Z : State) (p0 : Int32) (p1 : Int32) (p2 : Int32) (p3 : Int32) (p4 : Int32) (p5 : Int32) (s_Chat_Template_IS : Addr) (s_Chat_Template_AT : Addr) (s_Chat_Template_ST : Addr) (s_Chat_Role_CVCA : Addr) (s_Chat_Role_DV_DOMESTIC : Addr) (s_Chat_Role_DV_FOREIGN : Addr) (s_Chat_Role_TERMINAL : Addr) (h0 : Heap) (n0 : Nat) (v : Option Value) (h : Heap) (L : List Loc) : Prop := v = some (.int 1) ∧ Fr n0 L
set_option maxRecDepth 65536 in
set_option maxHeartbeats 40000000 in
theorem rm14 (l : Launch) (Z : State) (a0 : Array Value) (hw : ∀ d ∈ tables_1, d.before a0 Z = true) (ws : List Jvm.Cond) (p0 : Int32) (p1 : Int32) (p2 : Int32) (p3 : Int32) (p4 : Int32) (p5 : Int32) (s_Chat_Template_IS : Addr) (s_Chat_Template_AT : Addr) (s_Chat_Template_ST : Addr) (s_Chat_Role_CVCA : Addr) (s_Chat_Role_DV_DOMESTIC : Addr) (s_Chat_Role_DV_FOREIGN : Addr) (s_Chat_Role_TERMINAL : Addr) (h0 : Heap) (n0 : Nat) (Z0 : n0 ≤ h0.size) (S_s_Chat_Template_IS : Sta Z h0 "com/example/consulate/consulate/cvc/Chat$Template" "IS" "Lcom/example/consulate/consulate/cvc/Chat$Template;" (.ref s_Chat_Template_IS)) (S_s_Chat_Template_AT : Sta Z h0 "com/example/consulate/consulate/cvc/Chat$Template" "AT" "Lcom/example/consulate/consulate/cvc/Chat$Template;" (.ref s_Chat_Template_AT)) (S_s_Chat_Template_ST : Sta Z h0 "com/example/consulate/consulate/cvc/Chat$Template" "ST" "Lcom/example/consulate/consulate/cvc/Chat$Template;" (.ref s_Chat_Template_ST)) (S_s_Chat_Role_CVCA : Sta Z h0 "com/example/consulate/consulate/cvc/Chat$Role" "CVCA" "Lcom/example/consulate/consulate/cvc/Chat$Role;" (.ref s_Chat_Role_CVCA)) (S_s_Chat_Role_DV_DOMESTIC : Sta Z h0 "com/example/consulate/consulate/cvc/Chat$Role" "DV_DOMESTIC" "Lcom/example/consulate/consulate/cvc/Chat$Role;" (.ref s_Chat_Role_DV_DOMESTIC)) (S_s_Chat_Role_DV_FOREIGN : Sta Z h0 "com/example/consulate/consulate/cvc/Chat$Role" "DV_FOREIGN" "Lcom/example/consulate/consulate/cvc/Chat$Role;" (.ref s_Chat_Role_DV_FOREIGN)) (S_s_Chat_Role_TERMINAL : Sta Z h0 "com/example/consulate/consulate/cvc/Chat$Role" "TERMINAL" "Lcom/example/consulate/consulate/cvc/Chat$Role;" (.ref s_Chat_Role_TERMINAL)) (F_s_Chat_Role_CVCA_bits : Fld Z h0 s_Chat_Role_CVCA "com/example/consulate/consulate/cvc/Chat$Role" "bits" "I" (.int (3 : Int32))) (F_s_Chat_Role_DV_DOMESTIC_bits : Fld Z h0 s_Chat_Role_DV_DOMESTIC "com/example/consulate/consulate/cvc/Chat$Role" "bits" "I" (.int (2 : Int32))) (F_s_Chat_Role_DV_FOREIGN_bits : Fld Z h0 s_Chat_Role_DV_FOREIGN "com/example/consulate/consulate/cvc/Chat$Role" "bits" "I" (.int (1 : Int32))) (F_s_Chat_Role_TERMINAL_bits : Fld Z h0 s_Chat_Role_TERMINAL "com/example/consulate/consulate/cvc/Chat$Role" "bits" "I" (.int (0 : Int32))) :
    Con l Z x code maxLocals ret ws room_1 #[(.int p0), (.int p1), (.int p2), (.int p3), (.int p4), (.int p5)] h0 4 10 (Q14 Z p0 p1 p2 p3 p4 p5 s_Chat_Template_IS s_Chat_Template_AT s_Chat_Template_ST s_Chat_Role_CVCA s_Chat_Role_DV_DOMESTIC s_Chat_Role_DV_FOREIGN s_Chat_Role_TERMINAL h0 n0) := by
  refine MetFree.of_bodySF (plainFor_of_name pn_2) hisR ?_
  intro p e s m args below meth c s₁ Bd hml0 hP hK
  obtain ⟨rfl, hZ, hh⟩ := hP
  have hx := Bd.exec
  have hby := Bd.bytes
  have hml : c.maxLocals = 17 := hml0
  have hown : s.vm.findClass "com/example/consulate/consulate/cvc/ChatWithRolePinLaw" = some m.cls := findClass_of_methodNamed Bd.named
  have hnm := (name_of_methodNamed Bd.named Bd.method).1
  have X0 : Stand p l e room_1 s m #[(.int p0), (.int p1), (.int p2), (.int p3), (.int p4), (.int p5)] below meth c s₁ [] 0 0 := Stand.of_body Bd
  have e0 : s₁.heap = h0 := by rw [← hh, Bd.state]; rfl
  have N0 := Fr.nil n0
  refine Go.of ?_
  refine Go.st (S' := s₁.setTop (mkF m 0 #[.val (.int p0), .val (.int p1), .val (.int p2), .val (.int p3), .val (.int p4), .val (.int p5), .unset, .unset, .unset, .unset, .unset, .unset, .unset, .unset, .unset, .unset, .unset] [])) (fun t k => castTop (ef_14 m p0 p1 p2 p3 p4 p5) k) ?_
  let A1 : Array Slot := #[.val (.int p0), .val (.int p1), .val (.int p2), .val (.int p3), .val (.int p4), .val (.int p5), .unset, .unset, .unset, .unset, .unset, .unset, .unset, .unset, .unset, .unset, .unset]
  refine Go.st (S' := s₁.setTop (mkF m 1 A1 [(.int p0)])) (fun t k => XS.iloadN X0.here hx rfl (hb hby at_0) rfl k) ?_
  refine Go.st (S' := s₁.setTop (mkF m 3 A1 [(.int (2147483647 : Int32)), (.int p0)])) (fun t k => X0.ldcInt hx hown (mvT hZ (hw _ (List.mem_of_getElem? (i := 0) rfl))) (g := (mkF m 1 A1 [(.int p0)])) rfl (hb hby at_1) t k) ?_
  refine Go.op (F := fun z => s₁.setTop (mkF m 4 A1 [(.int z)])) (x := (p0 &&& (2147483647 : Int32))) (fun t k => XS.iand X0.here hx rfl (hb hby at_3) rfl k) ?_
  intro v2 hv2
  refine Go.st (S' := s₁.setTop (mkF m 5 A1 [(.int (3 : Int32)), (.int v2)])) (fun t k => XS.iconst X0.here hx rfl (hb hby at_4) k) ?_
  refine Go.op (F := fun z => s₁.setTop (mkF m 6 A1 [(.int z)])) (x := (v2 % (3 : Int32))) (fun t k => iremM X0 hx rfl (hb hby at_5) rfl (by decide) k) ?_
  intro v3 hv3
  let A4 : Array Slot := #[.val (.int p0), .val (.int p1), .val (.int p2), .val (.int p3), .val (.int p4), .val (.int p5), .val (.int v3), .unset, .unset, .unset, .unset, .unset, .unset, .unset, .unset, .unset, .unset]
  refine Go.st (S' := s₁.setTop (mkF m 8 A4 [])) (fun t k => XS.istore X0.here hx rfl (hb hby at_6) rfl (l' := A4) rfl k) ?_
  refine Go.st (S' := s₁.setTop (mkF m 10 A4 [(.int v3)])) (fun t k => XS.iload X0.here hx rfl (hb hby at_8) rfl k) ?_
  refine Go.joinT X0 e0 (α := Addr) (fun r => (((v3 = (0 : Int32))) ∨ ((¬ (v3 = (0 : Int32))) ∧ (v3 = (1 : Int32))) ∨ ((¬ (v3 = (0 : Int32))) ∧ (¬ (v3 = (1 : Int32)))))) (fun T' r => T'.setTop (mkF m 40 #[.val (.int p0), .val (.int p1), .val (.int p2), .val (.int p3), .val (.int p4), .val (.int p5), .val (.int v3), .val (.ref r), .unset, .unset, .unset, .unset, .unset, .unset, .unset, .unset, .unset] [])) ?_ ?_
  · intro T23 X23 e23
    intro r21 hc22
    let A24 : Array Slot := #[.val (.int p0), .val (.int p1), .val (.int p2), .val (.int p3), .val (.int p4), .val (.int p5), .val (.int v3), .val (.ref r21), .unset, .unset, .unset, .unset, .unset, .unset, .unset, .unset, .unset]
    refine Go.st (S' := T23.setTop (mkF m 41 A24 [(.int p1)])) (fun t k => XS.iloadN X23.here hx rfl (hb hby at_40) rfl k) ?_
    refine Go.st (S' := T23.setTop (mkF m 42 A24 [(.int (3 : Int32)), (.int p1)])) (fun t k => XS.iconst X23.here hx rfl (hb hby at_41) k) ?_
    refine Go.op (F := fun z => T23.setTop (mkF m 43 A24 [(.int z)])) (x := (p1 &&& (3 : Int32))) (fun t k => XS.iand X23.here hx rfl (hb hby at_42) rfl k) ?_
    intro v25 hv25
    let A26 : Array Slot := #[.val (.int p0), .val (.int p1), .val (.int p2), .val (.int p3), .val (.int p4), .val (.int p5), .val (.int v3), .val (.ref r21), .val (.int v25), .unset, .unset, .unset, .unset, .unset, .unset, .unset, .unset]
    refine Go.st (S' := T23.setTop (mkF m 45 A26 [])) (fun t k => XS.istore X23.here hx rfl (hb hby at_43) rfl (l' := A26) rfl k) ?_
    refine Go.st (S' := T23.setTop (mkF m 47 A26 [(.int v25)])) (fun t k => XS.iload X23.here hx rfl (hb hby at_45) rfl k) ?_
    by_cases hc57 : (v25 = (0 : Int32))
    · refine Go.st (S' := T23.setTop (mkF m 50 A26 [])) (fun t k => XS.ifNo X23.here hx rfl (hb hby at_47) rfl ((if0 _ _).trans (teq hc57).2) k) ?_
      obtain ⟨T58, X58, e58, st58⟩ := getS X23 hx hZ hown (hw _ (List.mem_of_getElem? (i := 58) rfl)) Via.refl e23 S_s_Chat_Role_CVCA (host := "") (g := (mkF m 50 A26 [])) rfl (hb hby at_50)
      refine Go.st (S' := T58.setTop (mkF m 53 A26 [(.ref s_Chat_Role_CVCA)])) st58 ?_
      let A59 : Array Slot := #[.val (.int p0), .val (.int p1), .val (.int p2), .val (.int p3), .val (.int p4), .val (.int p5), .val (.int v3), .val (.ref r21), .val (.int v25), .val (.ref s_Chat_Role_CVCA), .unset, .unset, .unset, .unset, .unset, .unset, .unset]
      refine Go.st (S' := T58.setTop (mkF m 55 A59 [])) (fun t k => XS.astore X58.here hx rfl (hb hby at_53) rfl rfl (l' := A59) rfl k) ?_
      refine Go.st (S' := T58.setTop (mkF m 56 A59 [(.int (3 : Int32))])) (fun t k => XS.iconst X58.here hx rfl (hb hby at_55) k) ?_
      let A60 : Array Slot := #[.val (.int p0), .val (.int p1), .val (.int p2), .val (.int p3), .val (.int p4), .val (.int p5), .val (.int v3), .val (.ref r21), .val (.int v25), .val (.ref s_Chat_Role_CVCA), .val (.int (3 : Int32)), .unset, .unset, .unset, .unset, .unset, .unset]
      refine Go.st (S' := T58.setTop (mkF m 58 A60 [])) (fun t k => XS.istore X58.here hx rfl (hb hby at_56) rfl (l' := A60) rfl k) ?_
      refine Go.st (S' := T58.setTop (mkF m 103 A60 [])) (fun t k => XS.goto X58.here hx rfl (pc0 := 58) (pc' := 103) rfl (hb hby at_58) (by decide) (by decide) k) ?_
      refine Go.st (S' := T58.setTop (mkF m 105 A60 [(.int p5)])) (fun t k => XS.iload X58.here hx rfl (hb hby at_103) rfl k) ?_
      refine Go.st (S' := T58.setTop (mkF m 106 A60 [(.int (1 : Int32)), (.int p5)])) (fun t k => XS.iconst X58.here hx rfl (hb hby at_105) k) ?_
      refine Go.op (F := fun z => T58.setTop (mkF m 107 A60 [(.int z)])) (x := (p5 &&& (1 : Int32))) (fun t k => XS.iand X58.here hx rfl (hb hby at_106) rfl k) ?_
      intro v61 hv61
      refine Go.join (α := Int32) (fun r => (((v61 = (0 : Int32)) ∧ (r = (0 : Int32))) ∨ ((¬ (v61 = (0 : Int32))) ∧ (r = (1 : Int32))))) (fun r => T58.setTop (mkF m 115 A60 [(.int r)])) ?_ ?_
      · intro r64 hc65
        let A66 : Array Slot := #[.val (.int p0), .val (.int p1), .val (.int p2), .val (.int p3), .val (.int p4), .val (.int p5), .val (.int v3), .val (.ref r21), .val (.int v25), .val (.ref s_Chat_Role_CVCA), .val (.int (3 : Int32)), .val (.int r64), .unset, .unset, .unset, .unset, .unset]
        refine Go.st (S' := T58.setTop (mkF m 117 A66 [])) (fun t k => XS.istore X58.here hx rfl (hb hby at_115) rfl (l' := A66) rfl k) ?_
        refine Go.st (S' := T58.setTop (mkF m 119 A66 [(.int r64)])) (fun t k => XS.iload X58.here hx rfl (hb hby at_117) rfl k) ?_
        by_cases hc72 : (r64 = (0 : Int32))
        · refine Go.st (S' := T58.setTop (mkF m 128 A66 [])) (fun t k => XS.ifYes X58.here hx rfl (pc0 := 119) (pc' := 128) rfl (hb hby at_119) rfl ((if0 _ _).trans (teq hc72).1) (by decide) (by decide) k) ?_
          refine Go.st (S' := T58.setTop (mkF m 129 A66 [(.int (1 : Int32))])) (fun t k => XS.iconst X58.here hx rfl (hb hby at_128) k) ?_
          obtain ⟨T73, h73, k73, X73, e73, E73, A73, B73, st73⟩ := newPE X58 hx hZ (hw _ (List.mem_of_getElem? (i := 7) rfl)) e58 (g := (mkF m 129 A66 [(.int (1 : Int32))])) rfl (hb hby at_129) rfl (by decide) (cap := 1) (by decide) (by decide) (by decide) (by decide) (ad := "[B") (by decide)
          obtain ⟨b73, gg73⟩ : ∃ z, z = h0.size := ⟨_, rfl⟩
          rw [← gg73] at A73 B73 st73
          have g_b73 : n0 ≤ b73 := Nat.le_trans Z0 (Nat.le_of_eq gg73.symm)
          have sz_b73 : h0.size ≤ b73 := Nat.le_trans (Keep.refl h0 []).1 (Nat.le_of_eq gg73.symm)
          have Z74 : n0 ≤ h73.size := Nat.le_trans Z0 E73.1
          have K74 : Keep h0 h73 [] := (Keep.refl h0 []).ext E73
          have V73 : Arv Z h73 b73 k73 .byte (1 : Int32) [(.int (0 : Int32))] (.int (0 : Int32)) := (Arv.new A73 (by decide)).pad (pad_rep [] (.int (0 : Int32)) 1)
          refine Go.st (S' := T73.setTop (mkF m 131 A66 [(.ref b73)])) st73 ?_
          let A75 : Array Slot := #[.val (.int p0), .val (.int p1), .val (.int p2), .val (.int p3), .val (.int p4), .val (.int p5), .val (.int v3), .val (.ref r21), .val (.int v25), .val (.ref s_Chat_Role_CVCA), .val (.int (3 : Int32)), .val (.int r64), .val (.ref b73), .unset, .unset, .unset, .unset]
          refine Go.st (S' := T73.setTop (mkF m 133 A75 [])) (fun t k => XS.astore X73.here hx rfl (hb hby at_131) rfl rfl (l' := A75) rfl k) ?_
          refine Go.st (S' := T73.setTop (mkF m 135 A75 [(.ref b73)])) (fun t k => XS.aload X73.here hx rfl (hb hby at_133) rfl rfl k) ?_
          refine Go.st (S' := T73.setTop (mkF m 136 A75 [(.int (0 : Int32)), (.ref b73)])) (fun t k => XS.iconst X73.here hx rfl (hb hby at_135) k) ?_
          refine Go.st (S' := T73.setTop (mkF m 137 A75 [(.int p2), (.int (0 : Int32)), (.ref b73)])) (fun t k => XS.iloadN X73.here hx rfl (hb hby at_136) rfl k) ?_
          refine Go.op (F := fun z => T73.setTop (mkF m 138 A75 [(.int z), (.int (0 : Int32)), (.ref b73)])) (x := p2.toInt8.toInt32) (fun t k => XS.i2b X73.here hx rfl (hb hby at_137) rfl k) ?_
          intro v76 hv76
          obtain ⟨cl77, Ar77, q77, S77, N77_, H77, G77⟩ := id V73
          have hin77 : ¬ ((0 : Int32) < 0 ∨ cl77.slots.size ≤ ((0 : Int32)).toNatClampNeg) := inb_of S77 ⟨by decide, by decide⟩
          obtain ⟨v78, hv78⟩ : ∃ z, z = v76.toInt8.toInt32 := ⟨_, rfl⟩
          obtain ⟨T77, h77, X77, e77, W77, st77⟩ := stB X73 hx hZ e73 Ar77 (j := (0 : Int32)) hin77 (g := (mkF m 138 A75 [(.int v76), (.int (0 : Int32)), (.ref b73)])) rfl rfl (hb hby at_138)
          have W77 : Wr h73 h77 b73 ((0 : Int32)).toNatClampNeg (.int v78) := by rw [hv78]; exact W77
          have V77 : Arv Z h77 b73 k73 .byte (1 : Int32) [(.int v78)] (.int (0 : Int32)) := Arv.set Ar77 q77 S77 N77_ H77 G77 (by rw [hv78]; exact fits_nar_byte _) W77 0 rfl (Nat.le_of_ble_eq_true rfl)
          have N77 := Fr.snoc X77 N0 g_b73
          have Z79 : n0 ≤ h77.size := Nat.le_trans Z74 (Keep.of_wr W77).1
          have K79 : Keep h0 h77 [] := K74.wr W77 (Or.inr sz_b73)
          refine Go.st (S' := T77.setTop (mkF m 139 A75 [])) st77 ?_
          refine Go.st (S' := T77.setTop (mkF m 141 A75 [(.int r64)])) (fun t k => XS.iload X77.here hx rfl (hb hby at_139) rfl k) ?_
          refine Go.st (S' := T77.setTop (mkF m 157 A75 [])) (fun t k => XS.ifYes X77.here hx rfl (pc0 := 141) (pc' := 157) rfl (hb hby at_141) rfl ((if0 _ _).trans (teq hc72).1) (by decide) (by decide) k) ?_
          obtain ⟨T80, h80, X80, e80, E80, A80, D80, -, st80⟩ := newO X77 hx hZ hown (hw _ (List.mem_of_getElem? (i := 8) rfl)) (hw _ (List.mem_of_getElem? (i := 9) rfl)) (hw _ (List.mem_of_getElem? (i := 10) rfl)) e77 (g := (mkF m 157 A75 [])) rfl (hb hby at_157) (by decide) (by decide)
          obtain ⟨b80, gg80⟩ : ∃ z, z = h77.size := ⟨_, rfl⟩
          rw [← gg80] at A80 D80 st80
          have g_b80 : n0 ≤ b80 := Nat.le_trans Z79 (Nat.le_of_eq gg80.symm)
          have sz_b80 : h0.size ≤ b80 := Nat.le_trans K79.1 (Nat.le_of_eq gg80.symm)
          have f81 := ((B73).wr W77)
          have lt_b73_b80 : b73 < b80 := Nat.lt_of_lt_of_le (f81).lt (Nat.le_of_eq gg80.symm)
          have Z82 : n0 ≤ h80.size := Nat.le_trans Z79 E80.1
          have K82 : Keep h0 h80 [] := K79.ext E80
          have Fb80_template : Fld Z h80 b80 "com/example/consulate/consulate/cvc/Chat" "template" "Lcom/example/consulate/consulate/cvc/Chat$Template;" .null := D80 (Or.inr (hw _ (List.mem_of_getElem? (i := 23) rfl))) (ty := (.object "com/example/consulate/consulate/cvc/Chat$Template")) (by decide)
          have Fb80_data : Fld Z h80 b80 "com/example/consulate/consulate/cvc/Chat" "data" "[B" .null := D80 (Or.inr (hw _ (List.mem_of_getElem? (i := 25) rfl))) (ty := (.array .byte)) (by decide)
          refine Go.st (S' := T80.setTop (mkF m 160 A75 [(.ref b80)])) st80 ?_
          refine Go.st (S' := T80.setTop (mkF m 161 A75 [(.ref b80), (.ref b80)])) (fun t k => XS.dup X80.here hx rfl (hb hby at_160) rfl rfl k) ?_
          refine Go.st (S' := T80.setTop (mkF m 163 A75 [(.ref r21), (.ref b80), (.ref b80)])) (fun t k => XS.aload X80.here hx rfl (hb hby at_161) rfl rfl k) ?_
          refine Go.st (S' := T80.setTop (mkF m 165 A75 [(.ref b73), (.ref r21), (.ref b80), (.ref b80)])) (fun t k => XS.aload X80.here hx rfl (hb hby at_163) rfl rfl k) ?_
          have f96 := ((V77).ext E80)
          obtain ⟨r97, T97, L97, X97, hQ97, st97⟩ := own_callI (W := 1) (a := b80) X80 hx hZ e80 hown (y := (⟨"com/example/consulate/consulate/cvc/Chat", "<init>", "(Lcom/example/consulate/consulate/cvc/Chat$Template;[B)V"⟩ : MethodName)) rfl (hw _ (List.mem_of_getElem? (i := 11) rfl)) (hw _ (List.mem_of_getElem? (i := 12) rfl)) (hw _ (List.mem_of_getElem? (i := 10) rfl)) (hw _ (List.mem_of_getElem? (i := 13) rfl)) (by decide) (rm2 l Z a0 hw [] b80 r21 b73 k73 v78 (.null) (.null) h80 n0 Z82 (f96) (A80) (Fb80_template) (g_b80) (Fb80_data)) (by decide) (by decide) (by decide) (by decide) (g := (mkF m 165 A75 [(.ref b73), (.ref r21), (.ref b80), (.ref b80)])) rfl (by rw [hml]; rfl) (argsL := [(.ref r21), (.ref b73)]) (rest := [(.ref b80)]) rfl (lenOf pd_1 rfl) rfl (by show 2 * 0 + _ ≤ _; exact Nat.le_of_eq rfl) (hb hby at_165)
          obtain ⟨rfl, N97, K97_, f98, f99, f100⟩ := hQ97
          have N97_ := Fr.app N77 N97
          have Z101 : n0 ≤ T97.heap.size := Nat.le_trans Z82 K97_.1
          have K101 : Keep h0 T97.heap [] := K82.trans K97_ (allS (Or.inr sz_b80) all0)
          refine Go.st (S' := T97.setTop (mkF m 168 A75 [(.ref b80)])) st97 ?_
          let A102 : Array Slot := #[.val (.int p0), .val (.int p1), .val (.int p2), .val (.int p3), .val (.int p4), .val (.int p5), .val (.int v3), .val (.ref r21), .val (.int v25), .val (.ref s_Chat_Role_CVCA), .val (.int (3 : Int32)), .val (.int r64), .val (.ref b73), .val (.ref b80), .unset, .unset, .unset]
          refine Go.st (S' := T97.setTop (mkF m 170 A102 [])) (fun t k => XS.astore X97.here hx rfl (hb hby at_168) rfl rfl (l' := A102) rfl k) ?_
          refine Go.st (S' := T97.setTop (mkF m 172 A102 [(.ref b80)])) (fun t k => XS.aload X97.here hx rfl (hb hby at_170) rfl rfl k) ?_
          refine Go.st (S' := T97.setTop (mkF m 174 A102 [(.ref s_Chat_Role_CVCA), (.ref b80)])) (fun t k => XS.aload X97.here hx rfl (hb hby at_172) rfl rfl k) ?_
          have f132 := ((f96).keep K97_ (ninS (Nat.ne_of_lt lt_b73_b80) nin0))
          have f133 := ((((f81).ext E80)).keep K97_)
          have f134 := ((((((((F_s_Chat_Role_CVCA_bits).ext E73)).other W77 (Or.inl (Nat.ne_of_lt (Nat.lt_of_lt_of_le (F_s_Chat_Role_CVCA_bits).lt sz_b73))))).ext E80)).keep K97_ (ninS (Nat.ne_of_lt (Nat.lt_of_lt_of_le (F_s_Chat_Role_CVCA_bits).lt sz_b80)) nin0))
          obtain ⟨r135, T135, L135, X135, hQ135, st135⟩ := own_callV (W := 0) (a := b80) (C := "com/example/consulate/consulate/cvc/Chat") X97 hx hZ rfl hown (y := (⟨"com/example/consulate/consulate/cvc/Chat", "withRole", "(Lcom/example/consulate/consulate/cvc/Chat$Role;)Lcom/example/consulate/consulate/cvc/Chat;"⟩ : MethodName)) (z := (⟨"com/example/consulate/consulate/cvc/Chat", "withRole", "(Lcom/example/consulate/consulate/cvc/Chat$Role;)Lcom/example/consulate/consulate/cvc/Chat;"⟩ : MethodName)) (hw _ (List.mem_of_getElem? (i := 26) rfl)) (hw _ (List.mem_of_getElem? (i := 27) rfl)) (notFace_of_selects (args := #[]) (mvT hZ (hw _ (List.mem_of_getElem? (i := 29) rfl)))) (hw _ (List.mem_of_getElem? (i := 29) rfl)) (hw _ (List.mem_of_getElem? (i := 28) rfl)) (hw _ (List.mem_of_getElem? (i := 10) rfl)) (hw _ (List.mem_of_getElem? (i := 30) rfl)) (by decide) (f98) (rm3 l Z a0 hw [] b80 s_Chat_Role_CVCA b73 k73 v78 r21 T97.heap n0 Z101 (f100) (f132) (f133) (f134) (f99)) (by decide) (by decide) (by decide) (by decide) (g := (mkF m 174 A102 [(.ref s_Chat_Role_CVCA), (.ref b80)])) rfl (by rw [hml]; rfl) (argsL := [(.ref s_Chat_Role_CVCA)]) (rest := []) rfl (lenOf pd_2 rfl) rfl (by show 2 * 0 + _ ≤ _; exact Nat.le_of_eq rfl) (hb hby at_174)
          obtain ⟨v136, v137, v138, v139, b140, b141, hv136, hv137, hv138, hv139, rfl, N135, K135_, sz_b140_, sz_b141_, f142, f143, f144, f145, f146, hlt147⟩ := hQ135
          have N135_ := Fr.app N97_ N135
          have g_b140 : n0 ≤ b140 := Nat.le_trans Z101 sz_b140_
          have sz_b140 : h0.size ≤ b140 := Nat.le_trans K101.1 sz_b140_
          have lt_b73_b140 : b73 < b140 := Nat.lt_of_lt_of_le (f133).lt sz_b140_
          have lt_b80_b140 : b80 < b140 := Nat.lt_of_lt_of_le (f98).lt sz_b140_
          have g_b141 : n0 ≤ b141 := Nat.le_trans Z101 sz_b141_
          have sz_b141 : h0.size ≤ b141 := Nat.le_trans K101.1 sz_b141_
          have lt_b73_b141 : b73 < b141 := Nat.lt_of_lt_of_le (f133).lt sz_b141_
          have lt_b80_b141 : b80 < b141 := Nat.lt_of_lt_of_le (f98).lt sz_b141_
          have Z148 : n0 ≤ T135.heap.size := Nat.le_trans Z101 K135_.1
          have K148 : Keep h0 T135.heap [] := K101.trans K135_ all0
          refine Go.st (S' := T135.setTop (mkF m 177 A102 [(.ref b141)])) st135 ?_
          let A149 : Array Slot := #[.val (.int p0), .val (.int p1), .val (.int p2), .val (.int p3), .val (.int p4), .val (.int p5), .val (.int v3), .val (.ref r21), .val (.int v25), .val (.ref s_Chat_Role_CVCA), .val (.int (3 : Int32)), .val (.int r64), .val (.ref b73), .val (.ref b80), .val (.ref b141), .unset, .unset]
          refine Go.st (S' := T135.setTop (mkF m 179 A149 [])) (fun t k => XS.astore X135.here hx rfl (hb hby at_177) rfl rfl (l' := A149) rfl k) ?_
          refine Go.st (S' := T135.setTop (mkF m 181 A149 [(.ref b141)])) (fun t k => XS.aload X135.here hx rfl (hb hby at_179) rfl rfl k) ?_
          obtain ⟨r151, T151, L151, X151, hQ151, st151⟩ := own_callV (W := 0) (a := b141) (C := "com/example/consulate/consulate/cvc/Chat") X135 hx hZ rfl hown (y := (⟨"com/example/consulate/consulate/cvc/Chat", "data", "()[B"⟩ : MethodName)) (z := (⟨"com/example/consulate/consulate/cvc/Chat", "data", "()[B"⟩ : MethodName)) (hw _ (List.mem_of_getElem? (i := 44) rfl)) (hw _ (List.mem_of_getElem? (i := 45) rfl)) (notFace_of_selects (args := #[]) (mvT hZ (hw _ (List.mem_of_getElem? (i := 47) rfl)))) (hw _ (List.mem_of_getElem? (i := 47) rfl)) (hw _ (List.mem_of_getElem? (i := 46) rfl)) (hw _ (List.mem_of_getElem? (i := 10) rfl)) (hw _ (List.mem_of_getElem? (i := 48) rfl)) (by decide) (f144) (rm4 l Z a0 hw [] b141 b140 T135.heap n0 Z148 (f146)) (by decide) (by decide) (by decide) (by decide) (g := (mkF m 181 A149 [(.ref b141)])) rfl (by rw [hml]; rfl) (argsL := []) (rest := []) rfl (lenOf pd_3 rfl) rfl (by show 2 * 0 + _ ≤ _; exact Nat.le_of_eq rfl) (hb hby at_181)
          obtain ⟨rfl, N151, e151⟩ := hQ151
          have N151_ := Fr.app N135_ N151
          refine Go.st (S' := T151.setTop (mkF m 184 A149 [(.ref b140)])) st151 ?_
          let A152 : Array Slot := #[.val (.int p0), .val (.int p1), .val (.int p2), .val (.int p3), .val (.int p4), .val (.int p5), .val (.int v3), .val (.ref r21), .val (.int v25), .val (.ref s_Chat_Role_CVCA), .val (.int (3 : Int32)), .val (.int r64), .val (.ref b73), .val (.ref b80), .val (.ref b141), .val (.ref b140), .unset]
          refine Go.st (S' := T151.setTop (mkF m 186 A152 [])) (fun t k => XS.astore X151.here hx rfl (hb hby at_184) rfl rfl (l' := A152) rfl k) ?_
          refine Go.st (S' := T151.setTop (mkF m 188 A152 [(.ref b141)])) (fun t k => XS.aload X151.here hx rfl (hb hby at_186) rfl rfl k) ?_
          obtain ⟨r154, T154, L154, X154, hQ154, st154⟩ := own_callV (W := 0) (a := b141) (C := "com/example/consulate/consulate/cvc/Chat") X151 hx hZ e151 hown (y := (⟨"com/example/consulate/consulate/cvc/Chat", "template", "()Lcom/example/consulate/consulate/cvc/Chat$Template;"⟩ : MethodName)) (z := (⟨"com/example/consulate/consulate/cvc/Chat", "template", "()Lcom/example/consulate/consulate/cvc/Chat$Template;"⟩ : MethodName)) (hw _ (List.mem_of_getElem? (i := 49) rfl)) (hw _ (List.mem_of_getElem? (i := 50) rfl)) (notFace_of_selects (args := #[]) (mvT hZ (hw _ (List.mem_of_getElem? (i := 52) rfl)))) (hw _ (List.mem_of_getElem? (i := 52) rfl)) (hw _ (List.mem_of_getElem? (i := 51) rfl)) (hw _ (List.mem_of_getElem? (i := 10) rfl)) (hw _ (List.mem_of_getElem? (i := 53) rfl)) (by decide) (f144) (rm5 l Z a0 hw [] b141 r21 T135.heap n0 Z148 (f145)) (by decide) (by decide) (by decide) (by decide) (g := (mkF m 188 A152 [(.ref b141)])) rfl (by rw [hml]; rfl) (argsL := []) (rest := []) rfl (lenOf pd_4 rfl) rfl (by show 2 * 0 + _ ≤ _; exact Nat.le_of_eq rfl) (hb hby at_188)
          obtain ⟨rfl, N154, e154⟩ := hQ154
          have N154_ := Fr.app N151_ N154
          refine Go.st (S' := T154.setTop (mkF m 191 A152 [(.ref r21)])) st154 ?_
          refine Go.st (S' := T154.setTop (mkF m 193 A152 [(.ref r21), (.ref r21)])) (fun t k => XS.aload X154.here hx rfl (hb hby at_191) rfl rfl k) ?_
          refine Go.st (S' := T154.setTop (mkF m 198 A152 [])) (fun t k => acmp X154 hx rfl rfl rfl (pc0 := 193) (pc' := 198) (same := true) rfl (hb hby at_193) rfl (by simp) (by decide) (by decide) k) ?_
          refine Go.st (S' := T154.setTop (mkF m 200 A152 [(.ref b140)])) (fun t k => XS.aload X154.here hx rfl (hb hby at_198) rfl rfl k) ?_
          obtain ⟨cl155, Ar155, -, S155, N155_, -, -⟩ := id f142
          refine Go.op (F := fun z => T154.setTop (mkF m 201 A152 [(.int z)])) (x := cl155.slots.size.toInt32) (fun t k => X154.arraylength hx (own_eh e154 Ar155.1) (State.isArrayOf_alike hZ.alike Ar155.2.1) (g := (mkF m 200 A152 [(.ref b140)])) rfl rfl (hb hby at_200) t k) ?_
          intro v156 hv156
          obtain rfl : (1 : Int32) = v156 := (hv156.trans (len_of S155 N155_)).symm
          refine Go.st (S' := T154.setTop (mkF m 203 A152 [(.ref b73), (.int (1 : Int32))])) (fun t k => XS.aload X154.here hx rfl (hb hby at_201) rfl rfl k) ?_
          have f157 := ((f132).keep K135_ nin0)
          obtain ⟨cl158, Ar158, -, S158, N158_, -, -⟩ := id f157
          refine Go.op (F := fun z => T154.setTop (mkF m 204 A152 [(.int z), (.int (1 : Int32))])) (x := cl158.slots.size.toInt32) (fun t k => X154.arraylength hx (own_eh e154 Ar158.1) (State.isArrayOf_alike hZ.alike Ar158.2.1) (g := (mkF m 203 A152 [(.ref b73), (.int (1 : Int32))])) rfl rfl (hb hby at_203) t k) ?_
          intro v159 hv159
          obtain rfl : (1 : Int32) = v159 := (hv159.trans (len_of S158 N158_)).symm
          refine Go.st (S' := T154.setTop (mkF m 209 A152 [])) (fun t k => XS.icmpYes X154.here hx rfl (pc0 := 204) (pc' := 209) rfl (hb hby at_204) rfl (teq (by decide : ((1 : Int32) = (1 : Int32)))).1 (by decide) (by decide) k) ?_
          refine Go.st (S' := T154.setTop (mkF m 211 A152 [(.ref b140)])) (fun t k => XS.aload X154.here hx rfl (hb hby at_209) rfl rfl k) ?_
          refine Go.st (S' := T154.setTop (mkF m 212 A152 [(.int (0 : Int32)), (.ref b140)])) (fun t k => XS.iconst X154.here hx rfl (hb hby at_211) k) ?_
          obtain ⟨cl160, Ar160, -, S160, N160_, H160, -⟩ := id f142
          have hin160 : ¬ ((0 : Int32) < 0 ∨ cl160.slots.size ≤ ((0 : Int32)).toNatClampNeg) := inb_of S160 ⟨by decide, by decide⟩
          have hat160 : cl160.slots[((0 : Int32)).toNatClampNeg]? = some (.int v139) := Has.at H160 hin160 rfl
          refine Go.st (S' := T154.setTop (mkF m 213 A152 [(.int v139)])) (fun t k => X154.baloadBytes hx (j := (0 : Int32)) (v := (.int v139)) (own_eh e154 Ar160.1) (State.isArrayOf_alike hZ.alike Ar160.2.1) Ar160.2.2 hin160 hat160 (g := (mkF m 212 A152 [(.int (0 : Int32)), (.ref b140)])) rfl rfl (hb hby at_212) t k) ?_
          refine Go.st (S' := T154.setTop (mkF m 216 A152 [(.int (255 : Int32)), (.int v139)])) (fun t k => XS.sipush X154.here hx rfl (hb hby at_213) k) ?_
          refine Go.op (F := fun z => T154.setTop (mkF m 217 A152 [(.int z)])) (x := (v139 &&& (255 : Int32))) (fun t k => XS.iand X154.here hx rfl (hb hby at_216) rfl k) ?_
          intro v161 hv161
          let A162 : Array Slot := #[.val (.int p0), .val (.int p1), .val (.int p2), .val (.int p3), .val (.int p4), .val (.int p5), .val (.int v3), .val (.ref r21), .val (.int v25), .val (.ref s_Chat_Role_CVCA), .val (.int (3 : Int32)), .val (.int r64), .val (.ref b73), .val (.ref b80), .val (.ref b141), .val (.ref b140), .val (.int v161)]
          refine Go.st (S' := T154.setTop (mkF m 219 A162 [])) (fun t k => XS.istore X154.here hx rfl (hb hby at_217) rfl (l' := A162) rfl k) ?_
          refine Go.st (S' := T154.setTop (mkF m 221 A162 [(.int v161)])) (fun t k => XS.iload X154.here hx rfl (hb hby at_219) rfl k) ?_
          refine Go.st (S' := T154.setTop (mkF m 223 A162 [(.int (6 : Int32)), (.int v161)])) (fun t k => XS.bipush X154.here hx rfl (hb hby at_221) k) ?_
          refine Go.op (F := fun z => T154.setTop (mkF m 224 A162 [(.int z)])) (x := ((v161.toUInt32 >>> ((6 : Int32) &&& 31).toUInt32).toInt32)) (fun t k => XS.iushr X154.here hx rfl (hb hby at_223) rfl k) ?_
          intro v163 hv163
          refine Go.st (S' := T154.setTop (mkF m 226 A162 [(.int (3 : Int32)), (.int v163)])) (fun t k => XS.iload X154.here hx rfl (hb hby at_224) rfl k) ?_
          by_cases hc164 : (v163 = (3 : Int32))
          · refine Go.st (S' := T154.setTop (mkF m 231 A162 [])) (fun t k => XS.icmpYes X154.here hx rfl (pc0 := 226) (pc' := 231) rfl (hb hby at_226) rfl (teq hc164).1 (by decide) (by decide) k) ?_
            refine Go.st (S' := T154.setTop (mkF m 233 A162 [(.int v161)])) (fun t k => XS.iload X154.here hx rfl (hb hby at_231) rfl k) ?_
            refine Go.st (S' := T154.setTop (mkF m 235 A162 [(.int (63 : Int32)), (.int v161)])) (fun t k => XS.bipush X154.here hx rfl (hb hby at_233) k) ?_
            refine Go.op (F := fun z => T154.setTop (mkF m 236 A162 [(.int z)])) (x := (v161 &&& (63 : Int32))) (fun t k => XS.iand X154.here hx rfl (hb hby at_235) rfl k) ?_
            intro v165 hv165
            refine Go.st (S' := T154.setTop (mkF m 237 A162 [(.int p2), (.int v165)])) (fun t k => XS.iloadN X154.here hx rfl (hb hby at_236) rfl k) ?_
            refine Go.st (S' := T154.setTop (mkF m 239 A162 [(.int (63 : Int32)), (.int p2), (.int v165)])) (fun t k => XS.bipush X154.here hx rfl (hb hby at_237) k) ?_
            refine Go.op (F := fun z => T154.setTop (mkF m 240 A162 [(.int z), (.int v165)])) (x := (p2 &&& (63 : Int32))) (fun t k => XS.iand X154.here hx rfl (hb hby at_239) rfl k) ?_
            intro v166 hv166
            by_cases hc167 : (v165 = v166)
            · refine Go.st (S' := T154.setTop (mkF m 245 A162 [])) (fun t k => XS.icmpYes X154.here hx rfl (pc0 := 240) (pc' := 245) rfl (hb hby at_240) rfl (teq hc167).1 (by decide) (by decide) k) ?_
              refine Go.st (S' := T154.setTop (mkF m 247 A162 [(.int r64)])) (fun t k => XS.iload X154.here hx rfl (hb hby at_245) rfl k) ?_
              refine Go.st (S' := T154.setTop (mkF m 271 A162 [])) (fun t k => XS.ifYes X154.here hx rfl (pc0 := 247) (pc' := 271) rfl (hb hby at_247) rfl ((if0 _ _).trans (teq hc72).1) (by decide) (by decide) k) ?_
              refine Go.st (S' := T154.setTop (mkF m 273 A162 [(.ref b73)])) (fun t k => XS.aload X154.here hx rfl (hb hby at_271) rfl rfl k) ?_
              refine Go.st (S' := T154.setTop (mkF m 274 A162 [(.int (0 : Int32)), (.ref b73)])) (fun t k => XS.iconst X154.here hx rfl (hb hby at_273) k) ?_
              obtain ⟨cl168, Ar168, -, S168, N168_, H168, -⟩ := id f157
              have hin168 : ¬ ((0 : Int32) < 0 ∨ cl168.slots.size ≤ ((0 : Int32)).toNatClampNeg) := inb_of S168 ⟨by decide, by decide⟩
              have hat168 : cl168.slots[((0 : Int32)).toNatClampNeg]? = some (.int v78) := Has.at H168 hin168 rfl
              refine Go.st (S' := T154.setTop (mkF m 275 A162 [(.int v78)])) (fun t k => X154.baloadBytes hx (j := (0 : Int32)) (v := (.int v78)) (own_eh e154 Ar168.1) (State.isArrayOf_alike hZ.alike Ar168.2.1) Ar168.2.2 hin168 hat168 (g := (mkF m 274 A162 [(.int (0 : Int32)), (.ref b73)])) rfl rfl (hb hby at_274) t k) ?_
              refine Go.st (S' := T154.setTop (mkF m 276 A162 [(.int p2), (.int v78)])) (fun t k => XS.iloadN X154.here hx rfl (hb hby at_275) rfl k) ?_
              refine Go.op (F := fun z => T154.setTop (mkF m 277 A162 [(.int z), (.int v78)])) (x := p2.toInt8.toInt32) (fun t k => XS.i2b X154.here hx rfl (hb hby at_276) rfl k) ?_
              intro v169 hv169
              obtain rfl : v76 = v169 := hv76.trans hv169.symm
              by_cases hc170 : (v78 = v76)
              · refine Go.st (S' := T154.setTop (mkF m 282 A162 [])) (fun t k => XS.icmpYes X154.here hx rfl (pc0 := 277) (pc' := 282) rfl (hb hby at_277) rfl (teq hc170).1 (by decide) (by decide) k) ?_
                refine Go.st (S' := T154.setTop (mkF m 284 A162 [(.int r64)])) (fun t k => XS.iload X154.here hx rfl (hb hby at_282) rfl k) ?_
                refine Go.st (S' := T154.setTop (mkF m 308 A162 [])) (fun t k => XS.ifYes X154.here hx rfl (pc0 := 284) (pc' := 308) rfl (hb hby at_284) rfl ((if0 _ _).trans (teq hc72).1) (by decide) (by decide) k) ?_
                refine Go.st (S' := T154.setTop (mkF m 309 A162 [(.int (1 : Int32))])) (fun t k => XS.iconst X154.here hx rfl (hb hby at_308) k) ?_
                exact Go.ret X154 (v := some (.int (1 : Int32))) (fun h => by rw [Bd.returns] at h; cases h) Bd.notSynchronized (fun fs hr => retN X154 hx (t := .boolean) Bd.returns (by simp) (hb hby at_309) hr) (by decide) (by decide) ⟨rfl, N154_⟩
              · exfalso
                have rv76 := rng32 v76
                have wv76 := c_i2b p2
                rw [← hv76] at wv76
                have rv78 := rng32 v78
                have wv78 := c_i2b v76
                rw [← hv78] at wv78
                have rv136 := rng32 v136
                have wv136 := c_mask v78 (63 : Int32) 6 (by decide) (by decide)
                rw [← hv136] at wv136
                have rv137 := rng32 v137
                have wv137 := c_or' v136 (192 : Int32) 6 (by decide) 64 (by decide) (by decide)
                rw [← hv137] at wv137
                have rv138 := rng32 v138
                have wv138 := c_i2b v137
                rw [← hv138] at wv138
                have rv139 := rng32 v139
                have wv139 := c_i2b v138
                rw [← hv139] at wv139
                have rv161 := rng32 v161
                have wv161 := c_mask v139 (255 : Int32) 8 (by decide) (by decide)
                rw [← hv161] at wv161
                have rv163 := rng32 v163
                have wv163 := c_iushr v161 (6 : Int32) 6 (by decide) (by decide)
                rw [← hv163] at wv163
                have rv165 := rng32 v165
                have wv165 := c_mask v161 (63 : Int32) 6 (by decide) (by decide)
                rw [← hv165] at wv165
                have rv166 := rng32 v166
                have wv166 := c_mask p2 (63 : Int32) 6 (by decide) (by decide)
                rw [← hv166] at wv166
                have rp2 := rng32 p2
                have lI3 : (3 : Int32).toInt = 3 := by decide
                have lI6 : (6 : Int32).toInt = 6 := by decide
                have lI63 : (63 : Int32).toInt = 63 := by decide
                have lI192 : (192 : Int32).toInt = 192 := by decide
                have lI255 : (255 : Int32).toInt = 255 := by decide
                simp only [Int32.lt_iff_toInt_lt, Int64.lt_iff_toInt_lt, ← Int32.toInt_inj, ← Int64.toInt_inj] at hc164 hc167 hc170
                omega
            · exfalso
              have rv76 := rng32 v76
              have wv76 := c_i2b p2
              rw [← hv76] at wv76
              have rv78 := rng32 v78
              have wv78 := c_i2b v76
              rw [← hv78] at wv78
              have rv136 := rng32 v136
              have wv136 := c_mask v78 (63 : Int32) 6 (by decide) (by decide)
              rw [← hv136] at wv136
              have rv137 := rng32 v137
              have wv137 := c_or' v136 (192 : Int32) 6 (by decide) 64 (by decide) (by decide)
              rw [← hv137] at wv137
              have rv138 := rng32 v138
              have wv138 := c_i2b v137
              rw [← hv138] at wv138
              have rv139 := rng32 v139
              have wv139 := c_i2b v138
              rw [← hv139] at wv139
              have rv161 := rng32 v161
              have wv161 := c_mask v139 (255 : Int32) 8 (by decide) (by decide)
              rw [← hv161] at wv161
              have rv163 := rng32 v163
              have wv163 := c_iushr v161 (6 : Int32) 6 (by decide) (by decide)
              rw [← hv163] at wv163
              have rv165 := rng32 v165
              have wv165 := c_mask v161 (63 : Int32) 6 (by decide) (by decide)
              rw [← hv165] at wv165
              have rv166 := rng32 v166
              have wv166 := c_mask p2 (63 : Int32) 6 (by decide) (by decide)
              rw [← hv166] at wv166
              have rp2 := rng32 p2
              have lI3 : (3 : Int32).toInt = 3 := by decide
              have lI6 : (6 : Int32).toInt = 6 := by decide
              have lI63 : (63 : Int32).toInt = 63 := by decide
              have lI192 : (192 : Int32).toInt = 192 := by decide
              have lI255 : (255 : Int32).toInt = 255 := by decide
              simp only [Int32.lt_iff_toInt_lt, Int64.lt_iff_toInt_lt, ← Int32.toInt_inj, ← Int64.toInt_inj] at hc164 hc167
              omega
          · exfalso
            have rv76 := rng32 v76
            have wv76 := c_i2b p2
            rw [← hv76] at wv76
            have rv78 := rng32 v78
            have wv78 := c_i2b v76
            rw [← hv78] at wv78
            have rv136 := rng32 v136
            have wv136 := c_mask v78 (63 : Int32) 6 (by decide) (by decide)
            rw [← hv136] at wv136
            have rv137 := rng32 v137
            have wv137 := c_or' v136 (192 : Int32) 6 (by decide) 64 (by decide) (by decide)
            rw [← hv137] at wv137
            have rv138 := rng32 v138
            have wv138 := c_i2b v137
            rw [← hv138] at wv138
            have rv139 := rng32 v139
            have wv139 := c_i2b v138
            rw [← hv139] at wv139
            have rv161 := rng32 v161
            have wv161 := c_mask v139 (255 : Int32) 8 (by decide) (by decide)
            rw [← hv161] at wv161
            have rv163 := rng32 v163
            have wv163 := c_iushr v161 (6 : Int32) 6 (by decide) (by decide)
            rw [← hv163] at wv163
            have rp2 := rng32 p2
            have lI3 : (3 : Int32).toInt = 3 := by decide
            have lI6 : (6 : Int32).toInt = 6 := by decide
            have lI63 : (63 : Int32).toInt = 63 := by decide
            have lI192 : (192 : Int32).toInt = 192 := by decide
            have lI255 : (255 : Int32).toInt = 255 := by decide
            simp only [Int32.lt_iff_toInt_lt, Int64.lt_iff_toInt_lt, ← Int32.toInt_inj, ← Int64.toInt_inj] at hc164
            omega
        · refine Go.st (S' := T58.setTop (mkF m 122 A66 [])) (fun t k => XS.ifNo X58.here hx rfl (hb hby at_119) rfl ((if0 _ _).trans (feq hc72).1) k) ?_
          refine Go.st (S' := T58.setTop (mkF m 123 A66 [(.int (3 : Int32))])) (fun t k => XS.iconst X58.here hx rfl (hb hby at_122) k) ?_
          obtain ⟨T171, h171, k171, X171, e171, E171, A171, B171, st171⟩ := newPE X58 hx hZ (hw _ (List.mem_of_getElem? (i := 7) rfl)) e58 (g := (mkF m 123 A66 [(.int (3 : Int32))])) rfl (hb hby at_123) rfl (by decide) (cap := 3) (by decide) (by decide) (by decide) (by decide) (ad := "[B") (by decide)
          obtain ⟨b171, gg171⟩ : ∃ z, z = h0.size := ⟨_, rfl⟩
          rw [← gg171] at A171 B171 st171
          have g_b171 : n0 ≤ b171 := Nat.le_trans Z0 (Nat.le_of_eq gg171.symm)
          have sz_b171 : h0.size ≤ b171 := Nat.le_trans (Keep.refl h0 []).1 (Nat.le_of_eq gg171.symm)
          have Z172 : n0 ≤ h171.size := Nat.le_trans Z0 E171.1
          have K172 : Keep h0 h171 [] := (Keep.refl h0 []).ext E171
          have V171 : Arv Z h171 b171 k171 .byte (3 : Int32) [(.int (0 : Int32)), (.int (0 : Int32)), (.int (0 : Int32))] (.int (0 : Int32)) := (Arv.new A171 (by decide)).pad (pad_rep [] (.int (0 : Int32)) 3)
          refine Go.st (S' := T171.setTop (mkF m 125 A66 [(.ref b171)])) st171 ?_
          refine Go.st (S' := T171.setTop (mkF m 131 A66 [(.ref b171)])) (fun t k => XS.goto X171.here hx rfl (pc0 := 125) (pc' := 131) rfl (hb hby at_125) (by decide) (by decide) k) ?_
          let A173 : Array Slot := #[.val (.int p0), .val (.int p1), .val (.int p2), .val (.int p3), .val (.int p4), .val (.int p5), .val (.int v3), .val (.ref r21), .val (.int v25), .val (.ref s_Chat_Role_CVCA), .val (.int (3 : Int32)), .val (.int r64), .val (.ref b171), .unset, .unset, .unset, .unset]
          refine Go.st (S' := T171.setTop (mkF m 133 A173 [])) (fun t k => XS.astore X171.here hx rfl (hb hby at_131) rfl rfl (l' := A173) rfl k) ?_
          refine Go.st (S' := T171.setTop (mkF m 135 A173 [(.ref b171)])) (fun t k => XS.aload X171.here hx rfl (hb hby at_133) rfl rfl k) ?_
          refine Go.st (S' := T171.setTop (mkF m 136 A173 [(.int (0 : Int32)), (.ref b171)])) (fun t k => XS.iconst X171.here hx rfl (hb hby at_135) k) ?_
          refine Go.st (S' := T171.setTop (mkF m 137 A173 [(.int p2), (.int (0 : Int32)), (.ref b171)])) (fun t k => XS.iloadN X171.here hx rfl (hb hby at_136) rfl k) ?_
          refine Go.op (F := fun z => T171.setTop (mkF m 138 A173 [(.int z), (.int (0 : Int32)), (.ref b171)])) (x := p2.toInt8.toInt32) (fun t k => XS.i2b X171.here hx rfl (hb hby at_137) rfl k) ?_
          intro v174 hv174
          obtain ⟨cl175, Ar175, q175, S175, N175_, H175, G175⟩ := id V171
          have hin175 : ¬ ((0 : Int32) < 0 ∨ cl175.slots.size ≤ ((0 : Int32)).toNatClampNeg) := inb_of S175 ⟨by decide, by decide⟩
          obtain ⟨v176, hv176⟩ : ∃ z, z = v174.toInt8.toInt32 := ⟨_, rfl⟩
          obtain ⟨T175, h175, X175, e175, W175, st175⟩ := stB X171 hx hZ e171 Ar175 (j := (0 : Int32)) hin175 (g := (mkF m 138 A173 [(.int v174), (.int (0 : Int32)), (.ref b171)])) rfl rfl (hb hby at_138)
          have W175 : Wr h171 h175 b171 ((0 : Int32)).toNatClampNeg (.int v176) := by rw [hv176]; exact W175
          have V175 : Arv Z h175 b171 k171 .byte (3 : Int32) [(.int v176), (.int (0 : Int32)), (.int (0 : Int32))] (.int (0 : Int32)) := Arv.set Ar175 q175 S175 N175_ H175 G175 (by rw [hv176]; exact fits_nar_byte _) W175 0 rfl (Nat.le_of_ble_eq_true rfl)
          have N175 := Fr.snoc X175 N0 g_b171
          have Z177 : n0 ≤ h175.size := Nat.le_trans Z172 (Keep.of_wr W175).1
          have K177 : Keep h0 h175 [] := K172.wr W175 (Or.inr sz_b171)
          refine Go.st (S' := T175.setTop (mkF m 139 A173 [])) st175 ?_
          refine Go.st (S' := T175.setTop (mkF m 141 A173 [(.int r64)])) (fun t k => XS.iload X175.here hx rfl (hb hby at_139) rfl k) ?_
          refine Go.st (S' := T175.setTop (mkF m 144 A173 [])) (fun t k => XS.ifNo X175.here hx rfl (hb hby at_141) rfl ((if0 _ _).trans (feq hc72).1) k) ?_
          refine Go.st (S' := T175.setTop (mkF m 146 A173 [(.ref b171)])) (fun t k => XS.aload X175.here hx rfl (hb hby at_144) rfl rfl k) ?_
          refine Go.st (S' := T175.setTop (mkF m 147 A173 [(.int (1 : Int32)), (.ref b171)])) (fun t k => XS.iconst X175.here hx rfl (hb hby at_146) k) ?_
          refine Go.st (S' := T175.setTop (mkF m 148 A173 [(.int p3), (.int (1 : Int32)), (.ref b171)])) (fun t k => XS.iloadN X175.here hx rfl (hb hby at_147) rfl k) ?_
          refine Go.op (F := fun z => T175.setTop (mkF m 149 A173 [(.int z), (.int (1 : Int32)), (.ref b171)])) (x := p3.toInt8.toInt32) (fun t k => XS.i2b X175.here hx rfl (hb hby at_148) rfl k) ?_
          intro v178 hv178
          obtain ⟨cl179, Ar179, q179, S179, N179_, H179, G179⟩ := id V175
          have hin179 : ¬ ((1 : Int32) < 0 ∨ cl179.slots.size ≤ ((1 : Int32)).toNatClampNeg) := inb_of S179 ⟨by decide, by decide⟩
          obtain ⟨v180, hv180⟩ : ∃ z, z = v178.toInt8.toInt32 := ⟨_, rfl⟩
          obtain ⟨T179, h179, X179, e179, W179, st179⟩ := stB X175 hx hZ e175 Ar179 (j := (1 : Int32)) hin179 (g := (mkF m 149 A173 [(.int v178), (.int (1 : Int32)), (.ref b171)])) rfl rfl (hb hby at_149)
          have W179 : Wr h175 h179 b171 ((1 : Int32)).toNatClampNeg (.int v180) := by rw [hv180]; exact W179
          have V179 : Arv Z h179 b171 k171 .byte (3 : Int32) [(.int v176), (.int v180), (.int (0 : Int32))] (.int (0 : Int32)) := Arv.set Ar179 q179 S179 N179_ H179 G179 (by rw [hv180]; exact fits_nar_byte _) W179 1 rfl (Nat.le_of_ble_eq_true rfl)
          have N179 := Fr.snoc X179 N175 g_b171
          have Z181 : n0 ≤ h179.size := Nat.le_trans Z177 (Keep.of_wr W179).1
          have K181 : Keep h0 h179 [] := K177.wr W179 (Or.inr sz_b171)
          refine Go.st (S' := T179.setTop (mkF m 150 A173 [])) st179 ?_
          refine Go.st (S' := T179.setTop (mkF m 152 A173 [(.ref b171)])) (fun t k => XS.aload X179.here hx rfl (hb hby at_150) rfl rfl k) ?_
          refine Go.st (S' := T179.setTop (mkF m 153 A173 [(.int (2 : Int32)), (.ref b171)])) (fun t k => XS.iconst X179.here hx rfl (hb hby at_152) k) ?_
          refine Go.st (S' := T179.setTop (mkF m 155 A173 [(.int p4), (.int (2 : Int32)), (.ref b171)])) (fun t k => XS.iload X179.here hx rfl (hb hby at_153) rfl k) ?_
          refine Go.op (F := fun z => T179.setTop (mkF m 156 A173 [(.int z), (.int (2 : Int32)), (.ref b171)])) (x := p4.toInt8.toInt32) (fun t k => XS.i2b X179.here hx rfl (hb hby at_155) rfl k) ?_
          intro v182 hv182
          obtain ⟨cl183, Ar183, q183, S183, N183_, H183, G183⟩ := id V179
          have hin183 : ¬ ((2 : Int32) < 0 ∨ cl183.slots.size ≤ ((2 : Int32)).toNatClampNeg) := inb_of S183 ⟨by decide, by decide⟩
          obtain ⟨v184, hv184⟩ : ∃ z, z = v182.toInt8.toInt32 := ⟨_, rfl⟩
          obtain ⟨T183, h183, X183, e183, W183, st183⟩ := stB X179 hx hZ e179 Ar183 (j := (2 : Int32)) hin183 (g := (mkF m 156 A173 [(.int v182), (.int (2 : Int32)), (.ref b171)])) rfl rfl (hb hby at_156)
          have W183 : Wr h179 h183 b171 ((2 : Int32)).toNatClampNeg (.int v184) := by rw [hv184]; exact W183
          have V183 : Arv Z h183 b171 k171 .byte (3 : Int32) [(.int v176), (.int v180), (.int v184)] (.int (0 : Int32)) := Arv.set Ar183 q183 S183 N183_ H183 G183 (by rw [hv184]; exact fits_nar_byte _) W183 2 rfl (Nat.le_of_ble_eq_true rfl)
          have N183 := Fr.snoc X183 N179 g_b171
          have Z185 : n0 ≤ h183.size := Nat.le_trans Z181 (Keep.of_wr W183).1
          have K185 : Keep h0 h183 [] := K181.wr W183 (Or.inr sz_b171)
          refine Go.st (S' := T183.setTop (mkF m 157 A173 [])) st183 ?_
          obtain ⟨T186, h186, X186, e186, E186, A186, D186, -, st186⟩ := newO X183 hx hZ hown (hw _ (List.mem_of_getElem? (i := 8) rfl)) (hw _ (List.mem_of_getElem? (i := 9) rfl)) (hw _ (List.mem_of_getElem? (i := 10) rfl)) e183 (g := (mkF m 157 A173 [])) rfl (hb hby at_157) (by decide) (by decide)
          obtain ⟨b186, gg186⟩ : ∃ z, z = h183.size := ⟨_, rfl⟩
          rw [← gg186] at A186 D186 st186
          have g_b186 : n0 ≤ b186 := Nat.le_trans Z185 (Nat.le_of_eq gg186.symm)
          have sz_b186 : h0.size ≤ b186 := Nat.le_trans K185.1 (Nat.le_of_eq gg186.symm)
          have f187 := ((((((B171).wr W175)).wr W179)).wr W183)
          have lt_b171_b186 : b171 < b186 := Nat.lt_of_lt_of_le (f187).lt (Nat.le_of_eq gg186.symm)
          have Z188 : n0 ≤ h186.size := Nat.le_trans Z185 E186.1
          have K188 : Keep h0 h186 [] := K185.ext E186
          have Fb186_template : Fld Z h186 b186 "com/example/consulate/consulate/cvc/Chat" "template" "Lcom/example/consulate/consulate/cvc/Chat$Template;" .null := D186 (Or.inr (hw _ (List.mem_of_getElem? (i := 23) rfl))) (ty := (.object "com/example/consulate/consulate/cvc/Chat$Template")) (by decide)
          have Fb186_data : Fld Z h186 b186 "com/example/consulate/consulate/cvc/Chat" "data" "[B" .null := D186 (Or.inr (hw _ (List.mem_of_getElem? (i := 25) rfl))) (ty := (.array .byte)) (by decide)
          refine Go.st (S' := T186.setTop (mkF m 160 A173 [(.ref b186)])) st186 ?_
          refine Go.st (S' := T186.setTop (mkF m 161 A173 [(.ref b186), (.ref b186)])) (fun t k => XS.dup X186.here hx rfl (hb hby at_160) rfl rfl k) ?_
          refine Go.st (S' := T186.setTop (mkF m 163 A173 [(.ref r21), (.ref b186), (.ref b186)])) (fun t k => XS.aload X186.here hx rfl (hb hby at_161) rfl rfl k) ?_
          refine Go.st (S' := T186.setTop (mkF m 165 A173 [(.ref b171), (.ref r21), (.ref b186), (.ref b186)])) (fun t k => XS.aload X186.here hx rfl (hb hby at_163) rfl rfl k) ?_
          have f202 := ((V183).ext E186)
          obtain ⟨r203, T203, L203, X203, hQ203, st203⟩ := own_callI (W := 1) (a := b186) X186 hx hZ e186 hown (y := (⟨"com/example/consulate/consulate/cvc/Chat", "<init>", "(Lcom/example/consulate/consulate/cvc/Chat$Template;[B)V"⟩ : MethodName)) rfl (hw _ (List.mem_of_getElem? (i := 11) rfl)) (hw _ (List.mem_of_getElem? (i := 12) rfl)) (hw _ (List.mem_of_getElem? (i := 10) rfl)) (hw _ (List.mem_of_getElem? (i := 13) rfl)) (by decide) (rm6 l Z a0 hw [] b186 r21 b171 k171 v176 v180 v184 (.null) (.null) h186 n0 Z188 (f202) (A186) (Fb186_template) (g_b186) (Fb186_data)) (by decide) (by decide) (by decide) (by decide) (g := (mkF m 165 A173 [(.ref b171), (.ref r21), (.ref b186), (.ref b186)])) rfl (by rw [hml]; rfl) (argsL := [(.ref r21), (.ref b171)]) (rest := [(.ref b186)]) rfl (lenOf pd_1 rfl) rfl (by show 2 * 0 + _ ≤ _; exact Nat.le_of_eq rfl) (hb hby at_165)
          obtain ⟨rfl, N203, K203_, f204, f205, f206⟩ := hQ203
          have N203_ := Fr.app N183 N203
          have Z207 : n0 ≤ T203.heap.size := Nat.le_trans Z188 K203_.1
          have K207 : Keep h0 T203.heap [] := K188.trans K203_ (allS (Or.inr sz_b186) all0)
          refine Go.st (S' := T203.setTop (mkF m 168 A173 [(.ref b186)])) st203 ?_
          let A208 : Array Slot := #[.val (.int p0), .val (.int p1), .val (.int p2), .val (.int p3), .val (.int p4), .val (.int p5), .val (.int v3), .val (.ref r21), .val (.int v25), .val (.ref s_Chat_Role_CVCA), .val (.int (3 : Int32)), .val (.int r64), .val (.ref b171), .val (.ref b186), .unset, .unset, .unset]
          refine Go.st (S' := T203.setTop (mkF m 170 A208 [])) (fun t k => XS.astore X203.here hx rfl (hb hby at_168) rfl rfl (l' := A208) rfl k) ?_
          refine Go.st (S' := T203.setTop (mkF m 172 A208 [(.ref b186)])) (fun t k => XS.aload X203.here hx rfl (hb hby at_170) rfl rfl k) ?_
          refine Go.st (S' := T203.setTop (mkF m 174 A208 [(.ref s_Chat_Role_CVCA), (.ref b186)])) (fun t k => XS.aload X203.here hx rfl (hb hby at_172) rfl rfl k) ?_
          have f240 := ((f202).keep K203_ (ninS (Nat.ne_of_lt lt_b171_b186) nin0))
          have f241 := ((((f187).ext E186)).keep K203_)
          have f242 := ((((((((((((F_s_Chat_Role_CVCA_bits).ext E171)).other W175 (Or.inl (Nat.ne_of_lt (Nat.lt_of_lt_of_le (F_s_Chat_Role_CVCA_bits).lt sz_b171))))).other W179 (Or.inl (Nat.ne_of_lt (Nat.lt_of_lt_of_le (F_s_Chat_Role_CVCA_bits).lt sz_b171))))).other W183 (Or.inl (Nat.ne_of_lt (Nat.lt_of_lt_of_le (F_s_Chat_Role_CVCA_bits).lt sz_b171))))).ext E186)).keep K203_ (ninS (Nat.ne_of_lt (Nat.lt_of_lt_of_le (F_s_Chat_Role_CVCA_bits).lt sz_b186)) nin0))
          obtain ⟨r243, T243, L243, X243, hQ243, st243⟩ := own_callV (W := 0) (a := b186) (C := "com/example/consulate/consulate/cvc/Chat") X203 hx hZ rfl hown (y := (⟨"com/example/consulate/consulate/cvc/Chat", "withRole", "(Lcom/example/consulate/consulate/cvc/Chat$Role;)Lcom/example/consulate/consulate/cvc/Chat;"⟩ : MethodName)) (z := (⟨"com/example/consulate/consulate/cvc/Chat", "withRole", "(Lcom/example/consulate/consulate/cvc/Chat$Role;)Lcom/example/consulate/consulate/cvc/Chat;"⟩ : MethodName)) (hw _ (List.mem_of_getElem? (i := 26) rfl)) (hw _ (List.mem_of_getElem? (i := 27) rfl)) (notFace_of_selects (args := #[]) (mvT hZ (hw _ (List.mem_of_getElem? (i := 29) rfl)))) (hw _ (List.mem_of_getElem? (i := 29) rfl)) (hw _ (List.mem_of_getElem? (i := 28) rfl)) (hw _ (List.mem_of_getElem? (i := 10) rfl)) (hw _ (List.mem_of_getElem? (i := 30) rfl)) (by decide) (f204) (rm7 l Z a0 hw [] b186 s_Chat_Role_CVCA b171 k171 v176 v180 v184 r21 T203.heap n0 Z207 (f206) (f240) (f241) (f242) (f205)) (by decide) (by decide) (by decide) (by decide) (g := (mkF m 174 A208 [(.ref s_Chat_Role_CVCA), (.ref b186)])) rfl (by rw [hml]; rfl) (argsL := [(.ref s_Chat_Role_CVCA)]) (rest := []) rfl (lenOf pd_2 rfl) rfl (by show 2 * 0 + _ ≤ _; exact Nat.le_of_eq rfl) (hb hby at_174)
          obtain ⟨v244, v245, v246, v247, b248, b249, hv244, hv245, hv246, hv247, rfl, N243, K243_, sz_b248_, sz_b249_, f250, f251, f252, f253, f254, hlt255⟩ := hQ243
          have N243_ := Fr.app N203_ N243
          have g_b248 : n0 ≤ b248 := Nat.le_trans Z207 sz_b248_
          have sz_b248 : h0.size ≤ b248 := Nat.le_trans K207.1 sz_b248_
          have lt_b171_b248 : b171 < b248 := Nat.lt_of_lt_of_le (f241).lt sz_b248_
          have lt_b186_b248 : b186 < b248 := Nat.lt_of_lt_of_le (f204).lt sz_b248_
          have g_b249 : n0 ≤ b249 := Nat.le_trans Z207 sz_b249_
          have sz_b249 : h0.size ≤ b249 := Nat.le_trans K207.1 sz_b249_
          have lt_b171_b249 : b171 < b249 := Nat.lt_of_lt_of_le (f241).lt sz_b249_
          have lt_b186_b249 : b186 < b249 := Nat.lt_of_lt_of_le (f204).lt sz_b249_
          have Z256 : n0 ≤ T243.heap.size := Nat.le_trans Z207 K243_.1
          have K256 : Keep h0 T243.heap [] := K207.trans K243_ all0
          refine Go.st (S' := T243.setTop (mkF m 177 A208 [(.ref b249)])) st243 ?_
          let A257 : Array Slot := #[.val (.int p0), .val (.int p1), .val (.int p2), .val (.int p3), .val (.int p4), .val (.int p5), .val (.int v3), .val (.ref r21), .val (.int v25), .val (.ref s_Chat_Role_CVCA), .val (.int (3 : Int32)), .val (.int r64), .val (.ref b171), .val (.ref b186), .val (.ref b249), .unset, .unset]
          refine Go.st (S' := T243.setTop (mkF m 179 A257 [])) (fun t k => XS.astore X243.here hx rfl (hb hby at_177) rfl rfl (l' := A257) rfl k) ?_
          refine Go.st (S' := T243.setTop (mkF m 181 A257 [(.ref b249)])) (fun t k => XS.aload X243.here hx rfl (hb hby at_179) rfl rfl k) ?_
          obtain ⟨r258, T258, L258, X258, hQ258, st258⟩ := own_callV (W := 0) (a := b249) (C := "com/example/consulate/consulate/cvc/Chat") X243 hx hZ rfl hown (y := (⟨"com/example/consulate/consulate/cvc/Chat", "data", "()[B"⟩ : MethodName)) (z := (⟨"com/example/consulate/consulate/cvc/Chat", "data", "()[B"⟩ : MethodName)) (hw _ (List.mem_of_getElem? (i := 44) rfl)) (hw _ (List.mem_of_getElem? (i := 45) rfl)) (notFace_of_selects (args := #[]) (mvT hZ (hw _ (List.mem_of_getElem? (i := 47) rfl)))) (hw _ (List.mem_of_getElem? (i := 47) rfl)) (hw _ (List.mem_of_getElem? (i := 46) rfl)) (hw _ (List.mem_of_getElem? (i := 10) rfl)) (hw _ (List.mem_of_getElem? (i := 48) rfl)) (by decide) (f252) (rm4 l Z a0 hw [] b249 b248 T243.heap n0 Z256 (f254)) (by decide) (by decide) (by decide) (by decide) (g := (mkF m 181 A257 [(.ref b249)])) rfl (by rw [hml]; rfl) (argsL := []) (rest := []) rfl (lenOf pd_3 rfl) rfl (by show 2 * 0 + _ ≤ _; exact Nat.le_of_eq rfl) (hb hby at_181)
          obtain ⟨rfl, N258, e258⟩ := hQ258
          have N258_ := Fr.app N243_ N258
          refine Go.st (S' := T258.setTop (mkF m 184 A257 [(.ref b248)])) st258 ?_
          let A259 : Array Slot := #[.val (.int p0), .val (.int p1), .val (.int p2), .val (.int p3), .val (.int p4), .val (.int p5), .val (.int v3), .val (.ref r21), .val (.int v25), .val (.ref s_Chat_Role_CVCA), .val (.int (3 : Int32)), .val (.int r64), .val (.ref b171), .val (.ref b186), .val (.ref b249), .val (.ref b248), .unset]
          refine Go.st (S' := T258.setTop (mkF m 186 A259 [])) (fun t k => XS.astore X258.here hx rfl (hb hby at_184) rfl rfl (l' := A259) rfl k) ?_
          refine Go.st (S' := T258.setTop (mkF m 188 A259 [(.ref b249)])) (fun t k => XS.aload X258.here hx rfl (hb hby at_186) rfl rfl k) ?_
          obtain ⟨r260, T260, L260, X260, hQ260, st260⟩ := own_callV (W := 0) (a := b249) (C := "com/example/consulate/consulate/cvc/Chat") X258 hx hZ e258 hown (y := (⟨"com/example/consulate/consulate/cvc/Chat", "template", "()Lcom/example/consulate/consulate/cvc/Chat$Template;"⟩ : MethodName)) (z := (⟨"com/example/consulate/consulate/cvc/Chat", "template", "()Lcom/example/consulate/consulate/cvc/Chat$Template;"⟩ : MethodName)) (hw _ (List.mem_of_getElem? (i := 49) rfl)) (hw _ (List.mem_of_getElem? (i := 50) rfl)) (notFace_of_selects (args := #[]) (mvT hZ (hw _ (List.mem_of_getElem? (i := 52) rfl)))) (hw _ (List.mem_of_getElem? (i := 52) rfl)) (hw _ (List.mem_of_getElem? (i := 51) rfl)) (hw _ (List.mem_of_getElem? (i := 10) rfl)) (hw _ (List.mem_of_getElem? (i := 53) rfl)) (by decide) (f252) (rm5 l Z a0 hw [] b249 r21 T243.heap n0 Z256 (f253)) (by decide) (by decide) (by decide) (by decide) (g := (mkF m 188 A259 [(.ref b249)])) rfl (by rw [hml]; rfl) (argsL := []) (rest := []) rfl (lenOf pd_4 rfl) rfl (by show 2 * 0 + _ ≤ _; exact Nat.le_of_eq rfl) (hb hby at_188)
          obtain ⟨rfl, N260, e260⟩ := hQ260
          have N260_ := Fr.app N258_ N260
          refine Go.st (S' := T260.setTop (mkF m 191 A259 [(.ref r21)])) st260 ?_
          refine Go.st (S' := T260.setTop (mkF m 193 A259 [(.ref r21), (.ref r21)])) (fun t k => XS.aload X260.here hx rfl (hb hby at_191) rfl rfl k) ?_
          refine Go.st (S' := T260.setTop (mkF m 198 A259 [])) (fun t k => acmp X260 hx rfl rfl rfl (pc0 := 193) (pc' := 198) (same := true) rfl (hb hby at_193) rfl (by simp) (by decide) (by decide) k) ?_
          refine Go.st (S' := T260.setTop (mkF m 200 A259 [(.ref b248)])) (fun t k => XS.aload X260.here hx rfl (hb hby at_198) rfl rfl k) ?_
          obtain ⟨cl261, Ar261, -, S261, N261_, -, -⟩ := id f250
          refine Go.op (F := fun z => T260.setTop (mkF m 201 A259 [(.int z)])) (x := cl261.slots.size.toInt32) (fun t k => X260.arraylength hx (own_eh e260 Ar261.1) (State.isArrayOf_alike hZ.alike Ar261.2.1) (g := (mkF m 200 A259 [(.ref b248)])) rfl rfl (hb hby at_200) t k) ?_
          intro v262 hv262
          obtain rfl : (3 : Int32) = v262 := (hv262.trans (len_of S261 N261_)).symm
          refine Go.st (S' := T260.setTop (mkF m 203 A259 [(.ref b171), (.int (3 : Int32))])) (fun t k => XS.aload X260.here hx rfl (hb hby at_201) rfl rfl k) ?_
          have f263 := ((f240).keep K243_ nin0)
          obtain ⟨cl264, Ar264, -, S264, N264_, -, -⟩ := id f263
          refine Go.op (F := fun z => T260.setTop (mkF m 204 A259 [(.int z), (.int (3 : Int32))])) (x := cl264.slots.size.toInt32) (fun t k => X260.arraylength hx (own_eh e260 Ar264.1) (State.isArrayOf_alike hZ.alike Ar264.2.1) (g := (mkF m 203 A259 [(.ref b171), (.int (3 : Int32))])) rfl rfl (hb hby at_203) t k) ?_
          intro v265 hv265
          obtain rfl : (3 : Int32) = v265 := (hv265.trans (len_of S264 N264_)).symm
          refine Go.st (S' := T260.setTop (mkF m 209 A259 [])) (fun t k => XS.icmpYes X260.here hx rfl (pc0 := 204) (pc' := 209) rfl (hb hby at_204) rfl (teq (by decide : ((3 : Int32) = (3 : Int32)))).1 (by decide) (by decide) k) ?_
          refine Go.st (S' := T260.setTop (mkF m 211 A259 [(.ref b248)])) (fun t k => XS.aload X260.here hx rfl (hb hby at_209) rfl rfl k) ?_
          refine Go.st (S' := T260.setTop (mkF m 212 A259 [(.int (0 : Int32)), (.ref b248)])) (fun t k => XS.iconst X260.here hx rfl (hb hby at_211) k) ?_
          obtain ⟨cl266, Ar266, -, S266, N266_, H266, -⟩ := id f250
          have hin266 : ¬ ((0 : Int32) < 0 ∨ cl266.slots.size ≤ ((0 : Int32)).toNatClampNeg) := inb_of S266 ⟨by decide, by decide⟩
          have hat266 : cl266.slots[((0 : Int32)).toNatClampNeg]? = some (.int v247) := Has.at H266 hin266 rfl
          refine Go.st (S' := T260.setTop (mkF m 213 A259 [(.int v247)])) (fun t k => X260.baloadBytes hx (j := (0 : Int32)) (v := (.int v247)) (own_eh e260 Ar266.1) (State.isArrayOf_alike hZ.alike Ar266.2.1) Ar266.2.2 hin266 hat266 (g := (mkF m 212 A259 [(.int (0 : Int32)), (.ref b248)])) rfl rfl (hb hby at_212) t k) ?_
          refine Go.st (S' := T260.setTop (mkF m 216 A259 [(.int (255 : Int32)), (.int v247)])) (fun t k => XS.sipush X260.here hx rfl (hb hby at_213) k) ?_
          refine Go.op (F := fun z => T260.setTop (mkF m 217 A259 [(.int z)])) (x := (v247 &&& (255 : Int32))) (fun t k => XS.iand X260.here hx rfl (hb hby at_216) rfl k) ?_
          intro v267 hv267
          let A268 : Array Slot := #[.val (.int p0), .val (.int p1), .val (.int p2), .val (.int p3), .val (.int p4), .val (.int p5), .val (.int v3), .val (.ref r21), .val (.int v25), .val (.ref s_Chat_Role_CVCA), .val (.int (3 : Int32)), .val (.int r64), .val (.ref b171), .val (.ref b186), .val (.ref b249), .val (.ref b248), .val (.int v267)]
          refine Go.st (S' := T260.setTop (mkF m 219 A268 [])) (fun t k => XS.istore X260.here hx rfl (hb hby at_217) rfl (l' := A268) rfl k) ?_
          refine Go.st (S' := T260.setTop (mkF m 221 A268 [(.int v267)])) (fun t k => XS.iload X260.here hx rfl (hb hby at_219) rfl k) ?_
          refine Go.st (S' := T260.setTop (mkF m 223 A268 [(.int (6 : Int32)), (.int v267)])) (fun t k => XS.bipush X260.here hx rfl (hb hby at_221) k) ?_
          refine Go.op (F := fun z => T260.setTop (mkF m 224 A268 [(.int z)])) (x := ((v267.toUInt32 >>> ((6 : Int32) &&& 31).toUInt32).toInt32)) (fun t k => XS.iushr X260.here hx rfl (hb hby at_223) rfl k) ?_
          intro v269 hv269
          refine Go.st (S' := T260.setTop (mkF m 226 A268 [(.int (3 : Int32)), (.int v269)])) (fun t k => XS.iload X260.here hx rfl (hb hby at_224) rfl k) ?_
          by_cases hc270 : (v269 = (3 : Int32))
          · refine Go.st (S' := T260.setTop (mkF m 231 A268 [])) (fun t k => XS.icmpYes X260.here hx rfl (pc0 := 226) (pc' := 231) rfl (hb hby at_226) rfl (teq hc270).1 (by decide) (by decide) k) ?_
            refine Go.st (S' := T260.setTop (mkF m 233 A268 [(.int v267)])) (fun t k => XS.iload X260.here hx rfl (hb hby at_231) rfl k) ?_
            refine Go.st (S' := T260.setTop (mkF m 235 A268 [(.int (63 : Int32)), (.int v267)])) (fun t k => XS.bipush X260.here hx rfl (hb hby at_233) k) ?_
            refine Go.op (F := fun z => T260.setTop (mkF m 236 A268 [(.int z)])) (x := (v267 &&& (63 : Int32))) (fun t k => XS.iand X260.here hx rfl (hb hby at_235) rfl k) ?_
            intro v271 hv271
            refine Go.st (S' := T260.setTop (mkF m 237 A268 [(.int p2), (.int v271)])) (fun t k => XS.iloadN X260.here hx rfl (hb hby at_236) rfl k) ?_
            refine Go.st (S' := T260.setTop (mkF m 239 A268 [(.int (63 : Int32)), (.int p2), (.int v271)])) (fun t k => XS.bipush X260.here hx rfl (hb hby at_237) k) ?_
            refine Go.op (F := fun z => T260.setTop (mkF m 240 A268 [(.int z), (.int v271)])) (x := (p2 &&& (63 : Int32))) (fun t k => XS.iand X260.here hx rfl (hb hby at_239) rfl k) ?_
            intro v272 hv272
            by_cases hc273 : (v271 = v272)
            · refine Go.st (S' := T260.setTop (mkF m 245 A268 [])) (fun t k => XS.icmpYes X260.here hx rfl (pc0 := 240) (pc' := 245) rfl (hb hby at_240) rfl (teq hc273).1 (by decide) (by decide) k) ?_
              refine Go.st (S' := T260.setTop (mkF m 247 A268 [(.int r64)])) (fun t k => XS.iload X260.here hx rfl (hb hby at_245) rfl k) ?_
              refine Go.st (S' := T260.setTop (mkF m 250 A268 [])) (fun t k => XS.ifNo X260.here hx rfl (hb hby at_247) rfl ((if0 _ _).trans (feq hc72).1) k) ?_
              refine Go.st (S' := T260.setTop (mkF m 252 A268 [(.ref b248)])) (fun t k => XS.aload X260.here hx rfl (hb hby at_250) rfl rfl k) ?_
              refine Go.st (S' := T260.setTop (mkF m 253 A268 [(.int (1 : Int32)), (.ref b248)])) (fun t k => XS.iconst X260.here hx rfl (hb hby at_252) k) ?_
              obtain ⟨cl274, Ar274, -, S274, N274_, H274, -⟩ := id f250
              have hin274 : ¬ ((1 : Int32) < 0 ∨ cl274.slots.size ≤ ((1 : Int32)).toNatClampNeg) := inb_of S274 ⟨by decide, by decide⟩
              have hat274 : cl274.slots[((1 : Int32)).toNatClampNeg]? = some (.int v180) := Has.at H274 hin274 rfl
              refine Go.st (S' := T260.setTop (mkF m 254 A268 [(.int v180)])) (fun t k => X260.baloadBytes hx (j := (1 : Int32)) (v := (.int v180)) (own_eh e260 Ar274.1) (State.isArrayOf_alike hZ.alike Ar274.2.1) Ar274.2.2 hin274 hat274 (g := (mkF m 253 A268 [(.int (1 : Int32)), (.ref b248)])) rfl rfl (hb hby at_253) t k) ?_
              refine Go.st (S' := T260.setTop (mkF m 255 A268 [(.int p3), (.int v180)])) (fun t k => XS.iloadN X260.here hx rfl (hb hby at_254) rfl k) ?_
              refine Go.op (F := fun z => T260.setTop (mkF m 256 A268 [(.int z), (.int v180)])) (x := p3.toInt8.toInt32) (fun t k => XS.i2b X260.here hx rfl (hb hby at_255) rfl k) ?_
              intro v275 hv275
              obtain rfl : v178 = v275 := hv178.trans hv275.symm
              by_cases hc276 : (v180 = v178)
              · refine Go.st (S' := T260.setTop (mkF m 259 A268 [])) (fun t k => XS.icmpNo X260.here hx rfl (hb hby at_256) rfl (teq hc276).2 k) ?_
                refine Go.st (S' := T260.setTop (mkF m 261 A268 [(.ref b248)])) (fun t k => XS.aload X260.here hx rfl (hb hby at_259) rfl rfl k) ?_
                refine Go.st (S' := T260.setTop (mkF m 262 A268 [(.int (2 : Int32)), (.ref b248)])) (fun t k => XS.iconst X260.here hx rfl (hb hby at_261) k) ?_
                obtain ⟨cl277, Ar277, -, S277, N277_, H277, -⟩ := id f250
                have hin277 : ¬ ((2 : Int32) < 0 ∨ cl277.slots.size ≤ ((2 : Int32)).toNatClampNeg) := inb_of S277 ⟨by decide, by decide⟩
                have hat277 : cl277.slots[((2 : Int32)).toNatClampNeg]? = some (.int v184) := Has.at H277 hin277 rfl
                refine Go.st (S' := T260.setTop (mkF m 263 A268 [(.int v184)])) (fun t k => X260.baloadBytes hx (j := (2 : Int32)) (v := (.int v184)) (own_eh e260 Ar277.1) (State.isArrayOf_alike hZ.alike Ar277.2.1) Ar277.2.2 hin277 hat277 (g := (mkF m 262 A268 [(.int (2 : Int32)), (.ref b248)])) rfl rfl (hb hby at_262) t k) ?_
                refine Go.st (S' := T260.setTop (mkF m 265 A268 [(.int p4), (.int v184)])) (fun t k => XS.iload X260.here hx rfl (hb hby at_263) rfl k) ?_
                refine Go.op (F := fun z => T260.setTop (mkF m 266 A268 [(.int z), (.int v184)])) (x := p4.toInt8.toInt32) (fun t k => XS.i2b X260.here hx rfl (hb hby at_265) rfl k) ?_
                intro v278 hv278
                obtain rfl : v182 = v278 := hv182.trans hv278.symm
                by_cases hc279 : (v184 = v182)
                · refine Go.st (S' := T260.setTop (mkF m 271 A268 [])) (fun t k => XS.icmpYes X260.here hx rfl (pc0 := 266) (pc' := 271) rfl (hb hby at_266) rfl (teq hc279).1 (by decide) (by decide) k) ?_
                  refine Go.st (S' := T260.setTop (mkF m 273 A268 [(.ref b171)])) (fun t k => XS.aload X260.here hx rfl (hb hby at_271) rfl rfl k) ?_
                  refine Go.st (S' := T260.setTop (mkF m 274 A268 [(.int (0 : Int32)), (.ref b171)])) (fun t k => XS.iconst X260.here hx rfl (hb hby at_273) k) ?_
                  obtain ⟨cl280, Ar280, -, S280, N280_, H280, -⟩ := id f263
                  have hin280 : ¬ ((0 : Int32) < 0 ∨ cl280.slots.size ≤ ((0 : Int32)).toNatClampNeg) := inb_of S280 ⟨by decide, by decide⟩
                  have hat280 : cl280.slots[((0 : Int32)).toNatClampNeg]? = some (.int v176) := Has.at H280 hin280 rfl
                  refine Go.st (S' := T260.setTop (mkF m 275 A268 [(.int v176)])) (fun t k => X260.baloadBytes hx (j := (0 : Int32)) (v := (.int v176)) (own_eh e260 Ar280.1) (State.isArrayOf_alike hZ.alike Ar280.2.1) Ar280.2.2 hin280 hat280 (g := (mkF m 274 A268 [(.int (0 : Int32)), (.ref b171)])) rfl rfl (hb hby at_274) t k) ?_
                  refine Go.st (S' := T260.setTop (mkF m 276 A268 [(.int p2), (.int v176)])) (fun t k => XS.iloadN X260.here hx rfl (hb hby at_275) rfl k) ?_
                  refine Go.op (F := fun z => T260.setTop (mkF m 277 A268 [(.int z), (.int v176)])) (x := p2.toInt8.toInt32) (fun t k => XS.i2b X260.here hx rfl (hb hby at_276) rfl k) ?_
                  intro v281 hv281
                  obtain rfl : v174 = v281 := hv174.trans hv281.symm
                  by_cases hc282 : (v176 = v174)
                  · refine Go.st (S' := T260.setTop (mkF m 282 A268 [])) (fun t k => XS.icmpYes X260.here hx rfl (pc0 := 277) (pc' := 282) rfl (hb hby at_277) rfl (teq hc282).1 (by decide) (by decide) k) ?_
                    refine Go.st (S' := T260.setTop (mkF m 284 A268 [(.int r64)])) (fun t k => XS.iload X260.here hx rfl (hb hby at_282) rfl k) ?_
                    refine Go.st (S' := T260.setTop (mkF m 287 A268 [])) (fun t k => XS.ifNo X260.here hx rfl (hb hby at_284) rfl ((if0 _ _).trans (feq hc72).1) k) ?_
                    refine Go.st (S' := T260.setTop (mkF m 289 A268 [(.ref b171)])) (fun t k => XS.aload X260.here hx rfl (hb hby at_287) rfl rfl k) ?_
                    refine Go.st (S' := T260.setTop (mkF m 290 A268 [(.int (1 : Int32)), (.ref b171)])) (fun t k => XS.iconst X260.here hx rfl (hb hby at_289) k) ?_
                    obtain ⟨cl283, Ar283, -, S283, N283_, H283, -⟩ := id f263
                    have hin283 : ¬ ((1 : Int32) < 0 ∨ cl283.slots.size ≤ ((1 : Int32)).toNatClampNeg) := inb_of S283 ⟨by decide, by decide⟩
                    have hat283 : cl283.slots[((1 : Int32)).toNatClampNeg]? = some (.int v180) := Has.at H283 hin283 rfl
                    refine Go.st (S' := T260.setTop (mkF m 291 A268 [(.int v180)])) (fun t k => X260.baloadBytes hx (j := (1 : Int32)) (v := (.int v180)) (own_eh e260 Ar283.1) (State.isArrayOf_alike hZ.alike Ar283.2.1) Ar283.2.2 hin283 hat283 (g := (mkF m 290 A268 [(.int (1 : Int32)), (.ref b171)])) rfl rfl (hb hby at_290) t k) ?_
                    refine Go.st (S' := T260.setTop (mkF m 292 A268 [(.int p3), (.int v180)])) (fun t k => XS.iloadN X260.here hx rfl (hb hby at_291) rfl k) ?_
                    refine Go.op (F := fun z => T260.setTop (mkF m 293 A268 [(.int z), (.int v180)])) (x := p3.toInt8.toInt32) (fun t k => XS.i2b X260.here hx rfl (hb hby at_292) rfl k) ?_
                    intro v284 hv284
                    obtain rfl : v178 = v284 := hv178.trans hv284.symm
                    refine Go.st (S' := T260.setTop (mkF m 296 A268 [])) (fun t k => XS.icmpNo X260.here hx rfl (hb hby at_293) rfl (teq hc276).2 k) ?_
                    refine Go.st (S' := T260.setTop (mkF m 298 A268 [(.ref b171)])) (fun t k => XS.aload X260.here hx rfl (hb hby at_296) rfl rfl k) ?_
                    refine Go.st (S' := T260.setTop (mkF m 299 A268 [(.int (2 : Int32)), (.ref b171)])) (fun t k => XS.iconst X260.here hx rfl (hb hby at_298) k) ?_
                    obtain ⟨cl285, Ar285, -, S285, N285_, H285, -⟩ := id f263
                    have hin285 : ¬ ((2 : Int32) < 0 ∨ cl285.slots.size ≤ ((2 : Int32)).toNatClampNeg) := inb_of S285 ⟨by decide, by decide⟩
                    have hat285 : cl285.slots[((2 : Int32)).toNatClampNeg]? = some (.int v184) := Has.at H285 hin285 rfl
                    refine Go.st (S' := T260.setTop (mkF m 300 A268 [(.int v184)])) (fun t k => X260.baloadBytes hx (j := (2 : Int32)) (v := (.int v184)) (own_eh e260 Ar285.1) (State.isArrayOf_alike hZ.alike Ar285.2.1) Ar285.2.2 hin285 hat285 (g := (mkF m 299 A268 [(.int (2 : Int32)), (.ref b171)])) rfl rfl (hb hby at_299) t k) ?_
                    refine Go.st (S' := T260.setTop (mkF m 302 A268 [(.int p4), (.int v184)])) (fun t k => XS.iload X260.here hx rfl (hb hby at_300) rfl k) ?_
                    refine Go.op (F := fun z => T260.setTop (mkF m 303 A268 [(.int z), (.int v184)])) (x := p4.toInt8.toInt32) (fun t k => XS.i2b X260.here hx rfl (hb hby at_302) rfl k) ?_
                    intro v286 hv286
                    obtain rfl : v182 = v286 := hv182.trans hv286.symm
                    refine Go.st (S' := T260.setTop (mkF m 308 A268 [])) (fun t k => XS.icmpYes X260.here hx rfl (pc0 := 303) (pc' := 308) rfl (hb hby at_303) rfl (teq hc279).1 (by decide) (by decide) k) ?_
                    refine Go.st (S' := T260.setTop (mkF m 309 A268 [(.int (1 : Int32))])) (fun t k => XS.iconst X260.here hx rfl (hb hby at_308) k) ?_
                    exact Go.ret X260 (v := some (.int (1 : Int32))) (fun h => by rw [Bd.returns] at h; cases h) Bd.notSynchronized (fun fs hr => retN X260 hx (t := .boolean) Bd.returns (by simp) (hb hby at_309) hr) (by decide) (by decide) ⟨rfl, N260_⟩
                  · exfalso
                    have rv174 := rng32 v174
                    have wv174 := c_i2b p2
                    rw [← hv174] at wv174
                    have rv176 := rng32 v176
                    have wv176 := c_i2b v174
                    rw [← hv176] at wv176
                    have rv244 := rng32 v244
                    have wv244 := c_mask v176 (63 : Int32) 6 (by decide) (by decide)
                    rw [← hv244] at wv244
                    have rv245 := rng32 v245
                    have wv245 := c_or' v244 (192 : Int32) 6 (by decide) 64 (by decide) (by decide)
                    rw [← hv245] at wv245
                    have rv246 := rng32 v246
                    have wv246 := c_i2b v245
                    rw [← hv246] at wv246
                    have rv247 := rng32 v247
                    have wv247 := c_i2b v246
                    rw [← hv247] at wv247
                    have rv267 := rng32 v267
                    have wv267 := c_mask v247 (255 : Int32) 8 (by decide) (by decide)
                    rw [← hv267] at wv267
                    have rv269 := rng32 v269
                    have wv269 := c_iushr v267 (6 : Int32) 6 (by decide) (by decide)
                    rw [← hv269] at wv269
                    have rv271 := rng32 v271
                    have wv271 := c_mask v267 (63 : Int32) 6 (by decide) (by decide)
                    rw [← hv271] at wv271
                    have rv272 := rng32 v272
                    have wv272 := c_mask p2 (63 : Int32) 6 (by decide) (by decide)
                    rw [← hv272] at wv272
                    have rp2 := rng32 p2
                    have lI3 : (3 : Int32).toInt = 3 := by decide
                    have lI6 : (6 : Int32).toInt = 6 := by decide
                    have lI63 : (63 : Int32).toInt = 63 := by decide
                    have lI192 : (192 : Int32).toInt = 192 := by decide
                    have lI255 : (255 : Int32).toInt = 255 := by decide
                    simp only [Int32.lt_iff_toInt_lt, Int64.lt_iff_toInt_lt, ← Int32.toInt_inj, ← Int64.toInt_inj] at hc270 hc273 hc282
                    omega
                · exfalso
                  have rv182 := rng32 v182
                  have wv182 := c_i2b p4
                  rw [← hv182] at wv182
                  have rv184 := rng32 v184
                  have wv184 := c_i2b v182
                  rw [← hv184] at wv184
                  have rp4 := rng32 p4
                  simp only [Int32.lt_iff_toInt_lt, Int64.lt_iff_toInt_lt, ← Int32.toInt_inj, ← Int64.toInt_inj] at hc279
                  omega
              · exfalso
                have rv178 := rng32 v178
                have wv178 := c_i2b p3
                rw [← hv178] at wv178
                have rv180 := rng32 v180
                have wv180 := c_i2b v178
                rw [← hv180] at wv180
                have rp3 := rng32 p3
                simp only [Int32.lt_iff_toInt_lt, Int64.lt_iff_toInt_lt, ← Int32.toInt_inj, ← Int64.toInt_inj] at hc276
                omega
            · exfalso
              have rv174 := rng32 v174
              have wv174 := c_i2b p2
              rw [← hv174] at wv174
              have rv176 := rng32 v176
              have wv176 := c_i2b v174
              rw [← hv176] at wv176
              have rv244 := rng32 v244
              have wv244 := c_mask v176 (63 : Int32) 6 (by decide) (by decide)
              rw [← hv244] at wv244
              have rv245 := rng32 v245
              have wv245 := c_or' v244 (192 : Int32) 6 (by decide) 64 (by decide) (by decide)
              rw [← hv245] at wv245
              have rv246 := rng32 v246
              have wv246 := c_i2b v245
              rw [← hv246] at wv246
              have rv247 := rng32 v247
              have wv247 := c_i2b v246
              rw [← hv247] at wv247
              have rv267 := rng32 v267
              have wv267 := c_mask v247 (255 : Int32) 8 (by decide) (by decide)
              rw [← hv267] at wv267
              have rv269 := rng32 v269
              have wv269 := c_iushr v267 (6 : Int32) 6 (by decide) (by decide)
              rw [← hv269] at wv269
              have rv271 := rng32 v271
              have wv271 := c_mask v267 (63 : Int32) 6 (by decide) (by decide)
              rw [← hv271] at wv271
              have rv272 := rng32 v272
              have wv272 := c_mask p2 (63 : Int32) 6 (by decide) (by decide)
              rw [← hv272] at wv272
              have rp2 := rng32 p2
              have lI3 : (3 : Int32).toInt = 3 := by decide
              have lI6 : (6 : Int32).toInt = 6 := by decide
              have lI63 : (63 : Int32).toInt = 63 := by decide
              have lI192 : (192 : Int32).toInt = 192 := by decide
              have lI255 : (255 : Int32).toInt = 255 := by decide
              simp only [Int32.lt_iff_toInt_lt, Int64.lt_iff_toInt_lt, ← Int32.toInt_inj, ← Int64.toInt_inj] at hc270 hc273
              omega
          · exfalso
            have rv174 := rng32 v174
            have wv174 := c_i2b p2
            rw [← hv174] at wv174
            have rv176 := rng32 v176
            have wv176 := c_i2b v174
            rw [← hv176] at wv176
            have rv244 := rng32 v244
            have wv244 := c_mask v176 (63 : Int32) 6 (by decide) (by decide)
            rw [← hv244] at wv244
            have rv245 := rng32 v245
            have wv245 := c_or' v244 (192 : Int32) 6 (by decide) 64 (by decide) (by decide)
            rw [← hv245] at wv245
            have rv246 := rng32 v246
            have wv246 := c_i2b v245
            rw [← hv246] at wv246
            have rv247 := rng32 v247
            have wv247 := c_i2b v246
            rw [← hv247] at wv247
            have rv267 := rng32 v267
            have wv267 := c_mask v247 (255 : Int32) 8 (by decide) (by decide)
            rw [← hv267] at wv267
            have rv269 := rng32 v269
            have wv269 := c_iushr v267 (6 : Int32) 6 (by decide) (by decide)
            rw [← hv269] at wv269
            have rp2 := rng32 p2
            have lI3 : (3 : Int32).toInt = 3 := by decide
            have lI6 : (6 : Int32).toInt = 6 := by decide
            have lI63 : (63 : Int32).toInt = 63 := by decide
            have lI192 : (192 : Int32).toInt = 192 := by decide
            have lI255 : (255 : Int32).toInt = 255 := by decide
            simp only [Int32.lt_iff_toInt_lt, Int64.lt_iff_toInt_lt, ← Int32.toInt_inj, ← Int64.toInt_inj] at hc270
            omega
      · intro J287
        by_cases hc288 : (v61 = (0 : Int32))
        · refine Go.st (S' := T58.setTop (mkF m 114 A60 [])) (fun t k => XS.ifYes X58.here hx rfl (pc0 := 107) (pc' := 114) rfl (hb hby at_107) rfl ((if0 _ _).trans (teq hc288).1) (by decide) (by decide) k) ?_
          refine Go.st (S' := T58.setTop (mkF m 115 A60 [(.int (0 : Int32))])) (fun t k => XS.iconst X58.here hx rfl (hb hby at_114) k) ?_
          exact J287 ((0 : Int32)) (Or.inl ⟨hc288, rfl⟩)
        · refine Go.st (S' := T58.setTop (mkF m 110 A60 [])) (fun t k => XS.ifNo X58.here hx rfl (hb hby at_107) rfl ((if0 _ _).trans (feq hc288).1) k) ?_
          refine Go.st (S' := T58.setTop (mkF m 111 A60 [(.int (1 : Int32))])) (fun t k => XS.iconst X58.here hx rfl (hb hby at_110) k) ?_
          refine Go.st (S' := T58.setTop (mkF m 115 A60 [(.int (1 : Int32))])) (fun t k => XS.goto X58.here hx rfl (pc0 := 111) (pc' := 115) rfl (hb hby at_111) (by decide) (by decide) k) ?_
          exact J287 ((1 : Int32)) (Or.inr ⟨hc288, rfl⟩)
    · refine Go.st (S' := T23.setTop (mkF m 61 A26 [])) (fun t k => XS.ifYes X23.here hx rfl (pc0 := 47) (pc' := 61) rfl (hb hby at_47) rfl ((if0 _ _).trans (feq hc57).2) (by decide) (by decide) k) ?_
      refine Go.st (S' := T23.setTop (mkF m 63 A26 [(.int v25)])) (fun t k => XS.iload X23.here hx rfl (hb hby at_61) rfl k) ?_
      refine Go.st (S' := T23.setTop (mkF m 64 A26 [(.int (1 : Int32)), (.int v25)])) (fun t k => XS.iconst X23.here hx rfl (hb hby at_63) k) ?_
      by_cases hc311 : (v25 = (1 : Int32))
      · refine Go.st (S' := T23.setTop (mkF m 67 A26 [])) (fun t k => XS.icmpNo X23.here hx rfl (hb hby at_64) rfl (teq hc311).2 k) ?_
        obtain ⟨T312, X312, e312, st312⟩ := getS X23 hx hZ hown (hw _ (List.mem_of_getElem? (i := 62) rfl)) Via.refl e23 S_s_Chat_Role_DV_DOMESTIC (host := "") (g := (mkF m 67 A26 [])) rfl (hb hby at_67)
        refine Go.st (S' := T312.setTop (mkF m 70 A26 [(.ref s_Chat_Role_DV_DOMESTIC)])) st312 ?_
        let A313 : Array Slot := #[.val (.int p0), .val (.int p1), .val (.int p2), .val (.int p3), .val (.int p4), .val (.int p5), .val (.int v3), .val (.ref r21), .val (.int v25), .val (.ref s_Chat_Role_DV_DOMESTIC), .unset, .unset, .unset, .unset, .unset, .unset, .unset]
        refine Go.st (S' := T312.setTop (mkF m 72 A313 [])) (fun t k => XS.astore X312.here hx rfl (hb hby at_70) rfl rfl (l' := A313) rfl k) ?_
        refine Go.st (S' := T312.setTop (mkF m 73 A313 [(.int (2 : Int32))])) (fun t k => XS.iconst X312.here hx rfl (hb hby at_72) k) ?_
        let A314 : Array Slot := #[.val (.int p0), .val (.int p1), .val (.int p2), .val (.int p3), .val (.int p4), .val (.int p5), .val (.int v3), .val (.ref r21), .val (.int v25), .val (.ref s_Chat_Role_DV_DOMESTIC), .val (.int (2 : Int32)), .unset, .unset, .unset, .unset, .unset, .unset]
        refine Go.st (S' := T312.setTop (mkF m 75 A314 [])) (fun t k => XS.istore X312.here hx rfl (hb hby at_73) rfl (l' := A314) rfl k) ?_
        refine Go.st (S' := T312.setTop (mkF m 103 A314 [])) (fun t k => XS.goto X312.here hx rfl (pc0 := 75) (pc' := 103) rfl (hb hby at_75) (by decide) (by decide) k) ?_
        refine Go.st (S' := T312.setTop (mkF m 105 A314 [(.int p5)])) (fun t k => XS.iload X312.here hx rfl (hb hby at_103) rfl k) ?_
        refine Go.st (S' := T312.setTop (mkF m 106 A314 [(.int (1 : Int32)), (.int p5)])) (fun t k => XS.iconst X312.here hx rfl (hb hby at_105) k) ?_
        refine Go.op (F := fun z => T312.setTop (mkF m 107 A314 [(.int z)])) (x := (p5 &&& (1 : Int32))) (fun t k => XS.iand X312.here hx rfl (hb hby at_106) rfl k) ?_
        intro v315 hv315
        refine Go.join (α := Int32) (fun r => (((v315 = (0 : Int32)) ∧ (r = (0 : Int32))) ∨ ((¬ (v315 = (0 : Int32))) ∧ (r = (1 : Int32))))) (fun r => T312.setTop (mkF m 115 A314 [(.int r)])) ?_ ?_
        · intro r318 hc319
          let A320 : Array Slot := #[.val (.int p0), .val (.int p1), .val (.int p2), .val (.int p3), .val (.int p4), .val (.int p5), .val (.int v3), .val (.ref r21), .val (.int v25), .val (.ref s_Chat_Role_DV_DOMESTIC), .val (.int (2 : Int32)), .val (.int r318), .unset, .unset, .unset, .unset, .unset]
          refine Go.st (S' := T312.setTop (mkF m 117 A320 [])) (fun t k => XS.istore X312.here hx rfl (hb hby at_115) rfl (l' := A320) rfl k) ?_
          refine Go.st (S' := T312.setTop (mkF m 119 A320 [(.int r318)])) (fun t k => XS.iload X312.here hx rfl (hb hby at_117) rfl k) ?_
          by_cases hc326 : (r318 = (0 : Int32))
          · refine Go.st (S' := T312.setTop (mkF m 128 A320 [])) (fun t k => XS.ifYes X312.here hx rfl (pc0 := 119) (pc' := 128) rfl (hb hby at_119) rfl ((if0 _ _).trans (teq hc326).1) (by decide) (by decide) k) ?_
            refine Go.st (S' := T312.setTop (mkF m 129 A320 [(.int (1 : Int32))])) (fun t k => XS.iconst X312.here hx rfl (hb hby at_128) k) ?_
            obtain ⟨T327, h327, k327, X327, e327, E327, A327, B327, st327⟩ := newPE X312 hx hZ (hw _ (List.mem_of_getElem? (i := 7) rfl)) e312 (g := (mkF m 129 A320 [(.int (1 : Int32))])) rfl (hb hby at_129) rfl (by decide) (cap := 1) (by decide) (by decide) (by decide) (by decide) (ad := "[B") (by decide)
            obtain ⟨b327, gg327⟩ : ∃ z, z = h0.size := ⟨_, rfl⟩
            rw [← gg327] at A327 B327 st327
            have g_b327 : n0 ≤ b327 := Nat.le_trans Z0 (Nat.le_of_eq gg327.symm)
            have sz_b327 : h0.size ≤ b327 := Nat.le_trans (Keep.refl h0 []).1 (Nat.le_of_eq gg327.symm)
            have Z328 : n0 ≤ h327.size := Nat.le_trans Z0 E327.1
            have K328 : Keep h0 h327 [] := (Keep.refl h0 []).ext E327
            have V327 : Arv Z h327 b327 k327 .byte (1 : Int32) [(.int (0 : Int32))] (.int (0 : Int32)) := (Arv.new A327 (by decide)).pad (pad_rep [] (.int (0 : Int32)) 1)
            refine Go.st (S' := T327.setTop (mkF m 131 A320 [(.ref b327)])) st327 ?_
            let A329 : Array Slot := #[.val (.int p0), .val (.int p1), .val (.int p2), .val (.int p3), .val (.int p4), .val (.int p5), .val (.int v3), .val (.ref r21), .val (.int v25), .val (.ref s_Chat_Role_DV_DOMESTIC), .val (.int (2 : Int32)), .val (.int r318), .val (.ref b327), .unset, .unset, .unset, .unset]
            refine Go.st (S' := T327.setTop (mkF m 133 A329 [])) (fun t k => XS.astore X327.here hx rfl (hb hby at_131) rfl rfl (l' := A329) rfl k) ?_
            refine Go.st (S' := T327.setTop (mkF m 135 A329 [(.ref b327)])) (fun t k => XS.aload X327.here hx rfl (hb hby at_133) rfl rfl k) ?_
            refine Go.st (S' := T327.setTop (mkF m 136 A329 [(.int (0 : Int32)), (.ref b327)])) (fun t k => XS.iconst X327.here hx rfl (hb hby at_135) k) ?_
            refine Go.st (S' := T327.setTop (mkF m 137 A329 [(.int p2), (.int (0 : Int32)), (.ref b327)])) (fun t k => XS.iloadN X327.here hx rfl (hb hby at_136) rfl k) ?_
            refine Go.op (F := fun z => T327.setTop (mkF m 138 A329 [(.int z), (.int (0 : Int32)), (.ref b327)])) (x := p2.toInt8.toInt32) (fun t k => XS.i2b X327.here hx rfl (hb hby at_137) rfl k) ?_
            intro v330 hv330
            obtain ⟨cl331, Ar331, q331, S331, N331_, H331, G331⟩ := id V327
            have hin331 : ¬ ((0 : Int32) < 0 ∨ cl331.slots.size ≤ ((0 : Int32)).toNatClampNeg) := inb_of S331 ⟨by decide, by decide⟩
            obtain ⟨v332, hv332⟩ : ∃ z, z = v330.toInt8.toInt32 := ⟨_, rfl⟩
            obtain ⟨T331, h331, X331, e331, W331, st331⟩ := stB X327 hx hZ e327 Ar331 (j := (0 : Int32)) hin331 (g := (mkF m 138 A329 [(.int v330), (.int (0 : Int32)), (.ref b327)])) rfl rfl (hb hby at_138)
            have W331 : Wr h327 h331 b327 ((0 : Int32)).toNatClampNeg (.int v332) := by rw [hv332]; exact W331
            have V331 : Arv Z h331 b327 k327 .byte (1 : Int32) [(.int v332)] (.int (0 : Int32)) := Arv.set Ar331 q331 S331 N331_ H331 G331 (by rw [hv332]; exact fits_nar_byte _) W331 0 rfl (Nat.le_of_ble_eq_true rfl)
            have N331 := Fr.snoc X331 N0 g_b327
            have Z333 : n0 ≤ h331.size := Nat.le_trans Z328 (Keep.of_wr W331).1
            have K333 : Keep h0 h331 [] := K328.wr W331 (Or.inr sz_b327)
            refine Go.st (S' := T331.setTop (mkF m 139 A329 [])) st331 ?_
            refine Go.st (S' := T331.setTop (mkF m 141 A329 [(.int r318)])) (fun t k => XS.iload X331.here hx rfl (hb hby at_139) rfl k) ?_
            refine Go.st (S' := T331.setTop (mkF m 157 A329 [])) (fun t k => XS.ifYes X331.here hx rfl (pc0 := 141) (pc' := 157) rfl (hb hby at_141) rfl ((if0 _ _).trans (teq hc326).1) (by decide) (by decide) k) ?_
            obtain ⟨T334, h334, X334, e334, E334, A334, D334, -, st334⟩ := newO X331 hx hZ hown (hw _ (List.mem_of_getElem? (i := 8) rfl)) (hw _ (List.mem_of_getElem? (i := 9) rfl)) (hw _ (List.mem_of_getElem? (i := 10) rfl)) e331 (g := (mkF m 157 A329 [])) rfl (hb hby at_157) (by decide) (by decide)
            obtain ⟨b334, gg334⟩ : ∃ z, z = h331.size := ⟨_, rfl⟩
            rw [← gg334] at A334 D334 st334
            have g_b334 : n0 ≤ b334 := Nat.le_trans Z333 (Nat.le_of_eq gg334.symm)
            have sz_b334 : h0.size ≤ b334 := Nat.le_trans K333.1 (Nat.le_of_eq gg334.symm)
            have f335 := ((B327).wr W331)
            have lt_b327_b334 : b327 < b334 := Nat.lt_of_lt_of_le (f335).lt (Nat.le_of_eq gg334.symm)
            have Z336 : n0 ≤ h334.size := Nat.le_trans Z333 E334.1
            have K336 : Keep h0 h334 [] := K333.ext E334
            have Fb334_template : Fld Z h334 b334 "com/example/consulate/consulate/cvc/Chat" "template" "Lcom/example/consulate/consulate/cvc/Chat$Template;" .null := D334 (Or.inr (hw _ (List.mem_of_getElem? (i := 23) rfl))) (ty := (.object "com/example/consulate/consulate/cvc/Chat$Template")) (by decide)
            have Fb334_data : Fld Z h334 b334 "com/example/consulate/consulate/cvc/Chat" "data" "[B" .null := D334 (Or.inr (hw _ (List.mem_of_getElem? (i := 25) rfl))) (ty := (.array .byte)) (by decide)
            refine Go.st (S' := T334.setTop (mkF m 160 A329 [(.ref b334)])) st334 ?_
            refine Go.st (S' := T334.setTop (mkF m 161 A329 [(.ref b334), (.ref b334)])) (fun t k => XS.dup X334.here hx rfl (hb hby at_160) rfl rfl k) ?_
            refine Go.st (S' := T334.setTop (mkF m 163 A329 [(.ref r21), (.ref b334), (.ref b334)])) (fun t k => XS.aload X334.here hx rfl (hb hby at_161) rfl rfl k) ?_
            refine Go.st (S' := T334.setTop (mkF m 165 A329 [(.ref b327), (.ref r21), (.ref b334), (.ref b334)])) (fun t k => XS.aload X334.here hx rfl (hb hby at_163) rfl rfl k) ?_
            have f337 := ((V331).ext E334)
            obtain ⟨r338, T338, L338, X338, hQ338, st338⟩ := own_callI (W := 1) (a := b334) X334 hx hZ e334 hown (y := (⟨"com/example/consulate/consulate/cvc/Chat", "<init>", "(Lcom/example/consulate/consulate/cvc/Chat$Template;[B)V"⟩ : MethodName)) rfl (hw _ (List.mem_of_getElem? (i := 11) rfl)) (hw _ (List.mem_of_getElem? (i := 12) rfl)) (hw _ (List.mem_of_getElem? (i := 10) rfl)) (hw _ (List.mem_of_getElem? (i := 13) rfl)) (by decide) (rm2 l Z a0 hw [] b334 r21 b327 k327 v332 (.null) (.null) h334 n0 Z336 (f337) (A334) (Fb334_template) (g_b334) (Fb334_data)) (by decide) (by decide) (by decide) (by decide) (g := (mkF m 165 A329 [(.ref b327), (.ref r21), (.ref b334), (.ref b334)])) rfl (by rw [hml]; rfl) (argsL := [(.ref r21), (.ref b327)]) (rest := [(.ref b334)]) rfl (lenOf pd_1 rfl) rfl (by show 2 * 0 + _ ≤ _; exact Nat.le_of_eq rfl) (hb hby at_165)
            obtain ⟨rfl, N338, K338_, f339, f340, f341⟩ := hQ338
            have N338_ := Fr.app N331 N338
            have Z342 : n0 ≤ T338.heap.size := Nat.le_trans Z336 K338_.1
            have K342 : Keep h0 T338.heap [] := K336.trans K338_ (allS (Or.inr sz_b334) all0)
            refine Go.st (S' := T338.setTop (mkF m 168 A329 [(.ref b334)])) st338 ?_
            let A343 : Array Slot := #[.val (.int p0), .val (.int p1), .val (.int p2), .val (.int p3), .val (.int p4), .val (.int p5), .val (.int v3), .val (.ref r21), .val (.int v25), .val (.ref s_Chat_Role_DV_DOMESTIC), .val (.int (2 : Int32)), .val (.int r318), .val (.ref b327), .val (.ref b334), .unset, .unset, .unset]
            refine Go.st (S' := T338.setTop (mkF m 170 A343 [])) (fun t k => XS.astore X338.here hx rfl (hb hby at_168) rfl rfl (l' := A343) rfl k) ?_
            refine Go.st (S' := T338.setTop (mkF m 172 A343 [(.ref b334)])) (fun t k => XS.aload X338.here hx rfl (hb hby at_170) rfl rfl k) ?_
            refine Go.st (S' := T338.setTop (mkF m 174 A343 [(.ref s_Chat_Role_DV_DOMESTIC), (.ref b334)])) (fun t k => XS.aload X338.here hx rfl (hb hby at_172) rfl rfl k) ?_
            have f373 := ((f337).keep K338_ (ninS (Nat.ne_of_lt lt_b327_b334) nin0))
            have f374 := ((((f335).ext E334)).keep K338_)
            have f375 := ((((((((F_s_Chat_Role_DV_DOMESTIC_bits).ext E327)).other W331 (Or.inl (Nat.ne_of_lt (Nat.lt_of_lt_of_le (F_s_Chat_Role_DV_DOMESTIC_bits).lt sz_b327))))).ext E334)).keep K338_ (ninS (Nat.ne_of_lt (Nat.lt_of_lt_of_le (F_s_Chat_Role_DV_DOMESTIC_bits).lt sz_b334)) nin0))
            obtain ⟨r376, T376, L376, X376, hQ376, st376⟩ := own_callV (W := 0) (a := b334) (C := "com/example/consulate/consulate/cvc/Chat") X338 hx hZ rfl hown (y := (⟨"com/example/consulate/consulate/cvc/Chat", "withRole", "(Lcom/example/consulate/consulate/cvc/Chat$Role;)Lcom/example/consulate/consulate/cvc/Chat;"⟩ : MethodName)) (z := (⟨"com/example/consulate/consulate/cvc/Chat", "withRole", "(Lcom/example/consulate/consulate/cvc/Chat$Role;)Lcom/example/consulate/consulate/cvc/Chat;"⟩ : MethodName)) (hw _ (List.mem_of_getElem? (i := 26) rfl)) (hw _ (List.mem_of_getElem? (i := 27) rfl)) (notFace_of_selects (args := #[]) (mvT hZ (hw _ (List.mem_of_getElem? (i := 29) rfl)))) (hw _ (List.mem_of_getElem? (i := 29) rfl)) (hw _ (List.mem_of_getElem? (i := 28) rfl)) (hw _ (List.mem_of_getElem? (i := 10) rfl)) (hw _ (List.mem_of_getElem? (i := 30) rfl)) (by decide) (f339) (rm8 l Z a0 hw [] b334 s_Chat_Role_DV_DOMESTIC b327 k327 v332 r21 T338.heap n0 Z342 (f341) (f373) (f374) (f375) (f340)) (by decide) (by decide) (by decide) (by decide) (g := (mkF m 174 A343 [(.ref s_Chat_Role_DV_DOMESTIC), (.ref b334)])) rfl (by rw [hml]; rfl) (argsL := [(.ref s_Chat_Role_DV_DOMESTIC)]) (rest := []) rfl (lenOf pd_2 rfl) rfl (by show 2 * 0 + _ ≤ _; exact Nat.le_of_eq rfl) (hb hby at_174)
            obtain ⟨v377, v378, v379, v380, b381, b382, hv377, hv378, hv379, hv380, rfl, N376, K376_, sz_b381_, sz_b382_, f383, f384, f385, f386, f387, hlt388⟩ := hQ376
            have N376_ := Fr.app N338_ N376
            have g_b381 : n0 ≤ b381 := Nat.le_trans Z342 sz_b381_
            have sz_b381 : h0.size ≤ b381 := Nat.le_trans K342.1 sz_b381_
            have lt_b327_b381 : b327 < b381 := Nat.lt_of_lt_of_le (f374).lt sz_b381_
            have lt_b334_b381 : b334 < b381 := Nat.lt_of_lt_of_le (f339).lt sz_b381_
            have g_b382 : n0 ≤ b382 := Nat.le_trans Z342 sz_b382_
            have sz_b382 : h0.size ≤ b382 := Nat.le_trans K342.1 sz_b382_
            have lt_b327_b382 : b327 < b382 := Nat.lt_of_lt_of_le (f374).lt sz_b382_
            have lt_b334_b382 : b334 < b382 := Nat.lt_of_lt_of_le (f339).lt sz_b382_
            have Z389 : n0 ≤ T376.heap.size := Nat.le_trans Z342 K376_.1
            have K389 : Keep h0 T376.heap [] := K342.trans K376_ all0
            refine Go.st (S' := T376.setTop (mkF m 177 A343 [(.ref b382)])) st376 ?_
            let A390 : Array Slot := #[.val (.int p0), .val (.int p1), .val (.int p2), .val (.int p3), .val (.int p4), .val (.int p5), .val (.int v3), .val (.ref r21), .val (.int v25), .val (.ref s_Chat_Role_DV_DOMESTIC), .val (.int (2 : Int32)), .val (.int r318), .val (.ref b327), .val (.ref b334), .val (.ref b382), .unset, .unset]
            refine Go.st (S' := T376.setTop (mkF m 179 A390 [])) (fun t k => XS.astore X376.here hx rfl (hb hby at_177) rfl rfl (l' := A390) rfl k) ?_
            refine Go.st (S' := T376.setTop (mkF m 181 A390 [(.ref b382)])) (fun t k => XS.aload X376.here hx rfl (hb hby at_179) rfl rfl k) ?_
            obtain ⟨r391, T391, L391, X391, hQ391, st391⟩ := own_callV (W := 0) (a := b382) (C := "com/example/consulate/consulate/cvc/Chat") X376 hx hZ rfl hown (y := (⟨"com/example/consulate/consulate/cvc/Chat", "data", "()[B"⟩ : MethodName)) (z := (⟨"com/example/consulate/consulate/cvc/Chat", "data", "()[B"⟩ : MethodName)) (hw _ (List.mem_of_getElem? (i := 44) rfl)) (hw _ (List.mem_of_getElem? (i := 45) rfl)) (notFace_of_selects (args := #[]) (mvT hZ (hw _ (List.mem_of_getElem? (i := 47) rfl)))) (hw _ (List.mem_of_getElem? (i := 47) rfl)) (hw _ (List.mem_of_getElem? (i := 46) rfl)) (hw _ (List.mem_of_getElem? (i := 10) rfl)) (hw _ (List.mem_of_getElem? (i := 48) rfl)) (by decide) (f385) (rm4 l Z a0 hw [] b382 b381 T376.heap n0 Z389 (f387)) (by decide) (by decide) (by decide) (by decide) (g := (mkF m 181 A390 [(.ref b382)])) rfl (by rw [hml]; rfl) (argsL := []) (rest := []) rfl (lenOf pd_3 rfl) rfl (by show 2 * 0 + _ ≤ _; exact Nat.le_of_eq rfl) (hb hby at_181)
            obtain ⟨rfl, N391, e391⟩ := hQ391
            have N391_ := Fr.app N376_ N391
            refine Go.st (S' := T391.setTop (mkF m 184 A390 [(.ref b381)])) st391 ?_
            let A392 : Array Slot := #[.val (.int p0), .val (.int p1), .val (.int p2), .val (.int p3), .val (.int p4), .val (.int p5), .val (.int v3), .val (.ref r21), .val (.int v25), .val (.ref s_Chat_Role_DV_DOMESTIC), .val (.int (2 : Int32)), .val (.int r318), .val (.ref b327), .val (.ref b334), .val (.ref b382), .val (.ref b381), .unset]
            refine Go.st (S' := T391.setTop (mkF m 186 A392 [])) (fun t k => XS.astore X391.here hx rfl (hb hby at_184) rfl rfl (l' := A392) rfl k) ?_
            refine Go.st (S' := T391.setTop (mkF m 188 A392 [(.ref b382)])) (fun t k => XS.aload X391.here hx rfl (hb hby at_186) rfl rfl k) ?_
            obtain ⟨r393, T393, L393, X393, hQ393, st393⟩ := own_callV (W := 0) (a := b382) (C := "com/example/consulate/consulate/cvc/Chat") X391 hx hZ e391 hown (y := (⟨"com/example/consulate/consulate/cvc/Chat", "template", "()Lcom/example/consulate/consulate/cvc/Chat$Template;"⟩ : MethodName)) (z := (⟨"com/example/consulate/consulate/cvc/Chat", "template", "()Lcom/example/consulate/consulate/cvc/Chat$Template;"⟩ : MethodName)) (hw _ (List.mem_of_getElem? (i := 49) rfl)) (hw _ (List.mem_of_getElem? (i := 50) rfl)) (notFace_of_selects (args := #[]) (mvT hZ (hw _ (List.mem_of_getElem? (i := 52) rfl)))) (hw _ (List.mem_of_getElem? (i := 52) rfl)) (hw _ (List.mem_of_getElem? (i := 51) rfl)) (hw _ (List.mem_of_getElem? (i := 10) rfl)) (hw _ (List.mem_of_getElem? (i := 53) rfl)) (by decide) (f385) (rm5 l Z a0 hw [] b382 r21 T376.heap n0 Z389 (f386)) (by decide) (by decide) (by decide) (by decide) (g := (mkF m 188 A392 [(.ref b382)])) rfl (by rw [hml]; rfl) (argsL := []) (rest := []) rfl (lenOf pd_4 rfl) rfl (by show 2 * 0 + _ ≤ _; exact Nat.le_of_eq rfl) (hb hby at_188)
            obtain ⟨rfl, N393, e393⟩ := hQ393
            have N393_ := Fr.app N391_ N393
            refine Go.st (S' := T393.setTop (mkF m 191 A392 [(.ref r21)])) st393 ?_
            refine Go.st (S' := T393.setTop (mkF m 193 A392 [(.ref r21), (.ref r21)])) (fun t k => XS.aload X393.here hx rfl (hb hby at_191) rfl rfl k) ?_
            refine Go.st (S' := T393.setTop (mkF m 198 A392 [])) (fun t k => acmp X393 hx rfl rfl rfl (pc0 := 193) (pc' := 198) (same := true) rfl (hb hby at_193) rfl (by simp) (by decide) (by decide) k) ?_
            refine Go.st (S' := T393.setTop (mkF m 200 A392 [(.ref b381)])) (fun t k => XS.aload X393.here hx rfl (hb hby at_198) rfl rfl k) ?_
            obtain ⟨cl394, Ar394, -, S394, N394_, -, -⟩ := id f383
            refine Go.op (F := fun z => T393.setTop (mkF m 201 A392 [(.int z)])) (x := cl394.slots.size.toInt32) (fun t k => X393.arraylength hx (own_eh e393 Ar394.1) (State.isArrayOf_alike hZ.alike Ar394.2.1) (g := (mkF m 200 A392 [(.ref b381)])) rfl rfl (hb hby at_200) t k) ?_
            intro v395 hv395
            obtain rfl : (1 : Int32) = v395 := (hv395.trans (len_of S394 N394_)).symm
            refine Go.st (S' := T393.setTop (mkF m 203 A392 [(.ref b327), (.int (1 : Int32))])) (fun t k => XS.aload X393.here hx rfl (hb hby at_201) rfl rfl k) ?_
            have f396 := ((f373).keep K376_ nin0)
            obtain ⟨cl397, Ar397, -, S397, N397_, -, -⟩ := id f396
            refine Go.op (F := fun z => T393.setTop (mkF m 204 A392 [(.int z), (.int (1 : Int32))])) (x := cl397.slots.size.toInt32) (fun t k => X393.arraylength hx (own_eh e393 Ar397.1) (State.isArrayOf_alike hZ.alike Ar397.2.1) (g := (mkF m 203 A392 [(.ref b327), (.int (1 : Int32))])) rfl rfl (hb hby at_203) t k) ?_
            intro v398 hv398
            obtain rfl : (1 : Int32) = v398 := (hv398.trans (len_of S397 N397_)).symm
            refine Go.st (S' := T393.setTop (mkF m 209 A392 [])) (fun t k => XS.icmpYes X393.here hx rfl (pc0 := 204) (pc' := 209) rfl (hb hby at_204) rfl (teq (by decide : ((1 : Int32) = (1 : Int32)))).1 (by decide) (by decide) k) ?_
            refine Go.st (S' := T393.setTop (mkF m 211 A392 [(.ref b381)])) (fun t k => XS.aload X393.here hx rfl (hb hby at_209) rfl rfl k) ?_
            refine Go.st (S' := T393.setTop (mkF m 212 A392 [(.int (0 : Int32)), (.ref b381)])) (fun t k => XS.iconst X393.here hx rfl (hb hby at_211) k) ?_
            obtain ⟨cl399, Ar399, -, S399, N399_, H399, -⟩ := id f383
            have hin399 : ¬ ((0 : Int32) < 0 ∨ cl399.slots.size ≤ ((0 : Int32)).toNatClampNeg) := inb_of S399 ⟨by decide, by decide⟩
            have hat399 : cl399.slots[((0 : Int32)).toNatClampNeg]? = some (.int v380) := Has.at H399 hin399 rfl
            refine Go.st (S' := T393.setTop (mkF m 213 A392 [(.int v380)])) (fun t k => X393.baloadBytes hx (j := (0 : Int32)) (v := (.int v380)) (own_eh e393 Ar399.1) (State.isArrayOf_alike hZ.alike Ar399.2.1) Ar399.2.2 hin399 hat399 (g := (mkF m 212 A392 [(.int (0 : Int32)), (.ref b381)])) rfl rfl (hb hby at_212) t k) ?_
            refine Go.st (S' := T393.setTop (mkF m 216 A392 [(.int (255 : Int32)), (.int v380)])) (fun t k => XS.sipush X393.here hx rfl (hb hby at_213) k) ?_
            refine Go.op (F := fun z => T393.setTop (mkF m 217 A392 [(.int z)])) (x := (v380 &&& (255 : Int32))) (fun t k => XS.iand X393.here hx rfl (hb hby at_216) rfl k) ?_
            intro v400 hv400
            let A401 : Array Slot := #[.val (.int p0), .val (.int p1), .val (.int p2), .val (.int p3), .val (.int p4), .val (.int p5), .val (.int v3), .val (.ref r21), .val (.int v25), .val (.ref s_Chat_Role_DV_DOMESTIC), .val (.int (2 : Int32)), .val (.int r318), .val (.ref b327), .val (.ref b334), .val (.ref b382), .val (.ref b381), .val (.int v400)]
            refine Go.st (S' := T393.setTop (mkF m 219 A401 [])) (fun t k => XS.istore X393.here hx rfl (hb hby at_217) rfl (l' := A401) rfl k) ?_
            refine Go.st (S' := T393.setTop (mkF m 221 A401 [(.int v400)])) (fun t k => XS.iload X393.here hx rfl (hb hby at_219) rfl k) ?_
            refine Go.st (S' := T393.setTop (mkF m 223 A401 [(.int (6 : Int32)), (.int v400)])) (fun t k => XS.bipush X393.here hx rfl (hb hby at_221) k) ?_
            refine Go.op (F := fun z => T393.setTop (mkF m 224 A401 [(.int z)])) (x := ((v400.toUInt32 >>> ((6 : Int32) &&& 31).toUInt32).toInt32)) (fun t k => XS.iushr X393.here hx rfl (hb hby at_223) rfl k) ?_
            intro v402 hv402
            refine Go.st (S' := T393.setTop (mkF m 226 A401 [(.int (2 : Int32)), (.int v402)])) (fun t k => XS.iload X393.here hx rfl (hb hby at_224) rfl k) ?_
            by_cases hc403 : (v402 = (2 : Int32))
            · refine Go.st (S' := T393.setTop (mkF m 231 A401 [])) (fun t k => XS.icmpYes X393.here hx rfl (pc0 := 226) (pc' := 231) rfl (hb hby at_226) rfl (teq hc403).1 (by decide) (by decide) k) ?_
              refine Go.st (S' := T393.setTop (mkF m 233 A401 [(.int v400)])) (fun t k => XS.iload X393.here hx rfl (hb hby at_231) rfl k) ?_
              refine Go.st (S' := T393.setTop (mkF m 235 A401 [(.int (63 : Int32)), (.int v400)])) (fun t k => XS.bipush X393.here hx rfl (hb hby at_233) k) ?_
              refine Go.op (F := fun z => T393.setTop (mkF m 236 A401 [(.int z)])) (x := (v400 &&& (63 : Int32))) (fun t k => XS.iand X393.here hx rfl (hb hby at_235) rfl k) ?_
              intro v404 hv404
              refine Go.st (S' := T393.setTop (mkF m 237 A401 [(.int p2), (.int v404)])) (fun t k => XS.iloadN X393.here hx rfl (hb hby at_236) rfl k) ?_
              refine Go.st (S' := T393.setTop (mkF m 239 A401 [(.int (63 : Int32)), (.int p2), (.int v404)])) (fun t k => XS.bipush X393.here hx rfl (hb hby at_237) k) ?_
              refine Go.op (F := fun z => T393.setTop (mkF m 240 A401 [(.int z), (.int v404)])) (x := (p2 &&& (63 : Int32))) (fun t k => XS.iand X393.here hx rfl (hb hby at_239) rfl k) ?_
              intro v405 hv405
              by_cases hc406 : (v404 = v405)
              · refine Go.st (S' := T393.setTop (mkF m 245 A401 [])) (fun t k => XS.icmpYes X393.here hx rfl (pc0 := 240) (pc' := 245) rfl (hb hby at_240) rfl (teq hc406).1 (by decide) (by decide) k) ?_
                refine Go.st (S' := T393.setTop (mkF m 247 A401 [(.int r318)])) (fun t k => XS.iload X393.here hx rfl (hb hby at_245) rfl k) ?_
                refine Go.st (S' := T393.setTop (mkF m 271 A401 [])) (fun t k => XS.ifYes X393.here hx rfl (pc0 := 247) (pc' := 271) rfl (hb hby at_247) rfl ((if0 _ _).trans (teq hc326).1) (by decide) (by decide) k) ?_
                refine Go.st (S' := T393.setTop (mkF m 273 A401 [(.ref b327)])) (fun t k => XS.aload X393.here hx rfl (hb hby at_271) rfl rfl k) ?_
                refine Go.st (S' := T393.setTop (mkF m 274 A401 [(.int (0 : Int32)), (.ref b327)])) (fun t k => XS.iconst X393.here hx rfl (hb hby at_273) k) ?_
                obtain ⟨cl407, Ar407, -, S407, N407_, H407, -⟩ := id f396
                have hin407 : ¬ ((0 : Int32) < 0 ∨ cl407.slots.size ≤ ((0 : Int32)).toNatClampNeg) := inb_of S407 ⟨by decide, by decide⟩
                have hat407 : cl407.slots[((0 : Int32)).toNatClampNeg]? = some (.int v332) := Has.at H407 hin407 rfl
                refine Go.st (S' := T393.setTop (mkF m 275 A401 [(.int v332)])) (fun t k => X393.baloadBytes hx (j := (0 : Int32)) (v := (.int v332)) (own_eh e393 Ar407.1) (State.isArrayOf_alike hZ.alike Ar407.2.1) Ar407.2.2 hin407 hat407 (g := (mkF m 274 A401 [(.int (0 : Int32)), (.ref b327)])) rfl rfl (hb hby at_274) t k) ?_
                refine Go.st (S' := T393.setTop (mkF m 276 A401 [(.int p2), (.int v332)])) (fun t k => XS.iloadN X393.here hx rfl (hb hby at_275) rfl k) ?_
                refine Go.op (F := fun z => T393.setTop (mkF m 277 A401 [(.int z), (.int v332)])) (x := p2.toInt8.toInt32) (fun t k => XS.i2b X393.here hx rfl (hb hby at_276) rfl k) ?_
                intro v408 hv408
                obtain rfl : v330 = v408 := hv330.trans hv408.symm
                by_cases hc409 : (v332 = v330)
                · refine Go.st (S' := T393.setTop (mkF m 282 A401 [])) (fun t k => XS.icmpYes X393.here hx rfl (pc0 := 277) (pc' := 282) rfl (hb hby at_277) rfl (teq hc409).1 (by decide) (by decide) k) ?_
                  refine Go.st (S' := T393.setTop (mkF m 284 A401 [(.int r318)])) (fun t k => XS.iload X393.here hx rfl (hb hby at_282) rfl k) ?_
                  refine Go.st (S' := T393.setTop (mkF m 308 A401 [])) (fun t k => XS.ifYes X393.here hx rfl (pc0 := 284) (pc' := 308) rfl (hb hby at_284) rfl ((if0 _ _).trans (teq hc326).1) (by decide) (by decide) k) ?_
                  refine Go.st (S' := T393.setTop (mkF m 309 A401 [(.int (1 : Int32))])) (fun t k => XS.iconst X393.here hx rfl (hb hby at_308) k) ?_
                  exact Go.ret X393 (v := some (.int (1 : Int32))) (fun h => by rw [Bd.returns] at h; cases h) Bd.notSynchronized (fun fs hr => retN X393 hx (t := .boolean) Bd.returns (by simp) (hb hby at_309) hr) (by decide) (by decide) ⟨rfl, N393_⟩
                · exfalso
                  have rv330 := rng32 v330
                  have wv330 := c_i2b p2
                  rw [← hv330] at wv330
                  have rv332 := rng32 v332
                  have wv332 := c_i2b v330
                  rw [← hv332] at wv332
                  have rv377 := rng32 v377
                  have wv377 := c_mask v332 (63 : Int32) 6 (by decide) (by decide)
                  rw [← hv377] at wv377
                  have rv378 := rng32 v378
                  have wv378 := c_or' v377 (128 : Int32) 7 (by decide) 128 (by decide) (by decide)
                  rw [← hv378] at wv378
                  have rv379 := rng32 v379
                  have wv379 := c_i2b v378
                  rw [← hv379] at wv379
                  have rv380 := rng32 v380
                  have wv380 := c_i2b v379
                  rw [← hv380] at wv380
                  have rv400 := rng32 v400
                  have wv400 := c_mask v380 (255 : Int32) 8 (by decide) (by decide)
                  rw [← hv400] at wv400
                  have rv402 := rng32 v402
                  have wv402 := c_iushr v400 (6 : Int32) 6 (by decide) (by decide)
                  rw [← hv402] at wv402
                  have rv404 := rng32 v404
                  have wv404 := c_mask v400 (63 : Int32) 6 (by decide) (by decide)
                  rw [← hv404] at wv404
                  have rv405 := rng32 v405
                  have wv405 := c_mask p2 (63 : Int32) 6 (by decide) (by decide)
                  rw [← hv405] at wv405
                  have rp2 := rng32 p2
                  have lI2 : (2 : Int32).toInt = 2 := by decide
                  have lI6 : (6 : Int32).toInt = 6 := by decide
                  have lI63 : (63 : Int32).toInt = 63 := by decide
                  have lI128 : (128 : Int32).toInt = 128 := by decide
                  have lI255 : (255 : Int32).toInt = 255 := by decide
                  simp only [Int32.lt_iff_toInt_lt, Int64.lt_iff_toInt_lt, ← Int32.toInt_inj, ← Int64.toInt_inj] at hc403 hc406 hc409
                  omega
              · exfalso
                have rv330 := rng32 v330
                have wv330 := c_i2b p2
                rw [← hv330] at wv330
                have rv332 := rng32 v332
                have wv332 := c_i2b v330
                rw [← hv332] at wv332
                have rv377 := rng32 v377
                have wv377 := c_mask v332 (63 : Int32) 6 (by decide) (by decide)
                rw [← hv377] at wv377
                have rv378 := rng32 v378
                have wv378 := c_or' v377 (128 : Int32) 7 (by decide) 128 (by decide) (by decide)
                rw [← hv378] at wv378
                have rv379 := rng32 v379
                have wv379 := c_i2b v378
                rw [← hv379] at wv379
                have rv380 := rng32 v380
                have wv380 := c_i2b v379
                rw [← hv380] at wv380
                have rv400 := rng32 v400
                have wv400 := c_mask v380 (255 : Int32) 8 (by decide) (by decide)
                rw [← hv400] at wv400
                have rv402 := rng32 v402
                have wv402 := c_iushr v400 (6 : Int32) 6 (by decide) (by decide)
                rw [← hv402] at wv402
                have rv404 := rng32 v404
                have wv404 := c_mask v400 (63 : Int32) 6 (by decide) (by decide)
                rw [← hv404] at wv404
                have rv405 := rng32 v405
                have wv405 := c_mask p2 (63 : Int32) 6 (by decide) (by decide)
                rw [← hv405] at wv405
                have rp2 := rng32 p2
                have lI2 : (2 : Int32).toInt = 2 := by decide
                have lI6 : (6 : Int32).toInt = 6 := by decide
                have lI63 : (63 : Int32).toInt = 63 := by decide
                have lI128 : (128 : Int32).toInt = 128 := by decide
                have lI255 : (255 : Int32).toInt = 255 := by decide
                simp only [Int32.lt_iff_toInt_lt, Int64.lt_iff_toInt_lt, ← Int32.toInt_inj, ← Int64.toInt_inj] at hc403 hc406
                omega
            · exfalso
              have rv330 := rng32 v330
              have wv330 := c_i2b p2
              rw [← hv330] at wv330
              have rv332 := rng32 v332
              have wv332 := c_i2b v330
              rw [← hv332] at wv332
              have rv377 := rng32 v377
              have wv377 := c_mask v332 (63 : Int32) 6 (by decide) (by decide)
              rw [← hv377] at wv377
              have rv378 := rng32 v378
              have wv378 := c_or' v377 (128 : Int32) 7 (by decide) 128 (by decide) (by decide)
              rw [← hv378] at wv378
              have rv379 := rng32 v379
              have wv379 := c_i2b v378
              rw [← hv379] at wv379
              have rv380 := rng32 v380
              have wv380 := c_i2b v379
              rw [← hv380] at wv380
              have rv400 := rng32 v400
              have wv400 := c_mask v380 (255 : Int32) 8 (by decide) (by decide)
              rw [← hv400] at wv400
              have rv402 := rng32 v402
              have wv402 := c_iushr v400 (6 : Int32) 6 (by decide) (by decide)
              rw [← hv402] at wv402
              have rp2 := rng32 p2
              have lI2 : (2 : Int32).toInt = 2 := by decide
              have lI6 : (6 : Int32).toInt = 6 := by decide
              have lI63 : (63 : Int32).toInt = 63 := by decide
              have lI128 : (128 : Int32).toInt = 128 := by decide
              have lI255 : (255 : Int32).toInt = 255 := by decide
              simp only [Int32.lt_iff_toInt_lt, Int64.lt_iff_toInt_lt, ← Int32.toInt_inj, ← Int64.toInt_inj] at hc403
              omega
          · refine Go.st (S' := T312.setTop (mkF m 122 A320 [])) (fun t k => XS.ifNo X312.here hx rfl (hb hby at_119) rfl ((if0 _ _).trans (feq hc326).1) k) ?_
            refine Go.st (S' := T312.setTop (mkF m 123 A320 [(.int (3 : Int32))])) (fun t k => XS.iconst X312.here hx rfl (hb hby at_122) k) ?_
            obtain ⟨T410, h410, k410, X410, e410, E410, A410, B410, st410⟩ := newPE X312 hx hZ (hw _ (List.mem_of_getElem? (i := 7) rfl)) e312 (g := (mkF m 123 A320 [(.int (3 : Int32))])) rfl (hb hby at_123) rfl (by decide) (cap := 3) (by decide) (by decide) (by decide) (by decide) (ad := "[B") (by decide)
            obtain ⟨b410, gg410⟩ : ∃ z, z = h0.size := ⟨_, rfl⟩
            rw [← gg410] at A410 B410 st410
            have g_b410 : n0 ≤ b410 := Nat.le_trans Z0 (Nat.le_of_eq gg410.symm)
            have sz_b410 : h0.size ≤ b410 := Nat.le_trans (Keep.refl h0 []).1 (Nat.le_of_eq gg410.symm)
            have Z411 : n0 ≤ h410.size := Nat.le_trans Z0 E410.1
            have K411 : Keep h0 h410 [] := (Keep.refl h0 []).ext E410
            have V410 : Arv Z h410 b410 k410 .byte (3 : Int32) [(.int (0 : Int32)), (.int (0 : Int32)), (.int (0 : Int32))] (.int (0 : Int32)) := (Arv.new A410 (by decide)).pad (pad_rep [] (.int (0 : Int32)) 3)
            refine Go.st (S' := T410.setTop (mkF m 125 A320 [(.ref b410)])) st410 ?_
            refine Go.st (S' := T410.setTop (mkF m 131 A320 [(.ref b410)])) (fun t k => XS.goto X410.here hx rfl (pc0 := 125) (pc' := 131) rfl (hb hby at_125) (by decide) (by decide) k) ?_
            let A412 : Array Slot := #[.val (.int p0), .val (.int p1), .val (.int p2), .val (.int p3), .val (.int p4), .val (.int p5), .val (.int v3), .val (.ref r21), .val (.int v25), .val (.ref s_Chat_Role_DV_DOMESTIC), .val (.int (2 : Int32)), .val (.int r318), .val (.ref b410), .unset, .unset, .unset, .unset]
            refine Go.st (S' := T410.setTop (mkF m 133 A412 [])) (fun t k => XS.astore X410.here hx rfl (hb hby at_131) rfl rfl (l' := A412) rfl k) ?_
            refine Go.st (S' := T410.setTop (mkF m 135 A412 [(.ref b410)])) (fun t k => XS.aload X410.here hx rfl (hb hby at_133) rfl rfl k) ?_
            refine Go.st (S' := T410.setTop (mkF m 136 A412 [(.int (0 : Int32)), (.ref b410)])) (fun t k => XS.iconst X410.here hx rfl (hb hby at_135) k) ?_
            refine Go.st (S' := T410.setTop (mkF m 137 A412 [(.int p2), (.int (0 : Int32)), (.ref b410)])) (fun t k => XS.iloadN X410.here hx rfl (hb hby at_136) rfl k) ?_
            refine Go.op (F := fun z => T410.setTop (mkF m 138 A412 [(.int z), (.int (0 : Int32)), (.ref b410)])) (x := p2.toInt8.toInt32) (fun t k => XS.i2b X410.here hx rfl (hb hby at_137) rfl k) ?_
            intro v413 hv413
            obtain ⟨cl414, Ar414, q414, S414, N414_, H414, G414⟩ := id V410
            have hin414 : ¬ ((0 : Int32) < 0 ∨ cl414.slots.size ≤ ((0 : Int32)).toNatClampNeg) := inb_of S414 ⟨by decide, by decide⟩
            obtain ⟨v415, hv415⟩ : ∃ z, z = v413.toInt8.toInt32 := ⟨_, rfl⟩
            obtain ⟨T414, h414, X414, e414, W414, st414⟩ := stB X410 hx hZ e410 Ar414 (j := (0 : Int32)) hin414 (g := (mkF m 138 A412 [(.int v413), (.int (0 : Int32)), (.ref b410)])) rfl rfl (hb hby at_138)
            have W414 : Wr h410 h414 b410 ((0 : Int32)).toNatClampNeg (.int v415) := by rw [hv415]; exact W414
            have V414 : Arv Z h414 b410 k410 .byte (3 : Int32) [(.int v415), (.int (0 : Int32)), (.int (0 : Int32))] (.int (0 : Int32)) := Arv.set Ar414 q414 S414 N414_ H414 G414 (by rw [hv415]; exact fits_nar_byte _) W414 0 rfl (Nat.le_of_ble_eq_true rfl)
            have N414 := Fr.snoc X414 N0 g_b410
            have Z416 : n0 ≤ h414.size := Nat.le_trans Z411 (Keep.of_wr W414).1
            have K416 : Keep h0 h414 [] := K411.wr W414 (Or.inr sz_b410)
            refine Go.st (S' := T414.setTop (mkF m 139 A412 [])) st414 ?_
            refine Go.st (S' := T414.setTop (mkF m 141 A412 [(.int r318)])) (fun t k => XS.iload X414.here hx rfl (hb hby at_139) rfl k) ?_
            refine Go.st (S' := T414.setTop (mkF m 144 A412 [])) (fun t k => XS.ifNo X414.here hx rfl (hb hby at_141) rfl ((if0 _ _).trans (feq hc326).1) k) ?_
            refine Go.st (S' := T414.setTop (mkF m 146 A412 [(.ref b410)])) (fun t k => XS.aload X414.here hx rfl (hb hby at_144) rfl rfl k) ?_
            refine Go.st (S' := T414.setTop (mkF m 147 A412 [(.int (1 : Int32)), (.ref b410)])) (fun t k => XS.iconst X414.here hx rfl (hb hby at_146) k) ?_
            refine Go.st (S' := T414.setTop (mkF m 148 A412 [(.int p3), (.int (1 : Int32)), (.ref b410)])) (fun t k => XS.iloadN X414.here hx rfl (hb hby at_147) rfl k) ?_
            refine Go.op (F := fun z => T414.setTop (mkF m 149 A412 [(.int z), (.int (1 : Int32)), (.ref b410)])) (x := p3.toInt8.toInt32) (fun t k => XS.i2b X414.here hx rfl (hb hby at_148) rfl k) ?_
            intro v417 hv417
            obtain ⟨cl418, Ar418, q418, S418, N418_, H418, G418⟩ := id V414
            have hin418 : ¬ ((1 : Int32) < 0 ∨ cl418.slots.size ≤ ((1 : Int32)).toNatClampNeg) := inb_of S418 ⟨by decide, by decide⟩
            obtain ⟨v419, hv419⟩ : ∃ z, z = v417.toInt8.toInt32 := ⟨_, rfl⟩
            obtain ⟨T418, h418, X418, e418, W418, st418⟩ := stB X414 hx hZ e414 Ar418 (j := (1 : Int32)) hin418 (g := (mkF m 149 A412 [(.int v417), (.int (1 : Int32)), (.ref b410)])) rfl rfl (hb hby at_149)
            have W418 : Wr h414 h418 b410 ((1 : Int32)).toNatClampNeg (.int v419) := by rw [hv419]; exact W418
            have V418 : Arv Z h418 b410 k410 .byte (3 : Int32) [(.int v415), (.int v419), (.int (0 : Int32))] (.int (0 : Int32)) := Arv.set Ar418 q418 S418 N418_ H418 G418 (by rw [hv419]; exact fits_nar_byte _) W418 1 rfl (Nat.le_of_ble_eq_true rfl)
            have N418 := Fr.snoc X418 N414 g_b410
            have Z420 : n0 ≤ h418.size := Nat.le_trans Z416 (Keep.of_wr W418).1
            have K420 : Keep h0 h418 [] := K416.wr W418 (Or.inr sz_b410)
            refine Go.st (S' := T418.setTop (mkF m 150 A412 [])) st418 ?_
            refine Go.st (S' := T418.setTop (mkF m 152 A412 [(.ref b410)])) (fun t k => XS.aload X418.here hx rfl (hb hby at_150) rfl rfl k) ?_
            refine Go.st (S' := T418.setTop (mkF m 153 A412 [(.int (2 : Int32)), (.ref b410)])) (fun t k => XS.iconst X418.here hx rfl (hb hby at_152) k) ?_
            refine Go.st (S' := T418.setTop (mkF m 155 A412 [(.int p4), (.int (2 : Int32)), (.ref b410)])) (fun t k => XS.iload X418.here hx rfl (hb hby at_153) rfl k) ?_
            refine Go.op (F := fun z => T418.setTop (mkF m 156 A412 [(.int z), (.int (2 : Int32)), (.ref b410)])) (x := p4.toInt8.toInt32) (fun t k => XS.i2b X418.here hx rfl (hb hby at_155) rfl k) ?_
            intro v421 hv421
            obtain ⟨cl422, Ar422, q422, S422, N422_, H422, G422⟩ := id V418
            have hin422 : ¬ ((2 : Int32) < 0 ∨ cl422.slots.size ≤ ((2 : Int32)).toNatClampNeg) := inb_of S422 ⟨by decide, by decide⟩
            obtain ⟨v423, hv423⟩ : ∃ z, z = v421.toInt8.toInt32 := ⟨_, rfl⟩
            obtain ⟨T422, h422, X422, e422, W422, st422⟩ := stB X418 hx hZ e418 Ar422 (j := (2 : Int32)) hin422 (g := (mkF m 156 A412 [(.int v421), (.int (2 : Int32)), (.ref b410)])) rfl rfl (hb hby at_156)
            have W422 : Wr h418 h422 b410 ((2 : Int32)).toNatClampNeg (.int v423) := by rw [hv423]; exact W422
            have V422 : Arv Z h422 b410 k410 .byte (3 : Int32) [(.int v415), (.int v419), (.int v423)] (.int (0 : Int32)) := Arv.set Ar422 q422 S422 N422_ H422 G422 (by rw [hv423]; exact fits_nar_byte _) W422 2 rfl (Nat.le_of_ble_eq_true rfl)
            have N422 := Fr.snoc X422 N418 g_b410
            have Z424 : n0 ≤ h422.size := Nat.le_trans Z420 (Keep.of_wr W422).1
            have K424 : Keep h0 h422 [] := K420.wr W422 (Or.inr sz_b410)
            refine Go.st (S' := T422.setTop (mkF m 157 A412 [])) st422 ?_
            obtain ⟨T425, h425, X425, e425, E425, A425, D425, -, st425⟩ := newO X422 hx hZ hown (hw _ (List.mem_of_getElem? (i := 8) rfl)) (hw _ (List.mem_of_getElem? (i := 9) rfl)) (hw _ (List.mem_of_getElem? (i := 10) rfl)) e422 (g := (mkF m 157 A412 [])) rfl (hb hby at_157) (by decide) (by decide)
            obtain ⟨b425, gg425⟩ : ∃ z, z = h422.size := ⟨_, rfl⟩
            rw [← gg425] at A425 D425 st425
            have g_b425 : n0 ≤ b425 := Nat.le_trans Z424 (Nat.le_of_eq gg425.symm)
            have sz_b425 : h0.size ≤ b425 := Nat.le_trans K424.1 (Nat.le_of_eq gg425.symm)
            have f426 := ((((((B410).wr W414)).wr W418)).wr W422)
            have lt_b410_b425 : b410 < b425 := Nat.lt_of_lt_of_le (f426).lt (Nat.le_of_eq gg425.symm)
            have Z427 : n0 ≤ h425.size := Nat.le_trans Z424 E425.1
            have K427 : Keep h0 h425 [] := K424.ext E425
            have Fb425_template : Fld Z h425 b425 "com/example/consulate/consulate/cvc/Chat" "template" "Lcom/example/consulate/consulate/cvc/Chat$Template;" .null := D425 (Or.inr (hw _ (List.mem_of_getElem? (i := 23) rfl))) (ty := (.object "com/example/consulate/consulate/cvc/Chat$Template")) (by decide)
            have Fb425_data : Fld Z h425 b425 "com/example/consulate/consulate/cvc/Chat" "data" "[B" .null := D425 (Or.inr (hw _ (List.mem_of_getElem? (i := 25) rfl))) (ty := (.array .byte)) (by decide)
            refine Go.st (S' := T425.setTop (mkF m 160 A412 [(.ref b425)])) st425 ?_
            refine Go.st (S' := T425.setTop (mkF m 161 A412 [(.ref b425), (.ref b425)])) (fun t k => XS.dup X425.here hx rfl (hb hby at_160) rfl rfl k) ?_
            refine Go.st (S' := T425.setTop (mkF m 163 A412 [(.ref r21), (.ref b425), (.ref b425)])) (fun t k => XS.aload X425.here hx rfl (hb hby at_161) rfl rfl k) ?_
            refine Go.st (S' := T425.setTop (mkF m 165 A412 [(.ref b410), (.ref r21), (.ref b425), (.ref b425)])) (fun t k => XS.aload X425.here hx rfl (hb hby at_163) rfl rfl k) ?_
            have f429 := ((V422).ext E425)
            obtain ⟨r430, T430, L430, X430, hQ430, st430⟩ := own_callI (W := 1) (a := b425) X425 hx hZ e425 hown (y := (⟨"com/example/consulate/consulate/cvc/Chat", "<init>", "(Lcom/example/consulate/consulate/cvc/Chat$Template;[B)V"⟩ : MethodName)) rfl (hw _ (List.mem_of_getElem? (i := 11) rfl)) (hw _ (List.mem_of_getElem? (i := 12) rfl)) (hw _ (List.mem_of_getElem? (i := 10) rfl)) (hw _ (List.mem_of_getElem? (i := 13) rfl)) (by decide) (rm6 l Z a0 hw [] b425 r21 b410 k410 v415 v419 v423 (.null) (.null) h425 n0 Z427 (f429) (A425) (Fb425_template) (g_b425) (Fb425_data)) (by decide) (by decide) (by decide) (by decide) (g := (mkF m 165 A412 [(.ref b410), (.ref r21), (.ref b425), (.ref b425)])) rfl (by rw [hml]; rfl) (argsL := [(.ref r21), (.ref b410)]) (rest := [(.ref b425)]) rfl (lenOf pd_1 rfl) rfl (by show 2 * 0 + _ ≤ _; exact Nat.le_of_eq rfl) (hb hby at_165)
            obtain ⟨rfl, N430, K430_, f431, f432, f433⟩ := hQ430
            have N430_ := Fr.app N422 N430
            have Z434 : n0 ≤ T430.heap.size := Nat.le_trans Z427 K430_.1
            have K434 : Keep h0 T430.heap [] := K427.trans K430_ (allS (Or.inr sz_b425) all0)
            refine Go.st (S' := T430.setTop (mkF m 168 A412 [(.ref b425)])) st430 ?_
            let A435 : Array Slot := #[.val (.int p0), .val (.int p1), .val (.int p2), .val (.int p3), .val (.int p4), .val (.int p5), .val (.int v3), .val (.ref r21), .val (.int v25), .val (.ref s_Chat_Role_DV_DOMESTIC), .val (.int (2 : Int32)), .val (.int r318), .val (.ref b410), .val (.ref b425), .unset, .unset, .unset]
            refine Go.st (S' := T430.setTop (mkF m 170 A435 [])) (fun t k => XS.astore X430.here hx rfl (hb hby at_168) rfl rfl (l' := A435) rfl k) ?_
            refine Go.st (S' := T430.setTop (mkF m 172 A435 [(.ref b425)])) (fun t k => XS.aload X430.here hx rfl (hb hby at_170) rfl rfl k) ?_
            refine Go.st (S' := T430.setTop (mkF m 174 A435 [(.ref s_Chat_Role_DV_DOMESTIC), (.ref b425)])) (fun t k => XS.aload X430.here hx rfl (hb hby at_172) rfl rfl k) ?_
            have f467 := ((f429).keep K430_ (ninS (Nat.ne_of_lt lt_b410_b425) nin0))
            have f468 := ((((f426).ext E425)).keep K430_)
            have f469 := ((((((((((((F_s_Chat_Role_DV_DOMESTIC_bits).ext E410)).other W414 (Or.inl (Nat.ne_of_lt (Nat.lt_of_lt_of_le (F_s_Chat_Role_DV_DOMESTIC_bits).lt sz_b410))))).other W418 (Or.inl (Nat.ne_of_lt (Nat.lt_of_lt_of_le (F_s_Chat_Role_DV_DOMESTIC_bits).lt sz_b410))))).other W422 (Or.inl (Nat.ne_of_lt (Nat.lt_of_lt_of_le (F_s_Chat_Role_DV_DOMESTIC_bits).lt sz_b410))))).ext E425)).keep K430_ (ninS (Nat.ne_of_lt (Nat.lt_of_lt_of_le (F_s_Chat_Role_DV_DOMESTIC_bits).lt sz_b425)) nin0))
            obtain ⟨r470, T470, L470, X470, hQ470, st470⟩ := own_callV (W := 0) (a := b425) (C := "com/example/consulate/consulate/cvc/Chat") X430 hx hZ rfl hown (y := (⟨"com/example/consulate/consulate/cvc/Chat", "withRole", "(Lcom/example/consulate/consulate/cvc/Chat$Role;)Lcom/example/consulate/consulate/cvc/Chat;"⟩ : MethodName)) (z := (⟨"com/example/consulate/consulate/cvc/Chat", "withRole", "(Lcom/example/consulate/consulate/cvc/Chat$Role;)Lcom/example/consulate/consulate/cvc/Chat;"⟩ : MethodName)) (hw _ (List.mem_of_getElem? (i := 26) rfl)) (hw _ (List.mem_of_getElem? (i := 27) rfl)) (notFace_of_selects (args := #[]) (mvT hZ (hw _ (List.mem_of_getElem? (i := 29) rfl)))) (hw _ (List.mem_of_getElem? (i := 29) rfl)) (hw _ (List.mem_of_getElem? (i := 28) rfl)) (hw _ (List.mem_of_getElem? (i := 10) rfl)) (hw _ (List.mem_of_getElem? (i := 30) rfl)) (by decide) (f431) (rm9 l Z a0 hw [] b425 s_Chat_Role_DV_DOMESTIC b410 k410 v415 v419 v423 r21 T430.heap n0 Z434 (f433) (f467) (f468) (f469) (f432)) (by decide) (by decide) (by decide) (by decide) (g := (mkF m 174 A435 [(.ref s_Chat_Role_DV_DOMESTIC), (.ref b425)])) rfl (by rw [hml]; rfl) (argsL := [(.ref s_Chat_Role_DV_DOMESTIC)]) (rest := []) rfl (lenOf pd_2 rfl) rfl (by show 2 * 0 + _ ≤ _; exact Nat.le_of_eq rfl) (hb hby at_174)
            obtain ⟨v471, v472, v473, v474, b475, b476, hv471, hv472, hv473, hv474, rfl, N470, K470_, sz_b475_, sz_b476_, f477, f478, f479, f480, f481, hlt482⟩ := hQ470
            have N470_ := Fr.app N430_ N470
            have g_b475 : n0 ≤ b475 := Nat.le_trans Z434 sz_b475_
            have sz_b475 : h0.size ≤ b475 := Nat.le_trans K434.1 sz_b475_
            have lt_b410_b475 : b410 < b475 := Nat.lt_of_lt_of_le (f468).lt sz_b475_
            have lt_b425_b475 : b425 < b475 := Nat.lt_of_lt_of_le (f431).lt sz_b475_
            have g_b476 : n0 ≤ b476 := Nat.le_trans Z434 sz_b476_
            have sz_b476 : h0.size ≤ b476 := Nat.le_trans K434.1 sz_b476_
            have lt_b410_b476 : b410 < b476 := Nat.lt_of_lt_of_le (f468).lt sz_b476_
            have lt_b425_b476 : b425 < b476 := Nat.lt_of_lt_of_le (f431).lt sz_b476_
            have Z483 : n0 ≤ T470.heap.size := Nat.le_trans Z434 K470_.1
            have K483 : Keep h0 T470.heap [] := K434.trans K470_ all0
            refine Go.st (S' := T470.setTop (mkF m 177 A435 [(.ref b476)])) st470 ?_
            let A484 : Array Slot := #[.val (.int p0), .val (.int p1), .val (.int p2), .val (.int p3), .val (.int p4), .val (.int p5), .val (.int v3), .val (.ref r21), .val (.int v25), .val (.ref s_Chat_Role_DV_DOMESTIC), .val (.int (2 : Int32)), .val (.int r318), .val (.ref b410), .val (.ref b425), .val (.ref b476), .unset, .unset]
            refine Go.st (S' := T470.setTop (mkF m 179 A484 [])) (fun t k => XS.astore X470.here hx rfl (hb hby at_177) rfl rfl (l' := A484) rfl k) ?_
            refine Go.st (S' := T470.setTop (mkF m 181 A484 [(.ref b476)])) (fun t k => XS.aload X470.here hx rfl (hb hby at_179) rfl rfl k) ?_
            obtain ⟨r485, T485, L485, X485, hQ485, st485⟩ := own_callV (W := 0) (a := b476) (C := "com/example/consulate/consulate/cvc/Chat") X470 hx hZ rfl hown (y := (⟨"com/example/consulate/consulate/cvc/Chat", "data", "()[B"⟩ : MethodName)) (z := (⟨"com/example/consulate/consulate/cvc/Chat", "data", "()[B"⟩ : MethodName)) (hw _ (List.mem_of_getElem? (i := 44) rfl)) (hw _ (List.mem_of_getElem? (i := 45) rfl)) (notFace_of_selects (args := #[]) (mvT hZ (hw _ (List.mem_of_getElem? (i := 47) rfl)))) (hw _ (List.mem_of_getElem? (i := 47) rfl)) (hw _ (List.mem_of_getElem? (i := 46) rfl)) (hw _ (List.mem_of_getElem? (i := 10) rfl)) (hw _ (List.mem_of_getElem? (i := 48) rfl)) (by decide) (f479) (rm4 l Z a0 hw [] b476 b475 T470.heap n0 Z483 (f481)) (by decide) (by decide) (by decide) (by decide) (g := (mkF m 181 A484 [(.ref b476)])) rfl (by rw [hml]; rfl) (argsL := []) (rest := []) rfl (lenOf pd_3 rfl) rfl (by show 2 * 0 + _ ≤ _; exact Nat.le_of_eq rfl) (hb hby at_181)
            obtain ⟨rfl, N485, e485⟩ := hQ485
            have N485_ := Fr.app N470_ N485
            refine Go.st (S' := T485.setTop (mkF m 184 A484 [(.ref b475)])) st485 ?_
            let A486 : Array Slot := #[.val (.int p0), .val (.int p1), .val (.int p2), .val (.int p3), .val (.int p4), .val (.int p5), .val (.int v3), .val (.ref r21), .val (.int v25), .val (.ref s_Chat_Role_DV_DOMESTIC), .val (.int (2 : Int32)), .val (.int r318), .val (.ref b410), .val (.ref b425), .val (.ref b476), .val (.ref b475), .unset]
            refine Go.st (S' := T485.setTop (mkF m 186 A486 [])) (fun t k => XS.astore X485.here hx rfl (hb hby at_184) rfl rfl (l' := A486) rfl k) ?_
            refine Go.st (S' := T485.setTop (mkF m 188 A486 [(.ref b476)])) (fun t k => XS.aload X485.here hx rfl (hb hby at_186) rfl rfl k) ?_
            obtain ⟨r487, T487, L487, X487, hQ487, st487⟩ := own_callV (W := 0) (a := b476) (C := "com/example/consulate/consulate/cvc/Chat") X485 hx hZ e485 hown (y := (⟨"com/example/consulate/consulate/cvc/Chat", "template", "()Lcom/example/consulate/consulate/cvc/Chat$Template;"⟩ : MethodName)) (z := (⟨"com/example/consulate/consulate/cvc/Chat", "template", "()Lcom/example/consulate/consulate/cvc/Chat$Template;"⟩ : MethodName)) (hw _ (List.mem_of_getElem? (i := 49) rfl)) (hw _ (List.mem_of_getElem? (i := 50) rfl)) (notFace_of_selects (args := #[]) (mvT hZ (hw _ (List.mem_of_getElem? (i := 52) rfl)))) (hw _ (List.mem_of_getElem? (i := 52) rfl)) (hw _ (List.mem_of_getElem? (i := 51) rfl)) (hw _ (List.mem_of_getElem? (i := 10) rfl)) (hw _ (List.mem_of_getElem? (i := 53) rfl)) (by decide) (f479) (rm5 l Z a0 hw [] b476 r21 T470.heap n0 Z483 (f480)) (by decide) (by decide) (by decide) (by decide) (g := (mkF m 188 A486 [(.ref b476)])) rfl (by rw [hml]; rfl) (argsL := []) (rest := []) rfl (lenOf pd_4 rfl) rfl (by show 2 * 0 + _ ≤ _; exact Nat.le_of_eq rfl) (hb hby at_188)
            obtain ⟨rfl, N487, e487⟩ := hQ487
            have N487_ := Fr.app N485_ N487
            refine Go.st (S' := T487.setTop (mkF m 191 A486 [(.ref r21)])) st487 ?_
            refine Go.st (S' := T487.setTop (mkF m 193 A486 [(.ref r21), (.ref r21)])) (fun t k => XS.aload X487.here hx rfl (hb hby at_191) rfl rfl k) ?_
            refine Go.st (S' := T487.setTop (mkF m 198 A486 [])) (fun t k => acmp X487 hx rfl rfl rfl (pc0 := 193) (pc' := 198) (same := true) rfl (hb hby at_193) rfl (by simp) (by decide) (by decide) k) ?_
            refine Go.st (S' := T487.setTop (mkF m 200 A486 [(.ref b475)])) (fun t k => XS.aload X487.here hx rfl (hb hby at_198) rfl rfl k) ?_
            obtain ⟨cl488, Ar488, -, S488, N488_, -, -⟩ := id f477
            refine Go.op (F := fun z => T487.setTop (mkF m 201 A486 [(.int z)])) (x := cl488.slots.size.toInt32) (fun t k => X487.arraylength hx (own_eh e487 Ar488.1) (State.isArrayOf_alike hZ.alike Ar488.2.1) (g := (mkF m 200 A486 [(.ref b475)])) rfl rfl (hb hby at_200) t k) ?_
            intro v489 hv489
            obtain rfl : (3 : Int32) = v489 := (hv489.trans (len_of S488 N488_)).symm
            refine Go.st (S' := T487.setTop (mkF m 203 A486 [(.ref b410), (.int (3 : Int32))])) (fun t k => XS.aload X487.here hx rfl (hb hby at_201) rfl rfl k) ?_
            have f490 := ((f467).keep K470_ nin0)
            obtain ⟨cl491, Ar491, -, S491, N491_, -, -⟩ := id f490
            refine Go.op (F := fun z => T487.setTop (mkF m 204 A486 [(.int z), (.int (3 : Int32))])) (x := cl491.slots.size.toInt32) (fun t k => X487.arraylength hx (own_eh e487 Ar491.1) (State.isArrayOf_alike hZ.alike Ar491.2.1) (g := (mkF m 203 A486 [(.ref b410), (.int (3 : Int32))])) rfl rfl (hb hby at_203) t k) ?_
            intro v492 hv492
            obtain rfl : (3 : Int32) = v492 := (hv492.trans (len_of S491 N491_)).symm
            refine Go.st (S' := T487.setTop (mkF m 209 A486 [])) (fun t k => XS.icmpYes X487.here hx rfl (pc0 := 204) (pc' := 209) rfl (hb hby at_204) rfl (teq (by decide : ((3 : Int32) = (3 : Int32)))).1 (by decide) (by decide) k) ?_
            refine Go.st (S' := T487.setTop (mkF m 211 A486 [(.ref b475)])) (fun t k => XS.aload X487.here hx rfl (hb hby at_209) rfl rfl k) ?_
            refine Go.st (S' := T487.setTop (mkF m 212 A486 [(.int (0 : Int32)), (.ref b475)])) (fun t k => XS.iconst X487.here hx rfl (hb hby at_211) k) ?_
            obtain ⟨cl493, Ar493, -, S493, N493_, H493, -⟩ := id f477
            have hin493 : ¬ ((0 : Int32) < 0 ∨ cl493.slots.size ≤ ((0 : Int32)).toNatClampNeg) := inb_of S493 ⟨by decide, by decide⟩
            have hat493 : cl493.slots[((0 : Int32)).toNatClampNeg]? = some (.int v474) := Has.at H493 hin493 rfl
            refine Go.st (S' := T487.setTop (mkF m 213 A486 [(.int v474)])) (fun t k => X487.baloadBytes hx (j := (0 : Int32)) (v := (.int v474)) (own_eh e487 Ar493.1) (State.isArrayOf_alike hZ.alike Ar493.2.1) Ar493.2.2 hin493 hat493 (g := (mkF m 212 A486 [(.int (0 : Int32)), (.ref b475)])) rfl rfl (hb hby at_212) t k) ?_
            refine Go.st (S' := T487.setTop (mkF m 216 A486 [(.int (255 : Int32)), (.int v474)])) (fun t k => XS.sipush X487.here hx rfl (hb hby at_213) k) ?_
            refine Go.op (F := fun z => T487.setTop (mkF m 217 A486 [(.int z)])) (x := (v474 &&& (255 : Int32))) (fun t k => XS.iand X487.here hx rfl (hb hby at_216) rfl k) ?_
            intro v494 hv494
            let A495 : Array Slot := #[.val (.int p0), .val (.int p1), .val (.int p2), .val (.int p3), .val (.int p4), .val (.int p5), .val (.int v3), .val (.ref r21), .val (.int v25), .val (.ref s_Chat_Role_DV_DOMESTIC), .val (.int (2 : Int32)), .val (.int r318), .val (.ref b410), .val (.ref b425), .val (.ref b476), .val (.ref b475), .val (.int v494)]
            refine Go.st (S' := T487.setTop (mkF m 219 A495 [])) (fun t k => XS.istore X487.here hx rfl (hb hby at_217) rfl (l' := A495) rfl k) ?_
            refine Go.st (S' := T487.setTop (mkF m 221 A495 [(.int v494)])) (fun t k => XS.iload X487.here hx rfl (hb hby at_219) rfl k) ?_
            refine Go.st (S' := T487.setTop (mkF m 223 A495 [(.int (6 : Int32)), (.int v494)])) (fun t k => XS.bipush X487.here hx rfl (hb hby at_221) k) ?_
            refine Go.op (F := fun z => T487.setTop (mkF m 224 A495 [(.int z)])) (x := ((v494.toUInt32 >>> ((6 : Int32) &&& 31).toUInt32).toInt32)) (fun t k => XS.iushr X487.here hx rfl (hb hby at_223) rfl k) ?_
            intro v496 hv496
            refine Go.st (S' := T487.setTop (mkF m 226 A495 [(.int (2 : Int32)), (.int v496)])) (fun t k => XS.iload X487.here hx rfl (hb hby at_224) rfl k) ?_
            by_cases hc497 : (v496 = (2 : Int32))
            · refine Go.st (S' := T487.setTop (mkF m 231 A495 [])) (fun t k => XS.icmpYes X487.here hx rfl (pc0 := 226) (pc' := 231) rfl (hb hby at_226) rfl (teq hc497).1 (by decide) (by decide) k) ?_
              refine Go.st (S' := T487.setTop (mkF m 233 A495 [(.int v494)])) (fun t k => XS.iload X487.here hx rfl (hb hby at_231) rfl k) ?_
              refine Go.st (S' := T487.setTop (mkF m 235 A495 [(.int (63 : Int32)), (.int v494)])) (fun t k => XS.bipush X487.here hx rfl (hb hby at_233) k) ?_
              refine Go.op (F := fun z => T487.setTop (mkF m 236 A495 [(.int z)])) (x := (v494 &&& (63 : Int32))) (fun t k => XS.iand X487.here hx rfl (hb hby at_235) rfl k) ?_
              intro v498 hv498
              refine Go.st (S' := T487.setTop (mkF m 237 A495 [(.int p2), (.int v498)])) (fun t k => XS.iloadN X487.here hx rfl (hb hby at_236) rfl k) ?_
              refine Go.st (S' := T487.setTop (mkF m 239 A495 [(.int (63 : Int32)), (.int p2), (.int v498)])) (fun t k => XS.bipush X487.here hx rfl (hb hby at_237) k) ?_
              refine Go.op (F := fun z => T487.setTop (mkF m 240 A495 [(.int z), (.int v498)])) (x := (p2 &&& (63 : Int32))) (fun t k => XS.iand X487.here hx rfl (hb hby at_239) rfl k) ?_
              intro v499 hv499
              by_cases hc500 : (v498 = v499)
              · refine Go.st (S' := T487.setTop (mkF m 245 A495 [])) (fun t k => XS.icmpYes X487.here hx rfl (pc0 := 240) (pc' := 245) rfl (hb hby at_240) rfl (teq hc500).1 (by decide) (by decide) k) ?_
                refine Go.st (S' := T487.setTop (mkF m 247 A495 [(.int r318)])) (fun t k => XS.iload X487.here hx rfl (hb hby at_245) rfl k) ?_
                refine Go.st (S' := T487.setTop (mkF m 250 A495 [])) (fun t k => XS.ifNo X487.here hx rfl (hb hby at_247) rfl ((if0 _ _).trans (feq hc326).1) k) ?_
                refine Go.st (S' := T487.setTop (mkF m 252 A495 [(.ref b475)])) (fun t k => XS.aload X487.here hx rfl (hb hby at_250) rfl rfl k) ?_
                refine Go.st (S' := T487.setTop (mkF m 253 A495 [(.int (1 : Int32)), (.ref b475)])) (fun t k => XS.iconst X487.here hx rfl (hb hby at_252) k) ?_
                obtain ⟨cl501, Ar501, -, S501, N501_, H501, -⟩ := id f477
                have hin501 : ¬ ((1 : Int32) < 0 ∨ cl501.slots.size ≤ ((1 : Int32)).toNatClampNeg) := inb_of S501 ⟨by decide, by decide⟩
                have hat501 : cl501.slots[((1 : Int32)).toNatClampNeg]? = some (.int v419) := Has.at H501 hin501 rfl
                refine Go.st (S' := T487.setTop (mkF m 254 A495 [(.int v419)])) (fun t k => X487.baloadBytes hx (j := (1 : Int32)) (v := (.int v419)) (own_eh e487 Ar501.1) (State.isArrayOf_alike hZ.alike Ar501.2.1) Ar501.2.2 hin501 hat501 (g := (mkF m 253 A495 [(.int (1 : Int32)), (.ref b475)])) rfl rfl (hb hby at_253) t k) ?_
                refine Go.st (S' := T487.setTop (mkF m 255 A495 [(.int p3), (.int v419)])) (fun t k => XS.iloadN X487.here hx rfl (hb hby at_254) rfl k) ?_
                refine Go.op (F := fun z => T487.setTop (mkF m 256 A495 [(.int z), (.int v419)])) (x := p3.toInt8.toInt32) (fun t k => XS.i2b X487.here hx rfl (hb hby at_255) rfl k) ?_
                intro v502 hv502
                obtain rfl : v417 = v502 := hv417.trans hv502.symm
                by_cases hc503 : (v419 = v417)
                · refine Go.st (S' := T487.setTop (mkF m 259 A495 [])) (fun t k => XS.icmpNo X487.here hx rfl (hb hby at_256) rfl (teq hc503).2 k) ?_
                  refine Go.st (S' := T487.setTop (mkF m 261 A495 [(.ref b475)])) (fun t k => XS.aload X487.here hx rfl (hb hby at_259) rfl rfl k) ?_
                  refine Go.st (S' := T487.setTop (mkF m 262 A495 [(.int (2 : Int32)), (.ref b475)])) (fun t k => XS.iconst X487.here hx rfl (hb hby at_261) k) ?_
                  obtain ⟨cl504, Ar504, -, S504, N504_, H504, -⟩ := id f477
                  have hin504 : ¬ ((2 : Int32) < 0 ∨ cl504.slots.size ≤ ((2 : Int32)).toNatClampNeg) := inb_of S504 ⟨by decide, by decide⟩
                  have hat504 : cl504.slots[((2 : Int32)).toNatClampNeg]? = some (.int v423) := Has.at H504 hin504 rfl
                  refine Go.st (S' := T487.setTop (mkF m 263 A495 [(.int v423)])) (fun t k => X487.baloadBytes hx (j := (2 : Int32)) (v := (.int v423)) (own_eh e487 Ar504.1) (State.isArrayOf_alike hZ.alike Ar504.2.1) Ar504.2.2 hin504 hat504 (g := (mkF m 262 A495 [(.int (2 : Int32)), (.ref b475)])) rfl rfl (hb hby at_262) t k) ?_
                  refine Go.st (S' := T487.setTop (mkF m 265 A495 [(.int p4), (.int v423)])) (fun t k => XS.iload X487.here hx rfl (hb hby at_263) rfl k) ?_
                  refine Go.op (F := fun z => T487.setTop (mkF m 266 A495 [(.int z), (.int v423)])) (x := p4.toInt8.toInt32) (fun t k => XS.i2b X487.here hx rfl (hb hby at_265) rfl k) ?_
                  intro v505 hv505
                  obtain rfl : v421 = v505 := hv421.trans hv505.symm
                  by_cases hc506 : (v423 = v421)
                  · refine Go.st (S' := T487.setTop (mkF m 271 A495 [])) (fun t k => XS.icmpYes X487.here hx rfl (pc0 := 266) (pc' := 271) rfl (hb hby at_266) rfl (teq hc506).1 (by decide) (by decide) k) ?_
                    refine Go.st (S' := T487.setTop (mkF m 273 A495 [(.ref b410)])) (fun t k => XS.aload X487.here hx rfl (hb hby at_271) rfl rfl k) ?_
                    refine Go.st (S' := T487.setTop (mkF m 274 A495 [(.int (0 : Int32)), (.ref b410)])) (fun t k => XS.iconst X487.here hx rfl (hb hby at_273) k) ?_
                    obtain ⟨cl507, Ar507, -, S507, N507_, H507, -⟩ := id f490
                    have hin507 : ¬ ((0 : Int32) < 0 ∨ cl507.slots.size ≤ ((0 : Int32)).toNatClampNeg) := inb_of S507 ⟨by decide, by decide⟩
                    have hat507 : cl507.slots[((0 : Int32)).toNatClampNeg]? = some (.int v415) := Has.at H507 hin507 rfl
                    refine Go.st (S' := T487.setTop (mkF m 275 A495 [(.int v415)])) (fun t k => X487.baloadBytes hx (j := (0 : Int32)) (v := (.int v415)) (own_eh e487 Ar507.1) (State.isArrayOf_alike hZ.alike Ar507.2.1) Ar507.2.2 hin507 hat507 (g := (mkF m 274 A495 [(.int (0 : Int32)), (.ref b410)])) rfl rfl (hb hby at_274) t k) ?_
                    refine Go.st (S' := T487.setTop (mkF m 276 A495 [(.int p2), (.int v415)])) (fun t k => XS.iloadN X487.here hx rfl (hb hby at_275) rfl k) ?_
                    refine Go.op (F := fun z => T487.setTop (mkF m 277 A495 [(.int z), (.int v415)])) (x := p2.toInt8.toInt32) (fun t k => XS.i2b X487.here hx rfl (hb hby at_276) rfl k) ?_
                    intro v508 hv508
                    obtain rfl : v413 = v508 := hv413.trans hv508.symm
                    by_cases hc509 : (v415 = v413)
                    · refine Go.st (S' := T487.setTop (mkF m 282 A495 [])) (fun t k => XS.icmpYes X487.here hx rfl (pc0 := 277) (pc' := 282) rfl (hb hby at_277) rfl (teq hc509).1 (by decide) (by decide) k) ?_
                      refine Go.st (S' := T487.setTop (mkF m 284 A495 [(.int r318)])) (fun t k => XS.iload X487.here hx rfl (hb hby at_282) rfl k) ?_
                      refine Go.st (S' := T487.setTop (mkF m 287 A495 [])) (fun t k => XS.ifNo X487.here hx rfl (hb hby at_284) rfl ((if0 _ _).trans (feq hc326).1) k) ?_
                      refine Go.st (S' := T487.setTop (mkF m 289 A495 [(.ref b410)])) (fun t k => XS.aload X487.here hx rfl (hb hby at_287) rfl rfl k) ?_
                      refine Go.st (S' := T487.setTop (mkF m 290 A495 [(.int (1 : Int32)), (.ref b410)])) (fun t k => XS.iconst X487.here hx rfl (hb hby at_289) k) ?_
                      obtain ⟨cl510, Ar510, -, S510, N510_, H510, -⟩ := id f490
                      have hin510 : ¬ ((1 : Int32) < 0 ∨ cl510.slots.size ≤ ((1 : Int32)).toNatClampNeg) := inb_of S510 ⟨by decide, by decide⟩
                      have hat510 : cl510.slots[((1 : Int32)).toNatClampNeg]? = some (.int v419) := Has.at H510 hin510 rfl
                      refine Go.st (S' := T487.setTop (mkF m 291 A495 [(.int v419)])) (fun t k => X487.baloadBytes hx (j := (1 : Int32)) (v := (.int v419)) (own_eh e487 Ar510.1) (State.isArrayOf_alike hZ.alike Ar510.2.1) Ar510.2.2 hin510 hat510 (g := (mkF m 290 A495 [(.int (1 : Int32)), (.ref b410)])) rfl rfl (hb hby at_290) t k) ?_
                      refine Go.st (S' := T487.setTop (mkF m 292 A495 [(.int p3), (.int v419)])) (fun t k => XS.iloadN X487.here hx rfl (hb hby at_291) rfl k) ?_
                      refine Go.op (F := fun z => T487.setTop (mkF m 293 A495 [(.int z), (.int v419)])) (x := p3.toInt8.toInt32) (fun t k => XS.i2b X487.here hx rfl (hb hby at_292) rfl k) ?_
                      intro v511 hv511
                      obtain rfl : v417 = v511 := hv417.trans hv511.symm
                      refine Go.st (S' := T487.setTop (mkF m 296 A495 [])) (fun t k => XS.icmpNo X487.here hx rfl (hb hby at_293) rfl (teq hc503).2 k) ?_
                      refine Go.st (S' := T487.setTop (mkF m 298 A495 [(.ref b410)])) (fun t k => XS.aload X487.here hx rfl (hb hby at_296) rfl rfl k) ?_
                      refine Go.st (S' := T487.setTop (mkF m 299 A495 [(.int (2 : Int32)), (.ref b410)])) (fun t k => XS.iconst X487.here hx rfl (hb hby at_298) k) ?_
                      obtain ⟨cl512, Ar512, -, S512, N512_, H512, -⟩ := id f490
                      have hin512 : ¬ ((2 : Int32) < 0 ∨ cl512.slots.size ≤ ((2 : Int32)).toNatClampNeg) := inb_of S512 ⟨by decide, by decide⟩
                      have hat512 : cl512.slots[((2 : Int32)).toNatClampNeg]? = some (.int v423) := Has.at H512 hin512 rfl
                      refine Go.st (S' := T487.setTop (mkF m 300 A495 [(.int v423)])) (fun t k => X487.baloadBytes hx (j := (2 : Int32)) (v := (.int v423)) (own_eh e487 Ar512.1) (State.isArrayOf_alike hZ.alike Ar512.2.1) Ar512.2.2 hin512 hat512 (g := (mkF m 299 A495 [(.int (2 : Int32)), (.ref b410)])) rfl rfl (hb hby at_299) t k) ?_
                      refine Go.st (S' := T487.setTop (mkF m 302 A495 [(.int p4), (.int v423)])) (fun t k => XS.iload X487.here hx rfl (hb hby at_300) rfl k) ?_
                      refine Go.op (F := fun z => T487.setTop (mkF m 303 A495 [(.int z), (.int v423)])) (x := p4.toInt8.toInt32) (fun t k => XS.i2b X487.here hx rfl (hb hby at_302) rfl k) ?_
                      intro v513 hv513
                      obtain rfl : v421 = v513 := hv421.trans hv513.symm
                      refine Go.st (S' := T487.setTop (mkF m 308 A495 [])) (fun t k => XS.icmpYes X487.here hx rfl (pc0 := 303) (pc' := 308) rfl (hb hby at_303) rfl (teq hc506).1 (by decide) (by decide) k) ?_
                      refine Go.st (S' := T487.setTop (mkF m 309 A495 [(.int (1 : Int32))])) (fun t k => XS.iconst X487.here hx rfl (hb hby at_308) k) ?_
                      exact Go.ret X487 (v := some (.int (1 : Int32))) (fun h => by rw [Bd.returns] at h; cases h) Bd.notSynchronized (fun fs hr => retN X487 hx (t := .boolean) Bd.returns (by simp) (hb hby at_309) hr) (by decide) (by decide) ⟨rfl, N487_⟩
                    · exfalso
                      have rv413 := rng32 v413
                      have wv413 := c_i2b p2
                      rw [← hv413] at wv413
                      have rv415 := rng32 v415
                      have wv415 := c_i2b v413
                      rw [← hv415] at wv415
                      have rv471 := rng32 v471
                      have wv471 := c_mask v415 (63 : Int32) 6 (by decide) (by decide)
                      rw [← hv471] at wv471
                      have rv472 := rng32 v472
                      have wv472 := c_or' v471 (128 : Int32) 7 (by decide) 128 (by decide) (by decide)
                      rw [← hv472] at wv472
                      have rv473 := rng32 v473
                      have wv473 := c_i2b v472
                      rw [← hv473] at wv473
                      have rv474 := rng32 v474
                      have wv474 := c_i2b v473
                      rw [← hv474] at wv474
                      have rv494 := rng32 v494
                      have wv494 := c_mask v474 (255 : Int32) 8 (by decide) (by decide)
                      rw [← hv494] at wv494
                      have rv496 := rng32 v496
                      have wv496 := c_iushr v494 (6 : Int32) 6 (by decide) (by decide)
                      rw [← hv496] at wv496
                      have rv498 := rng32 v498
                      have wv498 := c_mask v494 (63 : Int32) 6 (by decide) (by decide)
                      rw [← hv498] at wv498
                      have rv499 := rng32 v499
                      have wv499 := c_mask p2 (63 : Int32) 6 (by decide) (by decide)
                      rw [← hv499] at wv499
                      have rp2 := rng32 p2
                      have lI2 : (2 : Int32).toInt = 2 := by decide
                      have lI6 : (6 : Int32).toInt = 6 := by decide
                      have lI63 : (63 : Int32).toInt = 63 := by decide
                      have lI128 : (128 : Int32).toInt = 128 := by decide
                      have lI255 : (255 : Int32).toInt = 255 := by decide
                      simp only [Int32.lt_iff_toInt_lt, Int64.lt_iff_toInt_lt, ← Int32.toInt_inj, ← Int64.toInt_inj] at hc497 hc500 hc509
                      omega
                  · exfalso
                    have rv421 := rng32 v421
                    have wv421 := c_i2b p4
                    rw [← hv421] at wv421
                    have rv423 := rng32 v423
                    have wv423 := c_i2b v421
                    rw [← hv423] at wv423
                    have rp4 := rng32 p4
                    simp only [Int32.lt_iff_toInt_lt, Int64.lt_iff_toInt_lt, ← Int32.toInt_inj, ← Int64.toInt_inj] at hc506
                    omega
                · exfalso
                  have rv417 := rng32 v417
                  have wv417 := c_i2b p3
                  rw [← hv417] at wv417
                  have rv419 := rng32 v419
                  have wv419 := c_i2b v417
                  rw [← hv419] at wv419
                  have rp3 := rng32 p3
                  simp only [Int32.lt_iff_toInt_lt, Int64.lt_iff_toInt_lt, ← Int32.toInt_inj, ← Int64.toInt_inj] at hc503
                  omega
              · exfalso
                have rv413 := rng32 v413
                have wv413 := c_i2b p2
                rw [← hv413] at wv413
                have rv415 := rng32 v415
                have wv415 := c_i2b v413
                rw [← hv415] at wv415
                have rv471 := rng32 v471
                have wv471 := c_mask v415 (63 : Int32) 6 (by decide) (by decide)
                rw [← hv471] at wv471
                have rv472 := rng32 v472
                have wv472 := c_or' v471 (128 : Int32) 7 (by decide) 128 (by decide) (by decide)
                rw [← hv472] at wv472
                have rv473 := rng32 v473
                have wv473 := c_i2b v472
                rw [← hv473] at wv473
                have rv474 := rng32 v474
                have wv474 := c_i2b v473
                rw [← hv474] at wv474
                have rv494 := rng32 v494
                have wv494 := c_mask v474 (255 : Int32) 8 (by decide) (by decide)
                rw [← hv494] at wv494
                have rv496 := rng32 v496
                have wv496 := c_iushr v494 (6 : Int32) 6 (by decide) (by decide)
                rw [← hv496] at wv496
                have rv498 := rng32 v498
                have wv498 := c_mask v494 (63 : Int32) 6 (by decide) (by decide)
                rw [← hv498] at wv498
                have rv499 := rng32 v499
                have wv499 := c_mask p2 (63 : Int32) 6 (by decide) (by decide)
                rw [← hv499] at wv499
                have rp2 := rng32 p2
                have lI2 : (2 : Int32).toInt = 2 := by decide
                have lI6 : (6 : Int32).toInt = 6 := by decide
                have lI63 : (63 : Int32).toInt = 63 := by decide
                have lI128 : (128 : Int32).toInt = 128 := by decide
                have lI255 : (255 : Int32).toInt = 255 := by decide
                simp only [Int32.lt_iff_toInt_lt, Int64.lt_iff_toInt_lt, ← Int32.toInt_inj, ← Int64.toInt_inj] at hc497 hc500
                omega
            · exfalso
              have rv413 := rng32 v413
              have wv413 := c_i2b p2
              rw [← hv413] at wv413
              have rv415 := rng32 v415
              have wv415 := c_i2b v413
              rw [← hv415] at wv415
              have rv471 := rng32 v471
              have wv471 := c_mask v415 (63 : Int32) 6 (by decide) (by decide)
              rw [← hv471] at wv471
              have rv472 := rng32 v472
              have wv472 := c_or' v471 (128 : Int32) 7 (by decide) 128 (by decide) (by decide)
              rw [← hv472] at wv472
              have rv473 := rng32 v473
              have wv473 := c_i2b v472
              rw [← hv473] at wv473
              have rv474 := rng32 v474
              have wv474 := c_i2b v473
              rw [← hv474] at wv474
              have rv494 := rng32 v494
              have wv494 := c_mask v474 (255 : Int32) 8 (by decide) (by decide)
              rw [← hv494] at wv494
              have rv496 := rng32 v496
              have wv496 := c_iushr v494 (6 : Int32) 6 (by decide) (by decide)
              rw [← hv496] at wv496
              have rp2 := rng32 p2
              have lI2 : (2 : Int32).toInt = 2 := by decide
              have lI6 : (6 : Int32).toInt = 6 := by decide
              have lI63 : (63 : Int32).toInt = 63 := by decide
              have lI128 : (128 : Int32).toInt = 128 := by decide
              have lI255 : (255 : Int32).toInt = 255 := by decide
              simp only [Int32.lt_iff_toInt_lt, Int64.lt_iff_toInt_lt, ← Int32.toInt_inj, ← Int64.toInt_inj] at hc497
              omega
        · intro J514
          by_cases hc515 : (v315 = (0 : Int32))
          · refine Go.st (S' := T312.setTop (mkF m 114 A314 [])) (fun t k => XS.ifYes X312.here hx rfl (pc0 := 107) (pc' := 114) rfl (hb hby at_107) rfl ((if0 _ _).trans (teq hc515).1) (by decide) (by decide) k) ?_
            refine Go.st (S' := T312.setTop (mkF m 115 A314 [(.int (0 : Int32))])) (fun t k => XS.iconst X312.here hx rfl (hb hby at_114) k) ?_
            exact J514 ((0 : Int32)) (Or.inl ⟨hc515, rfl⟩)
          · refine Go.st (S' := T312.setTop (mkF m 110 A314 [])) (fun t k => XS.ifNo X312.here hx rfl (hb hby at_107) rfl ((if0 _ _).trans (feq hc515).1) k) ?_
            refine Go.st (S' := T312.setTop (mkF m 111 A314 [(.int (1 : Int32))])) (fun t k => XS.iconst X312.here hx rfl (hb hby at_110) k) ?_
            refine Go.st (S' := T312.setTop (mkF m 115 A314 [(.int (1 : Int32))])) (fun t k => XS.goto X312.here hx rfl (pc0 := 111) (pc' := 115) rfl (hb hby at_111) (by decide) (by decide) k) ?_
            exact J514 ((1 : Int32)) (Or.inr ⟨hc515, rfl⟩)
      · refine Go.st (S' := T23.setTop (mkF m 78 A26 [])) (fun t k => XS.icmpYes X23.here hx rfl (pc0 := 64) (pc' := 78) rfl (hb hby at_64) rfl (feq hc311).2 (by decide) (by decide) k) ?_
        refine Go.st (S' := T23.setTop (mkF m 80 A26 [(.int v25)])) (fun t k => XS.iload X23.here hx rfl (hb hby at_78) rfl k) ?_
        refine Go.st (S' := T23.setTop (mkF m 81 A26 [(.int (2 : Int32)), (.int v25)])) (fun t k => XS.iconst X23.here hx rfl (hb hby at_80) k) ?_
        by_cases hc530 : (v25 = (2 : Int32))
        · refine Go.st (S' := T23.setTop (mkF m 84 A26 [])) (fun t k => XS.icmpNo X23.here hx rfl (hb hby at_81) rfl (teq hc530).2 k) ?_
          obtain ⟨T531, X531, e531, st531⟩ := getS X23 hx hZ hown (hw _ (List.mem_of_getElem? (i := 56) rfl)) Via.refl e23 S_s_Chat_Role_DV_FOREIGN (host := "") (g := (mkF m 84 A26 [])) rfl (hb hby at_84)
          refine Go.st (S' := T531.setTop (mkF m 87 A26 [(.ref s_Chat_Role_DV_FOREIGN)])) st531 ?_
          let A532 : Array Slot := #[.val (.int p0), .val (.int p1), .val (.int p2), .val (.int p3), .val (.int p4), .val (.int p5), .val (.int v3), .val (.ref r21), .val (.int v25), .val (.ref s_Chat_Role_DV_FOREIGN), .unset, .unset, .unset, .unset, .unset, .unset, .unset]
          refine Go.st (S' := T531.setTop (mkF m 89 A532 [])) (fun t k => XS.astore X531.here hx rfl (hb hby at_87) rfl rfl (l' := A532) rfl k) ?_
          refine Go.st (S' := T531.setTop (mkF m 90 A532 [(.int (1 : Int32))])) (fun t k => XS.iconst X531.here hx rfl (hb hby at_89) k) ?_
          let A533 : Array Slot := #[.val (.int p0), .val (.int p1), .val (.int p2), .val (.int p3), .val (.int p4), .val (.int p5), .val (.int v3), .val (.ref r21), .val (.int v25), .val (.ref s_Chat_Role_DV_FOREIGN), .val (.int (1 : Int32)), .unset, .unset, .unset, .unset, .unset, .unset]
          refine Go.st (S' := T531.setTop (mkF m 92 A533 [])) (fun t k => XS.istore X531.here hx rfl (hb hby at_90) rfl (l' := A533) rfl k) ?_
          refine Go.st (S' := T531.setTop (mkF m 103 A533 [])) (fun t k => XS.goto X531.here hx rfl (pc0 := 92) (pc' := 103) rfl (hb hby at_92) (by decide) (by decide) k) ?_
          refine Go.st (S' := T531.setTop (mkF m 105 A533 [(.int p5)])) (fun t k => XS.iload X531.here hx rfl (hb hby at_103) rfl k) ?_
          refine Go.st (S' := T531.setTop (mkF m 106 A533 [(.int (1 : Int32)), (.int p5)])) (fun t k => XS.iconst X531.here hx rfl (hb hby at_105) k) ?_
          refine Go.op (F := fun z => T531.setTop (mkF m 107 A533 [(.int z)])) (x := (p5 &&& (1 : Int32))) (fun t k => XS.iand X531.here hx rfl (hb hby at_106) rfl k) ?_
          intro v534 hv534
          refine Go.join (α := Int32) (fun r => (((v534 = (0 : Int32)) ∧ (r = (0 : Int32))) ∨ ((¬ (v534 = (0 : Int32))) ∧ (r = (1 : Int32))))) (fun r => T531.setTop (mkF m 115 A533 [(.int r)])) ?_ ?_
          · intro r537 hc538
            let A539 : Array Slot := #[.val (.int p0), .val (.int p1), .val (.int p2), .val (.int p3), .val (.int p4), .val (.int p5), .val (.int v3), .val (.ref r21), .val (.int v25), .val (.ref s_Chat_Role_DV_FOREIGN), .val (.int (1 : Int32)), .val (.int r537), .unset, .unset, .unset, .unset, .unset]
            refine Go.st (S' := T531.setTop (mkF m 117 A539 [])) (fun t k => XS.istore X531.here hx rfl (hb hby at_115) rfl (l' := A539) rfl k) ?_
            refine Go.st (S' := T531.setTop (mkF m 119 A539 [(.int r537)])) (fun t k => XS.iload X531.here hx rfl (hb hby at_117) rfl k) ?_
            by_cases hc545 : (r537 = (0 : Int32))
            · refine Go.st (S' := T531.setTop (mkF m 128 A539 [])) (fun t k => XS.ifYes X531.here hx rfl (pc0 := 119) (pc' := 128) rfl (hb hby at_119) rfl ((if0 _ _).trans (teq hc545).1) (by decide) (by decide) k) ?_
              refine Go.st (S' := T531.setTop (mkF m 129 A539 [(.int (1 : Int32))])) (fun t k => XS.iconst X531.here hx rfl (hb hby at_128) k) ?_
              obtain ⟨T546, h546, k546, X546, e546, E546, A546, B546, st546⟩ := newPE X531 hx hZ (hw _ (List.mem_of_getElem? (i := 7) rfl)) e531 (g := (mkF m 129 A539 [(.int (1 : Int32))])) rfl (hb hby at_129) rfl (by decide) (cap := 1) (by decide) (by decide) (by decide) (by decide) (ad := "[B") (by decide)
              obtain ⟨b546, gg546⟩ : ∃ z, z = h0.size := ⟨_, rfl⟩
              rw [← gg546] at A546 B546 st546
              have g_b546 : n0 ≤ b546 := Nat.le_trans Z0 (Nat.le_of_eq gg546.symm)
              have sz_b546 : h0.size ≤ b546 := Nat.le_trans (Keep.refl h0 []).1 (Nat.le_of_eq gg546.symm)
              have Z547 : n0 ≤ h546.size := Nat.le_trans Z0 E546.1
              have K547 : Keep h0 h546 [] := (Keep.refl h0 []).ext E546
              have V546 : Arv Z h546 b546 k546 .byte (1 : Int32) [(.int (0 : Int32))] (.int (0 : Int32)) := (Arv.new A546 (by decide)).pad (pad_rep [] (.int (0 : Int32)) 1)
              refine Go.st (S' := T546.setTop (mkF m 131 A539 [(.ref b546)])) st546 ?_
              let A548 : Array Slot := #[.val (.int p0), .val (.int p1), .val (.int p2), .val (.int p3), .val (.int p4), .val (.int p5), .val (.int v3), .val (.ref r21), .val (.int v25), .val (.ref s_Chat_Role_DV_FOREIGN), .val (.int (1 : Int32)), .val (.int r537), .val (.ref b546), .unset, .unset, .unset, .unset]
              refine Go.st (S' := T546.setTop (mkF m 133 A548 [])) (fun t k => XS.astore X546.here hx rfl (hb hby at_131) rfl rfl (l' := A548) rfl k) ?_
              refine Go.st (S' := T546.setTop (mkF m 135 A548 [(.ref b546)])) (fun t k => XS.aload X546.here hx rfl (hb hby at_133) rfl rfl k) ?_
              refine Go.st (S' := T546.setTop (mkF m 136 A548 [(.int (0 : Int32)), (.ref b546)])) (fun t k => XS.iconst X546.here hx rfl (hb hby at_135) k) ?_
              refine Go.st (S' := T546.setTop (mkF m 137 A548 [(.int p2), (.int (0 : Int32)), (.ref b546)])) (fun t k => XS.iloadN X546.here hx rfl (hb hby at_136) rfl k) ?_
              refine Go.op (F := fun z => T546.setTop (mkF m 138 A548 [(.int z), (.int (0 : Int32)), (.ref b546)])) (x := p2.toInt8.toInt32) (fun t k => XS.i2b X546.here hx rfl (hb hby at_137) rfl k) ?_
              intro v549 hv549
              obtain ⟨cl550, Ar550, q550, S550, N550_, H550, G550⟩ := id V546
              have hin550 : ¬ ((0 : Int32) < 0 ∨ cl550.slots.size ≤ ((0 : Int32)).toNatClampNeg) := inb_of S550 ⟨by decide, by decide⟩
              obtain ⟨v551, hv551⟩ : ∃ z, z = v549.toInt8.toInt32 := ⟨_, rfl⟩
              obtain ⟨T550, h550, X550, e550, W550, st550⟩ := stB X546 hx hZ e546 Ar550 (j := (0 : Int32)) hin550 (g := (mkF m 138 A548 [(.int v549), (.int (0 : Int32)), (.ref b546)])) rfl rfl (hb hby at_138)
              have W550 : Wr h546 h550 b546 ((0 : Int32)).toNatClampNeg (.int v551) := by rw [hv551]; exact W550
              have V550 : Arv Z h550 b546 k546 .byte (1 : Int32) [(.int v551)] (.int (0 : Int32)) := Arv.set Ar550 q550 S550 N550_ H550 G550 (by rw [hv551]; exact fits_nar_byte _) W550 0 rfl (Nat.le_of_ble_eq_true rfl)
              have N550 := Fr.snoc X550 N0 g_b546
              have Z552 : n0 ≤ h550.size := Nat.le_trans Z547 (Keep.of_wr W550).1
              have K552 : Keep h0 h550 [] := K547.wr W550 (Or.inr sz_b546)
              refine Go.st (S' := T550.setTop (mkF m 139 A548 [])) st550 ?_
              refine Go.st (S' := T550.setTop (mkF m 141 A548 [(.int r537)])) (fun t k => XS.iload X550.here hx rfl (hb hby at_139) rfl k) ?_
              refine Go.st (S' := T550.setTop (mkF m 157 A548 [])) (fun t k => XS.ifYes X550.here hx rfl (pc0 := 141) (pc' := 157) rfl (hb hby at_141) rfl ((if0 _ _).trans (teq hc545).1) (by decide) (by decide) k) ?_
              obtain ⟨T553, h553, X553, e553, E553, A553, D553, -, st553⟩ := newO X550 hx hZ hown (hw _ (List.mem_of_getElem? (i := 8) rfl)) (hw _ (List.mem_of_getElem? (i := 9) rfl)) (hw _ (List.mem_of_getElem? (i := 10) rfl)) e550 (g := (mkF m 157 A548 [])) rfl (hb hby at_157) (by decide) (by decide)
              obtain ⟨b553, gg553⟩ : ∃ z, z = h550.size := ⟨_, rfl⟩
              rw [← gg553] at A553 D553 st553
              have g_b553 : n0 ≤ b553 := Nat.le_trans Z552 (Nat.le_of_eq gg553.symm)
              have sz_b553 : h0.size ≤ b553 := Nat.le_trans K552.1 (Nat.le_of_eq gg553.symm)
              have f554 := ((B546).wr W550)
              have lt_b546_b553 : b546 < b553 := Nat.lt_of_lt_of_le (f554).lt (Nat.le_of_eq gg553.symm)
              have Z555 : n0 ≤ h553.size := Nat.le_trans Z552 E553.1
              have K555 : Keep h0 h553 [] := K552.ext E553
              have Fb553_template : Fld Z h553 b553 "com/example/consulate/consulate/cvc/Chat" "template" "Lcom/example/consulate/consulate/cvc/Chat$Template;" .null := D553 (Or.inr (hw _ (List.mem_of_getElem? (i := 23) rfl))) (ty := (.object "com/example/consulate/consulate/cvc/Chat$Template")) (by decide)
              have Fb553_data : Fld Z h553 b553 "com/example/consulate/consulate/cvc/Chat" "data" "[B" .null := D553 (Or.inr (hw _ (List.mem_of_getElem? (i := 25) rfl))) (ty := (.array .byte)) (by decide)
              refine Go.st (S' := T553.setTop (mkF m 160 A548 [(.ref b553)])) st553 ?_
              refine Go.st (S' := T553.setTop (mkF m 161 A548 [(.ref b553), (.ref b553)])) (fun t k => XS.dup X553.here hx rfl (hb hby at_160) rfl rfl k) ?_
              refine Go.st (S' := T553.setTop (mkF m 163 A548 [(.ref r21), (.ref b553), (.ref b553)])) (fun t k => XS.aload X553.here hx rfl (hb hby at_161) rfl rfl k) ?_
              refine Go.st (S' := T553.setTop (mkF m 165 A548 [(.ref b546), (.ref r21), (.ref b553), (.ref b553)])) (fun t k => XS.aload X553.here hx rfl (hb hby at_163) rfl rfl k) ?_
              have f556 := ((V550).ext E553)
              obtain ⟨r557, T557, L557, X557, hQ557, st557⟩ := own_callI (W := 1) (a := b553) X553 hx hZ e553 hown (y := (⟨"com/example/consulate/consulate/cvc/Chat", "<init>", "(Lcom/example/consulate/consulate/cvc/Chat$Template;[B)V"⟩ : MethodName)) rfl (hw _ (List.mem_of_getElem? (i := 11) rfl)) (hw _ (List.mem_of_getElem? (i := 12) rfl)) (hw _ (List.mem_of_getElem? (i := 10) rfl)) (hw _ (List.mem_of_getElem? (i := 13) rfl)) (by decide) (rm2 l Z a0 hw [] b553 r21 b546 k546 v551 (.null) (.null) h553 n0 Z555 (f556) (A553) (Fb553_template) (g_b553) (Fb553_data)) (by decide) (by decide) (by decide) (by decide) (g := (mkF m 165 A548 [(.ref b546), (.ref r21), (.ref b553), (.ref b553)])) rfl (by rw [hml]; rfl) (argsL := [(.ref r21), (.ref b546)]) (rest := [(.ref b553)]) rfl (lenOf pd_1 rfl) rfl (by show 2 * 0 + _ ≤ _; exact Nat.le_of_eq rfl) (hb hby at_165)
              obtain ⟨rfl, N557, K557_, f558, f559, f560⟩ := hQ557
              have N557_ := Fr.app N550 N557
              have Z561 : n0 ≤ T557.heap.size := Nat.le_trans Z555 K557_.1
              have K561 : Keep h0 T557.heap [] := K555.trans K557_ (allS (Or.inr sz_b553) all0)
              refine Go.st (S' := T557.setTop (mkF m 168 A548 [(.ref b553)])) st557 ?_
              let A562 : Array Slot := #[.val (.int p0), .val (.int p1), .val (.int p2), .val (.int p3), .val (.int p4), .val (.int p5), .val (.int v3), .val (.ref r21), .val (.int v25), .val (.ref s_Chat_Role_DV_FOREIGN), .val (.int (1 : Int32)), .val (.int r537), .val (.ref b546), .val (.ref b553), .unset, .unset, .unset]
              refine Go.st (S' := T557.setTop (mkF m 170 A562 [])) (fun t k => XS.astore X557.here hx rfl (hb hby at_168) rfl rfl (l' := A562) rfl k) ?_
              refine Go.st (S' := T557.setTop (mkF m 172 A562 [(.ref b553)])) (fun t k => XS.aload X557.here hx rfl (hb hby at_170) rfl rfl k) ?_
              refine Go.st (S' := T557.setTop (mkF m 174 A562 [(.ref s_Chat_Role_DV_FOREIGN), (.ref b553)])) (fun t k => XS.aload X557.here hx rfl (hb hby at_172) rfl rfl k) ?_
              have f592 := ((f556).keep K557_ (ninS (Nat.ne_of_lt lt_b546_b553) nin0))
              have f593 := ((((f554).ext E553)).keep K557_)
              have f594 := ((((((((F_s_Chat_Role_DV_FOREIGN_bits).ext E546)).other W550 (Or.inl (Nat.ne_of_lt (Nat.lt_of_lt_of_le (F_s_Chat_Role_DV_FOREIGN_bits).lt sz_b546))))).ext E553)).keep K557_ (ninS (Nat.ne_of_lt (Nat.lt_of_lt_of_le (F_s_Chat_Role_DV_FOREIGN_bits).lt sz_b553)) nin0))
              obtain ⟨r595, T595, L595, X595, hQ595, st595⟩ := own_callV (W := 0) (a := b553) (C := "com/example/consulate/consulate/cvc/Chat") X557 hx hZ rfl hown (y := (⟨"com/example/consulate/consulate/cvc/Chat", "withRole", "(Lcom/example/consulate/consulate/cvc/Chat$Role;)Lcom/example/consulate/consulate/cvc/Chat;"⟩ : MethodName)) (z := (⟨"com/example/consulate/consulate/cvc/Chat", "withRole", "(Lcom/example/consulate/consulate/cvc/Chat$Role;)Lcom/example/consulate/consulate/cvc/Chat;"⟩ : MethodName)) (hw _ (List.mem_of_getElem? (i := 26) rfl)) (hw _ (List.mem_of_getElem? (i := 27) rfl)) (notFace_of_selects (args := #[]) (mvT hZ (hw _ (List.mem_of_getElem? (i := 29) rfl)))) (hw _ (List.mem_of_getElem? (i := 29) rfl)) (hw _ (List.mem_of_getElem? (i := 28) rfl)) (hw _ (List.mem_of_getElem? (i := 10) rfl)) (hw _ (List.mem_of_getElem? (i := 30) rfl)) (by decide) (f558) (rm10 l Z a0 hw [] b553 s_Chat_Role_DV_FOREIGN b546 k546 v551 r21 T557.heap n0 Z561 (f560) (f592) (f593) (f594) (f559)) (by decide) (by decide) (by decide) (by decide) (g := (mkF m 174 A562 [(.ref s_Chat_Role_DV_FOREIGN), (.ref b553)])) rfl (by rw [hml]; rfl) (argsL := [(.ref s_Chat_Role_DV_FOREIGN)]) (rest := []) rfl (lenOf pd_2 rfl) rfl (by show 2 * 0 + _ ≤ _; exact Nat.le_of_eq rfl) (hb hby at_174)
              obtain ⟨v596, v597, v598, v599, b600, b601, hv596, hv597, hv598, hv599, rfl, N595, K595_, sz_b600_, sz_b601_, f602, f603, f604, f605, f606, hlt607⟩ := hQ595
              have N595_ := Fr.app N557_ N595
              have g_b600 : n0 ≤ b600 := Nat.le_trans Z561 sz_b600_
              have sz_b600 : h0.size ≤ b600 := Nat.le_trans K561.1 sz_b600_
              have lt_b546_b600 : b546 < b600 := Nat.lt_of_lt_of_le (f593).lt sz_b600_
              have lt_b553_b600 : b553 < b600 := Nat.lt_of_lt_of_le (f558).lt sz_b600_
              have g_b601 : n0 ≤ b601 := Nat.le_trans Z561 sz_b601_
              have sz_b601 : h0.size ≤ b601 := Nat.le_trans K561.1 sz_b601_
              have lt_b546_b601 : b546 < b601 := Nat.lt_of_lt_of_le (f593).lt sz_b601_
              have lt_b553_b601 : b553 < b601 := Nat.lt_of_lt_of_le (f558).lt sz_b601_
              have Z608 : n0 ≤ T595.heap.size := Nat.le_trans Z561 K595_.1
              have K608 : Keep h0 T595.heap [] := K561.trans K595_ all0
              refine Go.st (S' := T595.setTop (mkF m 177 A562 [(.ref b601)])) st595 ?_
              let A609 : Array Slot := #[.val (.int p0), .val (.int p1), .val (.int p2), .val (.int p3), .val (.int p4), .val (.int p5), .val (.int v3), .val (.ref r21), .val (.int v25), .val (.ref s_Chat_Role_DV_FOREIGN), .val (.int (1 : Int32)), .val (.int r537), .val (.ref b546), .val (.ref b553), .val (.ref b601), .unset, .unset]
              refine Go.st (S' := T595.setTop (mkF m 179 A609 [])) (fun t k => XS.astore X595.here hx rfl (hb hby at_177) rfl rfl (l' := A609) rfl k) ?_
              refine Go.st (S' := T595.setTop (mkF m 181 A609 [(.ref b601)])) (fun t k => XS.aload X595.here hx rfl (hb hby at_179) rfl rfl k) ?_
              obtain ⟨r610, T610, L610, X610, hQ610, st610⟩ := own_callV (W := 0) (a := b601) (C := "com/example/consulate/consulate/cvc/Chat") X595 hx hZ rfl hown (y := (⟨"com/example/consulate/consulate/cvc/Chat", "data", "()[B"⟩ : MethodName)) (z := (⟨"com/example/consulate/consulate/cvc/Chat", "data", "()[B"⟩ : MethodName)) (hw _ (List.mem_of_getElem? (i := 44) rfl)) (hw _ (List.mem_of_getElem? (i := 45) rfl)) (notFace_of_selects (args := #[]) (mvT hZ (hw _ (List.mem_of_getElem? (i := 47) rfl)))) (hw _ (List.mem_of_getElem? (i := 47) rfl)) (hw _ (List.mem_of_getElem? (i := 46) rfl)) (hw _ (List.mem_of_getElem? (i := 10) rfl)) (hw _ (List.mem_of_getElem? (i := 48) rfl)) (by decide) (f604) (rm4 l Z a0 hw [] b601 b600 T595.heap n0 Z608 (f606)) (by decide) (by decide) (by decide) (by decide) (g := (mkF m 181 A609 [(.ref b601)])) rfl (by rw [hml]; rfl) (argsL := []) (rest := []) rfl (lenOf pd_3 rfl) rfl (by show 2 * 0 + _ ≤ _; exact Nat.le_of_eq rfl) (hb hby at_181)
              obtain ⟨rfl, N610, e610⟩ := hQ610
              have N610_ := Fr.app N595_ N610
              refine Go.st (S' := T610.setTop (mkF m 184 A609 [(.ref b600)])) st610 ?_
              let A611 : Array Slot := #[.val (.int p0), .val (.int p1), .val (.int p2), .val (.int p3), .val (.int p4), .val (.int p5), .val (.int v3), .val (.ref r21), .val (.int v25), .val (.ref s_Chat_Role_DV_FOREIGN), .val (.int (1 : Int32)), .val (.int r537), .val (.ref b546), .val (.ref b553), .val (.ref b601), .val (.ref b600), .unset]
              refine Go.st (S' := T610.setTop (mkF m 186 A611 [])) (fun t k => XS.astore X610.here hx rfl (hb hby at_184) rfl rfl (l' := A611) rfl k) ?_
              refine Go.st (S' := T610.setTop (mkF m 188 A611 [(.ref b601)])) (fun t k => XS.aload X610.here hx rfl (hb hby at_186) rfl rfl k) ?_
              obtain ⟨r612, T612, L612, X612, hQ612, st612⟩ := own_callV (W := 0) (a := b601) (C := "com/example/consulate/consulate/cvc/Chat") X610 hx hZ e610 hown (y := (⟨"com/example/consulate/consulate/cvc/Chat", "template", "()Lcom/example/consulate/consulate/cvc/Chat$Template;"⟩ : MethodName)) (z := (⟨"com/example/consulate/consulate/cvc/Chat", "template", "()Lcom/example/consulate/consulate/cvc/Chat$Template;"⟩ : MethodName)) (hw _ (List.mem_of_getElem? (i := 49) rfl)) (hw _ (List.mem_of_getElem? (i := 50) rfl)) (notFace_of_selects (args := #[]) (mvT hZ (hw _ (List.mem_of_getElem? (i := 52) rfl)))) (hw _ (List.mem_of_getElem? (i := 52) rfl)) (hw _ (List.mem_of_getElem? (i := 51) rfl)) (hw _ (List.mem_of_getElem? (i := 10) rfl)) (hw _ (List.mem_of_getElem? (i := 53) rfl)) (by decide) (f604) (rm5 l Z a0 hw [] b601 r21 T595.heap n0 Z608 (f605)) (by decide) (by decide) (by decide) (by decide) (g := (mkF m 188 A611 [(.ref b601)])) rfl (by rw [hml]; rfl) (argsL := []) (rest := []) rfl (lenOf pd_4 rfl) rfl (by show 2 * 0 + _ ≤ _; exact Nat.le_of_eq rfl) (hb hby at_188)
              obtain ⟨rfl, N612, e612⟩ := hQ612
              have N612_ := Fr.app N610_ N612
              refine Go.st (S' := T612.setTop (mkF m 191 A611 [(.ref r21)])) st612 ?_
              refine Go.st (S' := T612.setTop (mkF m 193 A611 [(.ref r21), (.ref r21)])) (fun t k => XS.aload X612.here hx rfl (hb hby at_191) rfl rfl k) ?_
              refine Go.st (S' := T612.setTop (mkF m 198 A611 [])) (fun t k => acmp X612 hx rfl rfl rfl (pc0 := 193) (pc' := 198) (same := true) rfl (hb hby at_193) rfl (by simp) (by decide) (by decide) k) ?_
              refine Go.st (S' := T612.setTop (mkF m 200 A611 [(.ref b600)])) (fun t k => XS.aload X612.here hx rfl (hb hby at_198) rfl rfl k) ?_
              obtain ⟨cl613, Ar613, -, S613, N613_, -, -⟩ := id f602
              refine Go.op (F := fun z => T612.setTop (mkF m 201 A611 [(.int z)])) (x := cl613.slots.size.toInt32) (fun t k => X612.arraylength hx (own_eh e612 Ar613.1) (State.isArrayOf_alike hZ.alike Ar613.2.1) (g := (mkF m 200 A611 [(.ref b600)])) rfl rfl (hb hby at_200) t k) ?_
              intro v614 hv614
              obtain rfl : (1 : Int32) = v614 := (hv614.trans (len_of S613 N613_)).symm
              refine Go.st (S' := T612.setTop (mkF m 203 A611 [(.ref b546), (.int (1 : Int32))])) (fun t k => XS.aload X612.here hx rfl (hb hby at_201) rfl rfl k) ?_
              have f615 := ((f592).keep K595_ nin0)
              obtain ⟨cl616, Ar616, -, S616, N616_, -, -⟩ := id f615
              refine Go.op (F := fun z => T612.setTop (mkF m 204 A611 [(.int z), (.int (1 : Int32))])) (x := cl616.slots.size.toInt32) (fun t k => X612.arraylength hx (own_eh e612 Ar616.1) (State.isArrayOf_alike hZ.alike Ar616.2.1) (g := (mkF m 203 A611 [(.ref b546), (.int (1 : Int32))])) rfl rfl (hb hby at_203) t k) ?_
              intro v617 hv617
              obtain rfl : (1 : Int32) = v617 := (hv617.trans (len_of S616 N616_)).symm
              refine Go.st (S' := T612.setTop (mkF m 209 A611 [])) (fun t k => XS.icmpYes X612.here hx rfl (pc0 := 204) (pc' := 209) rfl (hb hby at_204) rfl (teq (by decide : ((1 : Int32) = (1 : Int32)))).1 (by decide) (by decide) k) ?_
              refine Go.st (S' := T612.setTop (mkF m 211 A611 [(.ref b600)])) (fun t k => XS.aload X612.here hx rfl (hb hby at_209) rfl rfl k) ?_
              refine Go.st (S' := T612.setTop (mkF m 212 A611 [(.int (0 : Int32)), (.ref b600)])) (fun t k => XS.iconst X612.here hx rfl (hb hby at_211) k) ?_
              obtain ⟨cl618, Ar618, -, S618, N618_, H618, -⟩ := id f602
              have hin618 : ¬ ((0 : Int32) < 0 ∨ cl618.slots.size ≤ ((0 : Int32)).toNatClampNeg) := inb_of S618 ⟨by decide, by decide⟩
              have hat618 : cl618.slots[((0 : Int32)).toNatClampNeg]? = some (.int v599) := Has.at H618 hin618 rfl
              refine Go.st (S' := T612.setTop (mkF m 213 A611 [(.int v599)])) (fun t k => X612.baloadBytes hx (j := (0 : Int32)) (v := (.int v599)) (own_eh e612 Ar618.1) (State.isArrayOf_alike hZ.alike Ar618.2.1) Ar618.2.2 hin618 hat618 (g := (mkF m 212 A611 [(.int (0 : Int32)), (.ref b600)])) rfl rfl (hb hby at_212) t k) ?_
              refine Go.st (S' := T612.setTop (mkF m 216 A611 [(.int (255 : Int32)), (.int v599)])) (fun t k => XS.sipush X612.here hx rfl (hb hby at_213) k) ?_
              refine Go.op (F := fun z => T612.setTop (mkF m 217 A611 [(.int z)])) (x := (v599 &&& (255 : Int32))) (fun t k => XS.iand X612.here hx rfl (hb hby at_216) rfl k) ?_
              intro v619 hv619
              let A620 : Array Slot := #[.val (.int p0), .val (.int p1), .val (.int p2), .val (.int p3), .val (.int p4), .val (.int p5), .val (.int v3), .val (.ref r21), .val (.int v25), .val (.ref s_Chat_Role_DV_FOREIGN), .val (.int (1 : Int32)), .val (.int r537), .val (.ref b546), .val (.ref b553), .val (.ref b601), .val (.ref b600), .val (.int v619)]
              refine Go.st (S' := T612.setTop (mkF m 219 A620 [])) (fun t k => XS.istore X612.here hx rfl (hb hby at_217) rfl (l' := A620) rfl k) ?_
              refine Go.st (S' := T612.setTop (mkF m 221 A620 [(.int v619)])) (fun t k => XS.iload X612.here hx rfl (hb hby at_219) rfl k) ?_
              refine Go.st (S' := T612.setTop (mkF m 223 A620 [(.int (6 : Int32)), (.int v619)])) (fun t k => XS.bipush X612.here hx rfl (hb hby at_221) k) ?_
              refine Go.op (F := fun z => T612.setTop (mkF m 224 A620 [(.int z)])) (x := ((v619.toUInt32 >>> ((6 : Int32) &&& 31).toUInt32).toInt32)) (fun t k => XS.iushr X612.here hx rfl (hb hby at_223) rfl k) ?_
              intro v621 hv621
              refine Go.st (S' := T612.setTop (mkF m 226 A620 [(.int (1 : Int32)), (.int v621)])) (fun t k => XS.iload X612.here hx rfl (hb hby at_224) rfl k) ?_
              by_cases hc622 : (v621 = (1 : Int32))
              · refine Go.st (S' := T612.setTop (mkF m 231 A620 [])) (fun t k => XS.icmpYes X612.here hx rfl (pc0 := 226) (pc' := 231) rfl (hb hby at_226) rfl (teq hc622).1 (by decide) (by decide) k) ?_
                refine Go.st (S' := T612.setTop (mkF m 233 A620 [(.int v619)])) (fun t k => XS.iload X612.here hx rfl (hb hby at_231) rfl k) ?_
                refine Go.st (S' := T612.setTop (mkF m 235 A620 [(.int (63 : Int32)), (.int v619)])) (fun t k => XS.bipush X612.here hx rfl (hb hby at_233) k) ?_
                refine Go.op (F := fun z => T612.setTop (mkF m 236 A620 [(.int z)])) (x := (v619 &&& (63 : Int32))) (fun t k => XS.iand X612.here hx rfl (hb hby at_235) rfl k) ?_
                intro v623 hv623
                refine Go.st (S' := T612.setTop (mkF m 237 A620 [(.int p2), (.int v623)])) (fun t k => XS.iloadN X612.here hx rfl (hb hby at_236) rfl k) ?_
                refine Go.st (S' := T612.setTop (mkF m 239 A620 [(.int (63 : Int32)), (.int p2), (.int v623)])) (fun t k => XS.bipush X612.here hx rfl (hb hby at_237) k) ?_
                refine Go.op (F := fun z => T612.setTop (mkF m 240 A620 [(.int z), (.int v623)])) (x := (p2 &&& (63 : Int32))) (fun t k => XS.iand X612.here hx rfl (hb hby at_239) rfl k) ?_
                intro v624 hv624
                by_cases hc625 : (v623 = v624)
                · refine Go.st (S' := T612.setTop (mkF m 245 A620 [])) (fun t k => XS.icmpYes X612.here hx rfl (pc0 := 240) (pc' := 245) rfl (hb hby at_240) rfl (teq hc625).1 (by decide) (by decide) k) ?_
                  refine Go.st (S' := T612.setTop (mkF m 247 A620 [(.int r537)])) (fun t k => XS.iload X612.here hx rfl (hb hby at_245) rfl k) ?_
                  refine Go.st (S' := T612.setTop (mkF m 271 A620 [])) (fun t k => XS.ifYes X612.here hx rfl (pc0 := 247) (pc' := 271) rfl (hb hby at_247) rfl ((if0 _ _).trans (teq hc545).1) (by decide) (by decide) k) ?_
                  refine Go.st (S' := T612.setTop (mkF m 273 A620 [(.ref b546)])) (fun t k => XS.aload X612.here hx rfl (hb hby at_271) rfl rfl k) ?_
                  refine Go.st (S' := T612.setTop (mkF m 274 A620 [(.int (0 : Int32)), (.ref b546)])) (fun t k => XS.iconst X612.here hx rfl (hb hby at_273) k) ?_
                  obtain ⟨cl626, Ar626, -, S626, N626_, H626, -⟩ := id f615
                  have hin626 : ¬ ((0 : Int32) < 0 ∨ cl626.slots.size ≤ ((0 : Int32)).toNatClampNeg) := inb_of S626 ⟨by decide, by decide⟩
                  have hat626 : cl626.slots[((0 : Int32)).toNatClampNeg]? = some (.int v551) := Has.at H626 hin626 rfl
                  refine Go.st (S' := T612.setTop (mkF m 275 A620 [(.int v551)])) (fun t k => X612.baloadBytes hx (j := (0 : Int32)) (v := (.int v551)) (own_eh e612 Ar626.1) (State.isArrayOf_alike hZ.alike Ar626.2.1) Ar626.2.2 hin626 hat626 (g := (mkF m 274 A620 [(.int (0 : Int32)), (.ref b546)])) rfl rfl (hb hby at_274) t k) ?_
                  refine Go.st (S' := T612.setTop (mkF m 276 A620 [(.int p2), (.int v551)])) (fun t k => XS.iloadN X612.here hx rfl (hb hby at_275) rfl k) ?_
                  refine Go.op (F := fun z => T612.setTop (mkF m 277 A620 [(.int z), (.int v551)])) (x := p2.toInt8.toInt32) (fun t k => XS.i2b X612.here hx rfl (hb hby at_276) rfl k) ?_
                  intro v627 hv627
                  obtain rfl : v549 = v627 := hv549.trans hv627.symm
                  by_cases hc628 : (v551 = v549)
                  · refine Go.st (S' := T612.setTop (mkF m 282 A620 [])) (fun t k => XS.icmpYes X612.here hx rfl (pc0 := 277) (pc' := 282) rfl (hb hby at_277) rfl (teq hc628).1 (by decide) (by decide) k) ?_
                    refine Go.st (S' := T612.setTop (mkF m 284 A620 [(.int r537)])) (fun t k => XS.iload X612.here hx rfl (hb hby at_282) rfl k) ?_
                    refine Go.st (S' := T612.setTop (mkF m 308 A620 [])) (fun t k => XS.ifYes X612.here hx rfl (pc0 := 284) (pc' := 308) rfl (hb hby at_284) rfl ((if0 _ _).trans (teq hc545).1) (by decide) (by decide) k) ?_
                    refine Go.st (S' := T612.setTop (mkF m 309 A620 [(.int (1 : Int32))])) (fun t k => XS.iconst X612.here hx rfl (hb hby at_308) k) ?_
                    exact Go.ret X612 (v := some (.int (1 : Int32))) (fun h => by rw [Bd.returns] at h; cases h) Bd.notSynchronized (fun fs hr => retN X612 hx (t := .boolean) Bd.returns (by simp) (hb hby at_309) hr) (by decide) (by decide) ⟨rfl, N612_⟩
                  · exfalso
                    have rv549 := rng32 v549
                    have wv549 := c_i2b p2
                    rw [← hv549] at wv549
                    have rv551 := rng32 v551
                    have wv551 := c_i2b v549
                    rw [← hv551] at wv551
                    have rv596 := rng32 v596
                    have wv596 := c_mask v551 (63 : Int32) 6 (by decide) (by decide)
                    rw [← hv596] at wv596
                    have rv597 := rng32 v597
                    have wv597 := c_or' v596 (64 : Int32) 6 (by decide) 64 (by decide) (by decide)
                    rw [← hv597] at wv597
                    have rv598 := rng32 v598
                    have wv598 := c_i2b v597
                    rw [← hv598] at wv598
                    have rv599 := rng32 v599
                    have wv599 := c_i2b v598
                    rw [← hv599] at wv599
                    have rv619 := rng32 v619
                    have wv619 := c_mask v599 (255 : Int32) 8 (by decide) (by decide)
                    rw [← hv619] at wv619
                    have rv621 := rng32 v621
                    have wv621 := c_iushr v619 (6 : Int32) 6 (by decide) (by decide)
                    rw [← hv621] at wv621
                    have rv623 := rng32 v623
                    have wv623 := c_mask v619 (63 : Int32) 6 (by decide) (by decide)
                    rw [← hv623] at wv623
                    have rv624 := rng32 v624
                    have wv624 := c_mask p2 (63 : Int32) 6 (by decide) (by decide)
                    rw [← hv624] at wv624
                    have rp2 := rng32 p2
                    have lI1 : (1 : Int32).toInt = 1 := by decide
                    have lI6 : (6 : Int32).toInt = 6 := by decide
                    have lI63 : (63 : Int32).toInt = 63 := by decide
                    have lI64 : (64 : Int32).toInt = 64 := by decide
                    have lI255 : (255 : Int32).toInt = 255 := by decide
                    simp only [Int32.lt_iff_toInt_lt, Int64.lt_iff_toInt_lt, ← Int32.toInt_inj, ← Int64.toInt_inj] at hc622 hc625 hc628
                    omega
                · exfalso
                  have rv549 := rng32 v549
                  have wv549 := c_i2b p2
                  rw [← hv549] at wv549
                  have rv551 := rng32 v551
                  have wv551 := c_i2b v549
                  rw [← hv551] at wv551
                  have rv596 := rng32 v596
                  have wv596 := c_mask v551 (63 : Int32) 6 (by decide) (by decide)
                  rw [← hv596] at wv596
                  have rv597 := rng32 v597
                  have wv597 := c_or' v596 (64 : Int32) 6 (by decide) 64 (by decide) (by decide)
                  rw [← hv597] at wv597
                  have rv598 := rng32 v598
                  have wv598 := c_i2b v597
                  rw [← hv598] at wv598
                  have rv599 := rng32 v599
                  have wv599 := c_i2b v598
                  rw [← hv599] at wv599
                  have rv619 := rng32 v619
                  have wv619 := c_mask v599 (255 : Int32) 8 (by decide) (by decide)
                  rw [← hv619] at wv619
                  have rv621 := rng32 v621
                  have wv621 := c_iushr v619 (6 : Int32) 6 (by decide) (by decide)
                  rw [← hv621] at wv621
                  have rv623 := rng32 v623
                  have wv623 := c_mask v619 (63 : Int32) 6 (by decide) (by decide)
                  rw [← hv623] at wv623
                  have rv624 := rng32 v624
                  have wv624 := c_mask p2 (63 : Int32) 6 (by decide) (by decide)
                  rw [← hv624] at wv624
                  have rp2 := rng32 p2
                  have lI1 : (1 : Int32).toInt = 1 := by decide
                  have lI6 : (6 : Int32).toInt = 6 := by decide
                  have lI63 : (63 : Int32).toInt = 63 := by decide
                  have lI64 : (64 : Int32).toInt = 64 := by decide
                  have lI255 : (255 : Int32).toInt = 255 := by decide
                  simp only [Int32.lt_iff_toInt_lt, Int64.lt_iff_toInt_lt, ← Int32.toInt_inj, ← Int64.toInt_inj] at hc622 hc625
                  omega
              · exfalso
                have rv549 := rng32 v549
                have wv549 := c_i2b p2
                rw [← hv549] at wv549
                have rv551 := rng32 v551
                have wv551 := c_i2b v549
                rw [← hv551] at wv551
                have rv596 := rng32 v596
                have wv596 := c_mask v551 (63 : Int32) 6 (by decide) (by decide)
                rw [← hv596] at wv596
                have rv597 := rng32 v597
                have wv597 := c_or' v596 (64 : Int32) 6 (by decide) 64 (by decide) (by decide)
                rw [← hv597] at wv597
                have rv598 := rng32 v598
                have wv598 := c_i2b v597
                rw [← hv598] at wv598
                have rv599 := rng32 v599
                have wv599 := c_i2b v598
                rw [← hv599] at wv599
                have rv619 := rng32 v619
                have wv619 := c_mask v599 (255 : Int32) 8 (by decide) (by decide)
                rw [← hv619] at wv619
                have rv621 := rng32 v621
                have wv621 := c_iushr v619 (6 : Int32) 6 (by decide) (by decide)
                rw [← hv621] at wv621
                have rp2 := rng32 p2
                have lI1 : (1 : Int32).toInt = 1 := by decide
                have lI6 : (6 : Int32).toInt = 6 := by decide
                have lI63 : (63 : Int32).toInt = 63 := by decide
                have lI64 : (64 : Int32).toInt = 64 := by decide
                have lI255 : (255 : Int32).toInt = 255 := by decide
                simp only [Int32.lt_iff_toInt_lt, Int64.lt_iff_toInt_lt, ← Int32.toInt_inj, ← Int64.toInt_inj] at hc622
                omega
            · refine Go.st (S' := T531.setTop (mkF m 122 A539 [])) (fun t k => XS.ifNo X531.here hx rfl (hb hby at_119) rfl ((if0 _ _).trans (feq hc545).1) k) ?_
              refine Go.st (S' := T531.setTop (mkF m 123 A539 [(.int (3 : Int32))])) (fun t k => XS.iconst X531.here hx rfl (hb hby at_122) k) ?_
              obtain ⟨T629, h629, k629, X629, e629, E629, A629, B629, st629⟩ := newPE X531 hx hZ (hw _ (List.mem_of_getElem? (i := 7) rfl)) e531 (g := (mkF m 123 A539 [(.int (3 : Int32))])) rfl (hb hby at_123) rfl (by decide) (cap := 3) (by decide) (by decide) (by decide) (by decide) (ad := "[B") (by decide)
              obtain ⟨b629, gg629⟩ : ∃ z, z = h0.size := ⟨_, rfl⟩
              rw [← gg629] at A629 B629 st629
              have g_b629 : n0 ≤ b629 := Nat.le_trans Z0 (Nat.le_of_eq gg629.symm)
              have sz_b629 : h0.size ≤ b629 := Nat.le_trans (Keep.refl h0 []).1 (Nat.le_of_eq gg629.symm)
              have Z630 : n0 ≤ h629.size := Nat.le_trans Z0 E629.1
              have K630 : Keep h0 h629 [] := (Keep.refl h0 []).ext E629
              have V629 : Arv Z h629 b629 k629 .byte (3 : Int32) [(.int (0 : Int32)), (.int (0 : Int32)), (.int (0 : Int32))] (.int (0 : Int32)) := (Arv.new A629 (by decide)).pad (pad_rep [] (.int (0 : Int32)) 3)
              refine Go.st (S' := T629.setTop (mkF m 125 A539 [(.ref b629)])) st629 ?_
              refine Go.st (S' := T629.setTop (mkF m 131 A539 [(.ref b629)])) (fun t k => XS.goto X629.here hx rfl (pc0 := 125) (pc' := 131) rfl (hb hby at_125) (by decide) (by decide) k) ?_
              let A631 : Array Slot := #[.val (.int p0), .val (.int p1), .val (.int p2), .val (.int p3), .val (.int p4), .val (.int p5), .val (.int v3), .val (.ref r21), .val (.int v25), .val (.ref s_Chat_Role_DV_FOREIGN), .val (.int (1 : Int32)), .val (.int r537), .val (.ref b629), .unset, .unset, .unset, .unset]
              refine Go.st (S' := T629.setTop (mkF m 133 A631 [])) (fun t k => XS.astore X629.here hx rfl (hb hby at_131) rfl rfl (l' := A631) rfl k) ?_
              refine Go.st (S' := T629.setTop (mkF m 135 A631 [(.ref b629)])) (fun t k => XS.aload X629.here hx rfl (hb hby at_133) rfl rfl k) ?_
              refine Go.st (S' := T629.setTop (mkF m 136 A631 [(.int (0 : Int32)), (.ref b629)])) (fun t k => XS.iconst X629.here hx rfl (hb hby at_135) k) ?_
              refine Go.st (S' := T629.setTop (mkF m 137 A631 [(.int p2), (.int (0 : Int32)), (.ref b629)])) (fun t k => XS.iloadN X629.here hx rfl (hb hby at_136) rfl k) ?_
              refine Go.op (F := fun z => T629.setTop (mkF m 138 A631 [(.int z), (.int (0 : Int32)), (.ref b629)])) (x := p2.toInt8.toInt32) (fun t k => XS.i2b X629.here hx rfl (hb hby at_137) rfl k) ?_
              intro v632 hv632
              obtain ⟨cl633, Ar633, q633, S633, N633_, H633, G633⟩ := id V629
              have hin633 : ¬ ((0 : Int32) < 0 ∨ cl633.slots.size ≤ ((0 : Int32)).toNatClampNeg) := inb_of S633 ⟨by decide, by decide⟩
              obtain ⟨v634, hv634⟩ : ∃ z, z = v632.toInt8.toInt32 := ⟨_, rfl⟩
              obtain ⟨T633, h633, X633, e633, W633, st633⟩ := stB X629 hx hZ e629 Ar633 (j := (0 : Int32)) hin633 (g := (mkF m 138 A631 [(.int v632), (.int (0 : Int32)), (.ref b629)])) rfl rfl (hb hby at_138)
              have W633 : Wr h629 h633 b629 ((0 : Int32)).toNatClampNeg (.int v634) := by rw [hv634]; exact W633
              have V633 : Arv Z h633 b629 k629 .byte (3 : Int32) [(.int v634), (.int (0 : Int32)), (.int (0 : Int32))] (.int (0 : Int32)) := Arv.set Ar633 q633 S633 N633_ H633 G633 (by rw [hv634]; exact fits_nar_byte _) W633 0 rfl (Nat.le_of_ble_eq_true rfl)
              have N633 := Fr.snoc X633 N0 g_b629
              have Z635 : n0 ≤ h633.size := Nat.le_trans Z630 (Keep.of_wr W633).1
              have K635 : Keep h0 h633 [] := K630.wr W633 (Or.inr sz_b629)
              refine Go.st (S' := T633.setTop (mkF m 139 A631 [])) st633 ?_
              refine Go.st (S' := T633.setTop (mkF m 141 A631 [(.int r537)])) (fun t k => XS.iload X633.here hx rfl (hb hby at_139) rfl k) ?_
              refine Go.st (S' := T633.setTop (mkF m 144 A631 [])) (fun t k => XS.ifNo X633.here hx rfl (hb hby at_141) rfl ((if0 _ _).trans (feq hc545).1) k) ?_
              refine Go.st (S' := T633.setTop (mkF m 146 A631 [(.ref b629)])) (fun t k => XS.aload X633.here hx rfl (hb hby at_144) rfl rfl k) ?_
              refine Go.st (S' := T633.setTop (mkF m 147 A631 [(.int (1 : Int32)), (.ref b629)])) (fun t k => XS.iconst X633.here hx rfl (hb hby at_146) k) ?_
              refine Go.st (S' := T633.setTop (mkF m 148 A631 [(.int p3), (.int (1 : Int32)), (.ref b629)])) (fun t k => XS.iloadN X633.here hx rfl (hb hby at_147) rfl k) ?_
              refine Go.op (F := fun z => T633.setTop (mkF m 149 A631 [(.int z), (.int (1 : Int32)), (.ref b629)])) (x := p3.toInt8.toInt32) (fun t k => XS.i2b X633.here hx rfl (hb hby at_148) rfl k) ?_
              intro v636 hv636
              obtain ⟨cl637, Ar637, q637, S637, N637_, H637, G637⟩ := id V633
              have hin637 : ¬ ((1 : Int32) < 0 ∨ cl637.slots.size ≤ ((1 : Int32)).toNatClampNeg) := inb_of S637 ⟨by decide, by decide⟩
              obtain ⟨v638, hv638⟩ : ∃ z, z = v636.toInt8.toInt32 := ⟨_, rfl⟩
              obtain ⟨T637, h637, X637, e637, W637, st637⟩ := stB X633 hx hZ e633 Ar637 (j := (1 : Int32)) hin637 (g := (mkF m 149 A631 [(.int v636), (.int (1 : Int32)), (.ref b629)])) rfl rfl (hb hby at_149)
              have W637 : Wr h633 h637 b629 ((1 : Int32)).toNatClampNeg (.int v638) := by rw [hv638]; exact W637
              have V637 : Arv Z h637 b629 k629 .byte (3 : Int32) [(.int v634), (.int v638), (.int (0 : Int32))] (.int (0 : Int32)) := Arv.set Ar637 q637 S637 N637_ H637 G637 (by rw [hv638]; exact fits_nar_byte _) W637 1 rfl (Nat.le_of_ble_eq_true rfl)
              have N637 := Fr.snoc X637 N633 g_b629
              have Z639 : n0 ≤ h637.size := Nat.le_trans Z635 (Keep.of_wr W637).1
              have K639 : Keep h0 h637 [] := K635.wr W637 (Or.inr sz_b629)
              refine Go.st (S' := T637.setTop (mkF m 150 A631 [])) st637 ?_
              refine Go.st (S' := T637.setTop (mkF m 152 A631 [(.ref b629)])) (fun t k => XS.aload X637.here hx rfl (hb hby at_150) rfl rfl k) ?_
              refine Go.st (S' := T637.setTop (mkF m 153 A631 [(.int (2 : Int32)), (.ref b629)])) (fun t k => XS.iconst X637.here hx rfl (hb hby at_152) k) ?_
              refine Go.st (S' := T637.setTop (mkF m 155 A631 [(.int p4), (.int (2 : Int32)), (.ref b629)])) (fun t k => XS.iload X637.here hx rfl (hb hby at_153) rfl k) ?_
              refine Go.op (F := fun z => T637.setTop (mkF m 156 A631 [(.int z), (.int (2 : Int32)), (.ref b629)])) (x := p4.toInt8.toInt32) (fun t k => XS.i2b X637.here hx rfl (hb hby at_155) rfl k) ?_
              intro v640 hv640
              obtain ⟨cl641, Ar641, q641, S641, N641_, H641, G641⟩ := id V637
              have hin641 : ¬ ((2 : Int32) < 0 ∨ cl641.slots.size ≤ ((2 : Int32)).toNatClampNeg) := inb_of S641 ⟨by decide, by decide⟩
              obtain ⟨v642, hv642⟩ : ∃ z, z = v640.toInt8.toInt32 := ⟨_, rfl⟩
              obtain ⟨T641, h641, X641, e641, W641, st641⟩ := stB X637 hx hZ e637 Ar641 (j := (2 : Int32)) hin641 (g := (mkF m 156 A631 [(.int v640), (.int (2 : Int32)), (.ref b629)])) rfl rfl (hb hby at_156)
              have W641 : Wr h637 h641 b629 ((2 : Int32)).toNatClampNeg (.int v642) := by rw [hv642]; exact W641
              have V641 : Arv Z h641 b629 k629 .byte (3 : Int32) [(.int v634), (.int v638), (.int v642)] (.int (0 : Int32)) := Arv.set Ar641 q641 S641 N641_ H641 G641 (by rw [hv642]; exact fits_nar_byte _) W641 2 rfl (Nat.le_of_ble_eq_true rfl)
              have N641 := Fr.snoc X641 N637 g_b629
              have Z643 : n0 ≤ h641.size := Nat.le_trans Z639 (Keep.of_wr W641).1
              have K643 : Keep h0 h641 [] := K639.wr W641 (Or.inr sz_b629)
              refine Go.st (S' := T641.setTop (mkF m 157 A631 [])) st641 ?_
              obtain ⟨T644, h644, X644, e644, E644, A644, D644, -, st644⟩ := newO X641 hx hZ hown (hw _ (List.mem_of_getElem? (i := 8) rfl)) (hw _ (List.mem_of_getElem? (i := 9) rfl)) (hw _ (List.mem_of_getElem? (i := 10) rfl)) e641 (g := (mkF m 157 A631 [])) rfl (hb hby at_157) (by decide) (by decide)
              obtain ⟨b644, gg644⟩ : ∃ z, z = h641.size := ⟨_, rfl⟩
              rw [← gg644] at A644 D644 st644
              have g_b644 : n0 ≤ b644 := Nat.le_trans Z643 (Nat.le_of_eq gg644.symm)
              have sz_b644 : h0.size ≤ b644 := Nat.le_trans K643.1 (Nat.le_of_eq gg644.symm)
              have f645 := ((((((B629).wr W633)).wr W637)).wr W641)
              have lt_b629_b644 : b629 < b644 := Nat.lt_of_lt_of_le (f645).lt (Nat.le_of_eq gg644.symm)
              have Z646 : n0 ≤ h644.size := Nat.le_trans Z643 E644.1
              have K646 : Keep h0 h644 [] := K643.ext E644
              have Fb644_template : Fld Z h644 b644 "com/example/consulate/consulate/cvc/Chat" "template" "Lcom/example/consulate/consulate/cvc/Chat$Template;" .null := D644 (Or.inr (hw _ (List.mem_of_getElem? (i := 23) rfl))) (ty := (.object "com/example/consulate/consulate/cvc/Chat$Template")) (by decide)
              have Fb644_data : Fld Z h644 b644 "com/example/consulate/consulate/cvc/Chat" "data" "[B" .null := D644 (Or.inr (hw _ (List.mem_of_getElem? (i := 25) rfl))) (ty := (.array .byte)) (by decide)
              refine Go.st (S' := T644.setTop (mkF m 160 A631 [(.ref b644)])) st644 ?_
              refine Go.st (S' := T644.setTop (mkF m 161 A631 [(.ref b644), (.ref b644)])) (fun t k => XS.dup X644.here hx rfl (hb hby at_160) rfl rfl k) ?_
              refine Go.st (S' := T644.setTop (mkF m 163 A631 [(.ref r21), (.ref b644), (.ref b644)])) (fun t k => XS.aload X644.here hx rfl (hb hby at_161) rfl rfl k) ?_
              refine Go.st (S' := T644.setTop (mkF m 165 A631 [(.ref b629), (.ref r21), (.ref b644), (.ref b644)])) (fun t k => XS.aload X644.here hx rfl (hb hby at_163) rfl rfl k) ?_
              have f648 := ((V641).ext E644)
              obtain ⟨r649, T649, L649, X649, hQ649, st649⟩ := own_callI (W := 1) (a := b644) X644 hx hZ e644 hown (y := (⟨"com/example/consulate/consulate/cvc/Chat", "<init>", "(Lcom/example/consulate/consulate/cvc/Chat$Template;[B)V"⟩ : MethodName)) rfl (hw _ (List.mem_of_getElem? (i := 11) rfl)) (hw _ (List.mem_of_getElem? (i := 12) rfl)) (hw _ (List.mem_of_getElem? (i := 10) rfl)) (hw _ (List.mem_of_getElem? (i := 13) rfl)) (by decide) (rm6 l Z a0 hw [] b644 r21 b629 k629 v634 v638 v642 (.null) (.null) h644 n0 Z646 (f648) (A644) (Fb644_template) (g_b644) (Fb644_data)) (by decide) (by decide) (by decide) (by decide) (g := (mkF m 165 A631 [(.ref b629), (.ref r21), (.ref b644), (.ref b644)])) rfl (by rw [hml]; rfl) (argsL := [(.ref r21), (.ref b629)]) (rest := [(.ref b644)]) rfl (lenOf pd_1 rfl) rfl (by show 2 * 0 + _ ≤ _; exact Nat.le_of_eq rfl) (hb hby at_165)
              obtain ⟨rfl, N649, K649_, f650, f651, f652⟩ := hQ649
              have N649_ := Fr.app N641 N649
              have Z653 : n0 ≤ T649.heap.size := Nat.le_trans Z646 K649_.1
              have K653 : Keep h0 T649.heap [] := K646.trans K649_ (allS (Or.inr sz_b644) all0)
              refine Go.st (S' := T649.setTop (mkF m 168 A631 [(.ref b644)])) st649 ?_
              let A654 : Array Slot := #[.val (.int p0), .val (.int p1), .val (.int p2), .val (.int p3), .val (.int p4), .val (.int p5), .val (.int v3), .val (.ref r21), .val (.int v25), .val (.ref s_Chat_Role_DV_FOREIGN), .val (.int (1 : Int32)), .val (.int r537), .val (.ref b629), .val (.ref b644), .unset, .unset, .unset]
              refine Go.st (S' := T649.setTop (mkF m 170 A654 [])) (fun t k => XS.astore X649.here hx rfl (hb hby at_168) rfl rfl (l' := A654) rfl k) ?_
              refine Go.st (S' := T649.setTop (mkF m 172 A654 [(.ref b644)])) (fun t k => XS.aload X649.here hx rfl (hb hby at_170) rfl rfl k) ?_
              refine Go.st (S' := T649.setTop (mkF m 174 A654 [(.ref s_Chat_Role_DV_FOREIGN), (.ref b644)])) (fun t k => XS.aload X649.here hx rfl (hb hby at_172) rfl rfl k) ?_
              have f686 := ((f648).keep K649_ (ninS (Nat.ne_of_lt lt_b629_b644) nin0))
              have f687 := ((((f645).ext E644)).keep K649_)
              have f688 := ((((((((((((F_s_Chat_Role_DV_FOREIGN_bits).ext E629)).other W633 (Or.inl (Nat.ne_of_lt (Nat.lt_of_lt_of_le (F_s_Chat_Role_DV_FOREIGN_bits).lt sz_b629))))).other W637 (Or.inl (Nat.ne_of_lt (Nat.lt_of_lt_of_le (F_s_Chat_Role_DV_FOREIGN_bits).lt sz_b629))))).other W641 (Or.inl (Nat.ne_of_lt (Nat.lt_of_lt_of_le (F_s_Chat_Role_DV_FOREIGN_bits).lt sz_b629))))).ext E644)).keep K649_ (ninS (Nat.ne_of_lt (Nat.lt_of_lt_of_le (F_s_Chat_Role_DV_FOREIGN_bits).lt sz_b644)) nin0))
              obtain ⟨r689, T689, L689, X689, hQ689, st689⟩ := own_callV (W := 0) (a := b644) (C := "com/example/consulate/consulate/cvc/Chat") X649 hx hZ rfl hown (y := (⟨"com/example/consulate/consulate/cvc/Chat", "withRole", "(Lcom/example/consulate/consulate/cvc/Chat$Role;)Lcom/example/consulate/consulate/cvc/Chat;"⟩ : MethodName)) (z := (⟨"com/example/consulate/consulate/cvc/Chat", "withRole", "(Lcom/example/consulate/consulate/cvc/Chat$Role;)Lcom/example/consulate/consulate/cvc/Chat;"⟩ : MethodName)) (hw _ (List.mem_of_getElem? (i := 26) rfl)) (hw _ (List.mem_of_getElem? (i := 27) rfl)) (notFace_of_selects (args := #[]) (mvT hZ (hw _ (List.mem_of_getElem? (i := 29) rfl)))) (hw _ (List.mem_of_getElem? (i := 29) rfl)) (hw _ (List.mem_of_getElem? (i := 28) rfl)) (hw _ (List.mem_of_getElem? (i := 10) rfl)) (hw _ (List.mem_of_getElem? (i := 30) rfl)) (by decide) (f650) (rm11 l Z a0 hw [] b644 s_Chat_Role_DV_FOREIGN b629 k629 v634 v638 v642 r21 T649.heap n0 Z653 (f652) (f686) (f687) (f688) (f651)) (by decide) (by decide) (by decide) (by decide) (g := (mkF m 174 A654 [(.ref s_Chat_Role_DV_FOREIGN), (.ref b644)])) rfl (by rw [hml]; rfl) (argsL := [(.ref s_Chat_Role_DV_FOREIGN)]) (rest := []) rfl (lenOf pd_2 rfl) rfl (by show 2 * 0 + _ ≤ _; exact Nat.le_of_eq rfl) (hb hby at_174)
              obtain ⟨v690, v691, v692, v693, b694, b695, hv690, hv691, hv692, hv693, rfl, N689, K689_, sz_b694_, sz_b695_, f696, f697, f698, f699, f700, hlt701⟩ := hQ689
              have N689_ := Fr.app N649_ N689
              have g_b694 : n0 ≤ b694 := Nat.le_trans Z653 sz_b694_
              have sz_b694 : h0.size ≤ b694 := Nat.le_trans K653.1 sz_b694_
              have lt_b629_b694 : b629 < b694 := Nat.lt_of_lt_of_le (f687).lt sz_b694_
              have lt_b644_b694 : b644 < b694 := Nat.lt_of_lt_of_le (f650).lt sz_b694_
              have g_b695 : n0 ≤ b695 := Nat.le_trans Z653 sz_b695_
              have sz_b695 : h0.size ≤ b695 := Nat.le_trans K653.1 sz_b695_
              have lt_b629_b695 : b629 < b695 := Nat.lt_of_lt_of_le (f687).lt sz_b695_
              have lt_b644_b695 : b644 < b695 := Nat.lt_of_lt_of_le (f650).lt sz_b695_
              have Z702 : n0 ≤ T689.heap.size := Nat.le_trans Z653 K689_.1
              have K702 : Keep h0 T689.heap [] := K653.trans K689_ all0
              refine Go.st (S' := T689.setTop (mkF m 177 A654 [(.ref b695)])) st689 ?_
              let A703 : Array Slot := #[.val (.int p0), .val (.int p1), .val (.int p2), .val (.int p3), .val (.int p4), .val (.int p5), .val (.int v3), .val (.ref r21), .val (.int v25), .val (.ref s_Chat_Role_DV_FOREIGN), .val (.int (1 : Int32)), .val (.int r537), .val (.ref b629), .val (.ref b644), .val (.ref b695), .unset, .unset]
              refine Go.st (S' := T689.setTop (mkF m 179 A703 [])) (fun t k => XS.astore X689.here hx rfl (hb hby at_177) rfl rfl (l' := A703) rfl k) ?_
              refine Go.st (S' := T689.setTop (mkF m 181 A703 [(.ref b695)])) (fun t k => XS.aload X689.here hx rfl (hb hby at_179) rfl rfl k) ?_
              obtain ⟨r704, T704, L704, X704, hQ704, st704⟩ := own_callV (W := 0) (a := b695) (C := "com/example/consulate/consulate/cvc/Chat") X689 hx hZ rfl hown (y := (⟨"com/example/consulate/consulate/cvc/Chat", "data", "()[B"⟩ : MethodName)) (z := (⟨"com/example/consulate/consulate/cvc/Chat", "data", "()[B"⟩ : MethodName)) (hw _ (List.mem_of_getElem? (i := 44) rfl)) (hw _ (List.mem_of_getElem? (i := 45) rfl)) (notFace_of_selects (args := #[]) (mvT hZ (hw _ (List.mem_of_getElem? (i := 47) rfl)))) (hw _ (List.mem_of_getElem? (i := 47) rfl)) (hw _ (List.mem_of_getElem? (i := 46) rfl)) (hw _ (List.mem_of_getElem? (i := 10) rfl)) (hw _ (List.mem_of_getElem? (i := 48) rfl)) (by decide) (f698) (rm4 l Z a0 hw [] b695 b694 T689.heap n0 Z702 (f700)) (by decide) (by decide) (by decide) (by decide) (g := (mkF m 181 A703 [(.ref b695)])) rfl (by rw [hml]; rfl) (argsL := []) (rest := []) rfl (lenOf pd_3 rfl) rfl (by show 2 * 0 + _ ≤ _; exact Nat.le_of_eq rfl) (hb hby at_181)
              obtain ⟨rfl, N704, e704⟩ := hQ704
              have N704_ := Fr.app N689_ N704
              refine Go.st (S' := T704.setTop (mkF m 184 A703 [(.ref b694)])) st704 ?_
              let A705 : Array Slot := #[.val (.int p0), .val (.int p1), .val (.int p2), .val (.int p3), .val (.int p4), .val (.int p5), .val (.int v3), .val (.ref r21), .val (.int v25), .val (.ref s_Chat_Role_DV_FOREIGN), .val (.int (1 : Int32)), .val (.int r537), .val (.ref b629), .val (.ref b644), .val (.ref b695), .val (.ref b694), .unset]
              refine Go.st (S' := T704.setTop (mkF m 186 A705 [])) (fun t k => XS.astore X704.here hx rfl (hb hby at_184) rfl rfl (l' := A705) rfl k) ?_
              refine Go.st (S' := T704.setTop (mkF m 188 A705 [(.ref b695)])) (fun t k => XS.aload X704.here hx rfl (hb hby at_186) rfl rfl k) ?_
              obtain ⟨r706, T706, L706, X706, hQ706, st706⟩ := own_callV (W := 0) (a := b695) (C := "com/example/consulate/consulate/cvc/Chat") X704 hx hZ e704 hown (y := (⟨"com/example/consulate/consulate/cvc/Chat", "template", "()Lcom/example/consulate/consulate/cvc/Chat$Template;"⟩ : MethodName)) (z := (⟨"com/example/consulate/consulate/cvc/Chat", "template", "()Lcom/example/consulate/consulate/cvc/Chat$Template;"⟩ : MethodName)) (hw _ (List.mem_of_getElem? (i := 49) rfl)) (hw _ (List.mem_of_getElem? (i := 50) rfl)) (notFace_of_selects (args := #[]) (mvT hZ (hw _ (List.mem_of_getElem? (i := 52) rfl)))) (hw _ (List.mem_of_getElem? (i := 52) rfl)) (hw _ (List.mem_of_getElem? (i := 51) rfl)) (hw _ (List.mem_of_getElem? (i := 10) rfl)) (hw _ (List.mem_of_getElem? (i := 53) rfl)) (by decide) (f698) (rm5 l Z a0 hw [] b695 r21 T689.heap n0 Z702 (f699)) (by decide) (by decide) (by decide) (by decide) (g := (mkF m 188 A705 [(.ref b695)])) rfl (by rw [hml]; rfl) (argsL := []) (rest := []) rfl (lenOf pd_4 rfl) rfl (by show 2 * 0 + _ ≤ _; exact Nat.le_of_eq rfl) (hb hby at_188)
              obtain ⟨rfl, N706, e706⟩ := hQ706
              have N706_ := Fr.app N704_ N706
              refine Go.st (S' := T706.setTop (mkF m 191 A705 [(.ref r21)])) st706 ?_
              refine Go.st (S' := T706.setTop (mkF m 193 A705 [(.ref r21), (.ref r21)])) (fun t k => XS.aload X706.here hx rfl (hb hby at_191) rfl rfl k) ?_
              refine Go.st (S' := T706.setTop (mkF m 198 A705 [])) (fun t k => acmp X706 hx rfl rfl rfl (pc0 := 193) (pc' := 198) (same := true) rfl (hb hby at_193) rfl (by simp) (by decide) (by decide) k) ?_
              refine Go.st (S' := T706.setTop (mkF m 200 A705 [(.ref b694)])) (fun t k => XS.aload X706.here hx rfl (hb hby at_198) rfl rfl k) ?_
              obtain ⟨cl707, Ar707, -, S707, N707_, -, -⟩ := id f696
              refine Go.op (F := fun z => T706.setTop (mkF m 201 A705 [(.int z)])) (x := cl707.slots.size.toInt32) (fun t k => X706.arraylength hx (own_eh e706 Ar707.1) (State.isArrayOf_alike hZ.alike Ar707.2.1) (g := (mkF m 200 A705 [(.ref b694)])) rfl rfl (hb hby at_200) t k) ?_
              intro v708 hv708
              obtain rfl : (3 : Int32) = v708 := (hv708.trans (len_of S707 N707_)).symm
              refine Go.st (S' := T706.setTop (mkF m 203 A705 [(.ref b629), (.int (3 : Int32))])) (fun t k => XS.aload X706.here hx rfl (hb hby at_201) rfl rfl k) ?_
              have f709 := ((f686).keep K689_ nin0)
              obtain ⟨cl710, Ar710, -, S710, N710_, -, -⟩ := id f709
              refine Go.op (F := fun z => T706.setTop (mkF m 204 A705 [(.int z), (.int (3 : Int32))])) (x := cl710.slots.size.toInt32) (fun t k => X706.arraylength hx (own_eh e706 Ar710.1) (State.isArrayOf_alike hZ.alike Ar710.2.1) (g := (mkF m 203 A705 [(.ref b629), (.int (3 : Int32))])) rfl rfl (hb hby at_203) t k) ?_
              intro v711 hv711
              obtain rfl : (3 : Int32) = v711 := (hv711.trans (len_of S710 N710_)).symm
              refine Go.st (S' := T706.setTop (mkF m 209 A705 [])) (fun t k => XS.icmpYes X706.here hx rfl (pc0 := 204) (pc' := 209) rfl (hb hby at_204) rfl (teq (by decide : ((3 : Int32) = (3 : Int32)))).1 (by decide) (by decide) k) ?_
              refine Go.st (S' := T706.setTop (mkF m 211 A705 [(.ref b694)])) (fun t k => XS.aload X706.here hx rfl (hb hby at_209) rfl rfl k) ?_
              refine Go.st (S' := T706.setTop (mkF m 212 A705 [(.int (0 : Int32)), (.ref b694)])) (fun t k => XS.iconst X706.here hx rfl (hb hby at_211) k) ?_
              obtain ⟨cl712, Ar712, -, S712, N712_, H712, -⟩ := id f696
              have hin712 : ¬ ((0 : Int32) < 0 ∨ cl712.slots.size ≤ ((0 : Int32)).toNatClampNeg) := inb_of S712 ⟨by decide, by decide⟩
              have hat712 : cl712.slots[((0 : Int32)).toNatClampNeg]? = some (.int v693) := Has.at H712 hin712 rfl
              refine Go.st (S' := T706.setTop (mkF m 213 A705 [(.int v693)])) (fun t k => X706.baloadBytes hx (j := (0 : Int32)) (v := (.int v693)) (own_eh e706 Ar712.1) (State.isArrayOf_alike hZ.alike Ar712.2.1) Ar712.2.2 hin712 hat712 (g := (mkF m 212 A705 [(.int (0 : Int32)), (.ref b694)])) rfl rfl (hb hby at_212) t k) ?_
              refine Go.st (S' := T706.setTop (mkF m 216 A705 [(.int (255 : Int32)), (.int v693)])) (fun t k => XS.sipush X706.here hx rfl (hb hby at_213) k) ?_
              refine Go.op (F := fun z => T706.setTop (mkF m 217 A705 [(.int z)])) (x := (v693 &&& (255 : Int32))) (fun t k => XS.iand X706.here hx rfl (hb hby at_216) rfl k) ?_
              intro v713 hv713
              let A714 : Array Slot := #[.val (.int p0), .val (.int p1), .val (.int p2), .val (.int p3), .val (.int p4), .val (.int p5), .val (.int v3), .val (.ref r21), .val (.int v25), .val (.ref s_Chat_Role_DV_FOREIGN), .val (.int (1 : Int32)), .val (.int r537), .val (.ref b629), .val (.ref b644), .val (.ref b695), .val (.ref b694), .val (.int v713)]
              refine Go.st (S' := T706.setTop (mkF m 219 A714 [])) (fun t k => XS.istore X706.here hx rfl (hb hby at_217) rfl (l' := A714) rfl k) ?_
              refine Go.st (S' := T706.setTop (mkF m 221 A714 [(.int v713)])) (fun t k => XS.iload X706.here hx rfl (hb hby at_219) rfl k) ?_
              refine Go.st (S' := T706.setTop (mkF m 223 A714 [(.int (6 : Int32)), (.int v713)])) (fun t k => XS.bipush X706.here hx rfl (hb hby at_221) k) ?_
              refine Go.op (F := fun z => T706.setTop (mkF m 224 A714 [(.int z)])) (x := ((v713.toUInt32 >>> ((6 : Int32) &&& 31).toUInt32).toInt32)) (fun t k => XS.iushr X706.here hx rfl (hb hby at_223) rfl k) ?_
              intro v715 hv715
              refine Go.st (S' := T706.setTop (mkF m 226 A714 [(.int (1 : Int32)), (.int v715)])) (fun t k => XS.iload X706.here hx rfl (hb hby at_224) rfl k) ?_
              by_cases hc716 : (v715 = (1 : Int32))
              · refine Go.st (S' := T706.setTop (mkF m 231 A714 [])) (fun t k => XS.icmpYes X706.here hx rfl (pc0 := 226) (pc' := 231) rfl (hb hby at_226) rfl (teq hc716).1 (by decide) (by decide) k) ?_
                refine Go.st (S' := T706.setTop (mkF m 233 A714 [(.int v713)])) (fun t k => XS.iload X706.here hx rfl (hb hby at_231) rfl k) ?_
                refine Go.st (S' := T706.setTop (mkF m 235 A714 [(.int (63 : Int32)), (.int v713)])) (fun t k => XS.bipush X706.here hx rfl (hb hby at_233) k) ?_
                refine Go.op (F := fun z => T706.setTop (mkF m 236 A714 [(.int z)])) (x := (v713 &&& (63 : Int32))) (fun t k => XS.iand X706.here hx rfl (hb hby at_235) rfl k) ?_
                intro v717 hv717
                refine Go.st (S' := T706.setTop (mkF m 237 A714 [(.int p2), (.int v717)])) (fun t k => XS.iloadN X706.here hx rfl (hb hby at_236) rfl k) ?_
                refine Go.st (S' := T706.setTop (mkF m 239 A714 [(.int (63 : Int32)), (.int p2), (.int v717)])) (fun t k => XS.bipush X706.here hx rfl (hb hby at_237) k) ?_
                refine Go.op (F := fun z => T706.setTop (mkF m 240 A714 [(.int z), (.int v717)])) (x := (p2 &&& (63 : Int32))) (fun t k => XS.iand X706.here hx rfl (hb hby at_239) rfl k) ?_
                intro v718 hv718
                by_cases hc719 : (v717 = v718)
                · refine Go.st (S' := T706.setTop (mkF m 245 A714 [])) (fun t k => XS.icmpYes X706.here hx rfl (pc0 := 240) (pc' := 245) rfl (hb hby at_240) rfl (teq hc719).1 (by decide) (by decide) k) ?_
                  refine Go.st (S' := T706.setTop (mkF m 247 A714 [(.int r537)])) (fun t k => XS.iload X706.here hx rfl (hb hby at_245) rfl k) ?_
                  refine Go.st (S' := T706.setTop (mkF m 250 A714 [])) (fun t k => XS.ifNo X706.here hx rfl (hb hby at_247) rfl ((if0 _ _).trans (feq hc545).1) k) ?_
                  refine Go.st (S' := T706.setTop (mkF m 252 A714 [(.ref b694)])) (fun t k => XS.aload X706.here hx rfl (hb hby at_250) rfl rfl k) ?_
                  refine Go.st (S' := T706.setTop (mkF m 253 A714 [(.int (1 : Int32)), (.ref b694)])) (fun t k => XS.iconst X706.here hx rfl (hb hby at_252) k) ?_
                  obtain ⟨cl720, Ar720, -, S720, N720_, H720, -⟩ := id f696
                  have hin720 : ¬ ((1 : Int32) < 0 ∨ cl720.slots.size ≤ ((1 : Int32)).toNatClampNeg) := inb_of S720 ⟨by decide, by decide⟩
                  have hat720 : cl720.slots[((1 : Int32)).toNatClampNeg]? = some (.int v638) := Has.at H720 hin720 rfl
                  refine Go.st (S' := T706.setTop (mkF m 254 A714 [(.int v638)])) (fun t k => X706.baloadBytes hx (j := (1 : Int32)) (v := (.int v638)) (own_eh e706 Ar720.1) (State.isArrayOf_alike hZ.alike Ar720.2.1) Ar720.2.2 hin720 hat720 (g := (mkF m 253 A714 [(.int (1 : Int32)), (.ref b694)])) rfl rfl (hb hby at_253) t k) ?_
                  refine Go.st (S' := T706.setTop (mkF m 255 A714 [(.int p3), (.int v638)])) (fun t k => XS.iloadN X706.here hx rfl (hb hby at_254) rfl k) ?_
                  refine Go.op (F := fun z => T706.setTop (mkF m 256 A714 [(.int z), (.int v638)])) (x := p3.toInt8.toInt32) (fun t k => XS.i2b X706.here hx rfl (hb hby at_255) rfl k) ?_
                  intro v721 hv721
                  obtain rfl : v636 = v721 := hv636.trans hv721.symm
                  by_cases hc722 : (v638 = v636)
                  · refine Go.st (S' := T706.setTop (mkF m 259 A714 [])) (fun t k => XS.icmpNo X706.here hx rfl (hb hby at_256) rfl (teq hc722).2 k) ?_
                    refine Go.st (S' := T706.setTop (mkF m 261 A714 [(.ref b694)])) (fun t k => XS.aload X706.here hx rfl (hb hby at_259) rfl rfl k) ?_
                    refine Go.st (S' := T706.setTop (mkF m 262 A714 [(.int (2 : Int32)), (.ref b694)])) (fun t k => XS.iconst X706.here hx rfl (hb hby at_261) k) ?_
                    obtain ⟨cl723, Ar723, -, S723, N723_, H723, -⟩ := id f696
                    have hin723 : ¬ ((2 : Int32) < 0 ∨ cl723.slots.size ≤ ((2 : Int32)).toNatClampNeg) := inb_of S723 ⟨by decide, by decide⟩
                    have hat723 : cl723.slots[((2 : Int32)).toNatClampNeg]? = some (.int v642) := Has.at H723 hin723 rfl
                    refine Go.st (S' := T706.setTop (mkF m 263 A714 [(.int v642)])) (fun t k => X706.baloadBytes hx (j := (2 : Int32)) (v := (.int v642)) (own_eh e706 Ar723.1) (State.isArrayOf_alike hZ.alike Ar723.2.1) Ar723.2.2 hin723 hat723 (g := (mkF m 262 A714 [(.int (2 : Int32)), (.ref b694)])) rfl rfl (hb hby at_262) t k) ?_
                    refine Go.st (S' := T706.setTop (mkF m 265 A714 [(.int p4), (.int v642)])) (fun t k => XS.iload X706.here hx rfl (hb hby at_263) rfl k) ?_
                    refine Go.op (F := fun z => T706.setTop (mkF m 266 A714 [(.int z), (.int v642)])) (x := p4.toInt8.toInt32) (fun t k => XS.i2b X706.here hx rfl (hb hby at_265) rfl k) ?_
                    intro v724 hv724
                    obtain rfl : v640 = v724 := hv640.trans hv724.symm
                    by_cases hc725 : (v642 = v640)
                    · refine Go.st (S' := T706.setTop (mkF m 271 A714 [])) (fun t k => XS.icmpYes X706.here hx rfl (pc0 := 266) (pc' := 271) rfl (hb hby at_266) rfl (teq hc725).1 (by decide) (by decide) k) ?_
                      refine Go.st (S' := T706.setTop (mkF m 273 A714 [(.ref b629)])) (fun t k => XS.aload X706.here hx rfl (hb hby at_271) rfl rfl k) ?_
                      refine Go.st (S' := T706.setTop (mkF m 274 A714 [(.int (0 : Int32)), (.ref b629)])) (fun t k => XS.iconst X706.here hx rfl (hb hby at_273) k) ?_
                      obtain ⟨cl726, Ar726, -, S726, N726_, H726, -⟩ := id f709
                      have hin726 : ¬ ((0 : Int32) < 0 ∨ cl726.slots.size ≤ ((0 : Int32)).toNatClampNeg) := inb_of S726 ⟨by decide, by decide⟩
                      have hat726 : cl726.slots[((0 : Int32)).toNatClampNeg]? = some (.int v634) := Has.at H726 hin726 rfl
                      refine Go.st (S' := T706.setTop (mkF m 275 A714 [(.int v634)])) (fun t k => X706.baloadBytes hx (j := (0 : Int32)) (v := (.int v634)) (own_eh e706 Ar726.1) (State.isArrayOf_alike hZ.alike Ar726.2.1) Ar726.2.2 hin726 hat726 (g := (mkF m 274 A714 [(.int (0 : Int32)), (.ref b629)])) rfl rfl (hb hby at_274) t k) ?_
                      refine Go.st (S' := T706.setTop (mkF m 276 A714 [(.int p2), (.int v634)])) (fun t k => XS.iloadN X706.here hx rfl (hb hby at_275) rfl k) ?_
                      refine Go.op (F := fun z => T706.setTop (mkF m 277 A714 [(.int z), (.int v634)])) (x := p2.toInt8.toInt32) (fun t k => XS.i2b X706.here hx rfl (hb hby at_276) rfl k) ?_
                      intro v727 hv727
                      obtain rfl : v632 = v727 := hv632.trans hv727.symm
                      by_cases hc728 : (v634 = v632)
                      · refine Go.st (S' := T706.setTop (mkF m 282 A714 [])) (fun t k => XS.icmpYes X706.here hx rfl (pc0 := 277) (pc' := 282) rfl (hb hby at_277) rfl (teq hc728).1 (by decide) (by decide) k) ?_
                        refine Go.st (S' := T706.setTop (mkF m 284 A714 [(.int r537)])) (fun t k => XS.iload X706.here hx rfl (hb hby at_282) rfl k) ?_
                        refine Go.st (S' := T706.setTop (mkF m 287 A714 [])) (fun t k => XS.ifNo X706.here hx rfl (hb hby at_284) rfl ((if0 _ _).trans (feq hc545).1) k) ?_
                        refine Go.st (S' := T706.setTop (mkF m 289 A714 [(.ref b629)])) (fun t k => XS.aload X706.here hx rfl (hb hby at_287) rfl rfl k) ?_
                        refine Go.st (S' := T706.setTop (mkF m 290 A714 [(.int (1 : Int32)), (.ref b629)])) (fun t k => XS.iconst X706.here hx rfl (hb hby at_289) k) ?_
                        obtain ⟨cl729, Ar729, -, S729, N729_, H729, -⟩ := id f709
                        have hin729 : ¬ ((1 : Int32) < 0 ∨ cl729.slots.size ≤ ((1 : Int32)).toNatClampNeg) := inb_of S729 ⟨by decide, by decide⟩
                        have hat729 : cl729.slots[((1 : Int32)).toNatClampNeg]? = some (.int v638) := Has.at H729 hin729 rfl
                        refine Go.st (S' := T706.setTop (mkF m 291 A714 [(.int v638)])) (fun t k => X706.baloadBytes hx (j := (1 : Int32)) (v := (.int v638)) (own_eh e706 Ar729.1) (State.isArrayOf_alike hZ.alike Ar729.2.1) Ar729.2.2 hin729 hat729 (g := (mkF m 290 A714 [(.int (1 : Int32)), (.ref b629)])) rfl rfl (hb hby at_290) t k) ?_
                        refine Go.st (S' := T706.setTop (mkF m 292 A714 [(.int p3), (.int v638)])) (fun t k => XS.iloadN X706.here hx rfl (hb hby at_291) rfl k) ?_
                        refine Go.op (F := fun z => T706.setTop (mkF m 293 A714 [(.int z), (.int v638)])) (x := p3.toInt8.toInt32) (fun t k => XS.i2b X706.here hx rfl (hb hby at_292) rfl k) ?_
                        intro v730 hv730
                        obtain rfl : v636 = v730 := hv636.trans hv730.symm
                        refine Go.st (S' := T706.setTop (mkF m 296 A714 [])) (fun t k => XS.icmpNo X706.here hx rfl (hb hby at_293) rfl (teq hc722).2 k) ?_
                        refine Go.st (S' := T706.setTop (mkF m 298 A714 [(.ref b629)])) (fun t k => XS.aload X706.here hx rfl (hb hby at_296) rfl rfl k) ?_
                        refine Go.st (S' := T706.setTop (mkF m 299 A714 [(.int (2 : Int32)), (.ref b629)])) (fun t k => XS.iconst X706.here hx rfl (hb hby at_298) k) ?_
                        obtain ⟨cl731, Ar731, -, S731, N731_, H731, -⟩ := id f709
                        have hin731 : ¬ ((2 : Int32) < 0 ∨ cl731.slots.size ≤ ((2 : Int32)).toNatClampNeg) := inb_of S731 ⟨by decide, by decide⟩
                        have hat731 : cl731.slots[((2 : Int32)).toNatClampNeg]? = some (.int v642) := Has.at H731 hin731 rfl
                        refine Go.st (S' := T706.setTop (mkF m 300 A714 [(.int v642)])) (fun t k => X706.baloadBytes hx (j := (2 : Int32)) (v := (.int v642)) (own_eh e706 Ar731.1) (State.isArrayOf_alike hZ.alike Ar731.2.1) Ar731.2.2 hin731 hat731 (g := (mkF m 299 A714 [(.int (2 : Int32)), (.ref b629)])) rfl rfl (hb hby at_299) t k) ?_
                        refine Go.st (S' := T706.setTop (mkF m 302 A714 [(.int p4), (.int v642)])) (fun t k => XS.iload X706.here hx rfl (hb hby at_300) rfl k) ?_
                        refine Go.op (F := fun z => T706.setTop (mkF m 303 A714 [(.int z), (.int v642)])) (x := p4.toInt8.toInt32) (fun t k => XS.i2b X706.here hx rfl (hb hby at_302) rfl k) ?_
                        intro v732 hv732
                        obtain rfl : v640 = v732 := hv640.trans hv732.symm
                        refine Go.st (S' := T706.setTop (mkF m 308 A714 [])) (fun t k => XS.icmpYes X706.here hx rfl (pc0 := 303) (pc' := 308) rfl (hb hby at_303) rfl (teq hc725).1 (by decide) (by decide) k) ?_
                        refine Go.st (S' := T706.setTop (mkF m 309 A714 [(.int (1 : Int32))])) (fun t k => XS.iconst X706.here hx rfl (hb hby at_308) k) ?_
                        exact Go.ret X706 (v := some (.int (1 : Int32))) (fun h => by rw [Bd.returns] at h; cases h) Bd.notSynchronized (fun fs hr => retN X706 hx (t := .boolean) Bd.returns (by simp) (hb hby at_309) hr) (by decide) (by decide) ⟨rfl, N706_⟩
                      · exfalso
                        have rv632 := rng32 v632
                        have wv632 := c_i2b p2
                        rw [← hv632] at wv632
                        have rv634 := rng32 v634
                        have wv634 := c_i2b v632
                        rw [← hv634] at wv634
                        have rv690 := rng32 v690
                        have wv690 := c_mask v634 (63 : Int32) 6 (by decide) (by decide)
                        rw [← hv690] at wv690
                        have rv691 := rng32 v691
                        have wv691 := c_or' v690 (64 : Int32) 6 (by decide) 64 (by decide) (by decide)
                        rw [← hv691] at wv691
                        have rv692 := rng32 v692
                        have wv692 := c_i2b v691
                        rw [← hv692] at wv692
                        have rv693 := rng32 v693
                        have wv693 := c_i2b v692
                        rw [← hv693] at wv693
                        have rv713 := rng32 v713
                        have wv713 := c_mask v693 (255 : Int32) 8 (by decide) (by decide)
                        rw [← hv713] at wv713
                        have rv715 := rng32 v715
                        have wv715 := c_iushr v713 (6 : Int32) 6 (by decide) (by decide)
                        rw [← hv715] at wv715
                        have rv717 := rng32 v717
                        have wv717 := c_mask v713 (63 : Int32) 6 (by decide) (by decide)
                        rw [← hv717] at wv717
                        have rv718 := rng32 v718
                        have wv718 := c_mask p2 (63 : Int32) 6 (by decide) (by decide)
                        rw [← hv718] at wv718
                        have rp2 := rng32 p2
                        have lI1 : (1 : Int32).toInt = 1 := by decide
                        have lI6 : (6 : Int32).toInt = 6 := by decide
                        have lI63 : (63 : Int32).toInt = 63 := by decide
                        have lI64 : (64 : Int32).toInt = 64 := by decide
                        have lI255 : (255 : Int32).toInt = 255 := by decide
                        simp only [Int32.lt_iff_toInt_lt, Int64.lt_iff_toInt_lt, ← Int32.toInt_inj, ← Int64.toInt_inj] at hc716 hc719 hc728
                        omega
                    · exfalso
                      have rv640 := rng32 v640
                      have wv640 := c_i2b p4
                      rw [← hv640] at wv640
                      have rv642 := rng32 v642
                      have wv642 := c_i2b v640
                      rw [← hv642] at wv642
                      have rp4 := rng32 p4
                      simp only [Int32.lt_iff_toInt_lt, Int64.lt_iff_toInt_lt, ← Int32.toInt_inj, ← Int64.toInt_inj] at hc725
                      omega
                  · exfalso
                    have rv636 := rng32 v636
                    have wv636 := c_i2b p3
                    rw [← hv636] at wv636
                    have rv638 := rng32 v638
                    have wv638 := c_i2b v636
                    rw [← hv638] at wv638
                    have rp3 := rng32 p3
                    simp only [Int32.lt_iff_toInt_lt, Int64.lt_iff_toInt_lt, ← Int32.toInt_inj, ← Int64.toInt_inj] at hc722
                    omega
                · exfalso
                  have rv632 := rng32 v632
                  have wv632 := c_i2b p2
                  rw [← hv632] at wv632
                  have rv634 := rng32 v634
                  have wv634 := c_i2b v632
                  rw [← hv634] at wv634
                  have rv690 := rng32 v690
                  have wv690 := c_mask v634 (63 : Int32) 6 (by decide) (by decide)
                  rw [← hv690] at wv690
                  have rv691 := rng32 v691
                  have wv691 := c_or' v690 (64 : Int32) 6 (by decide) 64 (by decide) (by decide)
                  rw [← hv691] at wv691
                  have rv692 := rng32 v692
                  have wv692 := c_i2b v691
                  rw [← hv692] at wv692
                  have rv693 := rng32 v693
                  have wv693 := c_i2b v692
                  rw [← hv693] at wv693
                  have rv713 := rng32 v713
                  have wv713 := c_mask v693 (255 : Int32) 8 (by decide) (by decide)
                  rw [← hv713] at wv713
                  have rv715 := rng32 v715
                  have wv715 := c_iushr v713 (6 : Int32) 6 (by decide) (by decide)
                  rw [← hv715] at wv715
                  have rv717 := rng32 v717
                  have wv717 := c_mask v713 (63 : Int32) 6 (by decide) (by decide)
                  rw [← hv717] at wv717
                  have rv718 := rng32 v718
                  have wv718 := c_mask p2 (63 : Int32) 6 (by decide) (by decide)
                  rw [← hv718] at wv718
                  have rp2 := rng32 p2
                  have lI1 : (1 : Int32).toInt = 1 := by decide
                  have lI6 : (6 : Int32).toInt = 6 := by decide
                  have lI63 : (63 : Int32).toInt = 63 := by decide
                  have lI64 : (64 : Int32).toInt = 64 := by decide
                  have lI255 : (255 : Int32).toInt = 255 := by decide
                  simp only [Int32.lt_iff_toInt_lt, Int64.lt_iff_toInt_lt, ← Int32.toInt_inj, ← Int64.toInt_inj] at hc716 hc719
                  omega
              · exfalso
                have rv632 := rng32 v632
                have wv632 := c_i2b p2
                rw [← hv632] at wv632
                have rv634 := rng32 v634
                have wv634 := c_i2b v632
                rw [← hv634] at wv634
                have rv690 := rng32 v690
                have wv690 := c_mask v634 (63 : Int32) 6 (by decide) (by decide)
                rw [← hv690] at wv690
                have rv691 := rng32 v691
                have wv691 := c_or' v690 (64 : Int32) 6 (by decide) 64 (by decide) (by decide)
                rw [← hv691] at wv691
                have rv692 := rng32 v692
                have wv692 := c_i2b v691
                rw [← hv692] at wv692
                have rv693 := rng32 v693
                have wv693 := c_i2b v692
                rw [← hv693] at wv693
                have rv713 := rng32 v713
                have wv713 := c_mask v693 (255 : Int32) 8 (by decide) (by decide)
                rw [← hv713] at wv713
                have rv715 := rng32 v715
                have wv715 := c_iushr v713 (6 : Int32) 6 (by decide) (by decide)
                rw [← hv715] at wv715
                have rp2 := rng32 p2
                have lI1 : (1 : Int32).toInt = 1 := by decide
                have lI6 : (6 : Int32).toInt = 6 := by decide
                have lI63 : (63 : Int32).toInt = 63 := by decide
                have lI64 : (64 : Int32).toInt = 64 := by decide
                have lI255 : (255 : Int32).toInt = 255 := by decide
                simp only [Int32.lt_iff_toInt_lt, Int64.lt_iff_toInt_lt, ← Int32.toInt_inj, ← Int64.toInt_inj] at hc716
                omega
          · intro J733
            by_cases hc734 : (v534 = (0 : Int32))
            · refine Go.st (S' := T531.setTop (mkF m 114 A533 [])) (fun t k => XS.ifYes X531.here hx rfl (pc0 := 107) (pc' := 114) rfl (hb hby at_107) rfl ((if0 _ _).trans (teq hc734).1) (by decide) (by decide) k) ?_
              refine Go.st (S' := T531.setTop (mkF m 115 A533 [(.int (0 : Int32))])) (fun t k => XS.iconst X531.here hx rfl (hb hby at_114) k) ?_
              exact J733 ((0 : Int32)) (Or.inl ⟨hc734, rfl⟩)
            · refine Go.st (S' := T531.setTop (mkF m 110 A533 [])) (fun t k => XS.ifNo X531.here hx rfl (hb hby at_107) rfl ((if0 _ _).trans (feq hc734).1) k) ?_
              refine Go.st (S' := T531.setTop (mkF m 111 A533 [(.int (1 : Int32))])) (fun t k => XS.iconst X531.here hx rfl (hb hby at_110) k) ?_
              refine Go.st (S' := T531.setTop (mkF m 115 A533 [(.int (1 : Int32))])) (fun t k => XS.goto X531.here hx rfl (pc0 := 111) (pc' := 115) rfl (hb hby at_111) (by decide) (by decide) k) ?_
              exact J733 ((1 : Int32)) (Or.inr ⟨hc734, rfl⟩)
        · refine Go.st (S' := T23.setTop (mkF m 95 A26 [])) (fun t k => XS.icmpYes X23.here hx rfl (pc0 := 81) (pc' := 95) rfl (hb hby at_81) rfl (feq hc530).2 (by decide) (by decide) k) ?_
          obtain ⟨T735, X735, e735, st735⟩ := getS X23 hx hZ hown (hw _ (List.mem_of_getElem? (i := 4) rfl)) Via.refl e23 S_s_Chat_Role_TERMINAL (host := "") (g := (mkF m 95 A26 [])) rfl (hb hby at_95)
          refine Go.st (S' := T735.setTop (mkF m 98 A26 [(.ref s_Chat_Role_TERMINAL)])) st735 ?_
          let A736 : Array Slot := #[.val (.int p0), .val (.int p1), .val (.int p2), .val (.int p3), .val (.int p4), .val (.int p5), .val (.int v3), .val (.ref r21), .val (.int v25), .val (.ref s_Chat_Role_TERMINAL), .unset, .unset, .unset, .unset, .unset, .unset, .unset]
          refine Go.st (S' := T735.setTop (mkF m 100 A736 [])) (fun t k => XS.astore X735.here hx rfl (hb hby at_98) rfl rfl (l' := A736) rfl k) ?_
          refine Go.st (S' := T735.setTop (mkF m 101 A736 [(.int (0 : Int32))])) (fun t k => XS.iconst X735.here hx rfl (hb hby at_100) k) ?_
          let A737 : Array Slot := #[.val (.int p0), .val (.int p1), .val (.int p2), .val (.int p3), .val (.int p4), .val (.int p5), .val (.int v3), .val (.ref r21), .val (.int v25), .val (.ref s_Chat_Role_TERMINAL), .val (.int (0 : Int32)), .unset, .unset, .unset, .unset, .unset, .unset]
          refine Go.st (S' := T735.setTop (mkF m 103 A737 [])) (fun t k => XS.istore X735.here hx rfl (hb hby at_101) rfl (l' := A737) rfl k) ?_
          refine Go.st (S' := T735.setTop (mkF m 105 A737 [(.int p5)])) (fun t k => XS.iload X735.here hx rfl (hb hby at_103) rfl k) ?_
          refine Go.st (S' := T735.setTop (mkF m 106 A737 [(.int (1 : Int32)), (.int p5)])) (fun t k => XS.iconst X735.here hx rfl (hb hby at_105) k) ?_
          refine Go.op (F := fun z => T735.setTop (mkF m 107 A737 [(.int z)])) (x := (p5 &&& (1 : Int32))) (fun t k => XS.iand X735.here hx rfl (hb hby at_106) rfl k) ?_
          intro v738 hv738
          refine Go.join (α := Int32) (fun r => (((v738 = (0 : Int32)) ∧ (r = (0 : Int32))) ∨ ((¬ (v738 = (0 : Int32))) ∧ (r = (1 : Int32))))) (fun r => T735.setTop (mkF m 115 A737 [(.int r)])) ?_ ?_
          · intro r741 hc742
            let A743 : Array Slot := #[.val (.int p0), .val (.int p1), .val (.int p2), .val (.int p3), .val (.int p4), .val (.int p5), .val (.int v3), .val (.ref r21), .val (.int v25), .val (.ref s_Chat_Role_TERMINAL), .val (.int (0 : Int32)), .val (.int r741), .unset, .unset, .unset, .unset, .unset]
            refine Go.st (S' := T735.setTop (mkF m 117 A743 [])) (fun t k => XS.istore X735.here hx rfl (hb hby at_115) rfl (l' := A743) rfl k) ?_
            refine Go.st (S' := T735.setTop (mkF m 119 A743 [(.int r741)])) (fun t k => XS.iload X735.here hx rfl (hb hby at_117) rfl k) ?_
            by_cases hc749 : (r741 = (0 : Int32))
            · refine Go.st (S' := T735.setTop (mkF m 128 A743 [])) (fun t k => XS.ifYes X735.here hx rfl (pc0 := 119) (pc' := 128) rfl (hb hby at_119) rfl ((if0 _ _).trans (teq hc749).1) (by decide) (by decide) k) ?_
              refine Go.st (S' := T735.setTop (mkF m 129 A743 [(.int (1 : Int32))])) (fun t k => XS.iconst X735.here hx rfl (hb hby at_128) k) ?_
              obtain ⟨T750, h750, k750, X750, e750, E750, A750, B750, st750⟩ := newPE X735 hx hZ (hw _ (List.mem_of_getElem? (i := 7) rfl)) e735 (g := (mkF m 129 A743 [(.int (1 : Int32))])) rfl (hb hby at_129) rfl (by decide) (cap := 1) (by decide) (by decide) (by decide) (by decide) (ad := "[B") (by decide)
              obtain ⟨b750, gg750⟩ : ∃ z, z = h0.size := ⟨_, rfl⟩
              rw [← gg750] at A750 B750 st750
              have g_b750 : n0 ≤ b750 := Nat.le_trans Z0 (Nat.le_of_eq gg750.symm)
              have sz_b750 : h0.size ≤ b750 := Nat.le_trans (Keep.refl h0 []).1 (Nat.le_of_eq gg750.symm)
              have Z751 : n0 ≤ h750.size := Nat.le_trans Z0 E750.1
              have K751 : Keep h0 h750 [] := (Keep.refl h0 []).ext E750
              have V750 : Arv Z h750 b750 k750 .byte (1 : Int32) [(.int (0 : Int32))] (.int (0 : Int32)) := (Arv.new A750 (by decide)).pad (pad_rep [] (.int (0 : Int32)) 1)
              refine Go.st (S' := T750.setTop (mkF m 131 A743 [(.ref b750)])) st750 ?_
              let A752 : Array Slot := #[.val (.int p0), .val (.int p1), .val (.int p2), .val (.int p3), .val (.int p4), .val (.int p5), .val (.int v3), .val (.ref r21), .val (.int v25), .val (.ref s_Chat_Role_TERMINAL), .val (.int (0 : Int32)), .val (.int r741), .val (.ref b750), .unset, .unset, .unset, .unset]
              refine Go.st (S' := T750.setTop (mkF m 133 A752 [])) (fun t k => XS.astore X750.here hx rfl (hb hby at_131) rfl rfl (l' := A752) rfl k) ?_
              refine Go.st (S' := T750.setTop (mkF m 135 A752 [(.ref b750)])) (fun t k => XS.aload X750.here hx rfl (hb hby at_133) rfl rfl k) ?_
              refine Go.st (S' := T750.setTop (mkF m 136 A752 [(.int (0 : Int32)), (.ref b750)])) (fun t k => XS.iconst X750.here hx rfl (hb hby at_135) k) ?_
              refine Go.st (S' := T750.setTop (mkF m 137 A752 [(.int p2), (.int (0 : Int32)), (.ref b750)])) (fun t k => XS.iloadN X750.here hx rfl (hb hby at_136) rfl k) ?_
              refine Go.op (F := fun z => T750.setTop (mkF m 138 A752 [(.int z), (.int (0 : Int32)), (.ref b750)])) (x := p2.toInt8.toInt32) (fun t k => XS.i2b X750.here hx rfl (hb hby at_137) rfl k) ?_
              intro v753 hv753
              obtain ⟨cl754, Ar754, q754, S754, N754_, H754, G754⟩ := id V750
              have hin754 : ¬ ((0 : Int32) < 0 ∨ cl754.slots.size ≤ ((0 : Int32)).toNatClampNeg) := inb_of S754 ⟨by decide, by decide⟩
              obtain ⟨v755, hv755⟩ : ∃ z, z = v753.toInt8.toInt32 := ⟨_, rfl⟩
              obtain ⟨T754, h754, X754, e754, W754, st754⟩ := stB X750 hx hZ e750 Ar754 (j := (0 : Int32)) hin754 (g := (mkF m 138 A752 [(.int v753), (.int (0 : Int32)), (.ref b750)])) rfl rfl (hb hby at_138)
              have W754 : Wr h750 h754 b750 ((0 : Int32)).toNatClampNeg (.int v755) := by rw [hv755]; exact W754
              have V754 : Arv Z h754 b750 k750 .byte (1 : Int32) [(.int v755)] (.int (0 : Int32)) := Arv.set Ar754 q754 S754 N754_ H754 G754 (by rw [hv755]; exact fits_nar_byte _) W754 0 rfl (Nat.le_of_ble_eq_true rfl)
              have N754 := Fr.snoc X754 N0 g_b750
              have Z756 : n0 ≤ h754.size := Nat.le_trans Z751 (Keep.of_wr W754).1
              have K756 : Keep h0 h754 [] := K751.wr W754 (Or.inr sz_b750)
              refine Go.st (S' := T754.setTop (mkF m 139 A752 [])) st754 ?_
              refine Go.st (S' := T754.setTop (mkF m 141 A752 [(.int r741)])) (fun t k => XS.iload X754.here hx rfl (hb hby at_139) rfl k) ?_
              refine Go.st (S' := T754.setTop (mkF m 157 A752 [])) (fun t k => XS.ifYes X754.here hx rfl (pc0 := 141) (pc' := 157) rfl (hb hby at_141) rfl ((if0 _ _).trans (teq hc749).1) (by decide) (by decide) k) ?_
              obtain ⟨T757, h757, X757, e757, E757, A757, D757, -, st757⟩ := newO X754 hx hZ hown (hw _ (List.mem_of_getElem? (i := 8) rfl)) (hw _ (List.mem_of_getElem? (i := 9) rfl)) (hw _ (List.mem_of_getElem? (i := 10) rfl)) e754 (g := (mkF m 157 A752 [])) rfl (hb hby at_157) (by decide) (by decide)
              obtain ⟨b757, gg757⟩ : ∃ z, z = h754.size := ⟨_, rfl⟩
              rw [← gg757] at A757 D757 st757
              have g_b757 : n0 ≤ b757 := Nat.le_trans Z756 (Nat.le_of_eq gg757.symm)
              have sz_b757 : h0.size ≤ b757 := Nat.le_trans K756.1 (Nat.le_of_eq gg757.symm)
              have f758 := ((B750).wr W754)
              have lt_b750_b757 : b750 < b757 := Nat.lt_of_lt_of_le (f758).lt (Nat.le_of_eq gg757.symm)
              have Z759 : n0 ≤ h757.size := Nat.le_trans Z756 E757.1
              have K759 : Keep h0 h757 [] := K756.ext E757
              have Fb757_template : Fld Z h757 b757 "com/example/consulate/consulate/cvc/Chat" "template" "Lcom/example/consulate/consulate/cvc/Chat$Template;" .null := D757 (Or.inr (hw _ (List.mem_of_getElem? (i := 23) rfl))) (ty := (.object "com/example/consulate/consulate/cvc/Chat$Template")) (by decide)
              have Fb757_data : Fld Z h757 b757 "com/example/consulate/consulate/cvc/Chat" "data" "[B" .null := D757 (Or.inr (hw _ (List.mem_of_getElem? (i := 25) rfl))) (ty := (.array .byte)) (by decide)
              refine Go.st (S' := T757.setTop (mkF m 160 A752 [(.ref b757)])) st757 ?_
              refine Go.st (S' := T757.setTop (mkF m 161 A752 [(.ref b757), (.ref b757)])) (fun t k => XS.dup X757.here hx rfl (hb hby at_160) rfl rfl k) ?_
              refine Go.st (S' := T757.setTop (mkF m 163 A752 [(.ref r21), (.ref b757), (.ref b757)])) (fun t k => XS.aload X757.here hx rfl (hb hby at_161) rfl rfl k) ?_
              refine Go.st (S' := T757.setTop (mkF m 165 A752 [(.ref b750), (.ref r21), (.ref b757), (.ref b757)])) (fun t k => XS.aload X757.here hx rfl (hb hby at_163) rfl rfl k) ?_
              have f760 := ((V754).ext E757)
              obtain ⟨r761, T761, L761, X761, hQ761, st761⟩ := own_callI (W := 1) (a := b757) X757 hx hZ e757 hown (y := (⟨"com/example/consulate/consulate/cvc/Chat", "<init>", "(Lcom/example/consulate/consulate/cvc/Chat$Template;[B)V"⟩ : MethodName)) rfl (hw _ (List.mem_of_getElem? (i := 11) rfl)) (hw _ (List.mem_of_getElem? (i := 12) rfl)) (hw _ (List.mem_of_getElem? (i := 10) rfl)) (hw _ (List.mem_of_getElem? (i := 13) rfl)) (by decide) (rm2 l Z a0 hw [] b757 r21 b750 k750 v755 (.null) (.null) h757 n0 Z759 (f760) (A757) (Fb757_template) (g_b757) (Fb757_data)) (by decide) (by decide) (by decide) (by decide) (g := (mkF m 165 A752 [(.ref b750), (.ref r21), (.ref b757), (.ref b757)])) rfl (by rw [hml]; rfl) (argsL := [(.ref r21), (.ref b750)]) (rest := [(.ref b757)]) rfl (lenOf pd_1 rfl) rfl (by show 2 * 0 + _ ≤ _; exact Nat.le_of_eq rfl) (hb hby at_165)
              obtain ⟨rfl, N761, K761_, f762, f763, f764⟩ := hQ761
              have N761_ := Fr.app N754 N761
              have Z765 : n0 ≤ T761.heap.size := Nat.le_trans Z759 K761_.1
              have K765 : Keep h0 T761.heap [] := K759.trans K761_ (allS (Or.inr sz_b757) all0)
              refine Go.st (S' := T761.setTop (mkF m 168 A752 [(.ref b757)])) st761 ?_
              let A766 : Array Slot := #[.val (.int p0), .val (.int p1), .val (.int p2), .val (.int p3), .val (.int p4), .val (.int p5), .val (.int v3), .val (.ref r21), .val (.int v25), .val (.ref s_Chat_Role_TERMINAL), .val (.int (0 : Int32)), .val (.int r741), .val (.ref b750), .val (.ref b757), .unset, .unset, .unset]
              refine Go.st (S' := T761.setTop (mkF m 170 A766 [])) (fun t k => XS.astore X761.here hx rfl (hb hby at_168) rfl rfl (l' := A766) rfl k) ?_
              refine Go.st (S' := T761.setTop (mkF m 172 A766 [(.ref b757)])) (fun t k => XS.aload X761.here hx rfl (hb hby at_170) rfl rfl k) ?_
              refine Go.st (S' := T761.setTop (mkF m 174 A766 [(.ref s_Chat_Role_TERMINAL), (.ref b757)])) (fun t k => XS.aload X761.here hx rfl (hb hby at_172) rfl rfl k) ?_
              have f796 := ((f760).keep K761_ (ninS (Nat.ne_of_lt lt_b750_b757) nin0))
              have f797 := ((((f758).ext E757)).keep K761_)
              have f798 := ((((((((F_s_Chat_Role_TERMINAL_bits).ext E750)).other W754 (Or.inl (Nat.ne_of_lt (Nat.lt_of_lt_of_le (F_s_Chat_Role_TERMINAL_bits).lt sz_b750))))).ext E757)).keep K761_ (ninS (Nat.ne_of_lt (Nat.lt_of_lt_of_le (F_s_Chat_Role_TERMINAL_bits).lt sz_b757)) nin0))
              obtain ⟨r799, T799, L799, X799, hQ799, st799⟩ := own_callV (W := 0) (a := b757) (C := "com/example/consulate/consulate/cvc/Chat") X761 hx hZ rfl hown (y := (⟨"com/example/consulate/consulate/cvc/Chat", "withRole", "(Lcom/example/consulate/consulate/cvc/Chat$Role;)Lcom/example/consulate/consulate/cvc/Chat;"⟩ : MethodName)) (z := (⟨"com/example/consulate/consulate/cvc/Chat", "withRole", "(Lcom/example/consulate/consulate/cvc/Chat$Role;)Lcom/example/consulate/consulate/cvc/Chat;"⟩ : MethodName)) (hw _ (List.mem_of_getElem? (i := 26) rfl)) (hw _ (List.mem_of_getElem? (i := 27) rfl)) (notFace_of_selects (args := #[]) (mvT hZ (hw _ (List.mem_of_getElem? (i := 29) rfl)))) (hw _ (List.mem_of_getElem? (i := 29) rfl)) (hw _ (List.mem_of_getElem? (i := 28) rfl)) (hw _ (List.mem_of_getElem? (i := 10) rfl)) (hw _ (List.mem_of_getElem? (i := 30) rfl)) (by decide) (f762) (rm12 l Z a0 hw [] b757 s_Chat_Role_TERMINAL b750 k750 v755 r21 T761.heap n0 Z765 (f764) (f796) (f797) (f798) (f763)) (by decide) (by decide) (by decide) (by decide) (g := (mkF m 174 A766 [(.ref s_Chat_Role_TERMINAL), (.ref b757)])) rfl (by rw [hml]; rfl) (argsL := [(.ref s_Chat_Role_TERMINAL)]) (rest := []) rfl (lenOf pd_2 rfl) rfl (by show 2 * 0 + _ ≤ _; exact Nat.le_of_eq rfl) (hb hby at_174)
              obtain ⟨v800, v801, v802, v803, b804, b805, hv800, hv801, hv802, hv803, rfl, N799, K799_, sz_b804_, sz_b805_, f806, f807, f808, f809, f810, hlt811⟩ := hQ799
              have N799_ := Fr.app N761_ N799
              have g_b804 : n0 ≤ b804 := Nat.le_trans Z765 sz_b804_
              have sz_b804 : h0.size ≤ b804 := Nat.le_trans K765.1 sz_b804_
              have lt_b750_b804 : b750 < b804 := Nat.lt_of_lt_of_le (f797).lt sz_b804_
              have lt_b757_b804 : b757 < b804 := Nat.lt_of_lt_of_le (f762).lt sz_b804_
              have g_b805 : n0 ≤ b805 := Nat.le_trans Z765 sz_b805_
              have sz_b805 : h0.size ≤ b805 := Nat.le_trans K765.1 sz_b805_
              have lt_b750_b805 : b750 < b805 := Nat.lt_of_lt_of_le (f797).lt sz_b805_
              have lt_b757_b805 : b757 < b805 := Nat.lt_of_lt_of_le (f762).lt sz_b805_
              have Z812 : n0 ≤ T799.heap.size := Nat.le_trans Z765 K799_.1
              have K812 : Keep h0 T799.heap [] := K765.trans K799_ all0
              refine Go.st (S' := T799.setTop (mkF m 177 A766 [(.ref b805)])) st799 ?_
              let A813 : Array Slot := #[.val (.int p0), .val (.int p1), .val (.int p2), .val (.int p3), .val (.int p4), .val (.int p5), .val (.int v3), .val (.ref r21), .val (.int v25), .val (.ref s_Chat_Role_TERMINAL), .val (.int (0 : Int32)), .val (.int r741), .val (.ref b750), .val (.ref b757), .val (.ref b805), .unset, .unset]
              refine Go.st (S' := T799.setTop (mkF m 179 A813 [])) (fun t k => XS.astore X799.here hx rfl (hb hby at_177) rfl rfl (l' := A813) rfl k) ?_
              refine Go.st (S' := T799.setTop (mkF m 181 A813 [(.ref b805)])) (fun t k => XS.aload X799.here hx rfl (hb hby at_179) rfl rfl k) ?_
              obtain ⟨r814, T814, L814, X814, hQ814, st814⟩ := own_callV (W := 0) (a := b805) (C := "com/example/consulate/consulate/cvc/Chat") X799 hx hZ rfl hown (y := (⟨"com/example/consulate/consulate/cvc/Chat", "data", "()[B"⟩ : MethodName)) (z := (⟨"com/example/consulate/consulate/cvc/Chat", "data", "()[B"⟩ : MethodName)) (hw _ (List.mem_of_getElem? (i := 44) rfl)) (hw _ (List.mem_of_getElem? (i := 45) rfl)) (notFace_of_selects (args := #[]) (mvT hZ (hw _ (List.mem_of_getElem? (i := 47) rfl)))) (hw _ (List.mem_of_getElem? (i := 47) rfl)) (hw _ (List.mem_of_getElem? (i := 46) rfl)) (hw _ (List.mem_of_getElem? (i := 10) rfl)) (hw _ (List.mem_of_getElem? (i := 48) rfl)) (by decide) (f808) (rm4 l Z a0 hw [] b805 b804 T799.heap n0 Z812 (f810)) (by decide) (by decide) (by decide) (by decide) (g := (mkF m 181 A813 [(.ref b805)])) rfl (by rw [hml]; rfl) (argsL := []) (rest := []) rfl (lenOf pd_3 rfl) rfl (by show 2 * 0 + _ ≤ _; exact Nat.le_of_eq rfl) (hb hby at_181)
              obtain ⟨rfl, N814, e814⟩ := hQ814
              have N814_ := Fr.app N799_ N814
              refine Go.st (S' := T814.setTop (mkF m 184 A813 [(.ref b804)])) st814 ?_
              let A815 : Array Slot := #[.val (.int p0), .val (.int p1), .val (.int p2), .val (.int p3), .val (.int p4), .val (.int p5), .val (.int v3), .val (.ref r21), .val (.int v25), .val (.ref s_Chat_Role_TERMINAL), .val (.int (0 : Int32)), .val (.int r741), .val (.ref b750), .val (.ref b757), .val (.ref b805), .val (.ref b804), .unset]
              refine Go.st (S' := T814.setTop (mkF m 186 A815 [])) (fun t k => XS.astore X814.here hx rfl (hb hby at_184) rfl rfl (l' := A815) rfl k) ?_
              refine Go.st (S' := T814.setTop (mkF m 188 A815 [(.ref b805)])) (fun t k => XS.aload X814.here hx rfl (hb hby at_186) rfl rfl k) ?_
              obtain ⟨r816, T816, L816, X816, hQ816, st816⟩ := own_callV (W := 0) (a := b805) (C := "com/example/consulate/consulate/cvc/Chat") X814 hx hZ e814 hown (y := (⟨"com/example/consulate/consulate/cvc/Chat", "template", "()Lcom/example/consulate/consulate/cvc/Chat$Template;"⟩ : MethodName)) (z := (⟨"com/example/consulate/consulate/cvc/Chat", "template", "()Lcom/example/consulate/consulate/cvc/Chat$Template;"⟩ : MethodName)) (hw _ (List.mem_of_getElem? (i := 49) rfl)) (hw _ (List.mem_of_getElem? (i := 50) rfl)) (notFace_of_selects (args := #[]) (mvT hZ (hw _ (List.mem_of_getElem? (i := 52) rfl)))) (hw _ (List.mem_of_getElem? (i := 52) rfl)) (hw _ (List.mem_of_getElem? (i := 51) rfl)) (hw _ (List.mem_of_getElem? (i := 10) rfl)) (hw _ (List.mem_of_getElem? (i := 53) rfl)) (by decide) (f808) (rm5 l Z a0 hw [] b805 r21 T799.heap n0 Z812 (f809)) (by decide) (by decide) (by decide) (by decide) (g := (mkF m 188 A815 [(.ref b805)])) rfl (by rw [hml]; rfl) (argsL := []) (rest := []) rfl (lenOf pd_4 rfl) rfl (by show 2 * 0 + _ ≤ _; exact Nat.le_of_eq rfl) (hb hby at_188)
              obtain ⟨rfl, N816, e816⟩ := hQ816
              have N816_ := Fr.app N814_ N816
              refine Go.st (S' := T816.setTop (mkF m 191 A815 [(.ref r21)])) st816 ?_
              refine Go.st (S' := T816.setTop (mkF m 193 A815 [(.ref r21), (.ref r21)])) (fun t k => XS.aload X816.here hx rfl (hb hby at_191) rfl rfl k) ?_
              refine Go.st (S' := T816.setTop (mkF m 198 A815 [])) (fun t k => acmp X816 hx rfl rfl rfl (pc0 := 193) (pc' := 198) (same := true) rfl (hb hby at_193) rfl (by simp) (by decide) (by decide) k) ?_
              refine Go.st (S' := T816.setTop (mkF m 200 A815 [(.ref b804)])) (fun t k => XS.aload X816.here hx rfl (hb hby at_198) rfl rfl k) ?_
              obtain ⟨cl817, Ar817, -, S817, N817_, -, -⟩ := id f806
              refine Go.op (F := fun z => T816.setTop (mkF m 201 A815 [(.int z)])) (x := cl817.slots.size.toInt32) (fun t k => X816.arraylength hx (own_eh e816 Ar817.1) (State.isArrayOf_alike hZ.alike Ar817.2.1) (g := (mkF m 200 A815 [(.ref b804)])) rfl rfl (hb hby at_200) t k) ?_
              intro v818 hv818
              obtain rfl : (1 : Int32) = v818 := (hv818.trans (len_of S817 N817_)).symm
              refine Go.st (S' := T816.setTop (mkF m 203 A815 [(.ref b750), (.int (1 : Int32))])) (fun t k => XS.aload X816.here hx rfl (hb hby at_201) rfl rfl k) ?_
              have f819 := ((f796).keep K799_ nin0)
              obtain ⟨cl820, Ar820, -, S820, N820_, -, -⟩ := id f819
              refine Go.op (F := fun z => T816.setTop (mkF m 204 A815 [(.int z), (.int (1 : Int32))])) (x := cl820.slots.size.toInt32) (fun t k => X816.arraylength hx (own_eh e816 Ar820.1) (State.isArrayOf_alike hZ.alike Ar820.2.1) (g := (mkF m 203 A815 [(.ref b750), (.int (1 : Int32))])) rfl rfl (hb hby at_203) t k) ?_
              intro v821 hv821
              obtain rfl : (1 : Int32) = v821 := (hv821.trans (len_of S820 N820_)).symm
              refine Go.st (S' := T816.setTop (mkF m 209 A815 [])) (fun t k => XS.icmpYes X816.here hx rfl (pc0 := 204) (pc' := 209) rfl (hb hby at_204) rfl (teq (by decide : ((1 : Int32) = (1 : Int32)))).1 (by decide) (by decide) k) ?_
              refine Go.st (S' := T816.setTop (mkF m 211 A815 [(.ref b804)])) (fun t k => XS.aload X816.here hx rfl (hb hby at_209) rfl rfl k) ?_
              refine Go.st (S' := T816.setTop (mkF m 212 A815 [(.int (0 : Int32)), (.ref b804)])) (fun t k => XS.iconst X816.here hx rfl (hb hby at_211) k) ?_
              obtain ⟨cl822, Ar822, -, S822, N822_, H822, -⟩ := id f806
              have hin822 : ¬ ((0 : Int32) < 0 ∨ cl822.slots.size ≤ ((0 : Int32)).toNatClampNeg) := inb_of S822 ⟨by decide, by decide⟩
              have hat822 : cl822.slots[((0 : Int32)).toNatClampNeg]? = some (.int v803) := Has.at H822 hin822 rfl
              refine Go.st (S' := T816.setTop (mkF m 213 A815 [(.int v803)])) (fun t k => X816.baloadBytes hx (j := (0 : Int32)) (v := (.int v803)) (own_eh e816 Ar822.1) (State.isArrayOf_alike hZ.alike Ar822.2.1) Ar822.2.2 hin822 hat822 (g := (mkF m 212 A815 [(.int (0 : Int32)), (.ref b804)])) rfl rfl (hb hby at_212) t k) ?_
              refine Go.st (S' := T816.setTop (mkF m 216 A815 [(.int (255 : Int32)), (.int v803)])) (fun t k => XS.sipush X816.here hx rfl (hb hby at_213) k) ?_
              refine Go.op (F := fun z => T816.setTop (mkF m 217 A815 [(.int z)])) (x := (v803 &&& (255 : Int32))) (fun t k => XS.iand X816.here hx rfl (hb hby at_216) rfl k) ?_
              intro v823 hv823
              let A824 : Array Slot := #[.val (.int p0), .val (.int p1), .val (.int p2), .val (.int p3), .val (.int p4), .val (.int p5), .val (.int v3), .val (.ref r21), .val (.int v25), .val (.ref s_Chat_Role_TERMINAL), .val (.int (0 : Int32)), .val (.int r741), .val (.ref b750), .val (.ref b757), .val (.ref b805), .val (.ref b804), .val (.int v823)]
              refine Go.st (S' := T816.setTop (mkF m 219 A824 [])) (fun t k => XS.istore X816.here hx rfl (hb hby at_217) rfl (l' := A824) rfl k) ?_
              refine Go.st (S' := T816.setTop (mkF m 221 A824 [(.int v823)])) (fun t k => XS.iload X816.here hx rfl (hb hby at_219) rfl k) ?_
              refine Go.st (S' := T816.setTop (mkF m 223 A824 [(.int (6 : Int32)), (.int v823)])) (fun t k => XS.bipush X816.here hx rfl (hb hby at_221) k) ?_
              refine Go.op (F := fun z => T816.setTop (mkF m 224 A824 [(.int z)])) (x := ((v823.toUInt32 >>> ((6 : Int32) &&& 31).toUInt32).toInt32)) (fun t k => XS.iushr X816.here hx rfl (hb hby at_223) rfl k) ?_
              intro v825 hv825
              refine Go.st (S' := T816.setTop (mkF m 226 A824 [(.int (0 : Int32)), (.int v825)])) (fun t k => XS.iload X816.here hx rfl (hb hby at_224) rfl k) ?_
              by_cases hc826 : (v825 = (0 : Int32))
              · refine Go.st (S' := T816.setTop (mkF m 231 A824 [])) (fun t k => XS.icmpYes X816.here hx rfl (pc0 := 226) (pc' := 231) rfl (hb hby at_226) rfl (teq hc826).1 (by decide) (by decide) k) ?_
                refine Go.st (S' := T816.setTop (mkF m 233 A824 [(.int v823)])) (fun t k => XS.iload X816.here hx rfl (hb hby at_231) rfl k) ?_
                refine Go.st (S' := T816.setTop (mkF m 235 A824 [(.int (63 : Int32)), (.int v823)])) (fun t k => XS.bipush X816.here hx rfl (hb hby at_233) k) ?_
                refine Go.op (F := fun z => T816.setTop (mkF m 236 A824 [(.int z)])) (x := (v823 &&& (63 : Int32))) (fun t k => XS.iand X816.here hx rfl (hb hby at_235) rfl k) ?_
                intro v827 hv827
                refine Go.st (S' := T816.setTop (mkF m 237 A824 [(.int p2), (.int v827)])) (fun t k => XS.iloadN X816.here hx rfl (hb hby at_236) rfl k) ?_
                refine Go.st (S' := T816.setTop (mkF m 239 A824 [(.int (63 : Int32)), (.int p2), (.int v827)])) (fun t k => XS.bipush X816.here hx rfl (hb hby at_237) k) ?_
                refine Go.op (F := fun z => T816.setTop (mkF m 240 A824 [(.int z), (.int v827)])) (x := (p2 &&& (63 : Int32))) (fun t k => XS.iand X816.here hx rfl (hb hby at_239) rfl k) ?_
                intro v828 hv828
                by_cases hc829 : (v827 = v828)
                · refine Go.st (S' := T816.setTop (mkF m 245 A824 [])) (fun t k => XS.icmpYes X816.here hx rfl (pc0 := 240) (pc' := 245) rfl (hb hby at_240) rfl (teq hc829).1 (by decide) (by decide) k) ?_
                  refine Go.st (S' := T816.setTop (mkF m 247 A824 [(.int r741)])) (fun t k => XS.iload X816.here hx rfl (hb hby at_245) rfl k) ?_
                  refine Go.st (S' := T816.setTop (mkF m 271 A824 [])) (fun t k => XS.ifYes X816.here hx rfl (pc0 := 247) (pc' := 271) rfl (hb hby at_247) rfl ((if0 _ _).trans (teq hc749).1) (by decide) (by decide) k) ?_
                  refine Go.st (S' := T816.setTop (mkF m 273 A824 [(.ref b750)])) (fun t k => XS.aload X816.here hx rfl (hb hby at_271) rfl rfl k) ?_
                  refine Go.st (S' := T816.setTop (mkF m 274 A824 [(.int (0 : Int32)), (.ref b750)])) (fun t k => XS.iconst X816.here hx rfl (hb hby at_273) k) ?_
                  obtain ⟨cl830, Ar830, -, S830, N830_, H830, -⟩ := id f819
                  have hin830 : ¬ ((0 : Int32) < 0 ∨ cl830.slots.size ≤ ((0 : Int32)).toNatClampNeg) := inb_of S830 ⟨by decide, by decide⟩
                  have hat830 : cl830.slots[((0 : Int32)).toNatClampNeg]? = some (.int v755) := Has.at H830 hin830 rfl
                  refine Go.st (S' := T816.setTop (mkF m 275 A824 [(.int v755)])) (fun t k => X816.baloadBytes hx (j := (0 : Int32)) (v := (.int v755)) (own_eh e816 Ar830.1) (State.isArrayOf_alike hZ.alike Ar830.2.1) Ar830.2.2 hin830 hat830 (g := (mkF m 274 A824 [(.int (0 : Int32)), (.ref b750)])) rfl rfl (hb hby at_274) t k) ?_
                  refine Go.st (S' := T816.setTop (mkF m 276 A824 [(.int p2), (.int v755)])) (fun t k => XS.iloadN X816.here hx rfl (hb hby at_275) rfl k) ?_
                  refine Go.op (F := fun z => T816.setTop (mkF m 277 A824 [(.int z), (.int v755)])) (x := p2.toInt8.toInt32) (fun t k => XS.i2b X816.here hx rfl (hb hby at_276) rfl k) ?_
                  intro v831 hv831
                  obtain rfl : v753 = v831 := hv753.trans hv831.symm
                  by_cases hc832 : (v755 = v753)
                  · refine Go.st (S' := T816.setTop (mkF m 282 A824 [])) (fun t k => XS.icmpYes X816.here hx rfl (pc0 := 277) (pc' := 282) rfl (hb hby at_277) rfl (teq hc832).1 (by decide) (by decide) k) ?_
                    refine Go.st (S' := T816.setTop (mkF m 284 A824 [(.int r741)])) (fun t k => XS.iload X816.here hx rfl (hb hby at_282) rfl k) ?_
                    refine Go.st (S' := T816.setTop (mkF m 308 A824 [])) (fun t k => XS.ifYes X816.here hx rfl (pc0 := 284) (pc' := 308) rfl (hb hby at_284) rfl ((if0 _ _).trans (teq hc749).1) (by decide) (by decide) k) ?_
                    refine Go.st (S' := T816.setTop (mkF m 309 A824 [(.int (1 : Int32))])) (fun t k => XS.iconst X816.here hx rfl (hb hby at_308) k) ?_
                    exact Go.ret X816 (v := some (.int (1 : Int32))) (fun h => by rw [Bd.returns] at h; cases h) Bd.notSynchronized (fun fs hr => retN X816 hx (t := .boolean) Bd.returns (by simp) (hb hby at_309) hr) (by decide) (by decide) ⟨rfl, N816_⟩
                  · exfalso
                    have rv753 := rng32 v753
                    have wv753 := c_i2b p2
                    rw [← hv753] at wv753
                    have rv755 := rng32 v755
                    have wv755 := c_i2b v753
                    rw [← hv755] at wv755
                    have rv800 := rng32 v800
                    have wv800 := c_mask v755 (63 : Int32) 6 (by decide) (by decide)
                    rw [← hv800] at wv800
                    have rv801 := rng32 v801
                    have wv801 := congrArg Int32.toInt (Int32.or_zero (a := v800))
                    rw [← hv801] at wv801
                    have rv802 := rng32 v802
                    have wv802 := c_i2b v801
                    rw [← hv802] at wv802
                    have rv803 := rng32 v803
                    have wv803 := c_i2b v802
                    rw [← hv803] at wv803
                    have rv823 := rng32 v823
                    have wv823 := c_mask v803 (255 : Int32) 8 (by decide) (by decide)
                    rw [← hv823] at wv823
                    have rv825 := rng32 v825
                    have wv825 := c_iushr v823 (6 : Int32) 6 (by decide) (by decide)
                    rw [← hv825] at wv825
                    have rv827 := rng32 v827
                    have wv827 := c_mask v823 (63 : Int32) 6 (by decide) (by decide)
                    rw [← hv827] at wv827
                    have rv828 := rng32 v828
                    have wv828 := c_mask p2 (63 : Int32) 6 (by decide) (by decide)
                    rw [← hv828] at wv828
                    have rp2 := rng32 p2
                    have lI0 : (0 : Int32).toInt = 0 := by decide
                    have lI6 : (6 : Int32).toInt = 6 := by decide
                    have lI63 : (63 : Int32).toInt = 63 := by decide
                    have lI255 : (255 : Int32).toInt = 255 := by decide
                    simp only [Int32.lt_iff_toInt_lt, Int64.lt_iff_toInt_lt, ← Int32.toInt_inj, ← Int64.toInt_inj] at hc826 hc829 hc832
                    omega
                · exfalso
                  have rv753 := rng32 v753
                  have wv753 := c_i2b p2
                  rw [← hv753] at wv753
                  have rv755 := rng32 v755
                  have wv755 := c_i2b v753
                  rw [← hv755] at wv755
                  have rv800 := rng32 v800
                  have wv800 := c_mask v755 (63 : Int32) 6 (by decide) (by decide)
                  rw [← hv800] at wv800
                  have rv801 := rng32 v801
                  have wv801 := congrArg Int32.toInt (Int32.or_zero (a := v800))
                  rw [← hv801] at wv801
                  have rv802 := rng32 v802
                  have wv802 := c_i2b v801
                  rw [← hv802] at wv802
                  have rv803 := rng32 v803
                  have wv803 := c_i2b v802
                  rw [← hv803] at wv803
                  have rv823 := rng32 v823
                  have wv823 := c_mask v803 (255 : Int32) 8 (by decide) (by decide)
                  rw [← hv823] at wv823
                  have rv825 := rng32 v825
                  have wv825 := c_iushr v823 (6 : Int32) 6 (by decide) (by decide)
                  rw [← hv825] at wv825
                  have rv827 := rng32 v827
                  have wv827 := c_mask v823 (63 : Int32) 6 (by decide) (by decide)
                  rw [← hv827] at wv827
                  have rv828 := rng32 v828
                  have wv828 := c_mask p2 (63 : Int32) 6 (by decide) (by decide)
                  rw [← hv828] at wv828
                  have rp2 := rng32 p2
                  have lI0 : (0 : Int32).toInt = 0 := by decide
                  have lI6 : (6 : Int32).toInt = 6 := by decide
                  have lI63 : (63 : Int32).toInt = 63 := by decide
                  have lI255 : (255 : Int32).toInt = 255 := by decide
                  simp only [Int32.lt_iff_toInt_lt, Int64.lt_iff_toInt_lt, ← Int32.toInt_inj, ← Int64.toInt_inj] at hc826 hc829
                  omega
              · exfalso
                have rv753 := rng32 v753
                have wv753 := c_i2b p2
                rw [← hv753] at wv753
                have rv755 := rng32 v755
                have wv755 := c_i2b v753
                rw [← hv755] at wv755
                have rv800 := rng32 v800
                have wv800 := c_mask v755 (63 : Int32) 6 (by decide) (by decide)
                rw [← hv800] at wv800
                have rv801 := rng32 v801
                have wv801 := congrArg Int32.toInt (Int32.or_zero (a := v800))
                rw [← hv801] at wv801
                have rv802 := rng32 v802
                have wv802 := c_i2b v801
                rw [← hv802] at wv802
                have rv803 := rng32 v803
                have wv803 := c_i2b v802
                rw [← hv803] at wv803
                have rv823 := rng32 v823
                have wv823 := c_mask v803 (255 : Int32) 8 (by decide) (by decide)
                rw [← hv823] at wv823
                have rv825 := rng32 v825
                have wv825 := c_iushr v823 (6 : Int32) 6 (by decide) (by decide)
                rw [← hv825] at wv825
                have rp2 := rng32 p2
                have lI0 : (0 : Int32).toInt = 0 := by decide
                have lI6 : (6 : Int32).toInt = 6 := by decide
                have lI63 : (63 : Int32).toInt = 63 := by decide
                have lI255 : (255 : Int32).toInt = 255 := by decide
                simp only [Int32.lt_iff_toInt_lt, Int64.lt_iff_toInt_lt, ← Int32.toInt_inj, ← Int64.toInt_inj] at hc826
                omega
            · refine Go.st (S' := T735.setTop (mkF m 122 A743 [])) (fun t k => XS.ifNo X735.here hx rfl (hb hby at_119) rfl ((if0 _ _).trans (feq hc749).1) k) ?_
              refine Go.st (S' := T735.setTop (mkF m 123 A743 [(.int (3 : Int32))])) (fun t k => XS.iconst X735.here hx rfl (hb hby at_122) k) ?_
              obtain ⟨T833, h833, k833, X833, e833, E833, A833, B833, st833⟩ := newPE X735 hx hZ (hw _ (List.mem_of_getElem? (i := 7) rfl)) e735 (g := (mkF m 123 A743 [(.int (3 : Int32))])) rfl (hb hby at_123) rfl (by decide) (cap := 3) (by decide) (by decide) (by decide) (by decide) (ad := "[B") (by decide)
              obtain ⟨b833, gg833⟩ : ∃ z, z = h0.size := ⟨_, rfl⟩
              rw [← gg833] at A833 B833 st833
              have g_b833 : n0 ≤ b833 := Nat.le_trans Z0 (Nat.le_of_eq gg833.symm)
              have sz_b833 : h0.size ≤ b833 := Nat.le_trans (Keep.refl h0 []).1 (Nat.le_of_eq gg833.symm)
              have Z834 : n0 ≤ h833.size := Nat.le_trans Z0 E833.1
              have K834 : Keep h0 h833 [] := (Keep.refl h0 []).ext E833
              have V833 : Arv Z h833 b833 k833 .byte (3 : Int32) [(.int (0 : Int32)), (.int (0 : Int32)), (.int (0 : Int32))] (.int (0 : Int32)) := (Arv.new A833 (by decide)).pad (pad_rep [] (.int (0 : Int32)) 3)
              refine Go.st (S' := T833.setTop (mkF m 125 A743 [(.ref b833)])) st833 ?_
              refine Go.st (S' := T833.setTop (mkF m 131 A743 [(.ref b833)])) (fun t k => XS.goto X833.here hx rfl (pc0 := 125) (pc' := 131) rfl (hb hby at_125) (by decide) (by decide) k) ?_
              let A835 : Array Slot := #[.val (.int p0), .val (.int p1), .val (.int p2), .val (.int p3), .val (.int p4), .val (.int p5), .val (.int v3), .val (.ref r21), .val (.int v25), .val (.ref s_Chat_Role_TERMINAL), .val (.int (0 : Int32)), .val (.int r741), .val (.ref b833), .unset, .unset, .unset, .unset]
              refine Go.st (S' := T833.setTop (mkF m 133 A835 [])) (fun t k => XS.astore X833.here hx rfl (hb hby at_131) rfl rfl (l' := A835) rfl k) ?_
              refine Go.st (S' := T833.setTop (mkF m 135 A835 [(.ref b833)])) (fun t k => XS.aload X833.here hx rfl (hb hby at_133) rfl rfl k) ?_
              refine Go.st (S' := T833.setTop (mkF m 136 A835 [(.int (0 : Int32)), (.ref b833)])) (fun t k => XS.iconst X833.here hx rfl (hb hby at_135) k) ?_
              refine Go.st (S' := T833.setTop (mkF m 137 A835 [(.int p2), (.int (0 : Int32)), (.ref b833)])) (fun t k => XS.iloadN X833.here hx rfl (hb hby at_136) rfl k) ?_
              refine Go.op (F := fun z => T833.setTop (mkF m 138 A835 [(.int z), (.int (0 : Int32)), (.ref b833)])) (x := p2.toInt8.toInt32) (fun t k => XS.i2b X833.here hx rfl (hb hby at_137) rfl k) ?_
              intro v836 hv836
              obtain ⟨cl837, Ar837, q837, S837, N837_, H837, G837⟩ := id V833
              have hin837 : ¬ ((0 : Int32) < 0 ∨ cl837.slots.size ≤ ((0 : Int32)).toNatClampNeg) := inb_of S837 ⟨by decide, by decide⟩
              obtain ⟨v838, hv838⟩ : ∃ z, z = v836.toInt8.toInt32 := ⟨_, rfl⟩
              obtain ⟨T837, h837, X837, e837, W837, st837⟩ := stB X833 hx hZ e833 Ar837 (j := (0 : Int32)) hin837 (g := (mkF m 138 A835 [(.int v836), (.int (0 : Int32)), (.ref b833)])) rfl rfl (hb hby at_138)
              have W837 : Wr h833 h837 b833 ((0 : Int32)).toNatClampNeg (.int v838) := by rw [hv838]; exact W837
              have V837 : Arv Z h837 b833 k833 .byte (3 : Int32) [(.int v838), (.int (0 : Int32)), (.int (0 : Int32))] (.int (0 : Int32)) := Arv.set Ar837 q837 S837 N837_ H837 G837 (by rw [hv838]; exact fits_nar_byte _) W837 0 rfl (Nat.le_of_ble_eq_true rfl)
              have N837 := Fr.snoc X837 N0 g_b833
              have Z839 : n0 ≤ h837.size := Nat.le_trans Z834 (Keep.of_wr W837).1
              have K839 : Keep h0 h837 [] := K834.wr W837 (Or.inr sz_b833)
              refine Go.st (S' := T837.setTop (mkF m 139 A835 [])) st837 ?_
              refine Go.st (S' := T837.setTop (mkF m 141 A835 [(.int r741)])) (fun t k => XS.iload X837.here hx rfl (hb hby at_139) rfl k) ?_
              refine Go.st (S' := T837.setTop (mkF m 144 A835 [])) (fun t k => XS.ifNo X837.here hx rfl (hb hby at_141) rfl ((if0 _ _).trans (feq hc749).1) k) ?_
              refine Go.st (S' := T837.setTop (mkF m 146 A835 [(.ref b833)])) (fun t k => XS.aload X837.here hx rfl (hb hby at_144) rfl rfl k) ?_
              refine Go.st (S' := T837.setTop (mkF m 147 A835 [(.int (1 : Int32)), (.ref b833)])) (fun t k => XS.iconst X837.here hx rfl (hb hby at_146) k) ?_
              refine Go.st (S' := T837.setTop (mkF m 148 A835 [(.int p3), (.int (1 : Int32)), (.ref b833)])) (fun t k => XS.iloadN X837.here hx rfl (hb hby at_147) rfl k) ?_
              refine Go.op (F := fun z => T837.setTop (mkF m 149 A835 [(.int z), (.int (1 : Int32)), (.ref b833)])) (x := p3.toInt8.toInt32) (fun t k => XS.i2b X837.here hx rfl (hb hby at_148) rfl k) ?_
              intro v840 hv840
              obtain ⟨cl841, Ar841, q841, S841, N841_, H841, G841⟩ := id V837
              have hin841 : ¬ ((1 : Int32) < 0 ∨ cl841.slots.size ≤ ((1 : Int32)).toNatClampNeg) := inb_of S841 ⟨by decide, by decide⟩
              obtain ⟨v842, hv842⟩ : ∃ z, z = v840.toInt8.toInt32 := ⟨_, rfl⟩
              obtain ⟨T841, h841, X841, e841, W841, st841⟩ := stB X837 hx hZ e837 Ar841 (j := (1 : Int32)) hin841 (g := (mkF m 149 A835 [(.int v840), (.int (1 : Int32)), (.ref b833)])) rfl rfl (hb hby at_149)
              have W841 : Wr h837 h841 b833 ((1 : Int32)).toNatClampNeg (.int v842) := by rw [hv842]; exact W841
              have V841 : Arv Z h841 b833 k833 .byte (3 : Int32) [(.int v838), (.int v842), (.int (0 : Int32))] (.int (0 : Int32)) := Arv.set Ar841 q841 S841 N841_ H841 G841 (by rw [hv842]; exact fits_nar_byte _) W841 1 rfl (Nat.le_of_ble_eq_true rfl)
              have N841 := Fr.snoc X841 N837 g_b833
              have Z843 : n0 ≤ h841.size := Nat.le_trans Z839 (Keep.of_wr W841).1
              have K843 : Keep h0 h841 [] := K839.wr W841 (Or.inr sz_b833)
              refine Go.st (S' := T841.setTop (mkF m 150 A835 [])) st841 ?_
              refine Go.st (S' := T841.setTop (mkF m 152 A835 [(.ref b833)])) (fun t k => XS.aload X841.here hx rfl (hb hby at_150) rfl rfl k) ?_
              refine Go.st (S' := T841.setTop (mkF m 153 A835 [(.int (2 : Int32)), (.ref b833)])) (fun t k => XS.iconst X841.here hx rfl (hb hby at_152) k) ?_
              refine Go.st (S' := T841.setTop (mkF m 155 A835 [(.int p4), (.int (2 : Int32)), (.ref b833)])) (fun t k => XS.iload X841.here hx rfl (hb hby at_153) rfl k) ?_
              refine Go.op (F := fun z => T841.setTop (mkF m 156 A835 [(.int z), (.int (2 : Int32)), (.ref b833)])) (x := p4.toInt8.toInt32) (fun t k => XS.i2b X841.here hx rfl (hb hby at_155) rfl k) ?_
              intro v844 hv844
              obtain ⟨cl845, Ar845, q845, S845, N845_, H845, G845⟩ := id V841
              have hin845 : ¬ ((2 : Int32) < 0 ∨ cl845.slots.size ≤ ((2 : Int32)).toNatClampNeg) := inb_of S845 ⟨by decide, by decide⟩
              obtain ⟨v846, hv846⟩ : ∃ z, z = v844.toInt8.toInt32 := ⟨_, rfl⟩
              obtain ⟨T845, h845, X845, e845, W845, st845⟩ := stB X841 hx hZ e841 Ar845 (j := (2 : Int32)) hin845 (g := (mkF m 156 A835 [(.int v844), (.int (2 : Int32)), (.ref b833)])) rfl rfl (hb hby at_156)
              have W845 : Wr h841 h845 b833 ((2 : Int32)).toNatClampNeg (.int v846) := by rw [hv846]; exact W845
              have V845 : Arv Z h845 b833 k833 .byte (3 : Int32) [(.int v838), (.int v842), (.int v846)] (.int (0 : Int32)) := Arv.set Ar845 q845 S845 N845_ H845 G845 (by rw [hv846]; exact fits_nar_byte _) W845 2 rfl (Nat.le_of_ble_eq_true rfl)
              have N845 := Fr.snoc X845 N841 g_b833
              have Z847 : n0 ≤ h845.size := Nat.le_trans Z843 (Keep.of_wr W845).1
              have K847 : Keep h0 h845 [] := K843.wr W845 (Or.inr sz_b833)
              refine Go.st (S' := T845.setTop (mkF m 157 A835 [])) st845 ?_
              obtain ⟨T848, h848, X848, e848, E848, A848, D848, -, st848⟩ := newO X845 hx hZ hown (hw _ (List.mem_of_getElem? (i := 8) rfl)) (hw _ (List.mem_of_getElem? (i := 9) rfl)) (hw _ (List.mem_of_getElem? (i := 10) rfl)) e845 (g := (mkF m 157 A835 [])) rfl (hb hby at_157) (by decide) (by decide)
              obtain ⟨b848, gg848⟩ : ∃ z, z = h845.size := ⟨_, rfl⟩
              rw [← gg848] at A848 D848 st848
              have g_b848 : n0 ≤ b848 := Nat.le_trans Z847 (Nat.le_of_eq gg848.symm)
              have sz_b848 : h0.size ≤ b848 := Nat.le_trans K847.1 (Nat.le_of_eq gg848.symm)
              have f849 := ((((((B833).wr W837)).wr W841)).wr W845)
              have lt_b833_b848 : b833 < b848 := Nat.lt_of_lt_of_le (f849).lt (Nat.le_of_eq gg848.symm)
              have Z850 : n0 ≤ h848.size := Nat.le_trans Z847 E848.1
              have K850 : Keep h0 h848 [] := K847.ext E848
              have Fb848_template : Fld Z h848 b848 "com/example/consulate/consulate/cvc/Chat" "template" "Lcom/example/consulate/consulate/cvc/Chat$Template;" .null := D848 (Or.inr (hw _ (List.mem_of_getElem? (i := 23) rfl))) (ty := (.object "com/example/consulate/consulate/cvc/Chat$Template")) (by decide)
              have Fb848_data : Fld Z h848 b848 "com/example/consulate/consulate/cvc/Chat" "data" "[B" .null := D848 (Or.inr (hw _ (List.mem_of_getElem? (i := 25) rfl))) (ty := (.array .byte)) (by decide)
              refine Go.st (S' := T848.setTop (mkF m 160 A835 [(.ref b848)])) st848 ?_
              refine Go.st (S' := T848.setTop (mkF m 161 A835 [(.ref b848), (.ref b848)])) (fun t k => XS.dup X848.here hx rfl (hb hby at_160) rfl rfl k) ?_
              refine Go.st (S' := T848.setTop (mkF m 163 A835 [(.ref r21), (.ref b848), (.ref b848)])) (fun t k => XS.aload X848.here hx rfl (hb hby at_161) rfl rfl k) ?_
              refine Go.st (S' := T848.setTop (mkF m 165 A835 [(.ref b833), (.ref r21), (.ref b848), (.ref b848)])) (fun t k => XS.aload X848.here hx rfl (hb hby at_163) rfl rfl k) ?_
              have f852 := ((V845).ext E848)
              obtain ⟨r853, T853, L853, X853, hQ853, st853⟩ := own_callI (W := 1) (a := b848) X848 hx hZ e848 hown (y := (⟨"com/example/consulate/consulate/cvc/Chat", "<init>", "(Lcom/example/consulate/consulate/cvc/Chat$Template;[B)V"⟩ : MethodName)) rfl (hw _ (List.mem_of_getElem? (i := 11) rfl)) (hw _ (List.mem_of_getElem? (i := 12) rfl)) (hw _ (List.mem_of_getElem? (i := 10) rfl)) (hw _ (List.mem_of_getElem? (i := 13) rfl)) (by decide) (rm6 l Z a0 hw [] b848 r21 b833 k833 v838 v842 v846 (.null) (.null) h848 n0 Z850 (f852) (A848) (Fb848_template) (g_b848) (Fb848_data)) (by decide) (by decide) (by decide) (by decide) (g := (mkF m 165 A835 [(.ref b833), (.ref r21), (.ref b848), (.ref b848)])) rfl (by rw [hml]; rfl) (argsL := [(.ref r21), (.ref b833)]) (rest := [(.ref b848)]) rfl (lenOf pd_1 rfl) rfl (by show 2 * 0 + _ ≤ _; exact Nat.le_of_eq rfl) (hb hby at_165)
              obtain ⟨rfl, N853, K853_, f854, f855, f856⟩ := hQ853
              have N853_ := Fr.app N845 N853
              have Z857 : n0 ≤ T853.heap.size := Nat.le_trans Z850 K853_.1
              have K857 : Keep h0 T853.heap [] := K850.trans K853_ (allS (Or.inr sz_b848) all0)
              refine Go.st (S' := T853.setTop (mkF m 168 A835 [(.ref b848)])) st853 ?_
              let A858 : Array Slot := #[.val (.int p0), .val (.int p1), .val (.int p2), .val (.int p3), .val (.int p4), .val (.int p5), .val (.int v3), .val (.ref r21), .val (.int v25), .val (.ref s_Chat_Role_TERMINAL), .val (.int (0 : Int32)), .val (.int r741), .val (.ref b833), .val (.ref b848), .unset, .unset, .unset]
              refine Go.st (S' := T853.setTop (mkF m 170 A858 [])) (fun t k => XS.astore X853.here hx rfl (hb hby at_168) rfl rfl (l' := A858) rfl k) ?_
              refine Go.st (S' := T853.setTop (mkF m 172 A858 [(.ref b848)])) (fun t k => XS.aload X853.here hx rfl (hb hby at_170) rfl rfl k) ?_
              refine Go.st (S' := T853.setTop (mkF m 174 A858 [(.ref s_Chat_Role_TERMINAL), (.ref b848)])) (fun t k => XS.aload X853.here hx rfl (hb hby at_172) rfl rfl k) ?_
              have f890 := ((f852).keep K853_ (ninS (Nat.ne_of_lt lt_b833_b848) nin0))
              have f891 := ((((f849).ext E848)).keep K853_)
              have f892 := ((((((((((((F_s_Chat_Role_TERMINAL_bits).ext E833)).other W837 (Or.inl (Nat.ne_of_lt (Nat.lt_of_lt_of_le (F_s_Chat_Role_TERMINAL_bits).lt sz_b833))))).other W841 (Or.inl (Nat.ne_of_lt (Nat.lt_of_lt_of_le (F_s_Chat_Role_TERMINAL_bits).lt sz_b833))))).other W845 (Or.inl (Nat.ne_of_lt (Nat.lt_of_lt_of_le (F_s_Chat_Role_TERMINAL_bits).lt sz_b833))))).ext E848)).keep K853_ (ninS (Nat.ne_of_lt (Nat.lt_of_lt_of_le (F_s_Chat_Role_TERMINAL_bits).lt sz_b848)) nin0))
              obtain ⟨r893, T893, L893, X893, hQ893, st893⟩ := own_callV (W := 0) (a := b848) (C := "com/example/consulate/consulate/cvc/Chat") X853 hx hZ rfl hown (y := (⟨"com/example/consulate/consulate/cvc/Chat", "withRole", "(Lcom/example/consulate/consulate/cvc/Chat$Role;)Lcom/example/consulate/consulate/cvc/Chat;"⟩ : MethodName)) (z := (⟨"com/example/consulate/consulate/cvc/Chat", "withRole", "(Lcom/example/consulate/consulate/cvc/Chat$Role;)Lcom/example/consulate/consulate/cvc/Chat;"⟩ : MethodName)) (hw _ (List.mem_of_getElem? (i := 26) rfl)) (hw _ (List.mem_of_getElem? (i := 27) rfl)) (notFace_of_selects (args := #[]) (mvT hZ (hw _ (List.mem_of_getElem? (i := 29) rfl)))) (hw _ (List.mem_of_getElem? (i := 29) rfl)) (hw _ (List.mem_of_getElem? (i := 28) rfl)) (hw _ (List.mem_of_getElem? (i := 10) rfl)) (hw _ (List.mem_of_getElem? (i := 30) rfl)) (by decide) (f854) (rm13 l Z a0 hw [] b848 s_Chat_Role_TERMINAL b833 k833 v838 v842 v846 r21 T853.heap n0 Z857 (f856) (f890) (f891) (f892) (f855)) (by decide) (by decide) (by decide) (by decide) (g := (mkF m 174 A858 [(.ref s_Chat_Role_TERMINAL), (.ref b848)])) rfl (by rw [hml]; rfl) (argsL := [(.ref s_Chat_Role_TERMINAL)]) (rest := []) rfl (lenOf pd_2 rfl) rfl (by show 2 * 0 + _ ≤ _; exact Nat.le_of_eq rfl) (hb hby at_174)
              obtain ⟨v894, v895, v896, v897, b898, b899, hv894, hv895, hv896, hv897, rfl, N893, K893_, sz_b898_, sz_b899_, f900, f901, f902, f903, f904, hlt905⟩ := hQ893
              have N893_ := Fr.app N853_ N893
              have g_b898 : n0 ≤ b898 := Nat.le_trans Z857 sz_b898_
              have sz_b898 : h0.size ≤ b898 := Nat.le_trans K857.1 sz_b898_
              have lt_b833_b898 : b833 < b898 := Nat.lt_of_lt_of_le (f891).lt sz_b898_
              have lt_b848_b898 : b848 < b898 := Nat.lt_of_lt_of_le (f854).lt sz_b898_
              have g_b899 : n0 ≤ b899 := Nat.le_trans Z857 sz_b899_
              have sz_b899 : h0.size ≤ b899 := Nat.le_trans K857.1 sz_b899_
              have lt_b833_b899 : b833 < b899 := Nat.lt_of_lt_of_le (f891).lt sz_b899_
              have lt_b848_b899 : b848 < b899 := Nat.lt_of_lt_of_le (f854).lt sz_b899_
              have Z906 : n0 ≤ T893.heap.size := Nat.le_trans Z857 K893_.1
              have K906 : Keep h0 T893.heap [] := K857.trans K893_ all0
              refine Go.st (S' := T893.setTop (mkF m 177 A858 [(.ref b899)])) st893 ?_
              let A907 : Array Slot := #[.val (.int p0), .val (.int p1), .val (.int p2), .val (.int p3), .val (.int p4), .val (.int p5), .val (.int v3), .val (.ref r21), .val (.int v25), .val (.ref s_Chat_Role_TERMINAL), .val (.int (0 : Int32)), .val (.int r741), .val (.ref b833), .val (.ref b848), .val (.ref b899), .unset, .unset]
              refine Go.st (S' := T893.setTop (mkF m 179 A907 [])) (fun t k => XS.astore X893.here hx rfl (hb hby at_177) rfl rfl (l' := A907) rfl k) ?_
              refine Go.st (S' := T893.setTop (mkF m 181 A907 [(.ref b899)])) (fun t k => XS.aload X893.here hx rfl (hb hby at_179) rfl rfl k) ?_
              obtain ⟨r908, T908, L908, X908, hQ908, st908⟩ := own_callV (W := 0) (a := b899) (C := "com/example/consulate/consulate/cvc/Chat") X893 hx hZ rfl hown (y := (⟨"com/example/consulate/consulate/cvc/Chat", "data", "()[B"⟩ : MethodName)) (z := (⟨"com/example/consulate/consulate/cvc/Chat", "data", "()[B"⟩ : MethodName)) (hw _ (List.mem_of_getElem? (i := 44) rfl)) (hw _ (List.mem_of_getElem? (i := 45) rfl)) (notFace_of_selects (args := #[]) (mvT hZ (hw _ (List.mem_of_getElem? (i := 47) rfl)))) (hw _ (List.mem_of_getElem? (i := 47) rfl)) (hw _ (List.mem_of_getElem? (i := 46) rfl)) (hw _ (List.mem_of_getElem? (i := 10) rfl)) (hw _ (List.mem_of_getElem? (i := 48) rfl)) (by decide) (f902) (rm4 l Z a0 hw [] b899 b898 T893.heap n0 Z906 (f904)) (by decide) (by decide) (by decide) (by decide) (g := (mkF m 181 A907 [(.ref b899)])) rfl (by rw [hml]; rfl) (argsL := []) (rest := []) rfl (lenOf pd_3 rfl) rfl (by show 2 * 0 + _ ≤ _; exact Nat.le_of_eq rfl) (hb hby at_181)
              obtain ⟨rfl, N908, e908⟩ := hQ908
              have N908_ := Fr.app N893_ N908
              refine Go.st (S' := T908.setTop (mkF m 184 A907 [(.ref b898)])) st908 ?_
              let A909 : Array Slot := #[.val (.int p0), .val (.int p1), .val (.int p2), .val (.int p3), .val (.int p4), .val (.int p5), .val (.int v3), .val (.ref r21), .val (.int v25), .val (.ref s_Chat_Role_TERMINAL), .val (.int (0 : Int32)), .val (.int r741), .val (.ref b833), .val (.ref b848), .val (.ref b899), .val (.ref b898), .unset]
              refine Go.st (S' := T908.setTop (mkF m 186 A909 [])) (fun t k => XS.astore X908.here hx rfl (hb hby at_184) rfl rfl (l' := A909) rfl k) ?_
              refine Go.st (S' := T908.setTop (mkF m 188 A909 [(.ref b899)])) (fun t k => XS.aload X908.here hx rfl (hb hby at_186) rfl rfl k) ?_
              obtain ⟨r910, T910, L910, X910, hQ910, st910⟩ := own_callV (W := 0) (a := b899) (C := "com/example/consulate/consulate/cvc/Chat") X908 hx hZ e908 hown (y := (⟨"com/example/consulate/consulate/cvc/Chat", "template", "()Lcom/example/consulate/consulate/cvc/Chat$Template;"⟩ : MethodName)) (z := (⟨"com/example/consulate/consulate/cvc/Chat", "template", "()Lcom/example/consulate/consulate/cvc/Chat$Template;"⟩ : MethodName)) (hw _ (List.mem_of_getElem? (i := 49) rfl)) (hw _ (List.mem_of_getElem? (i := 50) rfl)) (notFace_of_selects (args := #[]) (mvT hZ (hw _ (List.mem_of_getElem? (i := 52) rfl)))) (hw _ (List.mem_of_getElem? (i := 52) rfl)) (hw _ (List.mem_of_getElem? (i := 51) rfl)) (hw _ (List.mem_of_getElem? (i := 10) rfl)) (hw _ (List.mem_of_getElem? (i := 53) rfl)) (by decide) (f902) (rm5 l Z a0 hw [] b899 r21 T893.heap n0 Z906 (f903)) (by decide) (by decide) (by decide) (by decide) (g := (mkF m 188 A909 [(.ref b899)])) rfl (by rw [hml]; rfl) (argsL := []) (rest := []) rfl (lenOf pd_4 rfl) rfl (by show 2 * 0 + _ ≤ _; exact Nat.le_of_eq rfl) (hb hby at_188)
              obtain ⟨rfl, N910, e910⟩ := hQ910
              have N910_ := Fr.app N908_ N910
              refine Go.st (S' := T910.setTop (mkF m 191 A909 [(.ref r21)])) st910 ?_
              refine Go.st (S' := T910.setTop (mkF m 193 A909 [(.ref r21), (.ref r21)])) (fun t k => XS.aload X910.here hx rfl (hb hby at_191) rfl rfl k) ?_
              refine Go.st (S' := T910.setTop (mkF m 198 A909 [])) (fun t k => acmp X910 hx rfl rfl rfl (pc0 := 193) (pc' := 198) (same := true) rfl (hb hby at_193) rfl (by simp) (by decide) (by decide) k) ?_
              refine Go.st (S' := T910.setTop (mkF m 200 A909 [(.ref b898)])) (fun t k => XS.aload X910.here hx rfl (hb hby at_198) rfl rfl k) ?_
              obtain ⟨cl911, Ar911, -, S911, N911_, -, -⟩ := id f900
              refine Go.op (F := fun z => T910.setTop (mkF m 201 A909 [(.int z)])) (x := cl911.slots.size.toInt32) (fun t k => X910.arraylength hx (own_eh e910 Ar911.1) (State.isArrayOf_alike hZ.alike Ar911.2.1) (g := (mkF m 200 A909 [(.ref b898)])) rfl rfl (hb hby at_200) t k) ?_
              intro v912 hv912
              obtain rfl : (3 : Int32) = v912 := (hv912.trans (len_of S911 N911_)).symm
              refine Go.st (S' := T910.setTop (mkF m 203 A909 [(.ref b833), (.int (3 : Int32))])) (fun t k => XS.aload X910.here hx rfl (hb hby at_201) rfl rfl k) ?_
              have f913 := ((f890).keep K893_ nin0)
              obtain ⟨cl914, Ar914, -, S914, N914_, -, -⟩ := id f913
              refine Go.op (F := fun z => T910.setTop (mkF m 204 A909 [(.int z), (.int (3 : Int32))])) (x := cl914.slots.size.toInt32) (fun t k => X910.arraylength hx (own_eh e910 Ar914.1) (State.isArrayOf_alike hZ.alike Ar914.2.1) (g := (mkF m 203 A909 [(.ref b833), (.int (3 : Int32))])) rfl rfl (hb hby at_203) t k) ?_
              intro v915 hv915
              obtain rfl : (3 : Int32) = v915 := (hv915.trans (len_of S914 N914_)).symm
              refine Go.st (S' := T910.setTop (mkF m 209 A909 [])) (fun t k => XS.icmpYes X910.here hx rfl (pc0 := 204) (pc' := 209) rfl (hb hby at_204) rfl (teq (by decide : ((3 : Int32) = (3 : Int32)))).1 (by decide) (by decide) k) ?_
              refine Go.st (S' := T910.setTop (mkF m 211 A909 [(.ref b898)])) (fun t k => XS.aload X910.here hx rfl (hb hby at_209) rfl rfl k) ?_
              refine Go.st (S' := T910.setTop (mkF m 212 A909 [(.int (0 : Int32)), (.ref b898)])) (fun t k => XS.iconst X910.here hx rfl (hb hby at_211) k) ?_
              obtain ⟨cl916, Ar916, -, S916, N916_, H916, -⟩ := id f900
              have hin916 : ¬ ((0 : Int32) < 0 ∨ cl916.slots.size ≤ ((0 : Int32)).toNatClampNeg) := inb_of S916 ⟨by decide, by decide⟩
              have hat916 : cl916.slots[((0 : Int32)).toNatClampNeg]? = some (.int v897) := Has.at H916 hin916 rfl
              refine Go.st (S' := T910.setTop (mkF m 213 A909 [(.int v897)])) (fun t k => X910.baloadBytes hx (j := (0 : Int32)) (v := (.int v897)) (own_eh e910 Ar916.1) (State.isArrayOf_alike hZ.alike Ar916.2.1) Ar916.2.2 hin916 hat916 (g := (mkF m 212 A909 [(.int (0 : Int32)), (.ref b898)])) rfl rfl (hb hby at_212) t k) ?_
              refine Go.st (S' := T910.setTop (mkF m 216 A909 [(.int (255 : Int32)), (.int v897)])) (fun t k => XS.sipush X910.here hx rfl (hb hby at_213) k) ?_
              refine Go.op (F := fun z => T910.setTop (mkF m 217 A909 [(.int z)])) (x := (v897 &&& (255 : Int32))) (fun t k => XS.iand X910.here hx rfl (hb hby at_216) rfl k) ?_
              intro v917 hv917
              let A918 : Array Slot := #[.val (.int p0), .val (.int p1), .val (.int p2), .val (.int p3), .val (.int p4), .val (.int p5), .val (.int v3), .val (.ref r21), .val (.int v25), .val (.ref s_Chat_Role_TERMINAL), .val (.int (0 : Int32)), .val (.int r741), .val (.ref b833), .val (.ref b848), .val (.ref b899), .val (.ref b898), .val (.int v917)]
              refine Go.st (S' := T910.setTop (mkF m 219 A918 [])) (fun t k => XS.istore X910.here hx rfl (hb hby at_217) rfl (l' := A918) rfl k) ?_
              refine Go.st (S' := T910.setTop (mkF m 221 A918 [(.int v917)])) (fun t k => XS.iload X910.here hx rfl (hb hby at_219) rfl k) ?_
              refine Go.st (S' := T910.setTop (mkF m 223 A918 [(.int (6 : Int32)), (.int v917)])) (fun t k => XS.bipush X910.here hx rfl (hb hby at_221) k) ?_
              refine Go.op (F := fun z => T910.setTop (mkF m 224 A918 [(.int z)])) (x := ((v917.toUInt32 >>> ((6 : Int32) &&& 31).toUInt32).toInt32)) (fun t k => XS.iushr X910.here hx rfl (hb hby at_223) rfl k) ?_
              intro v919 hv919
              refine Go.st (S' := T910.setTop (mkF m 226 A918 [(.int (0 : Int32)), (.int v919)])) (fun t k => XS.iload X910.here hx rfl (hb hby at_224) rfl k) ?_
              by_cases hc920 : (v919 = (0 : Int32))
              · refine Go.st (S' := T910.setTop (mkF m 231 A918 [])) (fun t k => XS.icmpYes X910.here hx rfl (pc0 := 226) (pc' := 231) rfl (hb hby at_226) rfl (teq hc920).1 (by decide) (by decide) k) ?_
                refine Go.st (S' := T910.setTop (mkF m 233 A918 [(.int v917)])) (fun t k => XS.iload X910.here hx rfl (hb hby at_231) rfl k) ?_
                refine Go.st (S' := T910.setTop (mkF m 235 A918 [(.int (63 : Int32)), (.int v917)])) (fun t k => XS.bipush X910.here hx rfl (hb hby at_233) k) ?_
                refine Go.op (F := fun z => T910.setTop (mkF m 236 A918 [(.int z)])) (x := (v917 &&& (63 : Int32))) (fun t k => XS.iand X910.here hx rfl (hb hby at_235) rfl k) ?_
                intro v921 hv921
                refine Go.st (S' := T910.setTop (mkF m 237 A918 [(.int p2), (.int v921)])) (fun t k => XS.iloadN X910.here hx rfl (hb hby at_236) rfl k) ?_
                refine Go.st (S' := T910.setTop (mkF m 239 A918 [(.int (63 : Int32)), (.int p2), (.int v921)])) (fun t k => XS.bipush X910.here hx rfl (hb hby at_237) k) ?_
                refine Go.op (F := fun z => T910.setTop (mkF m 240 A918 [(.int z), (.int v921)])) (x := (p2 &&& (63 : Int32))) (fun t k => XS.iand X910.here hx rfl (hb hby at_239) rfl k) ?_
                intro v922 hv922
                by_cases hc923 : (v921 = v922)
                · refine Go.st (S' := T910.setTop (mkF m 245 A918 [])) (fun t k => XS.icmpYes X910.here hx rfl (pc0 := 240) (pc' := 245) rfl (hb hby at_240) rfl (teq hc923).1 (by decide) (by decide) k) ?_
                  refine Go.st (S' := T910.setTop (mkF m 247 A918 [(.int r741)])) (fun t k => XS.iload X910.here hx rfl (hb hby at_245) rfl k) ?_
                  refine Go.st (S' := T910.setTop (mkF m 250 A918 [])) (fun t k => XS.ifNo X910.here hx rfl (hb hby at_247) rfl ((if0 _ _).trans (feq hc749).1) k) ?_
                  refine Go.st (S' := T910.setTop (mkF m 252 A918 [(.ref b898)])) (fun t k => XS.aload X910.here hx rfl (hb hby at_250) rfl rfl k) ?_
                  refine Go.st (S' := T910.setTop (mkF m 253 A918 [(.int (1 : Int32)), (.ref b898)])) (fun t k => XS.iconst X910.here hx rfl (hb hby at_252) k) ?_
                  obtain ⟨cl924, Ar924, -, S924, N924_, H924, -⟩ := id f900
                  have hin924 : ¬ ((1 : Int32) < 0 ∨ cl924.slots.size ≤ ((1 : Int32)).toNatClampNeg) := inb_of S924 ⟨by decide, by decide⟩
                  have hat924 : cl924.slots[((1 : Int32)).toNatClampNeg]? = some (.int v842) := Has.at H924 hin924 rfl
                  refine Go.st (S' := T910.setTop (mkF m 254 A918 [(.int v842)])) (fun t k => X910.baloadBytes hx (j := (1 : Int32)) (v := (.int v842)) (own_eh e910 Ar924.1) (State.isArrayOf_alike hZ.alike Ar924.2.1) Ar924.2.2 hin924 hat924 (g := (mkF m 253 A918 [(.int (1 : Int32)), (.ref b898)])) rfl rfl (hb hby at_253) t k) ?_
                  refine Go.st (S' := T910.setTop (mkF m 255 A918 [(.int p3), (.int v842)])) (fun t k => XS.iloadN X910.here hx rfl (hb hby at_254) rfl k) ?_
                  refine Go.op (F := fun z => T910.setTop (mkF m 256 A918 [(.int z), (.int v842)])) (x := p3.toInt8.toInt32) (fun t k => XS.i2b X910.here hx rfl (hb hby at_255) rfl k) ?_
                  intro v925 hv925
                  obtain rfl : v840 = v925 := hv840.trans hv925.symm
                  by_cases hc926 : (v842 = v840)
                  · refine Go.st (S' := T910.setTop (mkF m 259 A918 [])) (fun t k => XS.icmpNo X910.here hx rfl (hb hby at_256) rfl (teq hc926).2 k) ?_
                    refine Go.st (S' := T910.setTop (mkF m 261 A918 [(.ref b898)])) (fun t k => XS.aload X910.here hx rfl (hb hby at_259) rfl rfl k) ?_
                    refine Go.st (S' := T910.setTop (mkF m 262 A918 [(.int (2 : Int32)), (.ref b898)])) (fun t k => XS.iconst X910.here hx rfl (hb hby at_261) k) ?_
                    obtain ⟨cl927, Ar927, -, S927, N927_, H927, -⟩ := id f900
                    have hin927 : ¬ ((2 : Int32) < 0 ∨ cl927.slots.size ≤ ((2 : Int32)).toNatClampNeg) := inb_of S927 ⟨by decide, by decide⟩
                    have hat927 : cl927.slots[((2 : Int32)).toNatClampNeg]? = some (.int v846) := Has.at H927 hin927 rfl
                    refine Go.st (S' := T910.setTop (mkF m 263 A918 [(.int v846)])) (fun t k => X910.baloadBytes hx (j := (2 : Int32)) (v := (.int v846)) (own_eh e910 Ar927.1) (State.isArrayOf_alike hZ.alike Ar927.2.1) Ar927.2.2 hin927 hat927 (g := (mkF m 262 A918 [(.int (2 : Int32)), (.ref b898)])) rfl rfl (hb hby at_262) t k) ?_
                    refine Go.st (S' := T910.setTop (mkF m 265 A918 [(.int p4), (.int v846)])) (fun t k => XS.iload X910.here hx rfl (hb hby at_263) rfl k) ?_
                    refine Go.op (F := fun z => T910.setTop (mkF m 266 A918 [(.int z), (.int v846)])) (x := p4.toInt8.toInt32) (fun t k => XS.i2b X910.here hx rfl (hb hby at_265) rfl k) ?_
                    intro v928 hv928
                    obtain rfl : v844 = v928 := hv844.trans hv928.symm
                    by_cases hc929 : (v846 = v844)
                    · refine Go.st (S' := T910.setTop (mkF m 271 A918 [])) (fun t k => XS.icmpYes X910.here hx rfl (pc0 := 266) (pc' := 271) rfl (hb hby at_266) rfl (teq hc929).1 (by decide) (by decide) k) ?_
                      refine Go.st (S' := T910.setTop (mkF m 273 A918 [(.ref b833)])) (fun t k => XS.aload X910.here hx rfl (hb hby at_271) rfl rfl k) ?_
                      refine Go.st (S' := T910.setTop (mkF m 274 A918 [(.int (0 : Int32)), (.ref b833)])) (fun t k => XS.iconst X910.here hx rfl (hb hby at_273) k) ?_
                      obtain ⟨cl930, Ar930, -, S930, N930_, H930, -⟩ := id f913
                      have hin930 : ¬ ((0 : Int32) < 0 ∨ cl930.slots.size ≤ ((0 : Int32)).toNatClampNeg) := inb_of S930 ⟨by decide, by decide⟩
                      have hat930 : cl930.slots[((0 : Int32)).toNatClampNeg]? = some (.int v838) := Has.at H930 hin930 rfl
                      refine Go.st (S' := T910.setTop (mkF m 275 A918 [(.int v838)])) (fun t k => X910.baloadBytes hx (j := (0 : Int32)) (v := (.int v838)) (own_eh e910 Ar930.1) (State.isArrayOf_alike hZ.alike Ar930.2.1) Ar930.2.2 hin930 hat930 (g := (mkF m 274 A918 [(.int (0 : Int32)), (.ref b833)])) rfl rfl (hb hby at_274) t k) ?_
                      refine Go.st (S' := T910.setTop (mkF m 276 A918 [(.int p2), (.int v838)])) (fun t k => XS.iloadN X910.here hx rfl (hb hby at_275) rfl k) ?_
                      refine Go.op (F := fun z => T910.setTop (mkF m 277 A918 [(.int z), (.int v838)])) (x := p2.toInt8.toInt32) (fun t k => XS.i2b X910.here hx rfl (hb hby at_276) rfl k) ?_
                      intro v931 hv931
                      obtain rfl : v836 = v931 := hv836.trans hv931.symm
                      by_cases hc932 : (v838 = v836)
                      · refine Go.st (S' := T910.setTop (mkF m 282 A918 [])) (fun t k => XS.icmpYes X910.here hx rfl (pc0 := 277) (pc' := 282) rfl (hb hby at_277) rfl (teq hc932).1 (by decide) (by decide) k) ?_
                        refine Go.st (S' := T910.setTop (mkF m 284 A918 [(.int r741)])) (fun t k => XS.iload X910.here hx rfl (hb hby at_282) rfl k) ?_
                        refine Go.st (S' := T910.setTop (mkF m 287 A918 [])) (fun t k => XS.ifNo X910.here hx rfl (hb hby at_284) rfl ((if0 _ _).trans (feq hc749).1) k) ?_
                        refine Go.st (S' := T910.setTop (mkF m 289 A918 [(.ref b833)])) (fun t k => XS.aload X910.here hx rfl (hb hby at_287) rfl rfl k) ?_
                        refine Go.st (S' := T910.setTop (mkF m 290 A918 [(.int (1 : Int32)), (.ref b833)])) (fun t k => XS.iconst X910.here hx rfl (hb hby at_289) k) ?_
                        obtain ⟨cl933, Ar933, -, S933, N933_, H933, -⟩ := id f913
                        have hin933 : ¬ ((1 : Int32) < 0 ∨ cl933.slots.size ≤ ((1 : Int32)).toNatClampNeg) := inb_of S933 ⟨by decide, by decide⟩
                        have hat933 : cl933.slots[((1 : Int32)).toNatClampNeg]? = some (.int v842) := Has.at H933 hin933 rfl
                        refine Go.st (S' := T910.setTop (mkF m 291 A918 [(.int v842)])) (fun t k => X910.baloadBytes hx (j := (1 : Int32)) (v := (.int v842)) (own_eh e910 Ar933.1) (State.isArrayOf_alike hZ.alike Ar933.2.1) Ar933.2.2 hin933 hat933 (g := (mkF m 290 A918 [(.int (1 : Int32)), (.ref b833)])) rfl rfl (hb hby at_290) t k) ?_
                        refine Go.st (S' := T910.setTop (mkF m 292 A918 [(.int p3), (.int v842)])) (fun t k => XS.iloadN X910.here hx rfl (hb hby at_291) rfl k) ?_
                        refine Go.op (F := fun z => T910.setTop (mkF m 293 A918 [(.int z), (.int v842)])) (x := p3.toInt8.toInt32) (fun t k => XS.i2b X910.here hx rfl (hb hby at_292) rfl k) ?_
                        intro v934 hv934
                        obtain rfl : v840 = v934 := hv840.trans hv934.symm
                        refine Go.st (S' := T910.setTop (mkF m 296 A918 [])) (fun t k => XS.icmpNo X910.here hx rfl (hb hby at_293) rfl (teq hc926).2 k) ?_
                        refine Go.st (S' := T910.setTop (mkF m 298 A918 [(.ref b833)])) (fun t k => XS.aload X910.here hx rfl (hb hby at_296) rfl rfl k) ?_
                        refine Go.st (S' := T910.setTop (mkF m 299 A918 [(.int (2 : Int32)), (.ref b833)])) (fun t k => XS.iconst X910.here hx rfl (hb hby at_298) k) ?_
                        obtain ⟨cl935, Ar935, -, S935, N935_, H935, -⟩ := id f913
                        have hin935 : ¬ ((2 : Int32) < 0 ∨ cl935.slots.size ≤ ((2 : Int32)).toNatClampNeg) := inb_of S935 ⟨by decide, by decide⟩
                        have hat935 : cl935.slots[((2 : Int32)).toNatClampNeg]? = some (.int v846) := Has.at H935 hin935 rfl
                        refine Go.st (S' := T910.setTop (mkF m 300 A918 [(.int v846)])) (fun t k => X910.baloadBytes hx (j := (2 : Int32)) (v := (.int v846)) (own_eh e910 Ar935.1) (State.isArrayOf_alike hZ.alike Ar935.2.1) Ar935.2.2 hin935 hat935 (g := (mkF m 299 A918 [(.int (2 : Int32)), (.ref b833)])) rfl rfl (hb hby at_299) t k) ?_
                        refine Go.st (S' := T910.setTop (mkF m 302 A918 [(.int p4), (.int v846)])) (fun t k => XS.iload X910.here hx rfl (hb hby at_300) rfl k) ?_
                        refine Go.op (F := fun z => T910.setTop (mkF m 303 A918 [(.int z), (.int v846)])) (x := p4.toInt8.toInt32) (fun t k => XS.i2b X910.here hx rfl (hb hby at_302) rfl k) ?_
                        intro v936 hv936
                        obtain rfl : v844 = v936 := hv844.trans hv936.symm
                        refine Go.st (S' := T910.setTop (mkF m 308 A918 [])) (fun t k => XS.icmpYes X910.here hx rfl (pc0 := 303) (pc' := 308) rfl (hb hby at_303) rfl (teq hc929).1 (by decide) (by decide) k) ?_
                        refine Go.st (S' := T910.setTop (mkF m 309 A918 [(.int (1 : Int32))])) (fun t k => XS.iconst X910.here hx rfl (hb hby at_308) k) ?_
                        exact Go.ret X910 (v := some (.int (1 : Int32))) (fun h => by rw [Bd.returns] at h; cases h) Bd.notSynchronized (fun fs hr => retN X910 hx (t := .boolean) Bd.returns (by simp) (hb hby at_309) hr) (by decide) (by decide) ⟨rfl, N910_⟩
                      · exfalso
                        have rv836 := rng32 v836
                        have wv836 := c_i2b p2
                        rw [← hv836] at wv836
                        have rv838 := rng32 v838
                        have wv838 := c_i2b v836
                        rw [← hv838] at wv838
                        have rv894 := rng32 v894
                        have wv894 := c_mask v838 (63 : Int32) 6 (by decide) (by decide)
                        rw [← hv894] at wv894
                        have rv895 := rng32 v895
                        have wv895 := congrArg Int32.toInt (Int32.or_zero (a := v894))
                        rw [← hv895] at wv895
                        have rv896 := rng32 v896
                        have wv896 := c_i2b v895
                        rw [← hv896] at wv896
                        have rv897 := rng32 v897
                        have wv897 := c_i2b v896
                        rw [← hv897] at wv897
                        have rv917 := rng32 v917
                        have wv917 := c_mask v897 (255 : Int32) 8 (by decide) (by decide)
                        rw [← hv917] at wv917
                        have rv919 := rng32 v919
                        have wv919 := c_iushr v917 (6 : Int32) 6 (by decide) (by decide)
                        rw [← hv919] at wv919
                        have rv921 := rng32 v921
                        have wv921 := c_mask v917 (63 : Int32) 6 (by decide) (by decide)
                        rw [← hv921] at wv921
                        have rv922 := rng32 v922
                        have wv922 := c_mask p2 (63 : Int32) 6 (by decide) (by decide)
                        rw [← hv922] at wv922
                        have rp2 := rng32 p2
                        have lI0 : (0 : Int32).toInt = 0 := by decide
                        have lI6 : (6 : Int32).toInt = 6 := by decide
                        have lI63 : (63 : Int32).toInt = 63 := by decide
                        have lI255 : (255 : Int32).toInt = 255 := by decide
                        simp only [Int32.lt_iff_toInt_lt, Int64.lt_iff_toInt_lt, ← Int32.toInt_inj, ← Int64.toInt_inj] at hc920 hc923 hc932
                        omega
                    · exfalso
                      have rv844 := rng32 v844
                      have wv844 := c_i2b p4
                      rw [← hv844] at wv844
                      have rv846 := rng32 v846
                      have wv846 := c_i2b v844
                      rw [← hv846] at wv846
                      have rp4 := rng32 p4
                      simp only [Int32.lt_iff_toInt_lt, Int64.lt_iff_toInt_lt, ← Int32.toInt_inj, ← Int64.toInt_inj] at hc929
                      omega
                  · exfalso
                    have rv840 := rng32 v840
                    have wv840 := c_i2b p3
                    rw [← hv840] at wv840
                    have rv842 := rng32 v842
                    have wv842 := c_i2b v840
                    rw [← hv842] at wv842
                    have rp3 := rng32 p3
                    simp only [Int32.lt_iff_toInt_lt, Int64.lt_iff_toInt_lt, ← Int32.toInt_inj, ← Int64.toInt_inj] at hc926
                    omega
                · exfalso
                  have rv836 := rng32 v836
                  have wv836 := c_i2b p2
                  rw [← hv836] at wv836
                  have rv838 := rng32 v838
                  have wv838 := c_i2b v836
                  rw [← hv838] at wv838
                  have rv894 := rng32 v894
                  have wv894 := c_mask v838 (63 : Int32) 6 (by decide) (by decide)
                  rw [← hv894] at wv894
                  have rv895 := rng32 v895
                  have wv895 := congrArg Int32.toInt (Int32.or_zero (a := v894))
                  rw [← hv895] at wv895
                  have rv896 := rng32 v896
                  have wv896 := c_i2b v895
                  rw [← hv896] at wv896
                  have rv897 := rng32 v897
                  have wv897 := c_i2b v896
                  rw [← hv897] at wv897
                  have rv917 := rng32 v917
                  have wv917 := c_mask v897 (255 : Int32) 8 (by decide) (by decide)
                  rw [← hv917] at wv917
                  have rv919 := rng32 v919
                  have wv919 := c_iushr v917 (6 : Int32) 6 (by decide) (by decide)
                  rw [← hv919] at wv919
                  have rv921 := rng32 v921
                  have wv921 := c_mask v917 (63 : Int32) 6 (by decide) (by decide)
                  rw [← hv921] at wv921
                  have rv922 := rng32 v922
                  have wv922 := c_mask p2 (63 : Int32) 6 (by decide) (by decide)
                  rw [← hv922] at wv922
                  have rp2 := rng32 p2
                  have lI0 : (0 : Int32).toInt = 0 := by decide
                  have lI6 : (6 : Int32).toInt = 6 := by decide
                  have lI63 : (63 : Int32).toInt = 63 := by decide
                  have lI255 : (255 : Int32).toInt = 255 := by decide
                  simp only [Int32.lt_iff_toInt_lt, Int64.lt_iff_toInt_lt, ← Int32.toInt_inj, ← Int64.toInt_inj] at hc920 hc923
                  omega
              · exfalso
                have rv836 := rng32 v836
                have wv836 := c_i2b p2
                rw [← hv836] at wv836
                have rv838 := rng32 v838
                have wv838 := c_i2b v836
                rw [← hv838] at wv838
                have rv894 := rng32 v894
                have wv894 := c_mask v838 (63 : Int32) 6 (by decide) (by decide)
                rw [← hv894] at wv894
                have rv895 := rng32 v895
                have wv895 := congrArg Int32.toInt (Int32.or_zero (a := v894))
                rw [← hv895] at wv895
                have rv896 := rng32 v896
                have wv896 := c_i2b v895
                rw [← hv896] at wv896
                have rv897 := rng32 v897
                have wv897 := c_i2b v896
                rw [← hv897] at wv897
                have rv917 := rng32 v917
                have wv917 := c_mask v897 (255 : Int32) 8 (by decide) (by decide)
                rw [← hv917] at wv917
                have rv919 := rng32 v919
                have wv919 := c_iushr v917 (6 : Int32) 6 (by decide) (by decide)
                rw [← hv919] at wv919
                have rp2 := rng32 p2
                have lI0 : (0 : Int32).toInt = 0 := by decide
                have lI6 : (6 : Int32).toInt = 6 := by decide
                have lI63 : (63 : Int32).toInt = 63 := by decide
                have lI255 : (255 : Int32).toInt = 255 := by decide
                simp only [Int32.lt_iff_toInt_lt, Int64.lt_iff_toInt_lt, ← Int32.toInt_inj, ← Int64.toInt_inj] at hc920
                omega
          · intro J937
            by_cases hc938 : (v738 = (0 : Int32))
            · refine Go.st (S' := T735.setTop (mkF m 114 A737 [])) (fun t k => XS.ifYes X735.here hx rfl (pc0 := 107) (pc' := 114) rfl (hb hby at_107) rfl ((if0 _ _).trans (teq hc938).1) (by decide) (by decide) k) ?_
              refine Go.st (S' := T735.setTop (mkF m 115 A737 [(.int (0 : Int32))])) (fun t k => XS.iconst X735.here hx rfl (hb hby at_114) k) ?_
              exact J937 ((0 : Int32)) (Or.inl ⟨hc938, rfl⟩)
            · refine Go.st (S' := T735.setTop (mkF m 110 A737 [])) (fun t k => XS.ifNo X735.here hx rfl (hb hby at_107) rfl ((if0 _ _).trans (feq hc938).1) k) ?_
              refine Go.st (S' := T735.setTop (mkF m 111 A737 [(.int (1 : Int32))])) (fun t k => XS.iconst X735.here hx rfl (hb hby at_110) k) ?_
              refine Go.st (S' := T735.setTop (mkF m 115 A737 [(.int (1 : Int32))])) (fun t k => XS.goto X735.here hx rfl (pc0 := 111) (pc' := 115) rfl (hb hby at_111) (by decide) (by decide) k) ?_
              exact J937 ((1 : Int32)) (Or.inr ⟨hc938, rfl⟩)
  · intro J939
    by_cases hc940 : (v3 = (0 : Int32))
    · refine Go.st (S' := s₁.setTop (mkF m 13 A4 [])) (fun t k => XS.ifNo X0.here hx rfl (hb hby at_10) rfl ((if0 _ _).trans (teq hc940).2) k) ?_
      obtain ⟨T941, X941, e941, st941⟩ := getS X0 hx hZ hown (hw _ (List.mem_of_getElem? (i := 1) rfl)) Via.refl e0 S_s_Chat_Template_IS (host := "") (g := (mkF m 13 A4 [])) rfl (hb hby at_13)
      refine Go.st (S' := T941.setTop (mkF m 16 A4 [(.ref s_Chat_Template_IS)])) st941 ?_
      let A942 : Array Slot := #[.val (.int p0), .val (.int p1), .val (.int p2), .val (.int p3), .val (.int p4), .val (.int p5), .val (.int v3), .val (.ref s_Chat_Template_IS), .unset, .unset, .unset, .unset, .unset, .unset, .unset, .unset, .unset]
      refine Go.st (S' := T941.setTop (mkF m 18 A942 [])) (fun t k => XS.astore X941.here hx rfl (hb hby at_16) rfl rfl (l' := A942) rfl k) ?_
      refine Go.st (S' := T941.setTop (mkF m 40 A942 [])) (fun t k => XS.goto X941.here hx rfl (pc0 := 18) (pc' := 40) rfl (hb hby at_18) (by decide) (by decide) k) ?_
      exact J939 _ X941 e941 (s_Chat_Template_IS) (Or.inl hc940)
    · refine Go.st (S' := s₁.setTop (mkF m 21 A4 [])) (fun t k => XS.ifYes X0.here hx rfl (pc0 := 10) (pc' := 21) rfl (hb hby at_10) rfl ((if0 _ _).trans (feq hc940).2) (by decide) (by decide) k) ?_
      refine Go.st (S' := s₁.setTop (mkF m 23 A4 [(.int v3)])) (fun t k => XS.iload X0.here hx rfl (hb hby at_21) rfl k) ?_
      refine Go.st (S' := s₁.setTop (mkF m 24 A4 [(.int (1 : Int32)), (.int v3)])) (fun t k => XS.iconst X0.here hx rfl (hb hby at_23) k) ?_
      by_cases hc943 : (v3 = (1 : Int32))
      · refine Go.st (S' := s₁.setTop (mkF m 27 A4 [])) (fun t k => XS.icmpNo X0.here hx rfl (hb hby at_24) rfl (teq hc943).2 k) ?_
        obtain ⟨T944, X944, e944, st944⟩ := getS X0 hx hZ hown (hw _ (List.mem_of_getElem? (i := 54) rfl)) Via.refl e0 S_s_Chat_Template_AT (host := "") (g := (mkF m 27 A4 [])) rfl (hb hby at_27)
        refine Go.st (S' := T944.setTop (mkF m 30 A4 [(.ref s_Chat_Template_AT)])) st944 ?_
        let A945 : Array Slot := #[.val (.int p0), .val (.int p1), .val (.int p2), .val (.int p3), .val (.int p4), .val (.int p5), .val (.int v3), .val (.ref s_Chat_Template_AT), .unset, .unset, .unset, .unset, .unset, .unset, .unset, .unset, .unset]
        refine Go.st (S' := T944.setTop (mkF m 32 A945 [])) (fun t k => XS.astore X944.here hx rfl (hb hby at_30) rfl rfl (l' := A945) rfl k) ?_
        refine Go.st (S' := T944.setTop (mkF m 40 A945 [])) (fun t k => XS.goto X944.here hx rfl (pc0 := 32) (pc' := 40) rfl (hb hby at_32) (by decide) (by decide) k) ?_
        exact J939 _ X944 e944 (s_Chat_Template_AT) (Or.inr (Or.inl ⟨hc940, hc943⟩))
      · refine Go.st (S' := s₁.setTop (mkF m 35 A4 [])) (fun t k => XS.icmpYes X0.here hx rfl (pc0 := 24) (pc' := 35) rfl (hb hby at_24) rfl (feq hc943).2 (by decide) (by decide) k) ?_
        obtain ⟨T946, X946, e946, st946⟩ := getS X0 hx hZ hown (hw _ (List.mem_of_getElem? (i := 60) rfl)) Via.refl e0 S_s_Chat_Template_ST (host := "") (g := (mkF m 35 A4 [])) rfl (hb hby at_35)
        refine Go.st (S' := T946.setTop (mkF m 38 A4 [(.ref s_Chat_Template_ST)])) st946 ?_
        let A947 : Array Slot := #[.val (.int p0), .val (.int p1), .val (.int p2), .val (.int p3), .val (.int p4), .val (.int p5), .val (.int v3), .val (.ref s_Chat_Template_ST), .unset, .unset, .unset, .unset, .unset, .unset, .unset, .unset, .unset]
        refine Go.st (S' := T946.setTop (mkF m 40 A947 [])) (fun t k => XS.astore X946.here hx rfl (hb hby at_38) rfl rfl (l' := A947) rfl k) ?_
        exact J939 _ X946 e946 (s_Chat_Template_ST) (Or.inr (Or.inr ⟨hc940, hc943⟩))
set_option maxRecDepth 65536 in
set_option maxHeartbeats 40000000 in
theorem comes_1 {Post : Tables → Env → Array Value → State → Outcome → State → Prop} (hpost : ∀ tb e args s v u, (limb_1_1.after args s (.returned v) u = true ∧ limb_1_2.after args s (.returned v) u = true ∧ True) → FrameEnd s (.returned v) u (Jvm.fieldLocs frame_1_writes args s ++ Jvm.arrayLocs frame_1_arrays args s ++ Jvm.staticLocs frame_1_statics s) 16 128 → Post tb e args s (.returned v) u) :
    ArmFor flags0 classFile x code maxLocals ret World_1 tables_1 room_1 Calls_1 rest_1 Pre_1 Post := by
  intro l hfl _ _ p e ha hc hk s m args below hf hA hF happ hP
  obtain ⟨hcalls, hrest, hpre⟩ := hP
  obtain ⟨-, -, -, hnamed, -, -, -, hat⟩ := (Spec.applies_iff hf).mp happ
  obtain ⟨hg, hn⟩ := and_e (Cond.before_iff.mp (show (Jvm.Cond.and given_1 narrow_1).before args s = true from hpre))
  obtain ⟨h1, h2⟩ := and_e hg
  obtain ⟨w0, w1, w2, w3, w4, w5, rfl⟩ : ∃ w0 w1 w2 w3 w4 w5 : Value, args = #[w0, w1, w2, w3, w4, w5] := by
    have hs : args.size = 6 := by simpa [Cond.value, given_1] using h1
    obtain ⟨L⟩ := args
    match L, hs with
    | [w0, w1, w2, w3, w4, w5], _ => exact ⟨w0, w1, w2, w3, w4, w5, rfl⟩
  have hw := fun d (hd : d ∈ tables_1) => atoms_spec (ws := Jvm.Cond.code x code maxLocals ret :: tables_1) hat d (List.mem_cons_of_mem _ hd)
  have hfit : Fit s := fun {y c} hc i hi => by
    obtain ⟨ha, rfl⟩ := Array.getElem?_eq_some_iff.mp hc
    have q := List.all_eq_true.mp ((Array.all_eq_true_iff_forall_mem.mp hF) _ (Array.getElem_mem ha)) i (List.mem_range.mpr hi)
    simpa [Array.getElem?_eq_getElem hi] using q
  obtain ⟨q0, h2_0⟩ := and_e h2
  obtain ⟨i0, ee0⟩ := is_v q0
  obtain rfl : w0 = (.int i0) := Option.some.inj ee0
  obtain ⟨q1, h2_1⟩ := and_e h2_0
  obtain ⟨i1, ee1⟩ := is_v q1
  obtain rfl : w1 = (.int i1) := Option.some.inj ee1
  obtain ⟨q2, h2_2⟩ := and_e h2_1
  obtain ⟨i2, ee2⟩ := is_v q2
  obtain rfl : w2 = (.int i2) := Option.some.inj ee2
  obtain ⟨q3, h2_3⟩ := and_e h2_2
  obtain ⟨i3, ee3⟩ := is_v q3
  obtain rfl : w3 = (.int i3) := Option.some.inj ee3
  obtain ⟨q4, h2_4⟩ := and_e h2_3
  obtain ⟨i4, ee4⟩ := is_v q4
  obtain rfl : w4 = (.int i4) := Option.some.inj ee4
  obtain ⟨i5, ee5⟩ := is_v h2_4
  obtain rfl : w5 = (.int i5) := Option.some.inj ee5
  obtain ⟨n0, hn0⟩ := and_e hn
  obtain ⟨n1, hn1⟩ := and_e hn0
  obtain ⟨n2, hn2⟩ := and_e hn1
  obtain ⟨n3, hn3⟩ := and_e hn2
  obtain ⟨n4, hn4⟩ := and_e hn3
  obtain ⟨n5, hn5⟩ := and_e hn4
  obtain ⟨n6, hn6⟩ := and_e hn5
  obtain ⟨n7, hn7⟩ := and_e hn6
  obtain ⟨n8, hn8⟩ := and_e hn7
  obtain ⟨n9, hn9⟩ := and_e hn8
  obtain ⟨s_Chat_Template_IS, ev_s_Chat_Template_IS⟩ := exa_v n0
  obtain ⟨s_Chat_Role_TERMINAL, ev_s_Chat_Role_TERMINAL⟩ := exa_v n1
  obtain ⟨s_Chat_Template_AT, ev_s_Chat_Template_AT⟩ := exa_v n3
  obtain ⟨s_Chat_Role_DV_FOREIGN, ev_s_Chat_Role_DV_FOREIGN⟩ := exa_v n4
  obtain ⟨s_Chat_Role_CVCA, ev_s_Chat_Role_CVCA⟩ := exa_v n6
  obtain ⟨s_Chat_Template_ST, ev_s_Chat_Template_ST⟩ := exa_v n8
  obtain ⟨s_Chat_Role_DV_DOMESTIC, ev_s_Chat_Role_DV_DOMESTIC⟩ := exa_v n9
  have E_s_Chat_Template_IS : Exa s s.heap s_Chat_Template_IS "com/example/consulate/consulate/cvc/Chat$Template" := Exa.start ev_s_Chat_Template_IS n0
  have E_s_Chat_Role_TERMINAL : Exa s s.heap s_Chat_Role_TERMINAL "com/example/consulate/consulate/cvc/Chat$Role" := Exa.start ev_s_Chat_Role_TERMINAL n1
  have F_s_Chat_Role_TERMINAL_bits : Fld s s.heap s_Chat_Role_TERMINAL "com/example/consulate/consulate/cvc/Chat$Role" "bits" "I" (.int (0 : Int32)) := own_fld ev_s_Chat_Role_TERMINAL (own_eq_int n2)
  have E_s_Chat_Template_AT : Exa s s.heap s_Chat_Template_AT "com/example/consulate/consulate/cvc/Chat$Template" := Exa.start ev_s_Chat_Template_AT n3
  have E_s_Chat_Role_DV_FOREIGN : Exa s s.heap s_Chat_Role_DV_FOREIGN "com/example/consulate/consulate/cvc/Chat$Role" := Exa.start ev_s_Chat_Role_DV_FOREIGN n4
  have F_s_Chat_Role_DV_FOREIGN_bits : Fld s s.heap s_Chat_Role_DV_FOREIGN "com/example/consulate/consulate/cvc/Chat$Role" "bits" "I" (.int (1 : Int32)) := own_fld ev_s_Chat_Role_DV_FOREIGN (own_eq_int n5)
  have E_s_Chat_Role_CVCA : Exa s s.heap s_Chat_Role_CVCA "com/example/consulate/consulate/cvc/Chat$Role" := Exa.start ev_s_Chat_Role_CVCA n6
  have F_s_Chat_Role_CVCA_bits : Fld s s.heap s_Chat_Role_CVCA "com/example/consulate/consulate/cvc/Chat$Role" "bits" "I" (.int (3 : Int32)) := own_fld ev_s_Chat_Role_CVCA (own_eq_int n7)
  have E_s_Chat_Template_ST : Exa s s.heap s_Chat_Template_ST "com/example/consulate/consulate/cvc/Chat$Template" := Exa.start ev_s_Chat_Template_ST n8
  have E_s_Chat_Role_DV_DOMESTIC : Exa s s.heap s_Chat_Role_DV_DOMESTIC "com/example/consulate/consulate/cvc/Chat$Role" := Exa.start ev_s_Chat_Role_DV_DOMESTIC n9
  have F_s_Chat_Role_DV_DOMESTIC_bits : Fld s s.heap s_Chat_Role_DV_DOMESTIC "com/example/consulate/consulate/cvc/Chat$Role" "bits" "I" (.int (2 : Int32)) := own_fld ev_s_Chat_Role_DV_DOMESTIC (own_eq_int hn9)
  obtain ⟨n, o, h1, h2, h3, _, L, rfl, ⟨rfl, N⟩, hq⟩ := rm14 l s _ hw tables_1 i0 i1 i2 i3 i4 i5 s_Chat_Template_IS s_Chat_Template_AT s_Chat_Template_ST s_Chat_Role_CVCA s_Chat_Role_DV_DOMESTIC s_Chat_Role_DV_FOREIGN s_Chat_Role_TERMINAL s.heap s.heap.size (Nat.le_refl _) (Sta.start ev_s_Chat_Template_IS (Or.inr ⟨(hw _ (List.mem_of_getElem? (i := 2) rfl)), (hw _ (List.mem_of_getElem? (i := 3) rfl))⟩)) (Sta.start ev_s_Chat_Template_AT (Or.inr ⟨(hw _ (List.mem_of_getElem? (i := 2) rfl)), (hw _ (List.mem_of_getElem? (i := 55) rfl))⟩)) (Sta.start ev_s_Chat_Template_ST (Or.inr ⟨(hw _ (List.mem_of_getElem? (i := 2) rfl)), (hw _ (List.mem_of_getElem? (i := 61) rfl))⟩)) (Sta.start ev_s_Chat_Role_CVCA (Or.inr ⟨(hw _ (List.mem_of_getElem? (i := 5) rfl)), (hw _ (List.mem_of_getElem? (i := 59) rfl))⟩)) (Sta.start ev_s_Chat_Role_DV_DOMESTIC (Or.inr ⟨(hw _ (List.mem_of_getElem? (i := 5) rfl)), (hw _ (List.mem_of_getElem? (i := 63) rfl))⟩)) (Sta.start ev_s_Chat_Role_DV_FOREIGN (Or.inr ⟨(hw _ (List.mem_of_getElem? (i := 5) rfl)), (hw _ (List.mem_of_getElem? (i := 57) rfl))⟩)) (Sta.start ev_s_Chat_Role_TERMINAL (Or.inr ⟨(hw _ (List.mem_of_getElem? (i := 5) rfl)), (hw _ (List.mem_of_getElem? (i := 6) rfl))⟩)) F_s_Chat_Role_CVCA_bits F_s_Chat_Role_DV_DOMESTIC_bits F_s_Chat_Role_DV_FOREIGN_bits F_s_Chat_Role_TERMINAL_bits p e ha hc hk s m _ below hf ((Spec.applies_iff_loose hf).mp happ).1 ⟨rfl, State.Warmed39.refl s, rfl⟩ trivial
  refine ⟨n, _, h1, h2, h3, hpost _ _ _ _ _ _ ⟨Cond.after_iff.mpr rfl, Cond.after_iff.mpr (eq_i res_at (Term.int_eval (1)) rfl), trivial⟩ ⟨hq.1, hq.2.1, (hq.2.2.sift fun y hy => Or.inr (N y hy)).mono (by decide) (by decide)⟩⟩
theorem main_1_1 : Claimed_1_1 := comes_1 fun _ _ _ _ _ _ h hF => ⟨h.1, hF⟩
theorem main_1_2 : Claimed_1_2 := comes_1 fun _ _ _ _ _ _ h hF => ⟨h.2.1, hF⟩
end Jvm.Pilot.@@N@@
namespace Jvm.Pilot.@@N@@
open Jvm Jvm.ClassFile Sem Op Lib Jvm.Free Jvm.Stand Jvm.Pilot.@@N@@.Jvm.D
/-! MADE BY PROGRAM (witnessworld.py) out of the Statement's table words and the real class files: 15 classes; the members and pool entries that the words name. The judged class is class 1, her method 1. -/
namespace start1
open Jvm.ClassFile
def u (s : String) : CpInfo := .utf8 (stringToUtf16 s)
/-- a pool by its gaps: so many unusable entries, then the entry; so many at the end -/
def gap : Nat → List CpInfo → List CpInfo
  | 0, r => r
  | n + 1, r => .unusable :: gap n r
def poolList (es : List (Nat × CpInfo)) (last : Nat) : List CpInfo := es.foldr (fun e r => gap e.1 (e.2 :: r)) (gap last [])
def pool (es : List (Nat × CpInfo)) (last : Nat) : Array CpInfo := ⟨poolList es last⟩
def fileOf (pool : Array CpInfo) (this : Nat) (attrs : Array Attribute := #[]) (ms : Array MethodInfo := #[]) (fl : Nat := 33) (sup : Nat := 0) (ifs : Array Nat := #[]) (fds : Array FieldInfo := #[]) : ClassFile where
  minorVersion := 0
  majorVersion := 65
  constantPool := pool
  accessFlags := fl
  thisClass := this
  superClass := sup
  interfaces := ifs
  fields := fds
  methods := ms
  attributes := attrs
def plain (name : String) (sup : Option ClassId) : Class where
  name := name
  kind := .ordinary
  loader := none
  accessFlags := 33
  super := sup
  interfaces := #[]
  cf := none
  fields := #[]
  methods := #[]
  instanceTypes := #[]
  staticTypes := #[]
  resolved := #[]
  callSites := []
  init := .initialized
  statics := none
  mirror := none

def pool0 : Array CpInfo := pool [(5, u "<init>"), (0, u "()V"), (1, .class_ 10), (1, u "java/lang/Object"), (85, u "clone"), (0, u "()Ljava/lang/Object;")] 26

def k0c0 : Code := { maxStack := 0, maxLocals := 1, code := object_method_1_code, exceptionTable := #[], attributes := #[] }
def k0m0 : Method := { name := "<init>", desc := "()V", sig := { parameters := [], returnType := none }, accessFlags := 1, code := some k0c0 }
def k0m1 : Method := { name := "clone", desc := "()Ljava/lang/Object;", sig := { parameters := [], returnType := some (.object "java/lang/Object") }, accessFlags := 260, code := none }
/-- java/lang/Object -/
def k0 : Class := { plain "java/lang/Object" none with
  accessFlags := 33
  interfaces := #[]
  cf := some (fileOf pool0 8 #[] #[{ accessFlags := 1, nameIndex := 5, descriptorIndex := 6, attributes := #[] }, { accessFlags := 260, nameIndex := 96, descriptorIndex := 97, attributes := #[] }] 33 0 #[] #[])
  fields := #[]
  methods := #[k0m0, k0m1]
  instanceTypes := #[]
  staticTypes := #[]
  resolved := Array.replicate 124 none
  statics := none }

def pool1 : Array CpInfo := pool [(2, .class_ 4), (1, u "java/lang/Object"), (0, u "<init>"), (0, u "()V"), (0, .integer 2147483647), (0, .fieldref 9 10), (0, .class_ 11), (0, .nameAndType 12 13), (0, u "com/example/consulate/consulate/cvc/Chat$Template"), (0, u "IS"), (0, u "Lcom/example/consulate/consulate/cvc/Chat$Template;"), (0, .fieldref 9 15), (0, .nameAndType 16 13), (0, u "AT"), (0, .fieldref 9 18), (0, .nameAndType 19 13), (0, u "ST"), (0, .fieldref 21 22), (0, .class_ 23), (0, .nameAndType 24 25), (0, u "com/example/consulate/consulate/cvc/Chat$Role"), (0, u "CVCA"), (0, u "Lcom/example/consulate/consulate/cvc/Chat$Role;"), (0, .fieldref 21 27), (0, .nameAndType 28 25), (0, u "DV_DOMESTIC"), (0, .fieldref 21 30), (0, .nameAndType 31 25), (0, u "DV_FOREIGN"), (0, .fieldref 21 33), (0, .nameAndType 34 25), (0, u "TERMINAL"), (0, .class_ 36), (0, u "com/example/consulate/consulate/cvc/Chat"), (0, .methodref 35 38), (0, .nameAndType 5 39), (0, u "(Lcom/example/consulate/consulate/cvc/Chat$Template;[B)V"), (0, .methodref 35 41), (0, .nameAndType 42 43), (0, u "withRole"), (0, u "(Lcom/example/consulate/consulate/cvc/Chat$Role;)Lcom/example/consulate/consulate/cvc/Chat;"), (0, .methodref 35 45), (0, .nameAndType 46 47), (0, u "data"), (0, u "()[B"), (0, .methodref 35 49), (0, .nameAndType 50 51), (0, u "template"), (0, u "()Lcom/example/consulate/consulate/cvc/Chat$Template;"), (0, .class_ 53), (0, u "com/example/consulate/consulate/cvc/ChatWithRolePinLaw"), (2, u "law"), (0, u "(IIIIII)Z")] 8

def k1m0 : Method := { name := "<init>", desc := "()V", sig := { parameters := [], returnType := none }, accessFlags := 1, code := none }
def k1c1 : Code := { maxStack := 4, maxLocals := 17, code := code, exceptionTable := #[], attributes := #[] }
def k1m1 : Method := { name := "law", desc := "(IIIIII)Z", sig := { parameters := [.int, .int, .int, .int, .int, .int], returnType := some .boolean }, accessFlags := 9, code := some k1c1 }
/-- com/example/consulate/consulate/cvc/ChatWithRolePinLaw -/
def k1 : Class := { plain "com/example/consulate/consulate/cvc/ChatWithRolePinLaw" (some 0) with
  accessFlags := 49
  interfaces := #[]
  cf := some (fileOf pool1 52 #[] #[{ accessFlags := 1, nameIndex := 5, descriptorIndex := 6, attributes := #[] }, { accessFlags := 9, nameIndex := 56, descriptorIndex := 57, attributes := #[] }] 49 2 #[] #[])
  fields := #[]
  methods := #[k1m0, k1m1]
  instanceTypes := #[]
  staticTypes := #[]
  resolved := Array.replicate 66 none
  statics := none }

def pool2 : Array CpInfo := pool [(1, .class_ 2), (0, u "java/lang/constant/Constable"), (0, .class_ 4), (0, u "java/lang/Object")] 6

/-- java/lang/constant/Constable -/
def k2 : Class := { plain "java/lang/constant/Constable" (some 0) with
  accessFlags := 1537
  interfaces := #[]
  cf := some (fileOf pool2 1 #[] #[] 1537 3 #[] #[])
  fields := #[]
  methods := #[]
  instanceTypes := #[]
  staticTypes := #[]
  resolved := Array.replicate 11 none
  statics := none }

def pool3 : Array CpInfo := pool [(1, .class_ 2), (0, u "java/lang/Comparable"), (0, .class_ 4), (0, u "java/lang/Object")] 7

/-- java/lang/Comparable -/
def k3 : Class := { plain "java/lang/Comparable" (some 0) with
  accessFlags := 1537
  interfaces := #[]
  cf := some (fileOf pool3 1 #[] #[] 1537 3 #[] #[])
  fields := #[]
  methods := #[]
  instanceTypes := #[]
  staticTypes := #[]
  resolved := Array.replicate 12 none
  statics := none }

def pool4 : Array CpInfo := pool [(1, .class_ 2), (0, u "java/io/Serializable"), (0, .class_ 4), (0, u "java/lang/Object")] 2

/-- java/io/Serializable -/
def k4 : Class := { plain "java/io/Serializable" (some 0) with
  accessFlags := 1537
  interfaces := #[]
  cf := some (fileOf pool4 1 #[] #[] 1537 3 #[] #[])
  fields := #[]
  methods := #[]
  instanceTypes := #[]
  staticTypes := #[]
  resolved := Array.replicate 7 none
  statics := none }

def pool5 : Array CpInfo := pool [(2, .class_ 4), (1, u "java/lang/Enum"), (0, u "name"), (0, u "Ljava/lang/String;"), (2, u "ordinal"), (0, u "I"), (1, .class_ 14), (1, u "java/lang/Object"), (4, u "hash"), (86, .class_ 108), (1, u "java/lang/Enum$EnumDesc"), (2, .class_ 112), (0, u "java/lang/constant/Constable"), (0, .class_ 114), (0, u "java/lang/Comparable"), (0, .class_ 116), (0, u "java/io/Serializable")] 87

/-- java/lang/Enum -/
def k5 : Class := { plain "java/lang/Enum" (some 0) with
  accessFlags := 1057
  interfaces := #[2, 3, 4]
  cf := some (fileOf pool5 2 #[.nestMembers #[106]] #[] 1057 12 #[111, 113, 115] #[{ accessFlags := 18, nameIndex := 5, descriptorIndex := 6, attributes := #[] }, { accessFlags := 18, nameIndex := 9, descriptorIndex := 10, attributes := #[] }, { accessFlags := 2, nameIndex := 19, descriptorIndex := 10, attributes := #[] }])
  fields := #[{ name := "name", type := (.object "java/lang/String"), accessFlags := 18, slot := 0, constantValue := 0 }, { name := "ordinal", type := .int, accessFlags := 18, slot := 1, constantValue := 0 }, { name := "hash", type := .int, accessFlags := 2, slot := 2, constantValue := 0 }]
  methods := #[]
  instanceTypes := #[(.object "java/lang/String"), .int, .int]
  staticTypes := #[]
  resolved := Array.replicate 204 none
  statics := none }

def pool6 : Array CpInfo := pool [(1, .class_ 2), (0, u "com/example/consulate/consulate/cvc/Chat$Template"), (2, u "IS"), (0, u "Lcom/example/consulate/consulate/cvc/Chat$Template;"), (2, u "AT"), (2, u "ST"), (2, u "$VALUES"), (0, u "[Lcom/example/consulate/consulate/cvc/Chat$Template;"), (6, .class_ 25), (1, u "java/lang/Enum"), (8, u "label"), (0, u "Ljava/lang/String;"), (2, u "oid"), (2, u "dataLength"), (0, u "I"), (76, .class_ 120), (0, u "com/example/consulate/consulate/cvc/Chat")] 24

/-- com/example/consulate/consulate/cvc/Chat$Template -/
def k6 : Class := { plain "com/example/consulate/consulate/cvc/Chat$Template" (some 5) with
  accessFlags := 16433
  interfaces := #[]
  cf := some (fileOf pool6 1 #[.nestHost 119] #[] 16433 23 #[] #[{ accessFlags := 16409, nameIndex := 5, descriptorIndex := 6, attributes := #[] }, { accessFlags := 16409, nameIndex := 9, descriptorIndex := 6, attributes := #[] }, { accessFlags := 16409, nameIndex := 12, descriptorIndex := 6, attributes := #[] }, { accessFlags := 18, nameIndex := 34, descriptorIndex := 35, attributes := #[] }, { accessFlags := 18, nameIndex := 38, descriptorIndex := 35, attributes := #[] }, { accessFlags := 18, nameIndex := 41, descriptorIndex := 42, attributes := #[] }, { accessFlags := 4122, nameIndex := 15, descriptorIndex := 16, attributes := #[] }])
  fields := #[{ name := "IS", type := (.object "com/example/consulate/consulate/cvc/Chat$Template"), accessFlags := 16409, slot := 0, constantValue := 0 }, { name := "AT", type := (.object "com/example/consulate/consulate/cvc/Chat$Template"), accessFlags := 16409, slot := 1, constantValue := 0 }, { name := "ST", type := (.object "com/example/consulate/consulate/cvc/Chat$Template"), accessFlags := 16409, slot := 2, constantValue := 0 }, { name := "label", type := (.object "java/lang/String"), accessFlags := 18, slot := 3, constantValue := 0 }, { name := "oid", type := (.object "java/lang/String"), accessFlags := 18, slot := 4, constantValue := 0 }, { name := "dataLength", type := .int, accessFlags := 18, slot := 5, constantValue := 0 }, { name := "$VALUES", type := (.array (.object "com/example/consulate/consulate/cvc/Chat$Template")), accessFlags := 4122, slot := 3, constantValue := 0 }]
  methods := #[]
  instanceTypes := #[(.object "java/lang/String"), .int, .int, (.object "java/lang/String"), (.object "java/lang/String"), .int]
  staticTypes := #[(.object "com/example/consulate/consulate/cvc/Chat$Template"), (.object "com/example/consulate/consulate/cvc/Chat$Template"), (.object "com/example/consulate/consulate/cvc/Chat$Template"), (.array (.object "com/example/consulate/consulate/cvc/Chat$Template"))]
  resolved := Array.replicate 145 none
  statics := some 0 }

def pool7 : Array CpInfo := pool [(1, .class_ 2), (0, u "com/example/consulate/consulate/cvc/Chat$Role"), (2, u "CVCA"), (0, u "Lcom/example/consulate/consulate/cvc/Chat$Role;"), (2, u "DV_DOMESTIC"), (2, u "DV_FOREIGN"), (2, u "TERMINAL"), (2, u "$VALUES"), (0, u "[Lcom/example/consulate/consulate/cvc/Chat$Role;"), (6, .class_ 28), (1, u "java/lang/Enum"), (8, u "label"), (0, u "Ljava/lang/String;"), (2, u "bits"), (0, u "I"), (79, .class_ 123), (0, u "com/example/consulate/consulate/cvc/Chat")] 24

/-- com/example/consulate/consulate/cvc/Chat$Role -/
def k7 : Class := { plain "com/example/consulate/consulate/cvc/Chat$Role" (some 5) with
  accessFlags := 16433
  interfaces := #[]
  cf := some (fileOf pool7 1 #[.nestHost 122] #[] 16433 26 #[] #[{ accessFlags := 16409, nameIndex := 5, descriptorIndex := 6, attributes := #[] }, { accessFlags := 16409, nameIndex := 9, descriptorIndex := 6, attributes := #[] }, { accessFlags := 16409, nameIndex := 12, descriptorIndex := 6, attributes := #[] }, { accessFlags := 16409, nameIndex := 15, descriptorIndex := 6, attributes := #[] }, { accessFlags := 18, nameIndex := 37, descriptorIndex := 38, attributes := #[] }, { accessFlags := 18, nameIndex := 41, descriptorIndex := 42, attributes := #[] }, { accessFlags := 4122, nameIndex := 18, descriptorIndex := 19, attributes := #[] }])
  fields := #[{ name := "CVCA", type := (.object "com/example/consulate/consulate/cvc/Chat$Role"), accessFlags := 16409, slot := 0, constantValue := 0 }, { name := "DV_DOMESTIC", type := (.object "com/example/consulate/consulate/cvc/Chat$Role"), accessFlags := 16409, slot := 1, constantValue := 0 }, { name := "DV_FOREIGN", type := (.object "com/example/consulate/consulate/cvc/Chat$Role"), accessFlags := 16409, slot := 2, constantValue := 0 }, { name := "TERMINAL", type := (.object "com/example/consulate/consulate/cvc/Chat$Role"), accessFlags := 16409, slot := 3, constantValue := 0 }, { name := "label", type := (.object "java/lang/String"), accessFlags := 18, slot := 3, constantValue := 0 }, { name := "bits", type := .int, accessFlags := 18, slot := 4, constantValue := 0 }, { name := "$VALUES", type := (.array (.object "com/example/consulate/consulate/cvc/Chat$Role")), accessFlags := 4122, slot := 4, constantValue := 0 }]
  methods := #[]
  instanceTypes := #[(.object "java/lang/String"), .int, .int, (.object "java/lang/String"), .int]
  staticTypes := #[(.object "com/example/consulate/consulate/cvc/Chat$Role"), (.object "com/example/consulate/consulate/cvc/Chat$Role"), (.object "com/example/consulate/consulate/cvc/Chat$Role"), (.object "com/example/consulate/consulate/cvc/Chat$Role"), (.array (.object "com/example/consulate/consulate/cvc/Chat$Role"))]
  resolved := Array.replicate 148 none
  statics := some 1 }

def pool8 : Array CpInfo := pool [(1, .methodref 2 3), (0, .class_ 4), (0, .nameAndType 5 6), (0, u "java/lang/Object"), (0, u "<init>"), (0, u "()V"), (0, .class_ 8), (0, u "java/lang/Record")] 13

def k8c0 : Code := { maxStack := 1, maxLocals := 1, code := jdk_30_method_1_code, exceptionTable := #[], attributes := #[] }
def k8m0 : Method := { name := "<init>", desc := "()V", sig := { parameters := [], returnType := none }, accessFlags := 4, code := some k8c0 }
/-- java/lang/Record -/
def k8 : Class := { plain "java/lang/Record" (some 0) with
  accessFlags := 1057
  interfaces := #[]
  cf := some (fileOf pool8 7 #[] #[{ accessFlags := 4, nameIndex := 5, descriptorIndex := 6, attributes := #[] }] 1057 2 #[] #[])
  fields := #[]
  methods := #[k8m0]
  instanceTypes := #[]
  staticTypes := #[]
  resolved := Array.replicate 22 none
  statics := none }

def pool9 : Array CpInfo := pool [(1, .methodref 2 3), (0, .class_ 4), (0, .nameAndType 5 6), (0, u "java/lang/Record"), (0, u "<init>"), (0, u "()V"), (7, .fieldref 15 16), (0, .class_ 17), (0, .nameAndType 18 19), (0, u "com/example/consulate/consulate/cvc/Chat"), (0, u "template"), (0, u "Lcom/example/consulate/consulate/cvc/Chat$Template;"), (0, .fieldref 15 21), (0, .nameAndType 22 23), (0, u "data"), (0, u "[B"), (1, .class_ 27), (1, u "com/example/consulate/consulate/cvc/Chat$Role"), (2, .methodref 31 32), (0, .class_ 23), (0, .nameAndType 33 34), (0, u "clone"), (0, u "()Ljava/lang/Object;"), (0, .fieldref 25 36), (0, .nameAndType 37 38), (0, u "bits"), (0, u "I"), (0, .methodref 15 40), (0, .nameAndType 5 41), (0, u "(Lcom/example/consulate/consulate/cvc/Chat$Template;[B)V"), (19, .class_ 62), (0, u "com/example/consulate/consulate/cvc/Chat$Template"), (3, u "withRole"), (0, u "(Lcom/example/consulate/consulate/cvc/Chat$Role;)Lcom/example/consulate/consulate/cvc/Chat;"), (5, u "()Lcom/example/consulate/consulate/cvc/Chat$Template;"), (0, u "()[B")] 32

def k9c0 : Code := { maxStack := 3, maxLocals := 3, code := prog_20_method_1_code, exceptionTable := #[], attributes := #[] }
def k9m0 : Method := { name := "<init>", desc := "(Lcom/example/consulate/consulate/cvc/Chat$Template;[B)V", sig := { parameters := [(.object "com/example/consulate/consulate/cvc/Chat$Template"), (.array .byte)], returnType := none }, accessFlags := 1, code := some k9c0 }
def k9c1 : Code := { maxStack := 5, maxLocals := 3, code := prog_20_method_3_code, exceptionTable := #[], attributes := #[] }
def k9m1 : Method := { name := "withRole", desc := "(Lcom/example/consulate/consulate/cvc/Chat$Role;)Lcom/example/consulate/consulate/cvc/Chat;", sig := { parameters := [(.object "com/example/consulate/consulate/cvc/Chat$Role")], returnType := some (.object "com/example/consulate/consulate/cvc/Chat") }, accessFlags := 1, code := some k9c1 }
def k9c2 : Code := { maxStack := 1, maxLocals := 1, code := prog_20_method_8_code, exceptionTable := #[], attributes := #[] }
def k9m2 : Method := { name := "template", desc := "()Lcom/example/consulate/consulate/cvc/Chat$Template;", sig := { parameters := [], returnType := some (.object "com/example/consulate/consulate/cvc/Chat$Template") }, accessFlags := 1, code := some k9c2 }
def k9c3 : Code := { maxStack := 1, maxLocals := 1, code := prog_20_method_9_code, exceptionTable := #[], attributes := #[] }
def k9m3 : Method := { name := "data", desc := "()[B", sig := { parameters := [], returnType := some (.array .byte) }, accessFlags := 1, code := some k9c3 }
/-- com/example/consulate/consulate/cvc/Chat -/
def k9 : Class := { plain "com/example/consulate/consulate/cvc/Chat" (some 8) with
  accessFlags := 49
  interfaces := #[]
  cf := some (fileOf pool9 15 #[.nestMembers #[25, 61]] #[{ accessFlags := 1, nameIndex := 5, descriptorIndex := 41, attributes := #[] }, { accessFlags := 1, nameIndex := 66, descriptorIndex := 67, attributes := #[] }, { accessFlags := 1, nameIndex := 18, descriptorIndex := 73, attributes := #[] }, { accessFlags := 1, nameIndex := 22, descriptorIndex := 74, attributes := #[] }] 49 2 #[] #[{ accessFlags := 18, nameIndex := 18, descriptorIndex := 19, attributes := #[] }, { accessFlags := 18, nameIndex := 22, descriptorIndex := 23, attributes := #[] }])
  fields := #[{ name := "template", type := (.object "com/example/consulate/consulate/cvc/Chat$Template"), accessFlags := 18, slot := 0, constantValue := 0 }, { name := "data", type := (.array .byte), accessFlags := 18, slot := 1, constantValue := 0 }]
  methods := #[k9m0, k9m1, k9m2, k9m3]
  instanceTypes := #[(.object "com/example/consulate/consulate/cvc/Chat$Template"), (.array .byte)]
  staticTypes := #[]
  resolved := (Array.replicate 107 none).setIfInBounds 35 (some (.field 7 5))
  statics := none }

def pool10 : Array CpInfo := pool [(1, .class_ 2), (0, u "java/lang/Cloneable"), (0, .class_ 4), (0, u "java/lang/Object")] 2

/-- java/lang/Cloneable -/
def k10 : Class := { plain "java/lang/Cloneable" (some 0) with
  accessFlags := 1537
  interfaces := #[]
  cf := some (fileOf pool10 1 #[] #[] 1537 3 #[] #[])
  fields := #[]
  methods := #[]
  instanceTypes := #[]
  staticTypes := #[]
  resolved := Array.replicate 7 none
  statics := none }

/-- the primitive byte -/
def k11 : Class := { plain "byte" none with kind := .primitive 'B', accessFlags := 0x411 }
/-- [B -/
def k12 : Class := { plain "[B" (some 0) with kind := .array 11 .byte, interfaces := #[10, 4], accessFlags := 1041 }

/-- the primitive int -/
def k13 : Class := { plain "int" none with kind := .primitive 'I', accessFlags := 0x411 }
/-- [I -/
def k14 : Class := { plain "[I" (some 0) with kind := .array 13 .int, interfaces := #[10, 4], accessFlags := 1041 }

def heap : Heap := #[{ cls := 6, slots := #[.ref 2, .ref 3, .ref 4, .null], vm := .statics 6 },
  { cls := 7, slots := #[.ref 5, .ref 6, .ref 7, .ref 8, .null], vm := .statics 7 },
  { cls := 6, slots := #[.null, .int 0, .int 0, .null, .null, .int 0], vm := .none },
  { cls := 6, slots := #[.null, .int 1, .int 0, .null, .null, .int 0], vm := .none },
  { cls := 6, slots := #[.null, .int 2, .int 0, .null, .null, .int 0], vm := .none },
  { cls := 7, slots := #[.null, .int 0, .int 0, .null, .int 3], vm := .none },
  { cls := 7, slots := #[.null, .int 1, .int 0, .null, .int 2], vm := .none },
  { cls := 7, slots := #[.null, .int 2, .int 0, .null, .int 1], vm := .none },
  { cls := 7, slots := #[.null, .int 3, .int 0, .null, .int 0], vm := .none }]
def classes : Array Class := #[k0, k1, k2, k3, k4, k5, k6, k7, k8, k9, k10, k11, k12, k13, k14]
def interned : List (Array UInt16 × Addr) := []
def slotsUsed : Nat := 47
def theMethod : MethodId := ⟨1, 1⟩
def args0 : Array Value := #[.int 1, .int 2, .int 3, .int 4, .int 5, .int 6]
def aboutOver (below : List Frame) : State where
  vm := { classes := classes, interned := interned.toArray }
  heap := heap
  slotsUsed := slotsUsed
  threads := #[{ frames := .invoking theMethod args0 :: below }]
def below0 : List Frame := [.native { method := ⟨0, 0⟩, args := #[] }]
def about1 : State := aboutOver below0
def p0 : Program := .bare "" "" ""
def e0 : Env := launch0.env 0 0 0
theorem w_frames : about1.frames = Frame.invoking theMethod args0 :: below0 := rfl
set_option maxRecDepth 65536 in
theorem w_args : argsFit about1.vm theMethod args0 = true := by decide +kernel
set_option maxRecDepth 65536 in
theorem w_heap : heapFits about1 = true := by decide +kernel
set_option maxRecDepth 65536 in
theorem w_runnable : about1.curStatus? = some .runnable := by decide +kernel
set_option maxRecDepth 65536 in
theorem w_alone : about1.alone = true := by decide +kernel
set_option maxRecDepth 65536 in
theorem w_named : about1.methodNamed? x = some theMethod := by decide +kernel
set_option maxRecDepth 65536 in
theorem w_hears : about1.hears theMethod below0 = true := by decide +kernel
set_option maxRecDepth 65536 in
theorem w_ripe : about1.ripe theMethod args0 below0 = true := by decide +kernel
theorem w_running : about1.status = .running := rfl
set_option maxRecDepth 65536 in
theorem w_room : about1.hasRoom e0.platform room_1 = true :=
  launch0.hasRoom_least _ room_1 (by decide +kernel) (by decide +kernel) (by decide +kernel) (by decide +kernel) (by decide +kernel) (by decide +kernel)
theorem allAtoms_all (ts : List Jvm.Cond) (a : Array Jvm.Value) (st : Jvm.State) : (allAtoms ts).before a st = ts.all (fun c => c.before a st) := by
  induction ts with
  | nil => rfl
  | cons c t ih =>
    show (Jvm.Cond.and c (allAtoms t)).before a st = _
    rw [Jvm.Cond.before_and, ih, List.all_cons]
def words1 : List Jvm.Cond := Jvm.Cond.code x code maxLocals ret :: tables_1
/-- a 'code' word, met by the world's own term for the bytes: nothing is compared byte by byte -/
theorem code_word {y : MethodName} {bytes : ByteArray} {mx : Nat} {rt : Option FieldType} {a : Array Value} {s : State} {m : MethodId} {meth : Method} {c : Code} (h1 : s.methodNamed? y = some m) (h2 : s.vm.method? m = some meth) (h3 : meth.code = some c) (h4 : c.code = bytes)
    (h5 : (c.maxLocals == mx && c.exceptionTable.isEmpty && decide (c.maxStack ≤ mostOperands) && decide (meth.sig.returnType = rt) && !meth.locks && decide (parseMethodDescriptor y.desc = some meth.sig)) = true) : (Jvm.Cond.code y bytes mx rt).before a s = true := by
  simp only [Bool.and_eq_true, beq_iff_eq, Bool.not_eq_true', decide_eq_true_eq] at h5
  obtain ⟨⟨⟨⟨⟨g1, g2⟩, g3⟩, g4⟩, g5⟩, g6⟩ := h5
  simp [Cond.before, Cond.holds, Cond.value, h1, h2, h3, h4, g1, g2, g3, g4, g5, g6]
def isCode : Jvm.Cond → Bool
  | .code _ _ _ _ => true
  | _ => false
theorem all_split {L : List Jvm.Cond} {P : Jvm.Cond → Bool} (h1 : L.all (fun c => isCode c || P c) = true) (h2 : ∀ c ∈ L.filter isCode, P c = true) : L.all P = true := by
  refine List.all_eq_true.mpr fun c hc => ?_
  have h := List.all_eq_true.mp h1 c hc
  rcases Bool.eq_false_or_eq_true (isCode c) with hi | hi
  · exact h2 c (List.mem_filter.mpr ⟨hc, hi⟩)
  · simpa [hi] using h
set_option maxRecDepth 65536 in
theorem w_c0 : (Jvm.Cond.code x code maxLocals ret).before args0 about1 = true := code_word (m := ⟨1, 1⟩) (meth := k1m1) (c := k1c1) (by decide +kernel) rfl rfl rfl (by decide +kernel)
set_option maxRecDepth 65536 in
theorem w_c1 : (Jvm.Cond.code ({ cls := "com/example/consulate/consulate/cvc/Chat", name := "<init>", desc := "(Lcom/example/consulate/consulate/cvc/Chat$Template;[B)V" } : Jvm.MethodName) prog_20_method_1_code (3 : Nat) (Option.none : Option Jvm.ClassFile.FieldType)).before args0 about1 = true := code_word (m := ⟨9, 0⟩) (meth := k9m0) (c := k9c0) (by decide +kernel) rfl rfl rfl (by decide +kernel)
set_option maxRecDepth 65536 in
theorem w_c2 : (Jvm.Cond.code ({ cls := "java/lang/Record", name := "<init>", desc := "()V" } : Jvm.MethodName) jdk_30_method_1_code (1 : Nat) (Option.none : Option Jvm.ClassFile.FieldType)).before args0 about1 = true := code_word (m := ⟨8, 0⟩) (meth := k8m0) (c := k8c0) (by decide +kernel) rfl rfl rfl (by decide +kernel)
set_option maxRecDepth 65536 in
theorem w_c3 : (Jvm.Cond.code ({ cls := "java/lang/Object", name := "<init>", desc := "()V" } : Jvm.MethodName) object_method_1_code (1 : Nat) (Option.none : Option Jvm.ClassFile.FieldType)).before args0 about1 = true := code_word (m := ⟨0, 0⟩) (meth := k0m0) (c := k0c0) (by decide +kernel) rfl rfl rfl (by decide +kernel)
set_option maxRecDepth 65536 in
theorem w_c4 : (Jvm.Cond.code ({ cls := "com/example/consulate/consulate/cvc/Chat", name := "withRole", desc := "(Lcom/example/consulate/consulate/cvc/Chat$Role;)Lcom/example/consulate/consulate/cvc/Chat;" } : Jvm.MethodName) prog_20_method_3_code (3 : Nat) (Option.some (Jvm.ClassFile.FieldType.object "com/example/consulate/consulate/cvc/Chat"))).before args0 about1 = true := code_word (m := ⟨9, 1⟩) (meth := k9m1) (c := k9c1) (by decide +kernel) rfl rfl rfl (by decide +kernel)
set_option maxRecDepth 65536 in
theorem w_c5 : (Jvm.Cond.code ({ cls := "com/example/consulate/consulate/cvc/Chat", name := "data", desc := "()[B" } : Jvm.MethodName) prog_20_method_9_code (1 : Nat) (Option.some (Jvm.ClassFile.FieldType.array Jvm.ClassFile.FieldType.byte))).before args0 about1 = true := code_word (m := ⟨9, 3⟩) (meth := k9m3) (c := k9c3) (by decide +kernel) rfl rfl rfl (by decide +kernel)
set_option maxRecDepth 65536 in
theorem w_c6 : (Jvm.Cond.code ({ cls := "com/example/consulate/consulate/cvc/Chat", name := "template", desc := "()Lcom/example/consulate/consulate/cvc/Chat$Template;" } : Jvm.MethodName) prog_20_method_8_code (1 : Nat) (Option.some (Jvm.ClassFile.FieldType.object "com/example/consulate/consulate/cvc/Chat$Template"))).before args0 about1 = true := code_word (m := ⟨9, 2⟩) (meth := k9m2) (c := k9c2) (by decide +kernel) rfl rfl rfl (by decide +kernel)
def codes1 : List Jvm.Cond := [Jvm.Cond.code x code maxLocals ret, Jvm.Cond.code ({ cls := "com/example/consulate/consulate/cvc/Chat", name := "<init>", desc := "(Lcom/example/consulate/consulate/cvc/Chat$Template;[B)V" } : Jvm.MethodName) prog_20_method_1_code (3 : Nat) (Option.none : Option Jvm.ClassFile.FieldType), Jvm.Cond.code ({ cls := "java/lang/Record", name := "<init>", desc := "()V" } : Jvm.MethodName) jdk_30_method_1_code (1 : Nat) (Option.none : Option Jvm.ClassFile.FieldType), Jvm.Cond.code ({ cls := "java/lang/Object", name := "<init>", desc := "()V" } : Jvm.MethodName) object_method_1_code (1 : Nat) (Option.none : Option Jvm.ClassFile.FieldType), Jvm.Cond.code ({ cls := "com/example/consulate/consulate/cvc/Chat", name := "withRole", desc := "(Lcom/example/consulate/consulate/cvc/Chat$Role;)Lcom/example/consulate/consulate/cvc/Chat;" } : Jvm.MethodName) prog_20_method_3_code (3 : Nat) (Option.some (Jvm.ClassFile.FieldType.object "com/example/consulate/consulate/cvc/Chat")), Jvm.Cond.code ({ cls := "com/example/consulate/consulate/cvc/Chat", name := "data", desc := "()[B" } : Jvm.MethodName) prog_20_method_9_code (1 : Nat) (Option.some (Jvm.ClassFile.FieldType.array Jvm.ClassFile.FieldType.byte)), Jvm.Cond.code ({ cls := "com/example/consulate/consulate/cvc/Chat", name := "template", desc := "()Lcom/example/consulate/consulate/cvc/Chat$Template;" } : Jvm.MethodName) prog_20_method_8_code (1 : Nat) (Option.some (Jvm.ClassFile.FieldType.object "com/example/consulate/consulate/cvc/Chat$Template"))]
set_option maxRecDepth 65536 in
theorem codes_eq : words1.filter isCode = codes1 := rfl
theorem w_codes : ∀ c ∈ words1.filter isCode, c.before args0 about1 = true := by
  rw [codes_eq]
  intro c hc
  simp only [codes1, List.mem_cons, List.not_mem_nil, or_false] at hc
  rcases hc with rfl | rfl | rfl | rfl | rfl | rfl | rfl
  · exact w_c0
  · exact w_c1
  · exact w_c2
  · exact w_c3
  · exact w_c4
  · exact w_c5
  · exact w_c6
set_option maxRecDepth 65536 in
theorem w_t1 : (words1.take 24).all (fun c => isCode c || c.before args0 about1) = true := by decide +kernel
set_option maxRecDepth 65536 in
theorem w_t2 : ((words1.drop 24).take 24).all (fun c => isCode c || c.before args0 about1) = true := by decide +kernel
set_option maxRecDepth 65536 in
theorem w_t3 : ((words1.drop 24).drop 24).all (fun c => isCode c || c.before args0 about1) = true := by decide +kernel
theorem w_tables : (allAtoms (Jvm.Cond.code x code maxLocals ret :: tables_1)).before args0 about1 = true := by
  rw [allAtoms_all]
  show words1.all (fun c => c.before args0 about1) = true
  refine all_split ?_ w_codes
  rw [← List.take_append_drop 24 words1, List.all_append, w_t1, ← List.take_append_drop 24 (words1.drop 24), List.all_append, w_t2, w_t3]
  rfl
set_option maxRecDepth 65536 in
theorem w_case : (Jvm.Cond.and given_1 narrow_1).before args0 about1 = true := by decide +kernel
theorem w_applies : (headSpec (Jvm.Cond.code x code maxLocals ret :: tables_1) room_1).applies x e0.platform about1 = true :=
  (Spec.applies_iff w_frames).mpr ⟨w_running, w_runnable, w_alone, w_named, w_hears, w_ripe, w_room, w_tables⟩
theorem atStart : AtStart classFile x code maxLocals ret World_1 tables_1 room_1 Calls_1 rest_1 Pre_1 launch0 p0 e0 about1 theMethod args0 below0 :=
  ⟨lists_1, trivial, launch0.admits_env _ _ _, launch0.least_env, fairChoices_fair.cas, fairChoices_fair.clock, w_frames, w_args, w_heap, w_applies, trivial, trivial, w_case⟩
end start1
theorem witness_1 : WitnessClaimed_1 := ⟨start1.p0, start1.e0, start1.about1, start1.theMethod, start1.args0, start1.below0, start1.atStart⟩
end Jvm.Pilot.@@N@@
