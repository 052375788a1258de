import JvmDerived
import JvmDerived.Pilot.@@N@@Statement
import JvmDerived.Pilot.@@N@@Code
set_option linter.unusedVariables false
set_option linter.unusedSimpArgs false
namespace Jvm.RoadKit
open Sem ClassFile Op Lib Jvm.Stand Jvm.Free Jvm.LawKit
section New
variable {p : Program} {l : Launch} {e : Env} {R : Room} {s : State} {m : MethodId} {args : Array Value} {below : List Frame} {meth : Method} {c : Code} {T : State} {locs : List Loc} {cells slots : Nat}
theorem retI (X : Stand p l e R s m args below meth c T locs cells slots) (hx : p.tables.exec = Jvm.exec) {pc : Nat} {Ls : Array Slot} {z : Int32} {rest : List Value} (hret : meth.sig.returnType = some .int) (hd : decode c.code pc = .ok (.ireturn, 1)) {fs : List Frame}
    (hl : ∀ (f : JFrame) (acts : List Action), f.method = m → f.locked = none → f.entered = [] → (doReturn e (T.setTop f) acts (some (.int z))).1 = T.setFrames fs) : Steps p.tables e below (T.setTop (mkF m pc Ls (.int z :: rest))) (T.setFrames fs) := retOut X hx hret rfl (Or.inl ⟨rfl, Or.inl rfl, _, rfl⟩) hd hl
end New
end Jvm.RoadKit
namespace Jvm.Pilot.@@N@@
open Jvm Jvm.ClassFile Sem Op Lib Jvm.Free Jvm.Stand Jvm.LawKit Jvm.RoadKit Bundle Jvm.Pilot.@@N@@.Jvm.D
section OwnKit
variable {p : Program} {l : Launch} {e : Env} {R : Room} {s : State} {m : MethodId} {args : Array Value} {below : List Frame} {meth : Method} {c : Code} {T : State} {locs : List Loc} {cells slots : Nat} {Z : State} {a0 : Array Value} {h : Heap}
def Go (p : Program) (e : Env) (below : List Frame) (Q : Outcome → State → Prop) (S : State) : Prop := ∃ s₂ o, Steps p.tables e below S s₂ ∧ s₂.status = .running ∧ Ended s₂ below o ∧ Q o s₂
theorem Go.of {Q : Outcome → State → Prop} {S : State} (k : Go p e below Q S) : ∃ s₂ o, Steps p.tables e below S s₂ ∧ s₂.status = .running ∧ Ended s₂ below o ∧ Q o s₂ := k
theorem Go.st {Q : Outcome → State → Prop} {S S' : State} (h : ∀ t, Steps p.tables e below S' t → Steps p.tables e below S t) (k : Go p e below Q S') : Go p e below Q S := by
  obtain ⟨s2, o, h1, h2⟩ := k; exact ⟨s2, o, h _ h1, h2⟩
theorem Go.op {α : Type} {Q : Outcome → State → Prop} {S : State} {F : α → State} {x : α} (h : ∀ t, Steps p.tables e below (F x) t → Steps p.tables e below S t) (k : ∀ z, z = x → Go p e below Q (F z)) : Go p e below Q S := Go.st h (k x rfl)
theorem Go.join {α : Type} {Q : Outcome → State → Prop} {S : State} (C : α → Prop) (F : α → State) (k : ∀ r, C r → Go p e below Q (F r)) (j : (∀ r, C r → Go p e below Q (F r)) → Go p e below Q S) : Go p e below Q S := j k
theorem Go.joinT {α : Type} {Q : Outcome → State → Prop} {S : State} (X : Stand p l e R s m args below meth c T locs cells slots) (eT : T.heap = h) (C : α → Prop) (F : State → α → State) (k : ∀ T', Stand p l e R s m args below meth c T' locs cells slots → T'.heap = h → ∀ r, C r → Go p e below Q (F T' r)) (j : (∀ T', Stand p l e R s m args below meth c T' locs cells slots → T'.heap = h → ∀ r, C r → Go p e below Q (F T' r)) → Go p e below Q S) : Go p e below Q S := j k
theorem Go.loop {α : Type} {Q : Outcome → State → Prop} (I : Nat → α → Prop) (F : α → State) (k0 : Nat) (x0 : α) (h0 : I k0 x0) (step : ∀ k x, I k x → (∀ k' x', k' < k → I k' x' → Go p e below Q (F x')) → Go p e below Q (F x)) : Go p e below Q (F x0) := by
  have H : ∀ k x, I k x → Go p e below Q (F x) := by
    intro k
    induction k using Nat.strongRecOn with
    | _ k ih => intro x hx; exact step k x hx fun k' x' hk hx' => ih k' hk x' hx'
  exact H k0 x0 h0
theorem Go.ret {Qn : Option Value → Heap → List Loc → Prop} {rc rs : Nat} (X : Stand p l e R s m args below meth c T locs cells slots) {v : Option Value} (hv : meth.sig.returnType = none → v = none) (hlk : meth.locks = false) {f : JFrame}
    (st : ∀ fs, (∀ (f : JFrame) (acts : List Action), f.method = m → f.locked = none → f.entered = [] → (doReturn e (T.setTop f) acts v).1 = T.setFrames fs) → Steps p.tables e below (T.setTop f) (T.setFrames fs))
    (hc : cells ≤ rc) (hs : slots ≤ rs) (hQ : Qn v T.heap locs) : Go p e below (fun o U' => ∃ v L, o = .returned v ∧ Qn v U'.heap L ∧ FrameEnd s o U' L rc rs) (T.setTop f) := by
  obtain ⟨fs, hr, hrun, hended, hW, hsame⟩ := X.leave (v := v) hv hlk
  exact ⟨_, _, st fs hr, hrun, hended, v, locs, rfl, hQ, ⟨_, rfl⟩, hW, hsame.mono hc hs⟩
abbrev Con (l : Launch) (Z : State) (y : MethodName) (bytes : ByteArray) (maxL : Nat) (ret : Option FieldType) (ws : List Jvm.Cond) (rm : Room) (as' : Array Value) (h : Heap) (rc rs : Nat) (Q : Option Value → Heap → List Loc → Prop) : Prop :=
  MetFree l y (head1 (Jvm.Cond.code y bytes maxL ret :: ws) rm) (fun a U => a = as' ∧ Z.Warmed39 U.vm ∧ U.heap = h) (fun _ _ _ _ _ => True) (fun _ U o U' => ∃ v L, o = .returned v ∧ Q v U'.heap L ∧ FrameEnd U o U' L rc rs)
theorem own_eh {a : Addr} {cl : Cell} (eT : T.heap = h) (q : h[a]? = some cl) : T.heap[a]? = some cl := by rw [eT]; exact q
theorem own_callS {own : String} {index : Nat} {y : MethodName} {bytes : ByteArray} {maxL : Nat} {ret : Option FieldType} {rm : Room} {as' : Array Value} {Q : Option Value → Heap → List Loc → Prop} {W : Nat} {g : JFrame} {argsL rest : List Value}
    (X : Stand p l e R s m args below meth c T locs cells slots) (hx : p.tables.exec = Jvm.exec) (hZ : Z.Warmed39 s.vm) (eT : T.heap = h) (hown : s.vm.findClass own = some m.cls)
    (w1 : (Jvm.Cond.methodLink own index y).before a0 Z = true) (w2 : (Jvm.Cond.static y).before a0 Z = true) (w3 : (Jvm.Cond.initialized y.cls).before a0 Z = true) (w4 : (Jvm.Cond.code y bytes maxL ret).before a0 Z = true)
    (hy : y.cls ≠ "java/lang/invoke/MethodHandle" ∧ y.cls ≠ "java/lang/invoke/VarHandle")
    (hM : Con l Z y bytes maxL ret [] rm as' h rm.cells rm.slots Q)
    (hf : rm.frames + 1 ≤ R.frames) (hl : W + (maxL + 11) + rm.locals ≤ R.locals) (hc : cells + rm.cells ≤ R.cells) (hs : slots + rm.slots ≤ R.slots)
    (hg : g.method = m) (hsize : g.locals.size = c.maxLocals) (has : argsL.toArray = as') (hlen : ∀ sig, parseMethodDescriptor y.desc = some sig → argsL.length = sig.parameters.length)
    (hstack : g.stack = argsL.reverse ++ rest) (hW : 2 * g.monitorRoom + (rest.map fun v => v.category).sum ≤ W) (hdg : decode c.code g.pc = .ok (.invokestatic index, 3)) :
    ∃ v T' L, Stand p l e R s m args below meth c T' (locs ++ L) (cells + rm.cells) (slots + rm.slots) ∧ Q v T'.heap L ∧ ∀ target, Steps p.tables e below (T'.setTop { g with pc := g.pc + 3, stack := v.toList ++ rest }) target → Steps p.tables e below (T.setTop g) target := by
  obtain ⟨v, _, ⟨T', L', k', n'⟩, -, X', ⟨L, hQ, l', y', z'⟩, st⟩ := Jvm.LawKit.callS X hx (y := y) hown (mvT hZ w1) (mvT hZ w2) (mvT hZ w3) (mvT hZ w4) hy (backOf (W := W) hM hZ w4 w3 hf hl) (g := g) hg hsize (argsL := argsL) (rest := rest) hlen hstack hW hdg (fun _ _ => ⟨has, eT, hc, hs⟩)
  dsimp only [Pt.U, Pt.locs, Pt.cells, Pt.slots] at X' l' y' z' st hQ
  subst l' y' z'
  exact ⟨v, T', L, X', hQ, st⟩
theorem own_callI {own : String} {index : Nat} {y : MethodName} {bytes : ByteArray} {maxL : Nat} {rm : Room} {as' : Array Value} {Q : Option Value → Heap → List Loc → Prop} {W : Nat} {g : JFrame} {a : Addr} {argsL rest : List Value}
    (X : Stand p l e R s m args below meth c T locs cells slots) (hx : p.tables.exec = Jvm.exec) (hZ : Z.Warmed39 s.vm) (eT : T.heap = h) (hown : s.vm.findClass own = some m.cls) (hyn : y.name = "<init>")
    (w1 : (Jvm.Cond.methodLink own index y).before a0 Z = true) (w2 : (Jvm.Cond.instanceMethod y).before a0 Z = true) (w3 : (Jvm.Cond.initialized y.cls).before a0 Z = true) (w4 : (Jvm.Cond.code y bytes maxL none).before a0 Z = true)
    (hy : y.cls ≠ "java/lang/invoke/MethodHandle" ∧ y.cls ≠ "java/lang/invoke/VarHandle")
    (hM : Con l Z y bytes maxL none [] rm as' h rm.cells rm.slots Q)
    (hf : rm.frames + 1 ≤ R.frames) (hl : W + (maxL + 11) + rm.locals ≤ R.locals) (hc : cells + rm.cells ≤ R.cells) (hs : slots + rm.slots ≤ R.slots)
    (hg : g.method = m) (hsize : g.locals.size = c.maxLocals) (has : (Value.ref a :: argsL).toArray = as') (hlen : ∀ sig, parseMethodDescriptor y.desc = some sig → argsL.length = sig.parameters.length)
    (hstack : g.stack = argsL.reverse ++ .ref a :: rest) (hW : 2 * g.monitorRoom + (rest.map fun v => v.category).sum ≤ W) (hdg : decode c.code g.pc = .ok (.invokespecial index, 3)) :
    ∃ v T' L, Stand p l e R s m args below meth c T' (locs ++ L) (cells + rm.cells) (slots + rm.slots) ∧ Q v T'.heap L ∧ ∀ target, Steps p.tables e below (T'.setTop { g with pc := g.pc + 3, stack := v.toList ++ rest }) target → Steps p.tables e below (T.setTop g) target := by
  obtain ⟨v, _, ⟨T', L', k', n'⟩, -, X', ⟨L, hQ, l', y', z'⟩, st⟩ := X.specialBack hx (y := y) hyn hown (mvT hZ w1) (mvT hZ w2) (mvT hZ w4) hy (backOf (W := W) hM hZ w4 w3 hf hl) (g := g) hg hsize (Steps.refl _) (a := a) (argsL := argsL) (rest := rest) hlen hstack hW hdg (fun _ _ => ⟨has, eT, hc, hs⟩)
  dsimp only [Pt.U, Pt.locs, Pt.cells, Pt.slots] at X' l' y' z' st hQ
  subst l' y' z'
  exact ⟨v, T', L, X', hQ, fun _ k => st.trans k⟩
theorem own_callV {own C : String} {index : Nat} {y z : MethodName} {bytes : ByteArray} {maxL : Nat} {ret : Option FieldType} {rm : Room} {as' : Array Value} {Q : Option Value → Heap → List Loc → Prop} {W : Nat} {g : JFrame} {a : Addr} {argsL rest : List Value}
    (X : Stand p l e R s m args below meth c T locs cells slots) (hx : p.tables.exec = Jvm.exec) (hZ : Z.Warmed39 s.vm) (eT : T.heap = h) (hown : s.vm.findClass own = some m.cls)
    (w1 : (Jvm.Cond.methodLink own index y).before a0 Z = true) (w2 : (Jvm.Cond.declares y).before a0 Z = true) (nf : NotFace s y) (w5 : (Jvm.Cond.selects C y z).before a0 Z = true) (w6 : (Jvm.Cond.instanceMethod z).before a0 Z = true) (w3 : (Jvm.Cond.initialized z.cls).before a0 Z = true) (w4 : (Jvm.Cond.code z bytes maxL ret).before a0 Z = true)
    (hy : y.cls ≠ "java/lang/invoke/MethodHandle" ∧ y.cls ≠ "java/lang/invoke/VarHandle") (E : Exa Z h a C)
    (hM : Con l Z z bytes maxL ret [] rm as' h rm.cells rm.slots Q)
    (hf : rm.frames + 1 ≤ R.frames) (hl : W + (maxL + 11) + rm.locals ≤ R.locals) (hc : cells + rm.cells ≤ R.cells) (hs : slots + rm.slots ≤ R.slots)
    (hg : g.method = m) (hsize : g.locals.size = c.maxLocals) (has : (Value.ref a :: argsL).toArray = as') (hlen : ∀ sig, parseMethodDescriptor y.desc = some sig → argsL.length = sig.parameters.length)
    (hstack : g.stack = argsL.reverse ++ .ref a :: rest) (hW : 2 * g.monitorRoom + (rest.map fun v => v.category).sum ≤ W) (hdg : decode c.code g.pc = .ok (.invokevirtual index, 3)) :
    ∃ v T' L, Stand p l e R s m args below meth c T' (locs ++ L) (cells + rm.cells) (slots + rm.slots) ∧ Q v T'.heap L ∧ ∀ target, Steps p.tables e below (T'.setTop { g with pc := g.pc + 3, stack := v.toList ++ rest }) target → Steps p.tables e below (T.setTop g) target := by
  obtain ⟨cq, kq, qa, qb, qc⟩ := isOf hZ eT E
  obtain ⟨v, _, ⟨T', L', k', n'⟩, -, X', ⟨L, hQ, l', y', z'⟩, st⟩ := X.virtualBack hx (y := y) (z := z) hown (mvT hZ w1) (mvT hZ w2) nf (mvT hZ w5) (mvT hZ w6) hy (backOf (W := W) hM hZ w4 w3 hf hl) qa qc (g := g) hg hsize (Steps.refl _) (argsL := argsL) (rest := rest) hlen hstack hW hdg (fun _ _ => ⟨has, eT, hc, hs⟩)
  dsimp only [Pt.U, Pt.locs, Pt.cells, Pt.slots] at X' l' y' z' st hQ
  subst l' y' z'
  exact ⟨v, T', L, X', hQ, fun _ k => st.trans k⟩
theorem own_sta_keep {C n d : String} {w : Value} {h h' : Heap} {ws : List Addr} (F : Sta Z h C n d w) (K : Keep h h' ws) (q : ∀ x ∈ ws, ∃ cl : Cell, h[x]? = some cl ∧ cl.vm.isStatics = false) : Sta Z h' C n d w := by
  obtain ⟨cf, i, k, f, st, cell, h1, h2, h3, h4, h5, h6, h7⟩ := F
  refine ⟨cf, i, k, f, st, cell, h1, h2, h3, h4, K.2.1 st cell h5 fun z => ?_, h6, h7⟩
  obtain ⟨cl, q1, q2⟩ := q st z
  cases h5.symm.trans q1
  rw [h6] at q2; cases q2
theorem own_exa_plain {a : Addr} {C : String} {h : Heap} (F : Exa Z h a C) : ∃ cl : Cell, h[a]? = some cl ∧ cl.vm.isStatics = false := by
  obtain ⟨cell, k, h1, -, -, h4, -⟩ := F; exact ⟨cell, h1, h4⟩
theorem own_arv_plain {a : Addr} {k : ClassId} {ty : FieldType} {z : Int32} {vs : List Value} {dv : Value} {h : Heap} (F : Arv Z h a k ty z vs dv) : ∃ cl : Cell, h[a]? = some cl ∧ cl.vm.isStatics = false := by
  obtain ⟨cell, A, -⟩ := F; exact ⟨cell, A.1, A.plain⟩
theorem own_getR {own O n d : String} {index : Nat} {a : Addr} {v : Value} {g : JFrame} {rest : List Value} (X : Stand p l e R s m args below meth c T locs cells slots) (hx : p.tables.exec = Jvm.exec) (hZ : Z.Warmed39 s.vm) (hown : s.vm.findClass own = some m.cls)
    (w : (Jvm.Cond.fieldRef own index O n d).before a0 Z = true) (eT : T.heap = h) (F : Fld Z h a O n d v) (hg : g.method = m) (hs : g.stack = .ref a :: rest) (hd : decode c.code g.pc = .ok (.getfield index, 3)) :
    ∀ target, Steps p.tables e below (T.setTop { g with pc := g.pc + 3, stack := v :: rest }) target → Steps p.tables e below (T.setTop g) target := by
  have hU : Z.Warmed39 T.vm := wtrans hZ X.warmed
  have w2 := Cond.fieldRef_warmed39 hU w
  have hc : (Z.setVm T.vm).vm.findClass own = some m.cls := by
    show T.vm.findClass own = some m.cls
    rw [X.warmed.alike.findClass]; exact hown
  obtain ⟨c1, k1, i1, f1, hf1, hr⟩ := Cond.fieldRef_spec hc w2
  obtain ⟨cell, cf, k, i, f, h1, h2, h3, h4, -, -, h7⟩ := F
  obtain ⟨k', hi, -⟩ := State.fieldFound?_setVm (s := Z) hU.alike h2
  cases hi.symm.trans hf1
  intro t kk
  exact (X.getfieldR hx hg hr h3 hs (by rw [eT]; exact h1) h4 h7 hd (Steps.refl _)).trans kk
theorem own_callP {own C : String} {index : Nat} {y : MethodName} {bytes : ByteArray} {maxL : Nat} {ret : Option FieldType} {rm : Room} {as' : Array Value} {Q : Option Value → Heap → List Loc → Prop} {W : Nat} {g : JFrame} {a : Addr} {argsL rest : List Value}
    (X : Stand p l e R s m args below meth c T locs cells slots) (hx : p.tables.exec = Jvm.exec) (hZ : Z.Warmed39 s.vm) (eT : T.heap = h) (hown : s.vm.findClass own = some m.cls)
    (w1 : (Jvm.Cond.methodLink own index y).before a0 Z = true) (w2 : (Jvm.Cond.instanceMethod y).before a0 Z = true) (w5 : (Jvm.Cond.selects y.cls y y).before a0 Z = true) (w6 : (Jvm.Cond.privateMethod y).before a0 Z = true) (w3 : (Jvm.Cond.initialized y.cls).before a0 Z = true) (w4 : (Jvm.Cond.code y bytes maxL ret).before a0 Z = true)
    (hy : y.cls ≠ "java/lang/invoke/MethodHandle" ∧ y.cls ≠ "java/lang/invoke/VarHandle") (E : Exa Z h a C)
    (hM : Con l Z y bytes maxL ret [] rm as' h rm.cells rm.slots Q)
    (hf : rm.frames + 1 ≤ R.frames) (hl : W + (maxL + 11) + rm.locals ≤ R.locals) (hc : cells + rm.cells ≤ R.cells) (hs : slots + rm.slots ≤ R.slots)
    (hg : g.method = m) (hsize : g.locals.size = c.maxLocals) (has : (Value.ref a :: argsL).toArray = as') (hlen : ∀ sig, parseMethodDescriptor y.desc = some sig → argsL.length = sig.parameters.length)
    (hstack : g.stack = argsL.reverse ++ .ref a :: rest) (hW : 2 * g.monitorRoom + (rest.map fun v => v.category).sum ≤ W) (hdg : decode c.code g.pc = .ok (.invokevirtual index, 3)) :
    ∃ v T' L, Stand p l e R s m args below meth c T' (locs ++ L) (cells + rm.cells) (slots + rm.slots) ∧ Q v T'.heap L ∧ ∀ target, Steps p.tables e below (T'.setTop { g with pc := g.pc + 3, stack := v.toList ++ rest }) target → Steps p.tables e below (T.setTop g) target := by
  obtain ⟨cq, q1, q2⟩ := E.cell
  obtain ⟨v, _, ⟨T', L', k', n'⟩, -, X', ⟨L, hQ, l', y', z'⟩, st⟩ := X.privateBack hx (y := y) hown (mvT hZ w1) (mvT hZ w2) (mvT hZ w5) (Cond.privateMethod_at (mvP hZ w6 (args := #[]))) (mvT hZ w4) hy (backOf (W := W) hM hZ w4 w3 hf hl) (g := g) hg hsize (Steps.refl _) (a := a) (by rw [eT]; exact q1) q2 (argsL := argsL) (rest := rest) hlen hstack hW hdg (fun _ _ => ⟨has, eT, hc, hs⟩)
  dsimp only [Pt.U, Pt.locs, Pt.cells, Pt.slots] at X' l' y' z' st hQ
  subst l' y' z'
  exact ⟨v, T', L, X', hQ, fun _ k => st.trans k⟩
theorem own_callF {own C : String} {index count : Nat} {xi y : MethodName} {bytes : ByteArray} {maxL : Nat} {ret : Option FieldType} {rm : Room} {as' : Array Value} {Q : Option Value → Heap → List Loc → Prop} {W : Nat} {g : JFrame} {a : Addr} {argsL rest : List Value}
    (X : Stand p l e R s m args below meth c T locs cells slots) (hx : p.tables.exec = Jvm.exec) (hZ : Z.Warmed39 s.vm) (eT : T.heap = h) (hown : s.vm.findClass own = some m.cls)
    (w1 : (Jvm.Cond.methodLink own index xi).before a0 Z = true) (w2 : (Jvm.Cond.declares xi).before a0 Z = true) (w7 : (Jvm.Cond.interfaceMethod xi.cls xi.cls xi.name xi.desc).before args s = true) (w5 : (Jvm.Cond.selects C xi y).before a0 Z = true) (w6 : (Jvm.Cond.instanceMethod y).before a0 Z = true)
    (w8 : (Jvm.Cond.publicMethod y).before a0 Z = true) (w9 : (Jvm.Cond.unhidden C xi.name xi.desc).before a0 Z = true) (w10 : (Jvm.Cond.castable C xi.cls).before a0 Z = true) (w3 : (Jvm.Cond.initialized y.cls).before a0 Z = true) (w4 : (Jvm.Cond.code y bytes maxL ret).before a0 Z = true)
    (hy : xi.cls ≠ "java/lang/invoke/MethodHandle" ∧ xi.cls ≠ "java/lang/invoke/VarHandle") (E : Exa Z h a C)
    (hM : Con l Z y bytes maxL ret [] rm as' h rm.cells rm.slots Q)
    (hf : rm.frames + 1 ≤ R.frames) (hl : W + (maxL + 11) + rm.locals ≤ R.locals) (hc : cells + rm.cells ≤ R.cells) (hs : slots + rm.slots ≤ R.slots)
    (hg : g.method = m) (hsize : g.locals.size = c.maxLocals) (has : (Value.ref a :: argsL).toArray = as') (hlen : ∀ sig, parseMethodDescriptor xi.desc = some sig → argsL.length = sig.parameters.length)
    (hstack : g.stack = argsL.reverse ++ .ref a :: rest) (hW : 2 * g.monitorRoom + (rest.map fun v => v.category).sum ≤ W) (hdg : decode c.code g.pc = .ok (.invokeinterface index count, 5)) :
    ∃ v T' L, Stand p l e R s m args below meth c T' (locs ++ L) (cells + rm.cells) (slots + rm.slots) ∧ Q v T'.heap L ∧ ∀ target, Steps p.tables e below (T'.setTop { g with pc := g.pc + 5, stack := v.toList ++ rest }) target → Steps p.tables e below (T.setTop g) target := by
  obtain ⟨cq, kq, qa, qb, qc⟩ := isOf hZ eT E
  obtain ⟨v, _, ⟨T', L', k', n'⟩, -, X', ⟨L, hQ, l', y', z'⟩, st⟩ := X.interfaceBack hx (xi := xi) (y := y) hown (mvT hZ w1) (mvT hZ w2) w7 (mvT hZ w5) (mvT hZ w6) (mvT hZ w8) (mvT hZ w9) (mvT hZ w10) hy (backOf (W := W) hM hZ w4 w3 hf hl) qa qb qc (g := g) hg hsize (Steps.refl _) (argsL := argsL) (rest := rest) hlen hstack hW hdg (fun _ _ => ⟨has, eT, hc, hs⟩)
  dsimp only [Pt.U, Pt.locs, Pt.cells, Pt.slots] at X' l' y' z' st hQ
  subst l' y' z'
  exact ⟨v, T', L, X', hQ, fun _ k => st.trans k⟩
theorem own_ns_root {O K : String} {n : Nat} (w : (Jvm.Cond.noSuperclass O).before a0 Z = true) (wk : (Jvm.Cond.instantiable K n).before a0 Z = true) (hn : O ≠ K) : NS Z O K := by
  obtain ⟨c, k, h1, h2, h3, -, -⟩ := Cond.noSuperclass_spec w
  obtain ⟨t, kt, g1, -⟩ := Cond.instantiable_spec wk
  have ne := ids_ne h1 g1 hn
  refine ⟨c, t, h1, g1, fun fuel => ?_⟩
  cases fuel with
  | zero => rfl
  | succ f => simp [Vm.isSubclassAux, ne, h2, h3]
theorem own_ns_no {C S K : String} {n : Nat} (w : (Jvm.Cond.superclass C S).before a0 Z = true) (wk : (Jvm.Cond.instantiable K n).before a0 Z = true) (hN : NS Z C K) (hn : C ≠ K) : ∃ c t, Z.vm.findClass C = some c ∧ Z.vm.findClass K = some t ∧ Z.vm.assignable c t = false := by
  obtain ⟨c, t, h0, g0, n3⟩ := hN
  obtain ⟨p, k, kp, h1, h2, h3, h4, h5, -, h7⟩ := Cond.superclass_spec h0 w
  obtain ⟨t', kt, g1, g2, g3, g4, -⟩ := Cond.instantiable_spec wk
  cases g0.symm.trans g1
  have g7 : kt.isInterface = false := by
    cases hq : kt.isInterface
    · rfl
    · simp [hq] at g4
  have ne := ids_ne h0 g0 hn
  refine ⟨c, t, h0, g0, ?_⟩
  show Z.vm.assignableAux (255 + 1) c t = false
  simp [Vm.assignableAux, ne, h2, g2, h5, g3, g7, Vm.isSubclass, n3]
end OwnKit
section OwnStart
variable {args : Array Value} {Z : State}
theorem own_eq_int {t : Term} {k : Int32} (h : (Jvm.Cond.eq t (.int k)).value args Z none Z [] = some true) : t.eval args Z none [] Z = some (.int k) := by
  obtain ⟨a, b, h1, h2, h3, h4⟩ := cmp_v (Or.inl h)
  have hb : b = .int k := Option.some.inj (h2.symm.trans (Term.int_eval k))
  subst hb
  obtain ⟨z, rfl⟩ : ∃ z, a = .int z := h4
  have q : z = k := by simpa [Cond.value, h1, h2] using h
  rw [h1, q]
theorem own_eq_ref {t u : Term} {a : Addr} (h : (Jvm.Cond.eq t u).value args Z none Z [] = some true) (hu : u.eval args Z none [] Z = some (.ref a)) : t.eval args Z none [] Z = some (.ref a) := by
  obtain ⟨x, y, h1, h2, h3, h4⟩ := cmp_v (Or.inl h)
  have hb : y = .ref a := Option.some.inj (h2.symm.trans hu)
  subst hb
  obtain ⟨-, q⟩ : Value.isRef (.ref a) = true ∧ x.isRef = true := h4
  have e := eq_R (a := t) (b := u) h1 h2 q rfl
  rw [e] at h
  have r : x = .ref a := by simpa using h
  rw [h1, r]
theorem own_ne0 {t : Term} {z : Int32} (ht : t.eval args Z none [] Z = some (.int z)) (h : (Jvm.Cond.not (Jvm.Cond.eq t (.int 0))).value args Z none Z [] = some true) : z ≠ 0 := by
  have q := not_v h
  intro e
  subst e
  simp [Cond.value, ht, Term.eval] at q
theorem own_fld {t : Term} {C n d : String} {a : Addr} {v : Value} (ht : t.eval args Z none [] Z = some (.ref a)) (h : (Term.field t C n d).eval args Z none [] Z = some v) : Fld Z Z.heap a C n d v := Fld.start ((fld_at ht).symm.trans h)
theorem own_len {t : Term} {a : Addr} {c : Cell} {k : Int32} {ty : FieldType} (ht : t.eval args Z none [] Z = some (.ref a)) (A : Arr Z Z.heap a c ty) (h : (Term.length t).eval args Z none [] Z = some (.int k)) : c.slots.size < 2 ^ 31 ∧ c.slots.size.toInt32 = k := by
  have q : Z.arrayAt? a = some c := A.fin (Vm.Alike.refl _)
  by_cases hl : c.slots.size < 2 ^ 31
  · have e := (len_f (t := t) ht q hl).symm.trans h
    exact ⟨hl, by simpa using e⟩
  · exfalso
    have hl' : ¬ c.slots.size < 2147483648 := hl
    simp [Term.eval, ht, q, hl'] at h
theorem own_slot {t : Term} {a : Addr} {c : Cell} {ty : FieldType} {v : Value} {j : Int32} (ht : t.eval args Z none [] Z = some (.ref a)) (A : Arr Z Z.heap a c ty) (h : (Term.elem t (.int j)).eval args Z none [] Z = some v) : c.slots[j.toNatClampNeg]? = some v := (elem_in h ht (Term.int_eval j) A.1).2
end OwnStart
theorem dprog_70_method_6_code_0 : decode prog_70_method_6_code 0 = .ok (.aload_n 0, 1) := by decide +kernel
theorem dprog_70_method_6_code_1 : decode prog_70_method_6_code 1 = .ok (.getstatic 3, 3) := by decide +kernel
theorem dprog_70_method_6_code_4 : decode prog_70_method_6_code 4 = .ok (.if_acmp .ne 17, 3) := by decide +kernel
theorem dprog_70_method_6_code_7 : decode prog_70_method_6_code 7 = .ok (.dload_n 1, 1) := by decide +kernel
theorem dprog_70_method_6_code_8 : decode prog_70_method_6_code 8 = .ok (.dload_n 3, 1) := by decide +kernel
theorem dprog_70_method_6_code_9 : decode prog_70_method_6_code 9 = .ok (.dcmp .l, 1) := by decide +kernel
theorem dprog_70_method_6_code_10 : decode prog_70_method_6_code 10 = .ok (.ifCond .lt 7, 3) := by decide +kernel
theorem dprog_70_method_6_code_13 : decode prog_70_method_6_code 13 = .ok (.iconst 1, 1) := by decide +kernel
theorem dprog_70_method_6_code_14 : decode prog_70_method_6_code 14 = .ok (.goto 18, 3) := by decide +kernel
theorem dprog_70_method_6_code_17 : decode prog_70_method_6_code 17 = .ok (.iconst 0, 1) := by decide +kernel
theorem dprog_70_method_6_code_18 : decode prog_70_method_6_code 18 = .ok (.goto 14, 3) := by decide +kernel
theorem dprog_70_method_6_code_21 : decode prog_70_method_6_code 21 = .ok (.dload_n 1, 1) := by decide +kernel
theorem dprog_70_method_6_code_22 : decode prog_70_method_6_code 22 = .ok (.dload_n 3, 1) := by decide +kernel
theorem dprog_70_method_6_code_23 : decode prog_70_method_6_code 23 = .ok (.dcmp .g, 1) := by decide +kernel
theorem dprog_70_method_6_code_24 : decode prog_70_method_6_code 24 = .ok (.ifCond .gt 7, 3) := by decide +kernel
theorem dprog_70_method_6_code_27 : decode prog_70_method_6_code 27 = .ok (.iconst 1, 1) := by decide +kernel
theorem dprog_70_method_6_code_28 : decode prog_70_method_6_code 28 = .ok (.goto 4, 3) := by decide +kernel
theorem dprog_70_method_6_code_31 : decode prog_70_method_6_code 31 = .ok (.iconst 0, 1) := by decide +kernel
theorem dprog_70_method_6_code_32 : decode prog_70_method_6_code 32 = .ok (.ireturn, 1) := by decide +kernel
theorem pn_0 : plainName "com/example/tuneless/tuneless/space/Direction" = true := by first | (simp [plainName, overriddenIn]; done) | decide +kernel
theorem pn_1 : plainName "com/example/tuneless/tuneless/space/DirectionReachesPinLaw" = true := by first | (simp [plainName, overriddenIn]; done) | decide +kernel
theorem pd_0 : parseMethodDescriptor "(DD)Z" = some ⟨[.double, .double], some .boolean⟩ := by decide +kernel
theorem ef_1 (m : MethodId) (s_Direction_MINIMIZE : Addr) (x_d1 : UInt64) (x_d2 : UInt64) : entryFrame m #[(.ref s_Direction_MINIMIZE), (.double x_d1), (.double x_d2)] 5 = mkF m 0 #[.val (.ref s_Direction_MINIMIZE), .val (.double x_d1), .second, .val (.double x_d2), .second] [] := by first | (simp [entryFrame, mkF, argsToLocals, Value.category, maxLocals]; done) | rfl
def Q1 (Z : State) (s_Direction_MINIMIZE : Addr) (d1 : Int64) (d2 : Int64) (s_Direction_MAXIMIZE : Addr) (h0 : Heap) (n0 : Nat) (v : Option Value) (h : Heap) (L : List Loc) : Prop := (∃ (rv1 : Int32), (((d2 < d1) ∧ (rv1 = (0 : Int32))) ∨ ((¬ (d2 < d1)) ∧ (rv1 = (1 : Int32)))) ∧ v = some (.int rv1) ∧ Fr n0 L ∧ h = h0)
set_option maxRecDepth 65536 in
set_option maxHeartbeats 40000000 in
theorem rm1 (l : Launch) (Z : State) (a0 : Array Value) (hw : ∀ d ∈ tables_1, d.before a0 Z = true) (ws : List Jvm.Cond) (s_Direction_MINIMIZE : Addr) (d1 : Int64) (d2 : Int64) (s_Direction_MAXIMIZE : Addr) (h0 : Heap) (n0 : Nat) (Z0 : n0 ≤ h0.size) (S_s_Direction_MAXIMIZE : Sta Z h0 "com/example/tuneless/tuneless/space/Direction" "MAXIMIZE" "Lcom/example/tuneless/tuneless/space/Direction;" (.ref s_Direction_MAXIMIZE)) (ne_s_Direction_MINIMIZE_s_Direction_MAXIMIZE : s_Direction_MINIMIZE ≠ s_Direction_MAXIMIZE) (b53_d1 : B53 d1) (b53_d2 : B53 d2) :
    Con l Z (⟨"com/example/tuneless/tuneless/space/Direction", "reaches", "(DD)Z"⟩ : MethodName) prog_70_method_6_code 5 (some .boolean) ws ({ frames := 0, cells := 0, slots := 0, locals := 0 } : Room) #[(.ref s_Direction_MINIMIZE), (.double (FP.l2d d1)), (.double (FP.l2d d2))] h0 0 0 (Q1 Z s_Direction_MINIMIZE d1 d2 s_Direction_MAXIMIZE h0 n0) := by
  refine MetFree.of_bodySF (plainFor_of_name pn_0) hisR ?_
  intro p e s m args below meth c s₁ Bd hml0 hP hK
  obtain ⟨rfl, hZ, hh⟩ := hP
  have hx := Bd.exec
  have hby := Bd.bytes
  have hml : c.maxLocals = 5 := hml0
  have hown : s.vm.findClass "com/example/tuneless/tuneless/space/Direction" = some m.cls := findClass_of_methodNamed Bd.named
  have hnm := (name_of_methodNamed Bd.named Bd.method).1
  have X0 : Stand p l e ({ frames := 0, cells := 0, slots := 0, locals := 0 } : Room) s m #[(.ref s_Direction_MINIMIZE), (.double (FP.l2d d1)), (.double (FP.l2d d2))] below meth c s₁ [] 0 0 := Stand.of_body Bd
  have e0 : s₁.heap = h0 := by rw [← hh, Bd.state]; rfl
  have N0 := Fr.nil n0
  refine Go.of ?_
  refine Go.st (S' := s₁.setTop (mkF m 0 #[.val (.ref s_Direction_MINIMIZE), .val (.double (FP.l2d d1)), .second, .val (.double (FP.l2d d2)), .second] [])) (fun t k => castTop (ef_1 m s_Direction_MINIMIZE (FP.l2d d1) (FP.l2d d2)) k) ?_
  let A26 : Array Slot := #[.val (.ref s_Direction_MINIMIZE), .val (.double (FP.l2d d1)), .second, .val (.double (FP.l2d d2)), .second]
  refine Go.st (S' := s₁.setTop (mkF m 1 A26 [(.ref s_Direction_MINIMIZE)])) (fun t k => XS.aloadN X0.here hx rfl (hb hby dprog_70_method_6_code_0) rfl rfl k) ?_
  obtain ⟨T27, X27, e27, st27⟩ := getS X0 hx hZ hown (hw _ (List.mem_of_getElem? (i := 8) rfl)) Via.refl e0 S_s_Direction_MAXIMIZE (host := "") (g := (mkF m 1 A26 [(.ref s_Direction_MINIMIZE)])) rfl (hb hby dprog_70_method_6_code_1)
  refine Go.st (S' := T27.setTop (mkF m 4 A26 [(.ref s_Direction_MAXIMIZE), (.ref s_Direction_MINIMIZE)])) st27 ?_
  refine Go.st (S' := T27.setTop (mkF m 21 A26 [])) (fun t k => acmp X27 hx rfl rfl rfl (pc0 := 4) (pc' := 21) (same := false) rfl (hb hby dprog_70_method_6_code_4) rfl (by simp [ne_s_Direction_MINIMIZE_s_Direction_MAXIMIZE]) (by decide) (by decide) k) ?_
  refine Go.st (S' := T27.setTop (mkF m 22 A26 [(.double (FP.l2d d1))])) (fun t k => XS.dloadN X27.here hx rfl (hb hby dprog_70_method_6_code_21) rfl k) ?_
  refine Go.st (S' := T27.setTop (mkF m 23 A26 [(.double (FP.l2d d2)), (.double (FP.l2d d1))])) (fun t k => XS.dloadN X27.here hx rfl (hb hby dprog_70_method_6_code_22) rfl k) ?_
  refine Go.op (F := fun z => T27.setTop (mkF m 24 A26 [(.int z)])) (x := (lcmpW d1 d2)) (fun t k => XS.dcmpS X27.here hx rfl (hb hby dprog_70_method_6_code_23) rfl (dcmpV_w b53_d1 b53_d2 _) k) ?_
  intro v28 hv28
  by_cases hc29 : (d2 < d1)
  · refine Go.st (S' := T27.setTop (mkF m 31 A26 [])) (fun t k => XS.ifYes X27.here hx rfl (pc0 := 24) (pc' := 31) rfl (hb hby dprog_70_method_6_code_24) rfl ((if0 _ _).trans (tlt (by rw [hv28]; exact (lw_gt _ _).2 hc29)).2.2.1) (by decide) (by decide) k) ?_
    refine Go.st (S' := T27.setTop (mkF m 32 A26 [(.int (0 : Int32))])) (fun t k => XS.iconst X27.here hx rfl (hb hby dprog_70_method_6_code_31) k) ?_
    exact Go.ret X27 (v := some (.int (0 : Int32))) (fun h => by rw [Bd.returns] at h; cases h) Bd.notSynchronized (fun fs hr => retN X27 hx (t := .boolean) Bd.returns (by simp) (hb hby dprog_70_method_6_code_32) hr) (by decide) (by decide) (⟨(0 : Int32), (Or.inl ⟨hc29, rfl⟩), rfl, N0, (e27)⟩)
  · refine Go.st (S' := T27.setTop (mkF m 27 A26 [])) (fun t k => XS.ifNo X27.here hx rfl (hb hby dprog_70_method_6_code_24) rfl ((if0 _ _).trans (flt (by rw [hv28]; exact fun z => hc29 ((lw_gt _ _).1 z))).2.2.1) k) ?_
    refine Go.st (S' := T27.setTop (mkF m 28 A26 [(.int (1 : Int32))])) (fun t k => XS.iconst X27.here hx rfl (hb hby dprog_70_method_6_code_27) k) ?_
    refine Go.st (S' := T27.setTop (mkF m 32 A26 [(.int (1 : Int32))])) (fun t k => XS.goto X27.here hx rfl (pc0 := 28) (pc' := 32) rfl (hb hby dprog_70_method_6_code_28) (by decide) (by decide) k) ?_
    exact Go.ret X27 (v := some (.int (1 : Int32))) (fun h => by rw [Bd.returns] at h; cases h) Bd.notSynchronized (fun fs hr => retN X27 hx (t := .boolean) Bd.returns (by simp) (hb hby dprog_70_method_6_code_32) hr) (by decide) (by decide) (⟨(1 : Int32), (Or.inr ⟨hc29, rfl⟩), rfl, N0, (e27)⟩)
theorem ef_2 (m : MethodId) (s_Direction_MAXIMIZE : Addr) (x_d1 : UInt64) (x_d2 : UInt64) : entryFrame m #[(.ref s_Direction_MAXIMIZE), (.double x_d1), (.double x_d2)] 5 = mkF m 0 #[.val (.ref s_Direction_MAXIMIZE), .val (.double x_d1), .second, .val (.double x_d2), .second] [] := by first | (simp [entryFrame, mkF, argsToLocals, Value.category, maxLocals]; done) | rfl
def Q2 (Z : State) (s_Direction_MAXIMIZE : Addr) (d1 : Int64) (d2 : Int64) (h0 : Heap) (n0 : Nat) (v : Option Value) (h : Heap) (L : List Loc) : Prop := (∃ (rv2 : Int32), (((d1 < d2) ∧ (rv2 = (0 : Int32))) ∨ ((¬ (d1 < d2)) ∧ (rv2 = (1 : Int32)))) ∧ v = some (.int rv2) ∧ Fr n0 L ∧ h = h0)
set_option maxRecDepth 65536 in
set_option maxHeartbeats 40000000 in
theorem rm2 (l : Launch) (Z : State) (a0 : Array Value) (hw : ∀ d ∈ tables_1, d.before a0 Z = true) (ws : List Jvm.Cond) (s_Direction_MAXIMIZE : Addr) (d1 : Int64) (d2 : Int64) (h0 : Heap) (n0 : Nat) (Z0 : n0 ≤ h0.size) (S_s_Direction_MAXIMIZE : Sta Z h0 "com/example/tuneless/tuneless/space/Direction" "MAXIMIZE" "Lcom/example/tuneless/tuneless/space/Direction;" (.ref s_Direction_MAXIMIZE)) (b53_d1 : B53 d1) (b53_d2 : B53 d2) :
    Con l Z (⟨"com/example/tuneless/tuneless/space/Direction", "reaches", "(DD)Z"⟩ : MethodName) prog_70_method_6_code 5 (some .boolean) ws ({ frames := 0, cells := 0, slots := 0, locals := 0 } : Room) #[(.ref s_Direction_MAXIMIZE), (.double (FP.l2d d1)), (.double (FP.l2d d2))] h0 0 0 (Q2 Z s_Direction_MAXIMIZE d1 d2 h0 n0) := by
  refine MetFree.of_bodySF (plainFor_of_name pn_0) hisR ?_
  intro p e s m args below meth c s₁ Bd hml0 hP hK
  obtain ⟨rfl, hZ, hh⟩ := hP
  have hx := Bd.exec
  have hby := Bd.bytes
  have hml : c.maxLocals = 5 := hml0
  have hown : s.vm.findClass "com/example/tuneless/tuneless/space/Direction" = some m.cls := findClass_of_methodNamed Bd.named
  have hnm := (name_of_methodNamed Bd.named Bd.method).1
  have X0 : Stand p l e ({ frames := 0, cells := 0, slots := 0, locals := 0 } : Room) s m #[(.ref s_Direction_MAXIMIZE), (.double (FP.l2d d1)), (.double (FP.l2d d2))] below meth c s₁ [] 0 0 := Stand.of_body Bd
  have e0 : s₁.heap = h0 := by rw [← hh, Bd.state]; rfl
  have N0 := Fr.nil n0
  refine Go.of ?_
  refine Go.st (S' := s₁.setTop (mkF m 0 #[.val (.ref s_Direction_MAXIMIZE), .val (.double (FP.l2d d1)), .second, .val (.double (FP.l2d d2)), .second] [])) (fun t k => castTop (ef_2 m s_Direction_MAXIMIZE (FP.l2d d1) (FP.l2d d2)) k) ?_
  let A49 : Array Slot := #[.val (.ref s_Direction_MAXIMIZE), .val (.double (FP.l2d d1)), .second, .val (.double (FP.l2d d2)), .second]
  refine Go.st (S' := s₁.setTop (mkF m 1 A49 [(.ref s_Direction_MAXIMIZE)])) (fun t k => XS.aloadN X0.here hx rfl (hb hby dprog_70_method_6_code_0) rfl rfl k) ?_
  obtain ⟨T50, X50, e50, st50⟩ := getS X0 hx hZ hown (hw _ (List.mem_of_getElem? (i := 8) rfl)) Via.refl e0 S_s_Direction_MAXIMIZE (host := "") (g := (mkF m 1 A49 [(.ref s_Direction_MAXIMIZE)])) rfl (hb hby dprog_70_method_6_code_1)
  refine Go.st (S' := T50.setTop (mkF m 4 A49 [(.ref s_Direction_MAXIMIZE), (.ref s_Direction_MAXIMIZE)])) st50 ?_
  refine Go.st (S' := T50.setTop (mkF m 7 A49 [])) (fun t k => acmp X50 hx rfl rfl rfl (pc0 := 4) (pc' := 7) (same := true) rfl (hb hby dprog_70_method_6_code_4) rfl (by simp) (by decide) (by decide) k) ?_
  refine Go.st (S' := T50.setTop (mkF m 8 A49 [(.double (FP.l2d d1))])) (fun t k => XS.dloadN X50.here hx rfl (hb hby dprog_70_method_6_code_7) rfl k) ?_
  refine Go.st (S' := T50.setTop (mkF m 9 A49 [(.double (FP.l2d d2)), (.double (FP.l2d d1))])) (fun t k => XS.dloadN X50.here hx rfl (hb hby dprog_70_method_6_code_8) rfl k) ?_
  refine Go.op (F := fun z => T50.setTop (mkF m 10 A49 [(.int z)])) (x := (lcmpW d1 d2)) (fun t k => XS.dcmpS X50.here hx rfl (hb hby dprog_70_method_6_code_9) rfl (dcmpV_w b53_d1 b53_d2 _) k) ?_
  intro v51 hv51
  by_cases hc52 : (d1 < d2)
  · refine Go.st (S' := T50.setTop (mkF m 17 A49 [])) (fun t k => XS.ifYes X50.here hx rfl (pc0 := 10) (pc' := 17) rfl (hb hby dprog_70_method_6_code_10) rfl ((if0 _ _).trans (tlt (by rw [hv51]; exact (lw_lt _ _).2 hc52)).1) (by decide) (by decide) k) ?_
    refine Go.st (S' := T50.setTop (mkF m 18 A49 [(.int (0 : Int32))])) (fun t k => XS.iconst X50.here hx rfl (hb hby dprog_70_method_6_code_17) k) ?_
    refine Go.st (S' := T50.setTop (mkF m 32 A49 [(.int (0 : Int32))])) (fun t k => XS.goto X50.here hx rfl (pc0 := 18) (pc' := 32) rfl (hb hby dprog_70_method_6_code_18) (by decide) (by decide) k) ?_
    exact Go.ret X50 (v := some (.int (0 : Int32))) (fun h => by rw [Bd.returns] at h; cases h) Bd.notSynchronized (fun fs hr => retN X50 hx (t := .boolean) Bd.returns (by simp) (hb hby dprog_70_method_6_code_32) hr) (by decide) (by decide) (⟨(0 : Int32), (Or.inl ⟨hc52, rfl⟩), rfl, N0, (e50)⟩)
  · refine Go.st (S' := T50.setTop (mkF m 13 A49 [])) (fun t k => XS.ifNo X50.here hx rfl (hb hby dprog_70_method_6_code_10) rfl ((if0 _ _).trans (flt (by rw [hv51]; exact fun z => hc52 ((lw_lt _ _).1 z))).1) k) ?_
    refine Go.st (S' := T50.setTop (mkF m 14 A49 [(.int (1 : Int32))])) (fun t k => XS.iconst X50.here hx rfl (hb hby dprog_70_method_6_code_13) k) ?_
    refine Go.st (S' := T50.setTop (mkF m 32 A49 [(.int (1 : Int32))])) (fun t k => XS.goto X50.here hx rfl (pc0 := 14) (pc' := 32) rfl (hb hby dprog_70_method_6_code_14) (by decide) (by decide) k) ?_
    exact Go.ret X50 (v := some (.int (1 : Int32))) (fun h => by rw [Bd.returns] at h; cases h) Bd.notSynchronized (fun fs hr => retN X50 hx (t := .boolean) Bd.returns (by simp) (hb hby dprog_70_method_6_code_32) hr) (by decide) (by decide) (⟨(1 : Int32), (Or.inr ⟨hc52, rfl⟩), rfl, N0, (e50)⟩)
theorem ef_3 (m : MethodId) (p0 : Int32) (p1 : Int32) (p2 : Int32) : entryFrame m #[(.int p0), (.int p1), (.int p2)] maxLocals = mkF m 0 #[.val (.int p0), .val (.int p1), .val (.int p2), .unset, .unset, .unset, .unset, .unset, .unset, .unset] [] := by first | (simp [entryFrame, mkF, argsToLocals, Value.category, maxLocals]; done) | rfl
def Q3 (Z : State) (p0 : Int32) (p1 : Int32) (p2 : Int32) (s_Direction_MINIMIZE : Addr) (s_Direction_MAXIMIZE : Addr) (h0 : Heap) (n0 : Nat) (v : Option Value) (h : Heap) (L : List Loc) : Prop := v = some (.int 1) ∧ Fr n0 L
set_option maxRecDepth 65536 in
set_option maxHeartbeats 40000000 in
theorem rm3 (l : Launch) (Z : State) (a0 : Array Value) (hw : ∀ d ∈ tables_1, d.before a0 Z = true) (ws : List Jvm.Cond) (p0 : Int32) (p1 : Int32) (p2 : Int32) (s_Direction_MINIMIZE : Addr) (s_Direction_MAXIMIZE : Addr) (h0 : Heap) (n0 : Nat) (Z0 : n0 ≤ h0.size) (S_s_Direction_MINIMIZE : Sta Z h0 "com/example/tuneless/tuneless/space/Direction" "MINIMIZE" "Lcom/example/tuneless/tuneless/space/Direction;" (.ref s_Direction_MINIMIZE)) (S_s_Direction_MAXIMIZE : Sta Z h0 "com/example/tuneless/tuneless/space/Direction" "MAXIMIZE" "Lcom/example/tuneless/tuneless/space/Direction;" (.ref s_Direction_MAXIMIZE)) (E_s_Direction_MINIMIZE : Exa Z h0 s_Direction_MINIMIZE "com/example/tuneless/tuneless/space/Direction") (ne_s_Direction_MINIMIZE_s_Direction_MAXIMIZE : s_Direction_MINIMIZE ≠ s_Direction_MAXIMIZE) (E_s_Direction_MAXIMIZE : Exa Z h0 s_Direction_MAXIMIZE "com/example/tuneless/tuneless/space/Direction") :
    Con l Z x code maxLocals ret ws room_1 #[(.int p0), (.int p1), (.int p2)] h0 0 0 (Q3 Z p0 p1 p2 s_Direction_MINIMIZE s_Direction_MAXIMIZE h0 n0) := by
  refine MetFree.of_bodySF (plainFor_of_name pn_1) hisR ?_
  intro p e s m args below meth c s₁ Bd hml0 hP hK
  obtain ⟨rfl, hZ, hh⟩ := hP
  have hx := Bd.exec
  have hby := Bd.bytes
  have hml : c.maxLocals = 10 := hml0
  have hown : s.vm.findClass "com/example/tuneless/tuneless/space/DirectionReachesPinLaw" = some m.cls := findClass_of_methodNamed Bd.named
  have hnm := (name_of_methodNamed Bd.named Bd.method).1
  have X0 : Stand p l e room_1 s m #[(.int p0), (.int p1), (.int p2)] below meth c s₁ [] 0 0 := Stand.of_body Bd
  have e0 : s₁.heap = h0 := by rw [← hh, Bd.state]; rfl
  have N0 := Fr.nil n0
  refine Go.of ?_
  refine Go.st (S' := s₁.setTop (mkF m 0 #[.val (.int p0), .val (.int p1), .val (.int p2), .unset, .unset, .unset, .unset, .unset, .unset, .unset] [])) (fun t k => castTop (ef_3 m p0 p1 p2) k) ?_
  let A1 : Array Slot := #[.val (.int p0), .val (.int p1), .val (.int p2), .unset, .unset, .unset, .unset, .unset, .unset, .unset]
  refine Go.st (S' := s₁.setTop (mkF m 1 A1 [(.int p0)])) (fun t k => XS.iloadN X0.here hx rfl (hb hby at_0) rfl k) ?_
  refine Go.st (S' := s₁.setTop (mkF m 2 A1 [(.int (1 : Int32)), (.int p0)])) (fun t k => XS.iconst X0.here hx rfl (hb hby at_1) k) ?_
  refine Go.op (F := fun z => s₁.setTop (mkF m 3 A1 [(.int z)])) (x := (p0 &&& (1 : Int32))) (fun t k => XS.iand X0.here hx rfl (hb hby at_2) rfl k) ?_
  intro v2 hv2
  refine Go.join (α := Int32) (fun r => (((v2 = (0 : Int32)) ∧ (r = (0 : Int32))) ∨ ((¬ (v2 = (0 : Int32))) ∧ (r = (1 : Int32))))) (fun r => s₁.setTop (mkF m 11 A1 [(.int r)])) ?_ ?_
  · intro r5 hc6
    let A7 : Array Slot := #[.val (.int p0), .val (.int p1), .val (.int p2), .val (.int r5), .unset, .unset, .unset, .unset, .unset, .unset]
    refine Go.st (S' := s₁.setTop (mkF m 12 A7 [])) (fun t k => XS.istoreN X0.here hx rfl (hb hby at_11) rfl (l' := A7) rfl k) ?_
    refine Go.st (S' := s₁.setTop (mkF m 13 A7 [(.int r5)])) (fun t k => XS.iloadN X0.here hx rfl (hb hby at_12) rfl k) ?_
    by_cases hc14 : (r5 = (0 : Int32))
    · refine Go.st (S' := s₁.setTop (mkF m 22 A7 [])) (fun t k => XS.ifYes X0.here hx rfl (pc0 := 13) (pc' := 22) rfl (hb hby at_13) rfl ((if0 _ _).trans (teq hc14).1) (by decide) (by decide) k) ?_
      obtain ⟨T15, X15, e15, st15⟩ := getS X0 hx hZ hown (hw _ (List.mem_of_getElem? (i := 0) rfl)) Via.refl e0 S_s_Direction_MINIMIZE (host := "") (g := (mkF m 22 A7 [])) rfl (hb hby at_22)
      refine Go.st (S' := T15.setTop (mkF m 25 A7 [(.ref s_Direction_MINIMIZE)])) st15 ?_
      let A16 : Array Slot := #[.val (.int p0), .val (.int p1), .val (.int p2), .val (.int r5), .val (.ref s_Direction_MINIMIZE), .unset, .unset, .unset, .unset, .unset]
      refine Go.st (S' := T15.setTop (mkF m 27 A16 [])) (fun t k => XS.astore X15.here hx rfl (hb hby at_25) rfl rfl (l' := A16) rfl k) ?_
      refine Go.st (S' := T15.setTop (mkF m 28 A16 [(.int p1)])) (fun t k => XS.iloadN X15.here hx rfl (hb hby at_27) rfl k) ?_
      obtain ⟨v17, hv17⟩ : ∃ z, z = p1.toInt64 := ⟨_, rfl⟩
      refine Go.st (S' := T15.setTop (mkF m 29 A16 [(.double (FP.l2d v17))])) (fun t k => XS.i2dS X15.here hx rfl (hb hby at_28) rfl ((i2d_w _).trans (by rw [hv17])) k) ?_
      let A18 : Array Slot := #[.val (.int p0), .val (.int p1), .val (.int p2), .val (.int r5), .val (.ref s_Direction_MINIMIZE), .val (.double (FP.l2d v17)), .second, .unset, .unset, .unset]
      refine Go.st (S' := T15.setTop (mkF m 31 A18 [])) (fun t k => XS.dstore X15.here hx rfl (hb hby at_29) rfl (l' := A18) rfl k) ?_
      refine Go.st (S' := T15.setTop (mkF m 32 A18 [(.int p2)])) (fun t k => XS.iloadN X15.here hx rfl (hb hby at_31) rfl k) ?_
      obtain ⟨v19, hv19⟩ : ∃ z, z = p2.toInt64 := ⟨_, rfl⟩
      refine Go.st (S' := T15.setTop (mkF m 33 A18 [(.double (FP.l2d v19))])) (fun t k => XS.i2dS X15.here hx rfl (hb hby at_32) rfl ((i2d_w _).trans (by rw [hv19])) k) ?_
      let A20 : Array Slot := #[.val (.int p0), .val (.int p1), .val (.int p2), .val (.int r5), .val (.ref s_Direction_MINIMIZE), .val (.double (FP.l2d v17)), .second, .val (.double (FP.l2d v19)), .second, .unset]
      refine Go.st (S' := T15.setTop (mkF m 35 A20 [])) (fun t k => XS.dstore X15.here hx rfl (hb hby at_33) rfl (l' := A20) rfl k) ?_
      refine Go.st (S' := T15.setTop (mkF m 36 A20 [(.int r5)])) (fun t k => XS.iloadN X15.here hx rfl (hb hby at_35) rfl k) ?_
      refine Go.st (S' := T15.setTop (mkF m 54 A20 [])) (fun t k => XS.ifYes X15.here hx rfl (pc0 := 36) (pc' := 54) rfl (hb hby at_36) rfl ((if0 _ _).trans (teq hc14).1) (by decide) (by decide) k) ?_
      refine Go.st (S' := T15.setTop (mkF m 55 A20 [(.int p2)])) (fun t k => XS.iloadN X15.here hx rfl (hb hby at_54) rfl k) ?_
      refine Go.st (S' := T15.setTop (mkF m 56 A20 [(.int p1), (.int p2)])) (fun t k => XS.iloadN X15.here hx rfl (hb hby at_55) rfl k) ?_
      refine Go.join (α := Int32) (fun r => (((p2 < p1) ∧ (r = (0 : Int32))) ∨ ((¬ (p2 < p1)) ∧ (r = (1 : Int32))))) (fun r => T15.setTop (mkF m 64 A20 [(.int r)])) ?_ ?_
      · intro r23 hc24
        let A25 : Array Slot := #[.val (.int p0), .val (.int p1), .val (.int p2), .val (.int r5), .val (.ref s_Direction_MINIMIZE), .val (.double (FP.l2d v17)), .second, .val (.double (FP.l2d v19)), .second, .val (.int r23)]
        refine Go.st (S' := T15.setTop (mkF m 66 A25 [])) (fun t k => XS.istore X15.here hx rfl (hb hby at_64) rfl (l' := A25) rfl k) ?_
        refine Go.st (S' := T15.setTop (mkF m 68 A25 [(.ref s_Direction_MINIMIZE)])) (fun t k => XS.aload X15.here hx rfl (hb hby at_66) rfl rfl k) ?_
        refine Go.st (S' := T15.setTop (mkF m 70 A25 [(.double (FP.l2d v17)), (.ref s_Direction_MINIMIZE)])) (fun t k => XS.dload X15.here hx rfl (hb hby at_68) rfl k) ?_
        refine Go.st (S' := T15.setTop (mkF m 72 A25 [(.double (FP.l2d v19)), (.double (FP.l2d v17)), (.ref s_Direction_MINIMIZE)])) (fun t k => XS.dload X15.here hx rfl (hb hby at_70) rfl k) ?_
        have bq30 : B53 v17 := by
          have rv17 := rng64 v17
          have wv17 := c_i2l p1
          rw [← hv17] at wv17
          have rp1 := rng32 p1
          exact ⟨by omega, by omega⟩
        have bq31 : B53 v19 := by
          have rv19 := rng64 v19
          have wv19 := c_i2l p2
          rw [← hv19] at wv19
          have rp2 := rng32 p2
          exact ⟨by omega, by omega⟩
        obtain ⟨r32, T32, L32, X32, hQ32, st32⟩ := own_callV (W := 0) (a := s_Direction_MINIMIZE) (C := "com/example/tuneless/tuneless/space/Direction") X15 hx hZ e15 hown (y := (⟨"com/example/tuneless/tuneless/space/Direction", "reaches", "(DD)Z"⟩ : MethodName)) (z := (⟨"com/example/tuneless/tuneless/space/Direction", "reaches", "(DD)Z"⟩ : MethodName)) (hw _ (List.mem_of_getElem? (i := 3) rfl)) (hw _ (List.mem_of_getElem? (i := 4) rfl)) (notFace_of_selects (args := #[]) (mvT hZ (hw _ (List.mem_of_getElem? (i := 6) rfl)))) (hw _ (List.mem_of_getElem? (i := 6) rfl)) (hw _ (List.mem_of_getElem? (i := 5) rfl)) (hw _ (List.mem_of_getElem? (i := 1) rfl)) (hw _ (List.mem_of_getElem? (i := 7) rfl)) (by decide) (E_s_Direction_MINIMIZE) (rm1 l Z a0 hw [] s_Direction_MINIMIZE v17 v19 s_Direction_MAXIMIZE h0 n0 Z0 (S_s_Direction_MAXIMIZE) (ne_s_Direction_MINIMIZE_s_Direction_MAXIMIZE) (bq30) (bq31)) (by decide) (by decide) (by decide) (by decide) (g := (mkF m 72 A25 [(.double (FP.l2d v19)), (.double (FP.l2d v17)), (.ref s_Direction_MINIMIZE)])) rfl (by rw [hml]; rfl) (argsL := [(.double (FP.l2d v17)), (.double (FP.l2d v19))]) (rest := []) rfl (lenOf pd_0 rfl) rfl (by show 2 * 0 + _ ≤ _; exact Nat.le_of_eq rfl) (hb hby at_72)
        obtain ⟨r33, hc34, rfl, N32, e32⟩ := hQ32
        have N32_ := Fr.app N0 N32
        refine Go.st (S' := T32.setTop (mkF m 75 A25 [(.int r33)])) st32 ?_
        refine Go.st (S' := T32.setTop (mkF m 77 A25 [(.int r23), (.int r33)])) (fun t k => XS.iload X32.here hx rfl (hb hby at_75) rfl k) ?_
        by_cases hc35 : (r33 = r23)
        · refine Go.st (S' := T32.setTop (mkF m 80 A25 [])) (fun t k => XS.icmpNo X32.here hx rfl (hb hby at_77) rfl (teq hc35).2 k) ?_
          refine Go.st (S' := T32.setTop (mkF m 81 A25 [(.int (1 : Int32))])) (fun t k => XS.iconst X32.here hx rfl (hb hby at_80) k) ?_
          refine Go.st (S' := T32.setTop (mkF m 85 A25 [(.int (1 : Int32))])) (fun t k => XS.goto X32.here hx rfl (pc0 := 81) (pc' := 85) rfl (hb hby at_81) (by decide) (by decide) k) ?_
          exact Go.ret X32 (v := some (.int (1 : Int32))) (fun h => by rw [Bd.returns] at h; cases h) Bd.notSynchronized (fun fs hr => retN X32 hx (t := .boolean) Bd.returns (by simp) (hb hby at_85) hr) (by decide) (by decide) ⟨rfl, N32_⟩
        · exfalso
          have rv19 := rng64 v19
          have wv19 := c_i2l p2
          rw [← hv19] at wv19
          have rv17 := rng64 v17
          have wv17 := c_i2l p1
          rw [← hv17] at wv17
          have rp1 := rng32 p1
          have rp2 := rng32 p2
          have rr23 := rng32 r23
          have rr33 := rng32 r33
          have lI0 : (0 : Int32).toInt = 0 := by decide
          have lI1 : (1 : Int32).toInt = 1 := by decide
          simp only [Int32.lt_iff_toInt_lt, Int64.lt_iff_toInt_lt, ← Int32.toInt_inj, ← Int64.toInt_inj] at hc24 hc34 hc35
          omega
      · intro J36
        by_cases hc37 : (p2 < p1)
        · refine Go.st (S' := T15.setTop (mkF m 63 A20 [])) (fun t k => XS.icmpYes X15.here hx rfl (pc0 := 56) (pc' := 63) rfl (hb hby at_56) rfl (tlt hc37).1 (by decide) (by decide) k) ?_
          refine Go.st (S' := T15.setTop (mkF m 64 A20 [(.int (0 : Int32))])) (fun t k => XS.iconst X15.here hx rfl (hb hby at_63) k) ?_
          exact J36 ((0 : Int32)) (Or.inl ⟨hc37, rfl⟩)
        · refine Go.st (S' := T15.setTop (mkF m 59 A20 [])) (fun t k => XS.icmpNo X15.here hx rfl (hb hby at_56) rfl (flt hc37).1 k) ?_
          refine Go.st (S' := T15.setTop (mkF m 60 A20 [(.int (1 : Int32))])) (fun t k => XS.iconst X15.here hx rfl (hb hby at_59) k) ?_
          refine Go.st (S' := T15.setTop (mkF m 64 A20 [(.int (1 : Int32))])) (fun t k => XS.goto X15.here hx rfl (pc0 := 60) (pc' := 64) rfl (hb hby at_60) (by decide) (by decide) k) ?_
          exact J36 ((1 : Int32)) (Or.inr ⟨hc37, rfl⟩)
    · refine Go.st (S' := s₁.setTop (mkF m 16 A7 [])) (fun t k => XS.ifNo X0.here hx rfl (hb hby at_13) rfl ((if0 _ _).trans (feq hc14).1) k) ?_
      obtain ⟨T38, X38, e38, st38⟩ := getS X0 hx hZ hown (hw _ (List.mem_of_getElem? (i := 10) rfl)) Via.refl e0 S_s_Direction_MAXIMIZE (host := "") (g := (mkF m 16 A7 [])) rfl (hb hby at_16)
      refine Go.st (S' := T38.setTop (mkF m 19 A7 [(.ref s_Direction_MAXIMIZE)])) st38 ?_
      refine Go.st (S' := T38.setTop (mkF m 25 A7 [(.ref s_Direction_MAXIMIZE)])) (fun t k => XS.goto X38.here hx rfl (pc0 := 19) (pc' := 25) rfl (hb hby at_19) (by decide) (by decide) k) ?_
      let A39 : Array Slot := #[.val (.int p0), .val (.int p1), .val (.int p2), .val (.int r5), .val (.ref s_Direction_MAXIMIZE), .unset, .unset, .unset, .unset, .unset]
      refine Go.st (S' := T38.setTop (mkF m 27 A39 [])) (fun t k => XS.astore X38.here hx rfl (hb hby at_25) rfl rfl (l' := A39) rfl k) ?_
      refine Go.st (S' := T38.setTop (mkF m 28 A39 [(.int p1)])) (fun t k => XS.iloadN X38.here hx rfl (hb hby at_27) rfl k) ?_
      obtain ⟨v40, hv40⟩ : ∃ z, z = p1.toInt64 := ⟨_, rfl⟩
      refine Go.st (S' := T38.setTop (mkF m 29 A39 [(.double (FP.l2d v40))])) (fun t k => XS.i2dS X38.here hx rfl (hb hby at_28) rfl ((i2d_w _).trans (by rw [hv40])) k) ?_
      let A41 : Array Slot := #[.val (.int p0), .val (.int p1), .val (.int p2), .val (.int r5), .val (.ref s_Direction_MAXIMIZE), .val (.double (FP.l2d v40)), .second, .unset, .unset, .unset]
      refine Go.st (S' := T38.setTop (mkF m 31 A41 [])) (fun t k => XS.dstore X38.here hx rfl (hb hby at_29) rfl (l' := A41) rfl k) ?_
      refine Go.st (S' := T38.setTop (mkF m 32 A41 [(.int p2)])) (fun t k => XS.iloadN X38.here hx rfl (hb hby at_31) rfl k) ?_
      obtain ⟨v42, hv42⟩ : ∃ z, z = p2.toInt64 := ⟨_, rfl⟩
      refine Go.st (S' := T38.setTop (mkF m 33 A41 [(.double (FP.l2d v42))])) (fun t k => XS.i2dS X38.here hx rfl (hb hby at_32) rfl ((i2d_w _).trans (by rw [hv42])) k) ?_
      let A43 : Array Slot := #[.val (.int p0), .val (.int p1), .val (.int p2), .val (.int r5), .val (.ref s_Direction_MAXIMIZE), .val (.double (FP.l2d v40)), .second, .val (.double (FP.l2d v42)), .second, .unset]
      refine Go.st (S' := T38.setTop (mkF m 35 A43 [])) (fun t k => XS.dstore X38.here hx rfl (hb hby at_33) rfl (l' := A43) rfl k) ?_
      refine Go.st (S' := T38.setTop (mkF m 36 A43 [(.int r5)])) (fun t k => XS.iloadN X38.here hx rfl (hb hby at_35) rfl k) ?_
      refine Go.st (S' := T38.setTop (mkF m 39 A43 [])) (fun t k => XS.ifNo X38.here hx rfl (hb hby at_36) rfl ((if0 _ _).trans (feq hc14).1) k) ?_
      refine Go.st (S' := T38.setTop (mkF m 40 A43 [(.int p1)])) (fun t k => XS.iloadN X38.here hx rfl (hb hby at_39) rfl k) ?_
      refine Go.st (S' := T38.setTop (mkF m 41 A43 [(.int p2), (.int p1)])) (fun t k => XS.iloadN X38.here hx rfl (hb hby at_40) rfl k) ?_
      refine Go.join (α := Int32) (fun r => (((p1 < p2) ∧ (r = (0 : Int32))) ∨ ((¬ (p1 < p2)) ∧ (r = (1 : Int32))))) (fun r => T38.setTop (mkF m 49 A43 [(.int r)])) ?_ ?_
      · intro r46 hc47
        let A48 : Array Slot := #[.val (.int p0), .val (.int p1), .val (.int p2), .val (.int r5), .val (.ref s_Direction_MAXIMIZE), .val (.double (FP.l2d v40)), .second, .val (.double (FP.l2d v42)), .second, .val (.int r46)]
        refine Go.st (S' := T38.setTop (mkF m 51 A48 [])) (fun t k => XS.istore X38.here hx rfl (hb hby at_49) rfl (l' := A48) rfl k) ?_
        refine Go.st (S' := T38.setTop (mkF m 66 A48 [])) (fun t k => XS.goto X38.here hx rfl (pc0 := 51) (pc' := 66) rfl (hb hby at_51) (by decide) (by decide) k) ?_
        refine Go.st (S' := T38.setTop (mkF m 68 A48 [(.ref s_Direction_MAXIMIZE)])) (fun t k => XS.aload X38.here hx rfl (hb hby at_66) rfl rfl k) ?_
        refine Go.st (S' := T38.setTop (mkF m 70 A48 [(.double (FP.l2d v40)), (.ref s_Direction_MAXIMIZE)])) (fun t k => XS.dload X38.here hx rfl (hb hby at_68) rfl k) ?_
        refine Go.st (S' := T38.setTop (mkF m 72 A48 [(.double (FP.l2d v42)), (.double (FP.l2d v40)), (.ref s_Direction_MAXIMIZE)])) (fun t k => XS.dload X38.here hx rfl (hb hby at_70) rfl k) ?_
        have bq53 : B53 v40 := by
          have rv40 := rng64 v40
          have wv40 := c_i2l p1
          rw [← hv40] at wv40
          have rp1 := rng32 p1
          exact ⟨by omega, by omega⟩
        have bq54 : B53 v42 := by
          have rv42 := rng64 v42
          have wv42 := c_i2l p2
          rw [← hv42] at wv42
          have rp2 := rng32 p2
          exact ⟨by omega, by omega⟩
        obtain ⟨r55, T55, L55, X55, hQ55, st55⟩ := own_callV (W := 0) (a := s_Direction_MAXIMIZE) (C := "com/example/tuneless/tuneless/space/Direction") X38 hx hZ e38 hown (y := (⟨"com/example/tuneless/tuneless/space/Direction", "reaches", "(DD)Z"⟩ : MethodName)) (z := (⟨"com/example/tuneless/tuneless/space/Direction", "reaches", "(DD)Z"⟩ : MethodName)) (hw _ (List.mem_of_getElem? (i := 3) rfl)) (hw _ (List.mem_of_getElem? (i := 4) rfl)) (notFace_of_selects (args := #[]) (mvT hZ (hw _ (List.mem_of_getElem? (i := 6) rfl)))) (hw _ (List.mem_of_getElem? (i := 6) rfl)) (hw _ (List.mem_of_getElem? (i := 5) rfl)) (hw _ (List.mem_of_getElem? (i := 1) rfl)) (hw _ (List.mem_of_getElem? (i := 7) rfl)) (by decide) (E_s_Direction_MAXIMIZE) (rm2 l Z a0 hw [] s_Direction_MAXIMIZE v40 v42 h0 n0 Z0 (S_s_Direction_MAXIMIZE) (bq53) (bq54)) (by decide) (by decide) (by decide) (by decide) (g := (mkF m 72 A48 [(.double (FP.l2d v42)), (.double (FP.l2d v40)), (.ref s_Direction_MAXIMIZE)])) rfl (by rw [hml]; rfl) (argsL := [(.double (FP.l2d v40)), (.double (FP.l2d v42))]) (rest := []) rfl (lenOf pd_0 rfl) rfl (by show 2 * 0 + _ ≤ _; exact Nat.le_of_eq rfl) (hb hby at_72)
        obtain ⟨r56, hc57, rfl, N55, e55⟩ := hQ55
        have N55_ := Fr.app N0 N55
        refine Go.st (S' := T55.setTop (mkF m 75 A48 [(.int r56)])) st55 ?_
        refine Go.st (S' := T55.setTop (mkF m 77 A48 [(.int r46), (.int r56)])) (fun t k => XS.iload X55.here hx rfl (hb hby at_75) rfl k) ?_
        by_cases hc58 : (r56 = r46)
        · refine Go.st (S' := T55.setTop (mkF m 80 A48 [])) (fun t k => XS.icmpNo X55.here hx rfl (hb hby at_77) rfl (teq hc58).2 k) ?_
          refine Go.st (S' := T55.setTop (mkF m 81 A48 [(.int (1 : Int32))])) (fun t k => XS.iconst X55.here hx rfl (hb hby at_80) k) ?_
          refine Go.st (S' := T55.setTop (mkF m 85 A48 [(.int (1 : Int32))])) (fun t k => XS.goto X55.here hx rfl (pc0 := 81) (pc' := 85) rfl (hb hby at_81) (by decide) (by decide) k) ?_
          exact Go.ret X55 (v := some (.int (1 : Int32))) (fun h => by rw [Bd.returns] at h; cases h) Bd.notSynchronized (fun fs hr => retN X55 hx (t := .boolean) Bd.returns (by simp) (hb hby at_85) hr) (by decide) (by decide) ⟨rfl, N55_⟩
        · exfalso
          have rv40 := rng64 v40
          have wv40 := c_i2l p1
          rw [← hv40] at wv40
          have rv42 := rng64 v42
          have wv42 := c_i2l p2
          rw [← hv42] at wv42
          have rp1 := rng32 p1
          have rp2 := rng32 p2
          have rr46 := rng32 r46
          have rr56 := rng32 r56
          have lI0 : (0 : Int32).toInt = 0 := by decide
          have lI1 : (1 : Int32).toInt = 1 := by decide
          simp only [Int32.lt_iff_toInt_lt, Int64.lt_iff_toInt_lt, ← Int32.toInt_inj, ← Int64.toInt_inj] at hc47 hc57 hc58
          omega
      · intro J59
        by_cases hc60 : (p1 < p2)
        · refine Go.st (S' := T38.setTop (mkF m 48 A43 [])) (fun t k => XS.icmpYes X38.here hx rfl (pc0 := 41) (pc' := 48) rfl (hb hby at_41) rfl (tlt hc60).1 (by decide) (by decide) k) ?_
          refine Go.st (S' := T38.setTop (mkF m 49 A43 [(.int (0 : Int32))])) (fun t k => XS.iconst X38.here hx rfl (hb hby at_48) k) ?_
          exact J59 ((0 : Int32)) (Or.inl ⟨hc60, rfl⟩)
        · refine Go.st (S' := T38.setTop (mkF m 44 A43 [])) (fun t k => XS.icmpNo X38.here hx rfl (hb hby at_41) rfl (flt hc60).1 k) ?_
          refine Go.st (S' := T38.setTop (mkF m 45 A43 [(.int (1 : Int32))])) (fun t k => XS.iconst X38.here hx rfl (hb hby at_44) k) ?_
          refine Go.st (S' := T38.setTop (mkF m 49 A43 [(.int (1 : Int32))])) (fun t k => XS.goto X38.here hx rfl (pc0 := 45) (pc' := 49) rfl (hb hby at_45) (by decide) (by decide) k) ?_
          exact J59 ((1 : Int32)) (Or.inr ⟨hc60, rfl⟩)
  · intro J61
    by_cases hc62 : (v2 = (0 : Int32))
    · refine Go.st (S' := s₁.setTop (mkF m 10 A1 [])) (fun t k => XS.ifYes X0.here hx rfl (pc0 := 3) (pc' := 10) rfl (hb hby at_3) rfl ((if0 _ _).trans (teq hc62).1) (by decide) (by decide) k) ?_
      refine Go.st (S' := s₁.setTop (mkF m 11 A1 [(.int (0 : Int32))])) (fun t k => XS.iconst X0.here hx rfl (hb hby at_10) k) ?_
      exact J61 ((0 : Int32)) (Or.inl ⟨hc62, rfl⟩)
    · refine Go.st (S' := s₁.setTop (mkF m 6 A1 [])) (fun t k => XS.ifNo X0.here hx rfl (hb hby at_3) rfl ((if0 _ _).trans (feq hc62).1) k) ?_
      refine Go.st (S' := s₁.setTop (mkF m 7 A1 [(.int (1 : Int32))])) (fun t k => XS.iconst X0.here hx rfl (hb hby at_6) k) ?_
      refine Go.st (S' := s₁.setTop (mkF m 11 A1 [(.int (1 : Int32))])) (fun t k => XS.goto X0.here hx rfl (pc0 := 7) (pc' := 11) rfl (hb hby at_7) (by decide) (by decide) k) ?_
      exact J61 ((1 : Int32)) (Or.inr ⟨hc62, rfl⟩)
set_option maxRecDepth 65536 in
set_option maxHeartbeats 40000000 in
theorem comes_1 {Post : Tables → Env → Array Value → State → Outcome → State → Prop} (hpost : ∀ tb e args s v u, (limb_1_1.after args s (.returned v) u = true ∧ limb_1_2.after args s (.returned v) u = true ∧ True) → FrameEnd s (.returned v) u (Jvm.fieldLocs frame_1_writes args s ++ Jvm.arrayLocs frame_1_arrays args s ++ Jvm.staticLocs frame_1_statics s) 0 0 → Post tb e args s (.returned v) u) :
    ArmFor flags0 classFile x code maxLocals ret World_1 tables_1 room_1 Calls_1 rest_1 Pre_1 Post := by
  intro l hfl _ _ p e ha hc hk s m args below hf hA hF happ hP
  obtain ⟨hcalls, hrest, hpre⟩ := hP
  obtain ⟨-, -, -, hnamed, -, -, -, hat⟩ := (Spec.applies_iff hf).mp happ
  obtain ⟨hg, hn⟩ := and_e (Cond.before_iff.mp (show (Jvm.Cond.and given_1 narrow_1).before args s = true from hpre))
  obtain ⟨h1, h2⟩ := and_e hg
  obtain ⟨w0, w1, w2, rfl⟩ : ∃ w0 w1 w2 : Value, args = #[w0, w1, w2] := by
    have hs : args.size = 3 := by simpa [Cond.value, given_1] using h1
    obtain ⟨L⟩ := args
    match L, hs with
    | [w0, w1, w2], _ => exact ⟨w0, w1, w2, rfl⟩
  have hw := fun d (hd : d ∈ tables_1) => atoms_spec (ws := Jvm.Cond.code x code maxLocals ret :: tables_1) hat d (List.mem_cons_of_mem _ hd)
  have hfit : Fit s := fun {y c} hc i hi => by
    obtain ⟨ha, rfl⟩ := Array.getElem?_eq_some_iff.mp hc
    have q := List.all_eq_true.mp ((Array.all_eq_true_iff_forall_mem.mp hF) _ (Array.getElem_mem ha)) i (List.mem_range.mpr hi)
    simpa [Array.getElem?_eq_getElem hi] using q
  obtain ⟨q0, h2_0⟩ := and_e h2
  obtain ⟨i0, ee0⟩ := is_v q0
  obtain rfl : w0 = (.int i0) := Option.some.inj ee0
  obtain ⟨q1, h2_1⟩ := and_e h2_0
  obtain ⟨i1, ee1⟩ := is_v q1
  obtain rfl : w1 = (.int i1) := Option.some.inj ee1
  obtain ⟨i2, ee2⟩ := is_v h2_1
  obtain rfl : w2 = (.int i2) := Option.some.inj ee2
  obtain ⟨n0, hn0⟩ := and_e hn
  obtain ⟨n1, hn1⟩ := and_e hn0
  obtain ⟨n2, hn2⟩ := and_e hn1
  obtain ⟨s_Direction_MINIMIZE, ev_s_Direction_MINIMIZE⟩ := exa_v n0
  obtain ⟨s_Direction_MAXIMIZE, ev_s_Direction_MAXIMIZE⟩ := exa_v n1
  have E_s_Direction_MINIMIZE : Exa s s.heap s_Direction_MINIMIZE "com/example/tuneless/tuneless/space/Direction" := Exa.start ev_s_Direction_MINIMIZE n0
  have E_s_Direction_MAXIMIZE : Exa s s.heap s_Direction_MAXIMIZE "com/example/tuneless/tuneless/space/Direction" := Exa.start ev_s_Direction_MAXIMIZE n1
  have F_s_Direction_MINIMIZE_ordinal : Fld s s.heap s_Direction_MINIMIZE "java/lang/Enum" "ordinal" "I" (.int (1 : Int32)) := own_fld ev_s_Direction_MINIMIZE (own_eq_int n2)
  have F_s_Direction_MAXIMIZE_ordinal : Fld s s.heap s_Direction_MAXIMIZE "java/lang/Enum" "ordinal" "I" (.int (0 : Int32)) := own_fld ev_s_Direction_MAXIMIZE (own_eq_int hn2)
  obtain ⟨n, o, h1, h2, h3, _, L, rfl, ⟨rfl, N⟩, hq⟩ := rm3 l s _ hw tables_1 i0 i1 i2 s_Direction_MINIMIZE s_Direction_MAXIMIZE s.heap s.heap.size (Nat.le_refl _) (Sta.start ev_s_Direction_MINIMIZE (Or.inr ⟨(hw _ (List.mem_of_getElem? (i := 1) rfl)), (hw _ (List.mem_of_getElem? (i := 2) rfl))⟩)) (Sta.start ev_s_Direction_MAXIMIZE (Or.inr ⟨(hw _ (List.mem_of_getElem? (i := 1) rfl)), (hw _ (List.mem_of_getElem? (i := 9) rfl))⟩)) E_s_Direction_MINIMIZE (Fld.ne F_s_Direction_MINIMIZE_ordinal F_s_Direction_MAXIMIZE_ordinal (by simp)) E_s_Direction_MAXIMIZE p e ha hc hk s m _ below hf ((Spec.applies_iff_loose hf).mp happ).1 ⟨rfl, State.Warmed39.refl s, rfl⟩ trivial
  refine ⟨n, _, h1, h2, h3, hpost _ _ _ _ _ _ ⟨Cond.after_iff.mpr rfl, Cond.after_iff.mpr (eq_i res_at (Term.int_eval (1)) rfl), trivial⟩ ⟨hq.1, hq.2.1, (hq.2.2.sift fun y hy => Or.inr (N y hy)).mono (by decide) (by decide)⟩⟩
theorem main_1_1 : Claimed_1_1 := comes_1 fun _ _ _ _ _ _ h hF => ⟨h.1, hF⟩
theorem main_1_2 : Claimed_1_2 := comes_1 fun _ _ _ _ _ _ h hF => ⟨h.2.1, hF⟩
end Jvm.Pilot.@@N@@
namespace Jvm.Pilot.@@N@@
open Jvm Jvm.ClassFile Sem Op Lib Jvm.Free Jvm.Stand Jvm.Pilot.@@N@@.Jvm.D
/-! MADE BY PROGRAM (witnessworld.py) out of the Statement's table words and the real class files: 12 classes; the members and pool entries that the words name. The judged class is class 1, her method 1. -/
namespace start1
open Jvm.ClassFile
def u (s : String) : CpInfo := .utf8 (stringToUtf16 s)
/-- a pool by its gaps: so many unusable entries, then the entry; so many at the end -/
def gap : Nat → List CpInfo → List CpInfo
  | 0, r => r
  | n + 1, r => .unusable :: gap n r
def poolList (es : List (Nat × CpInfo)) (last : Nat) : List CpInfo := es.foldr (fun e r => gap e.1 (e.2 :: r)) (gap last [])
def pool (es : List (Nat × CpInfo)) (last : Nat) : Array CpInfo := ⟨poolList es last⟩
def fileOf (pool : Array CpInfo) (this : Nat) (attrs : Array Attribute := #[]) (ms : Array MethodInfo := #[]) (fl : Nat := 33) (sup : Nat := 0) (ifs : Array Nat := #[]) (fds : Array FieldInfo := #[]) : ClassFile where
  minorVersion := 0
  majorVersion := 65
  constantPool := pool
  accessFlags := fl
  thisClass := this
  superClass := sup
  interfaces := ifs
  fields := fds
  methods := ms
  attributes := attrs
def plain (name : String) (sup : Option ClassId) : Class where
  name := name
  kind := .ordinary
  loader := none
  accessFlags := 33
  super := sup
  interfaces := #[]
  cf := none
  fields := #[]
  methods := #[]
  instanceTypes := #[]
  staticTypes := #[]
  resolved := #[]
  callSites := []
  init := .initialized
  statics := none
  mirror := none

def pool0 : Array CpInfo := pool [(5, u "<init>"), (0, u "()V"), (1, .class_ 10), (1, u "java/lang/Object")] 113

def k0m0 : Method := { name := "<init>", desc := "()V", sig := { parameters := [], returnType := none }, accessFlags := 1, code := none }
/-- java/lang/Object -/
def k0 : Class := { plain "java/lang/Object" none with
  accessFlags := 33
  interfaces := #[]
  cf := some (fileOf pool0 8 #[] #[{ accessFlags := 1, nameIndex := 5, descriptorIndex := 6, attributes := #[] }] 33 0 #[] #[])
  fields := #[]
  methods := #[k0m0]
  instanceTypes := #[]
  staticTypes := #[]
  resolved := Array.replicate 124 none
  statics := none }

def pool1 : Array CpInfo := pool [(2, .class_ 4), (1, u "java/lang/Object"), (0, u "<init>"), (0, u "()V"), (0, .fieldref 8 9), (0, .class_ 10), (0, .nameAndType 11 12), (0, u "com/example/tuneless/tuneless/space/Direction"), (0, u "MAXIMIZE"), (0, u "Lcom/example/tuneless/tuneless/space/Direction;"), (0, .fieldref 8 14), (0, .nameAndType 15 12), (0, u "MINIMIZE"), (0, .methodref 8 17), (0, .nameAndType 18 19), (0, u "reaches"), (0, u "(DD)Z"), (0, .class_ 21), (0, u "com/example/tuneless/tuneless/space/DirectionReachesPinLaw"), (2, u "law"), (0, u "(III)Z")] 3

def k1m0 : Method := { name := "<init>", desc := "()V", sig := { parameters := [], returnType := none }, accessFlags := 1, code := none }
def k1c1 : Code := { maxStack := 5, maxLocals := 10, code := code, exceptionTable := #[], attributes := #[] }
def k1m1 : Method := { name := "law", desc := "(III)Z", sig := { parameters := [.int, .int, .int], returnType := some .boolean }, accessFlags := 9, code := some k1c1 }
/-- com/example/tuneless/tuneless/space/DirectionReachesPinLaw -/
def k1 : Class := { plain "com/example/tuneless/tuneless/space/DirectionReachesPinLaw" (some 0) with
  accessFlags := 49
  interfaces := #[]
  cf := some (fileOf pool1 20 #[] #[{ accessFlags := 1, nameIndex := 5, descriptorIndex := 6, attributes := #[] }, { accessFlags := 9, nameIndex := 24, descriptorIndex := 25, attributes := #[] }] 49 2 #[] #[])
  fields := #[]
  methods := #[k1m0, k1m1]
  instanceTypes := #[]
  staticTypes := #[]
  resolved := Array.replicate 29 none
  statics := none }

def pool2 : Array CpInfo := pool [(1, .class_ 2), (0, u "java/lang/constant/Constable"), (0, .class_ 4), (0, u "java/lang/Object")] 6

/-- java/lang/constant/Constable -/
def k2 : Class := { plain "java/lang/constant/Constable" (some 0) with
  accessFlags := 1537
  interfaces := #[]
  cf := some (fileOf pool2 1 #[] #[] 1537 3 #[] #[])
  fields := #[]
  methods := #[]
  instanceTypes := #[]
  staticTypes := #[]
  resolved := Array.replicate 11 none
  statics := none }

def pool3 : Array CpInfo := pool [(1, .class_ 2), (0, u "java/lang/Comparable"), (0, .class_ 4), (0, u "java/lang/Object")] 7

/-- java/lang/Comparable -/
def k3 : Class := { plain "java/lang/Comparable" (some 0) with
  accessFlags := 1537
  interfaces := #[]
  cf := some (fileOf pool3 1 #[] #[] 1537 3 #[] #[])
  fields := #[]
  methods := #[]
  instanceTypes := #[]
  staticTypes := #[]
  resolved := Array.replicate 12 none
  statics := none }

def pool4 : Array CpInfo := pool [(1, .class_ 2), (0, u "java/io/Serializable"), (0, .class_ 4), (0, u "java/lang/Object")] 2

/-- java/io/Serializable -/
def k4 : Class := { plain "java/io/Serializable" (some 0) with
  accessFlags := 1537
  interfaces := #[]
  cf := some (fileOf pool4 1 #[] #[] 1537 3 #[] #[])
  fields := #[]
  methods := #[]
  instanceTypes := #[]
  staticTypes := #[]
  resolved := Array.replicate 7 none
  statics := none }

def pool5 : Array CpInfo := pool [(2, .class_ 4), (1, u "java/lang/Enum"), (0, u "name"), (0, u "Ljava/lang/String;"), (2, u "ordinal"), (0, u "I"), (1, .class_ 14), (1, u "java/lang/Object"), (4, u "hash"), (86, .class_ 108), (1, u "java/lang/Enum$EnumDesc"), (2, .class_ 112), (0, u "java/lang/constant/Constable"), (0, .class_ 114), (0, u "java/lang/Comparable"), (0, .class_ 116), (0, u "java/io/Serializable")] 87

/-- java/lang/Enum -/
def k5 : Class := { plain "java/lang/Enum" (some 0) with
  accessFlags := 1057
  interfaces := #[2, 3, 4]
  cf := some (fileOf pool5 2 #[.nestMembers #[106]] #[] 1057 12 #[111, 113, 115] #[{ accessFlags := 18, nameIndex := 5, descriptorIndex := 6, attributes := #[] }, { accessFlags := 18, nameIndex := 9, descriptorIndex := 10, attributes := #[] }, { accessFlags := 2, nameIndex := 19, descriptorIndex := 10, attributes := #[] }])
  fields := #[{ name := "name", type := (.object "java/lang/String"), accessFlags := 18, slot := 0, constantValue := 0 }, { name := "ordinal", type := .int, accessFlags := 18, slot := 1, constantValue := 0 }, { name := "hash", type := .int, accessFlags := 2, slot := 2, constantValue := 0 }]
  methods := #[]
  instanceTypes := #[(.object "java/lang/String"), .int, .int]
  staticTypes := #[]
  resolved := Array.replicate 204 none
  statics := none }

def pool6 : Array CpInfo := pool [(1, .class_ 2), (0, u "com/example/tuneless/tuneless/space/Direction"), (0, .fieldref 1 4), (0, .nameAndType 5 6), (0, u "MAXIMIZE"), (0, u "Lcom/example/tuneless/tuneless/space/Direction;"), (2, u "MINIMIZE"), (2, u "$VALUES"), (0, u "[Lcom/example/tuneless/tuneless/space/Direction;"), (6, .class_ 22), (1, u "java/lang/Enum"), (8, u "label"), (0, u "Ljava/lang/String;"), (28, u "(DD)Z"), (1, u "reaches")] 5

def k6c0 : Code := { maxStack := 4, maxLocals := 5, code := prog_70_method_6_code, exceptionTable := #[], attributes := #[] }
def k6m0 : Method := { name := "reaches", desc := "(DD)Z", sig := { parameters := [.double, .double], returnType := some .boolean }, accessFlags := 1, code := some k6c0 }
/-- com/example/tuneless/tuneless/space/Direction -/
def k6 : Class := { plain "com/example/tuneless/tuneless/space/Direction" (some 5) with
  accessFlags := 16433
  interfaces := #[]
  cf := some (fileOf pool6 1 #[] #[{ accessFlags := 1, nameIndex := 63, descriptorIndex := 61, attributes := #[] }] 16433 20 #[] #[{ accessFlags := 16409, nameIndex := 5, descriptorIndex := 6, attributes := #[] }, { accessFlags := 16409, nameIndex := 9, descriptorIndex := 6, attributes := #[] }, { accessFlags := 18, nameIndex := 31, descriptorIndex := 32, attributes := #[] }, { accessFlags := 4122, nameIndex := 12, descriptorIndex := 13, attributes := #[] }])
  fields := #[{ name := "MAXIMIZE", type := (.object "com/example/tuneless/tuneless/space/Direction"), accessFlags := 16409, slot := 0, constantValue := 0 }, { name := "MINIMIZE", type := (.object "com/example/tuneless/tuneless/space/Direction"), accessFlags := 16409, slot := 1, constantValue := 0 }, { name := "label", type := (.object "java/lang/String"), accessFlags := 18, slot := 3, constantValue := 0 }, { name := "$VALUES", type := (.array (.object "com/example/tuneless/tuneless/space/Direction")), accessFlags := 4122, slot := 2, constantValue := 0 }]
  methods := #[k6m0]
  instanceTypes := #[(.object "java/lang/String"), .int, .int, (.object "java/lang/String")]
  staticTypes := #[(.object "com/example/tuneless/tuneless/space/Direction"), (.object "com/example/tuneless/tuneless/space/Direction"), (.array (.object "com/example/tuneless/tuneless/space/Direction"))]
  resolved := Array.replicate 69 none
  statics := some 0 }

def pool7 : Array CpInfo := pool [(1, u "java/lang/Cloneable"), (0, .class_ 1), (0, u "java/lang/Object"), (0, .class_ 3)] 3

/-- java/lang/Cloneable -/
def k7 : Class := { plain "java/lang/Cloneable" (some 0) with
  accessFlags := 1537
  interfaces := #[]
  cf := some (fileOf pool7 2 #[] #[] 1537 4 #[] #[])
  fields := #[]
  methods := #[]
  instanceTypes := #[]
  staticTypes := #[]
  resolved := Array.replicate 8 none
  statics := none }

/-- the primitive byte -/
def k8 : Class := { plain "byte" none with kind := .primitive 'B', accessFlags := 0x411 }
/-- [B -/
def k9 : Class := { plain "[B" (some 0) with kind := .array 8 .byte, interfaces := #[7, 4], accessFlags := 1041 }

/-- the primitive int -/
def k10 : Class := { plain "int" none with kind := .primitive 'I', accessFlags := 0x411 }
/-- [I -/
def k11 : Class := { plain "[I" (some 0) with kind := .array 10 .int, interfaces := #[7, 4], accessFlags := 1041 }

def heap : Heap := #[{ cls := 6, slots := #[.ref 1, .ref 2, .null], vm := .statics 6 },
  { cls := 6, slots := #[.null, .int 0, .int 0, .null], vm := .none },
  { cls := 6, slots := #[.null, .int 1, .int 0, .null], vm := .none }]
def classes : Array Class := #[k0, k1, k2, k3, k4, k5, k6, k7, k8, k9, k10, k11]
def interned : List (Array UInt16 × Addr) := []
def slotsUsed : Nat := 11
def theMethod : MethodId := ⟨1, 1⟩
def args0 : Array Value := #[.int 1, .int 2, .int 3]
def aboutOver (below : List Frame) : State where
  vm := { classes := classes, interned := interned.toArray }
  heap := heap
  slotsUsed := slotsUsed
  threads := #[{ frames := .invoking theMethod args0 :: below }]
def below0 : List Frame := [.native { method := ⟨0, 0⟩, args := #[] }]
def about1 : State := aboutOver below0
def p0 : Program := .bare "" "" ""
def e0 : Env := launch0.env 0 0 0
theorem w_frames : about1.frames = Frame.invoking theMethod args0 :: below0 := rfl
set_option maxRecDepth 65536 in
theorem w_args : argsFit about1.vm theMethod args0 = true := by decide +kernel
set_option maxRecDepth 65536 in
theorem w_heap : heapFits about1 = true := by decide +kernel
set_option maxRecDepth 65536 in
theorem w_runnable : about1.curStatus? = some .runnable := by decide +kernel
set_option maxRecDepth 65536 in
theorem w_alone : about1.alone = true := by decide +kernel
set_option maxRecDepth 65536 in
theorem w_named : about1.methodNamed? x = some theMethod := by decide +kernel
set_option maxRecDepth 65536 in
theorem w_hears : about1.hears theMethod below0 = true := by decide +kernel
set_option maxRecDepth 65536 in
theorem w_ripe : about1.ripe theMethod args0 below0 = true := by decide +kernel
theorem w_running : about1.status = .running := rfl
set_option maxRecDepth 65536 in
theorem w_room : about1.hasRoom e0.platform room_1 = true :=
  launch0.hasRoom_least _ room_1 (by decide +kernel) (by decide +kernel) (by decide +kernel) (by decide +kernel) (by decide +kernel) (by decide +kernel)
theorem allAtoms_all (ts : List Jvm.Cond) (a : Array Jvm.Value) (st : Jvm.State) : (allAtoms ts).before a st = ts.all (fun c => c.before a st) := by
  induction ts with
  | nil => rfl
  | cons c t ih =>
    show (Jvm.Cond.and c (allAtoms t)).before a st = _
    rw [Jvm.Cond.before_and, ih, List.all_cons]
def words1 : List Jvm.Cond := Jvm.Cond.code x code maxLocals ret :: tables_1
/-- a 'code' word, met by the world's own term for the bytes: nothing is compared byte by byte -/
theorem code_word {y : MethodName} {bytes : ByteArray} {mx : Nat} {rt : Option FieldType} {a : Array Value} {s : State} {m : MethodId} {meth : Method} {c : Code} (h1 : s.methodNamed? y = some m) (h2 : s.vm.method? m = some meth) (h3 : meth.code = some c) (h4 : c.code = bytes)
    (h5 : (c.maxLocals == mx && c.exceptionTable.isEmpty && decide (c.maxStack ≤ mostOperands) && decide (meth.sig.returnType = rt) && !meth.locks && decide (parseMethodDescriptor y.desc = some meth.sig)) = true) : (Jvm.Cond.code y bytes mx rt).before a s = true := by
  simp only [Bool.and_eq_true, beq_iff_eq, Bool.not_eq_true', decide_eq_true_eq] at h5
  obtain ⟨⟨⟨⟨⟨g1, g2⟩, g3⟩, g4⟩, g5⟩, g6⟩ := h5
  simp [Cond.before, Cond.holds, Cond.value, h1, h2, h3, h4, g1, g2, g3, g4, g5, g6]
def isCode : Jvm.Cond → Bool
  | .code _ _ _ _ => true
  | _ => false
theorem all_split {L : List Jvm.Cond} {P : Jvm.Cond → Bool} (h1 : L.all (fun c => isCode c || P c) = true) (h2 : ∀ c ∈ L.filter isCode, P c = true) : L.all P = true := by
  refine List.all_eq_true.mpr fun c hc => ?_
  have h := List.all_eq_true.mp h1 c hc
  rcases Bool.eq_false_or_eq_true (isCode c) with hi | hi
  · exact h2 c (List.mem_filter.mpr ⟨hc, hi⟩)
  · simpa [hi] using h
set_option maxRecDepth 65536 in
theorem w_c0 : (Jvm.Cond.code x code maxLocals ret).before args0 about1 = true := code_word (m := ⟨1, 1⟩) (meth := k1m1) (c := k1c1) (by decide +kernel) rfl rfl rfl (by decide +kernel)
set_option maxRecDepth 65536 in
theorem w_c1 : (Jvm.Cond.code ({ cls := "com/example/tuneless/tuneless/space/Direction", name := "reaches", desc := "(DD)Z" } : Jvm.MethodName) prog_70_method_6_code (5 : Nat) (Option.some Jvm.ClassFile.FieldType.boolean)).before args0 about1 = true := code_word (m := ⟨6, 0⟩) (meth := k6m0) (c := k6c0) (by decide +kernel) rfl rfl rfl (by decide +kernel)
def codes1 : List Jvm.Cond := [Jvm.Cond.code x code maxLocals ret, Jvm.Cond.code ({ cls := "com/example/tuneless/tuneless/space/Direction", name := "reaches", desc := "(DD)Z" } : Jvm.MethodName) prog_70_method_6_code (5 : Nat) (Option.some Jvm.ClassFile.FieldType.boolean)]
set_option maxRecDepth 65536 in
theorem codes_eq : words1.filter isCode = codes1 := rfl
theorem w_codes : ∀ c ∈ words1.filter isCode, c.before args0 about1 = true := by
  rw [codes_eq]
  intro c hc
  simp only [codes1, List.mem_cons, List.not_mem_nil, or_false] at hc
  rcases hc with rfl | rfl
  · exact w_c0
  · exact w_c1
set_option maxRecDepth 65536 in
theorem w_t1 : words1.all (fun c => isCode c || c.before args0 about1) = true := by decide +kernel
theorem w_tables : (allAtoms (Jvm.Cond.code x code maxLocals ret :: tables_1)).before args0 about1 = true := by
  rw [allAtoms_all]
  show words1.all (fun c => c.before args0 about1) = true
  refine all_split ?_ w_codes
  rw [w_t1]
set_option maxRecDepth 65536 in
theorem w_case : (Jvm.Cond.and given_1 narrow_1).before args0 about1 = true := by decide +kernel
theorem w_applies : (headSpec (Jvm.Cond.code x code maxLocals ret :: tables_1) room_1).applies x e0.platform about1 = true :=
  (Spec.applies_iff w_frames).mpr ⟨w_running, w_runnable, w_alone, w_named, w_hears, w_ripe, w_room, w_tables⟩
theorem atStart : AtStart classFile x code maxLocals ret World_1 tables_1 room_1 Calls_1 rest_1 Pre_1 launch0 p0 e0 about1 theMethod args0 below0 :=
  ⟨lists_1, trivial, launch0.admits_env _ _ _, launch0.least_env, fairChoices_fair.cas, fairChoices_fair.clock, w_frames, w_args, w_heap, w_applies, trivial, trivial, w_case⟩
end start1
theorem witness_1 : WitnessClaimed_1 := ⟨start1.p0, start1.e0, start1.about1, start1.theMethod, start1.args0, start1.below0, start1.atStart⟩
end Jvm.Pilot.@@N@@
