import JvmDerived
import JvmDerived.Pilot.@@N@@Statement
import JvmDerived.Pilot.@@N@@Code
set_option linter.unusedVariables false
set_option linter.unusedSimpArgs false
namespace Jvm.RoadKit
open Sem ClassFile Op Lib Jvm.Stand Jvm.Free Jvm.LawKit
section New
variable {p : Program} {l : Launch} {e : Env} {R : Room} {s : State} {m : MethodId} {args : Array Value} {below : List Frame} {meth : Method} {c : Code} {T : State} {locs : List Loc} {cells slots : Nat}
theorem retI (X : Stand p l e R s m args below meth c T locs cells slots) (hx : p.tables.exec = Jvm.exec) {pc : Nat} {Ls : Array Slot} {z : Int32} {rest : List Value} (hret : meth.sig.returnType = some .int) (hd : decode c.code pc = .ok (.ireturn, 1)) {fs : List Frame}
    (hl : ∀ (f : JFrame) (acts : List Action), f.method = m → f.locked = none → f.entered = [] → (doReturn e (T.setTop f) acts (some (.int z))).1 = T.setFrames fs) : Steps p.tables e below (T.setTop (mkF m pc Ls (.int z :: rest))) (T.setFrames fs) := retOut X hx hret rfl (Or.inl ⟨rfl, Or.inl rfl, _, rfl⟩) hd hl
end New
end Jvm.RoadKit
namespace Jvm.Pilot.@@N@@
open Jvm Jvm.ClassFile Sem Op Lib Jvm.Free Jvm.Stand Jvm.LawKit Jvm.RoadKit Bundle Jvm.Pilot.@@N@@.Jvm.D
section OwnKit
variable {p : Program} {l : Launch} {e : Env} {R : Room} {s : State} {m : MethodId} {args : Array Value} {below : List Frame} {meth : Method} {c : Code} {T : State} {locs : List Loc} {cells slots : Nat} {Z : State} {a0 : Array Value} {h : Heap}
def Go (p : Program) (e : Env) (below : List Frame) (Q : Outcome → State → Prop) (S : State) : Prop := ∃ s₂ o, Steps p.tables e below S s₂ ∧ s₂.status = .running ∧ Ended s₂ below o ∧ Q o s₂
theorem Go.of {Q : Outcome → State → Prop} {S : State} (k : Go p e below Q S) : ∃ s₂ o, Steps p.tables e below S s₂ ∧ s₂.status = .running ∧ Ended s₂ below o ∧ Q o s₂ := k
theorem Go.st {Q : Outcome → State → Prop} {S S' : State} (h : ∀ t, Steps p.tables e below S' t → Steps p.tables e below S t) (k : Go p e below Q S') : Go p e below Q S := by
  obtain ⟨s2, o, h1, h2⟩ := k; exact ⟨s2, o, h _ h1, h2⟩
theorem Go.op {α : Type} {Q : Outcome → State → Prop} {S : State} {F : α → State} {x : α} (h : ∀ t, Steps p.tables e below (F x) t → Steps p.tables e below S t) (k : ∀ z, z = x → Go p e below Q (F z)) : Go p e below Q S := Go.st h (k x rfl)
theorem Go.join {α : Type} {Q : Outcome → State → Prop} {S : State} (C : α → Prop) (F : α → State) (k : ∀ r, C r → Go p e below Q (F r)) (j : (∀ r, C r → Go p e below Q (F r)) → Go p e below Q S) : Go p e below Q S := j k
theorem Go.joinT {α : Type} {Q : Outcome → State → Prop} {S : State} (X : Stand p l e R s m args below meth c T locs cells slots) (eT : T.heap = h) (C : α → Prop) (F : State → α → State) (k : ∀ T', Stand p l e R s m args below meth c T' locs cells slots → T'.heap = h → ∀ r, C r → Go p e below Q (F T' r)) (j : (∀ T', Stand p l e R s m args below meth c T' locs cells slots → T'.heap = h → ∀ r, C r → Go p e below Q (F T' r)) → Go p e below Q S) : Go p e below Q S := j k
theorem Go.loop {α : Type} {Q : Outcome → State → Prop} (I : Nat → α → Prop) (F : α → State) (k0 : Nat) (x0 : α) (h0 : I k0 x0) (step : ∀ k x, I k x → (∀ k' x', k' < k → I k' x' → Go p e below Q (F x')) → Go p e below Q (F x)) : Go p e below Q (F x0) := by
  have H : ∀ k x, I k x → Go p e below Q (F x) := by
    intro k
    induction k using Nat.strongRecOn with
    | _ k ih => intro x hx; exact step k x hx fun k' x' hk hx' => ih k' hk x' hx'
  exact H k0 x0 h0
theorem Go.ret {Qn : Option Value → Heap → List Loc → Prop} {rc rs : Nat} (X : Stand p l e R s m args below meth c T locs cells slots) {v : Option Value} (hv : meth.sig.returnType = none → v = none) (hlk : meth.locks = false) {f : JFrame}
    (st : ∀ fs, (∀ (f : JFrame) (acts : List Action), f.method = m → f.locked = none → f.entered = [] → (doReturn e (T.setTop f) acts v).1 = T.setFrames fs) → Steps p.tables e below (T.setTop f) (T.setFrames fs))
    (hc : cells ≤ rc) (hs : slots ≤ rs) (hQ : Qn v T.heap locs) : Go p e below (fun o U' => ∃ v L, o = .returned v ∧ Qn v U'.heap L ∧ FrameEnd s o U' L rc rs) (T.setTop f) := by
  obtain ⟨fs, hr, hrun, hended, hW, hsame⟩ := X.leave (v := v) hv hlk
  exact ⟨_, _, st fs hr, hrun, hended, v, locs, rfl, hQ, ⟨_, rfl⟩, hW, hsame.mono hc hs⟩
abbrev Con (l : Launch) (Z : State) (y : MethodName) (bytes : ByteArray) (maxL : Nat) (ret : Option FieldType) (ws : List Jvm.Cond) (rm : Room) (as' : Array Value) (h : Heap) (rc rs : Nat) (Q : Option Value → Heap → List Loc → Prop) : Prop :=
  MetFree l y (head1 (Jvm.Cond.code y bytes maxL ret :: ws) rm) (fun a U => a = as' ∧ Z.Warmed39 U.vm ∧ U.heap = h) (fun _ _ _ _ _ => True) (fun _ U o U' => ∃ v L, o = .returned v ∧ Q v U'.heap L ∧ FrameEnd U o U' L rc rs)
theorem own_eh {a : Addr} {cl : Cell} (eT : T.heap = h) (q : h[a]? = some cl) : T.heap[a]? = some cl := by rw [eT]; exact q
theorem own_callS {own : String} {index : Nat} {y : MethodName} {bytes : ByteArray} {maxL : Nat} {ret : Option FieldType} {rm : Room} {as' : Array Value} {Q : Option Value → Heap → List Loc → Prop} {W : Nat} {g : JFrame} {argsL rest : List Value}
    (X : Stand p l e R s m args below meth c T locs cells slots) (hx : p.tables.exec = Jvm.exec) (hZ : Z.Warmed39 s.vm) (eT : T.heap = h) (hown : s.vm.findClass own = some m.cls)
    (w1 : (Jvm.Cond.methodLink own index y).before a0 Z = true) (w2 : (Jvm.Cond.static y).before a0 Z = true) (w3 : (Jvm.Cond.initialized y.cls).before a0 Z = true) (w4 : (Jvm.Cond.code y bytes maxL ret).before a0 Z = true)
    (hy : y.cls ≠ "java/lang/invoke/MethodHandle" ∧ y.cls ≠ "java/lang/invoke/VarHandle")
    (hM : Con l Z y bytes maxL ret [] rm as' h rm.cells rm.slots Q)
    (hf : rm.frames + 1 ≤ R.frames) (hl : W + (maxL + 11) + rm.locals ≤ R.locals) (hc : cells + rm.cells ≤ R.cells) (hs : slots + rm.slots ≤ R.slots)
    (hg : g.method = m) (hsize : g.locals.size = c.maxLocals) (has : argsL.toArray = as') (hlen : ∀ sig, parseMethodDescriptor y.desc = some sig → argsL.length = sig.parameters.length)
    (hstack : g.stack = argsL.reverse ++ rest) (hW : 2 * g.monitorRoom + (rest.map fun v => v.category).sum ≤ W) (hdg : decode c.code g.pc = .ok (.invokestatic index, 3)) :
    ∃ v T' L, Stand p l e R s m args below meth c T' (locs ++ L) (cells + rm.cells) (slots + rm.slots) ∧ Q v T'.heap L ∧ ∀ target, Steps p.tables e below (T'.setTop { g with pc := g.pc + 3, stack := v.toList ++ rest }) target → Steps p.tables e below (T.setTop g) target := by
  obtain ⟨v, _, ⟨T', L', k', n'⟩, -, X', ⟨L, hQ, l', y', z'⟩, st⟩ := Jvm.LawKit.callS X hx (y := y) hown (mvT hZ w1) (mvT hZ w2) (mvT hZ w3) (mvT hZ w4) hy (backOf (W := W) hM hZ w4 w3 hf hl) (g := g) hg hsize (argsL := argsL) (rest := rest) hlen hstack hW hdg (fun _ _ => ⟨has, eT, hc, hs⟩)
  dsimp only [Pt.U, Pt.locs, Pt.cells, Pt.slots] at X' l' y' z' st hQ
  subst l' y' z'
  exact ⟨v, T', L, X', hQ, st⟩
theorem own_callI {own : String} {index : Nat} {y : MethodName} {bytes : ByteArray} {maxL : Nat} {rm : Room} {as' : Array Value} {Q : Option Value → Heap → List Loc → Prop} {W : Nat} {g : JFrame} {a : Addr} {argsL rest : List Value}
    (X : Stand p l e R s m args below meth c T locs cells slots) (hx : p.tables.exec = Jvm.exec) (hZ : Z.Warmed39 s.vm) (eT : T.heap = h) (hown : s.vm.findClass own = some m.cls) (hyn : y.name = "<init>")
    (w1 : (Jvm.Cond.methodLink own index y).before a0 Z = true) (w2 : (Jvm.Cond.instanceMethod y).before a0 Z = true) (w3 : (Jvm.Cond.initialized y.cls).before a0 Z = true) (w4 : (Jvm.Cond.code y bytes maxL none).before a0 Z = true)
    (hy : y.cls ≠ "java/lang/invoke/MethodHandle" ∧ y.cls ≠ "java/lang/invoke/VarHandle")
    (hM : Con l Z y bytes maxL none [] rm as' h rm.cells rm.slots Q)
    (hf : rm.frames + 1 ≤ R.frames) (hl : W + (maxL + 11) + rm.locals ≤ R.locals) (hc : cells + rm.cells ≤ R.cells) (hs : slots + rm.slots ≤ R.slots)
    (hg : g.method = m) (hsize : g.locals.size = c.maxLocals) (has : (Value.ref a :: argsL).toArray = as') (hlen : ∀ sig, parseMethodDescriptor y.desc = some sig → argsL.length = sig.parameters.length)
    (hstack : g.stack = argsL.reverse ++ .ref a :: rest) (hW : 2 * g.monitorRoom + (rest.map fun v => v.category).sum ≤ W) (hdg : decode c.code g.pc = .ok (.invokespecial index, 3)) :
    ∃ v T' L, Stand p l e R s m args below meth c T' (locs ++ L) (cells + rm.cells) (slots + rm.slots) ∧ Q v T'.heap L ∧ ∀ target, Steps p.tables e below (T'.setTop { g with pc := g.pc + 3, stack := v.toList ++ rest }) target → Steps p.tables e below (T.setTop g) target := by
  obtain ⟨v, _, ⟨T', L', k', n'⟩, -, X', ⟨L, hQ, l', y', z'⟩, st⟩ := X.specialBack hx (y := y) hyn hown (mvT hZ w1) (mvT hZ w2) (mvT hZ w4) hy (backOf (W := W) hM hZ w4 w3 hf hl) (g := g) hg hsize (Steps.refl _) (a := a) (argsL := argsL) (rest := rest) hlen hstack hW hdg (fun _ _ => ⟨has, eT, hc, hs⟩)
  dsimp only [Pt.U, Pt.locs, Pt.cells, Pt.slots] at X' l' y' z' st hQ
  subst l' y' z'
  exact ⟨v, T', L, X', hQ, fun _ k => st.trans k⟩
theorem own_callV {own C : String} {index : Nat} {y z : MethodName} {bytes : ByteArray} {maxL : Nat} {ret : Option FieldType} {rm : Room} {as' : Array Value} {Q : Option Value → Heap → List Loc → Prop} {W : Nat} {g : JFrame} {a : Addr} {argsL rest : List Value}
    (X : Stand p l e R s m args below meth c T locs cells slots) (hx : p.tables.exec = Jvm.exec) (hZ : Z.Warmed39 s.vm) (eT : T.heap = h) (hown : s.vm.findClass own = some m.cls)
    (w1 : (Jvm.Cond.methodLink own index y).before a0 Z = true) (w2 : (Jvm.Cond.declares y).before a0 Z = true) (nf : NotFace s y) (w5 : (Jvm.Cond.selects C y z).before a0 Z = true) (w6 : (Jvm.Cond.instanceMethod z).before a0 Z = true) (w3 : (Jvm.Cond.initialized z.cls).before a0 Z = true) (w4 : (Jvm.Cond.code z bytes maxL ret).before a0 Z = true)
    (hy : y.cls ≠ "java/lang/invoke/MethodHandle" ∧ y.cls ≠ "java/lang/invoke/VarHandle") (E : Exa Z h a C)
    (hM : Con l Z z bytes maxL ret [] rm as' h rm.cells rm.slots Q)
    (hf : rm.frames + 1 ≤ R.frames) (hl : W + (maxL + 11) + rm.locals ≤ R.locals) (hc : cells + rm.cells ≤ R.cells) (hs : slots + rm.slots ≤ R.slots)
    (hg : g.method = m) (hsize : g.locals.size = c.maxLocals) (has : (Value.ref a :: argsL).toArray = as') (hlen : ∀ sig, parseMethodDescriptor y.desc = some sig → argsL.length = sig.parameters.length)
    (hstack : g.stack = argsL.reverse ++ .ref a :: rest) (hW : 2 * g.monitorRoom + (rest.map fun v => v.category).sum ≤ W) (hdg : decode c.code g.pc = .ok (.invokevirtual index, 3)) :
    ∃ v T' L, Stand p l e R s m args below meth c T' (locs ++ L) (cells + rm.cells) (slots + rm.slots) ∧ Q v T'.heap L ∧ ∀ target, Steps p.tables e below (T'.setTop { g with pc := g.pc + 3, stack := v.toList ++ rest }) target → Steps p.tables e below (T.setTop g) target := by
  obtain ⟨cq, kq, qa, qb, qc⟩ := isOf hZ eT E
  obtain ⟨v, _, ⟨T', L', k', n'⟩, -, X', ⟨L, hQ, l', y', z'⟩, st⟩ := X.virtualBack hx (y := y) (z := z) hown (mvT hZ w1) (mvT hZ w2) nf (mvT hZ w5) (mvT hZ w6) hy (backOf (W := W) hM hZ w4 w3 hf hl) qa qc (g := g) hg hsize (Steps.refl _) (argsL := argsL) (rest := rest) hlen hstack hW hdg (fun _ _ => ⟨has, eT, hc, hs⟩)
  dsimp only [Pt.U, Pt.locs, Pt.cells, Pt.slots] at X' l' y' z' st hQ
  subst l' y' z'
  exact ⟨v, T', L, X', hQ, fun _ k => st.trans k⟩
theorem own_sta_keep {C n d : String} {w : Value} {h h' : Heap} {ws : List Addr} (F : Sta Z h C n d w) (K : Keep h h' ws) (q : ∀ x ∈ ws, ∃ cl : Cell, h[x]? = some cl ∧ cl.vm.isStatics = false) : Sta Z h' C n d w := by
  obtain ⟨cf, i, k, f, st, cell, h1, h2, h3, h4, h5, h6, h7⟩ := F
  refine ⟨cf, i, k, f, st, cell, h1, h2, h3, h4, K.2.1 st cell h5 fun z => ?_, h6, h7⟩
  obtain ⟨cl, q1, q2⟩ := q st z
  cases h5.symm.trans q1
  rw [h6] at q2; cases q2
theorem own_exa_plain {a : Addr} {C : String} {h : Heap} (F : Exa Z h a C) : ∃ cl : Cell, h[a]? = some cl ∧ cl.vm.isStatics = false := by
  obtain ⟨cell, k, h1, -, -, h4, -⟩ := F; exact ⟨cell, h1, h4⟩
theorem own_arv_plain {a : Addr} {k : ClassId} {ty : FieldType} {z : Int32} {vs : List Value} {dv : Value} {h : Heap} (F : Arv Z h a k ty z vs dv) : ∃ cl : Cell, h[a]? = some cl ∧ cl.vm.isStatics = false := by
  obtain ⟨cell, A, -⟩ := F; exact ⟨cell, A.1, A.plain⟩
theorem own_getR {own O n d : String} {index : Nat} {a : Addr} {v : Value} {g : JFrame} {rest : List Value} (X : Stand p l e R s m args below meth c T locs cells slots) (hx : p.tables.exec = Jvm.exec) (hZ : Z.Warmed39 s.vm) (hown : s.vm.findClass own = some m.cls)
    (w : (Jvm.Cond.fieldRef own index O n d).before a0 Z = true) (eT : T.heap = h) (F : Fld Z h a O n d v) (hg : g.method = m) (hs : g.stack = .ref a :: rest) (hd : decode c.code g.pc = .ok (.getfield index, 3)) :
    ∀ target, Steps p.tables e below (T.setTop { g with pc := g.pc + 3, stack := v :: rest }) target → Steps p.tables e below (T.setTop g) target := by
  have hU : Z.Warmed39 T.vm := wtrans hZ X.warmed
  have w2 := Cond.fieldRef_warmed39 hU w
  have hc : (Z.setVm T.vm).vm.findClass own = some m.cls := by
    show T.vm.findClass own = some m.cls
    rw [X.warmed.alike.findClass]; exact hown
  obtain ⟨c1, k1, i1, f1, hf1, hr⟩ := Cond.fieldRef_spec hc w2
  obtain ⟨cell, cf, k, i, f, h1, h2, h3, h4, -, -, h7⟩ := F
  obtain ⟨k', hi, -⟩ := State.fieldFound?_setVm (s := Z) hU.alike h2
  cases hi.symm.trans hf1
  intro t kk
  exact (X.getfieldR hx hg hr h3 hs (by rw [eT]; exact h1) h4 h7 hd (Steps.refl _)).trans kk
theorem own_callP {own C : String} {index : Nat} {y : MethodName} {bytes : ByteArray} {maxL : Nat} {ret : Option FieldType} {rm : Room} {as' : Array Value} {Q : Option Value → Heap → List Loc → Prop} {W : Nat} {g : JFrame} {a : Addr} {argsL rest : List Value}
    (X : Stand p l e R s m args below meth c T locs cells slots) (hx : p.tables.exec = Jvm.exec) (hZ : Z.Warmed39 s.vm) (eT : T.heap = h) (hown : s.vm.findClass own = some m.cls)
    (w1 : (Jvm.Cond.methodLink own index y).before a0 Z = true) (w2 : (Jvm.Cond.instanceMethod y).before a0 Z = true) (w5 : (Jvm.Cond.selects y.cls y y).before a0 Z = true) (w6 : (Jvm.Cond.privateMethod y).before a0 Z = true) (w3 : (Jvm.Cond.initialized y.cls).before a0 Z = true) (w4 : (Jvm.Cond.code y bytes maxL ret).before a0 Z = true)
    (hy : y.cls ≠ "java/lang/invoke/MethodHandle" ∧ y.cls ≠ "java/lang/invoke/VarHandle") (E : Exa Z h a C)
    (hM : Con l Z y bytes maxL ret [] rm as' h rm.cells rm.slots Q)
    (hf : rm.frames + 1 ≤ R.frames) (hl : W + (maxL + 11) + rm.locals ≤ R.locals) (hc : cells + rm.cells ≤ R.cells) (hs : slots + rm.slots ≤ R.slots)
    (hg : g.method = m) (hsize : g.locals.size = c.maxLocals) (has : (Value.ref a :: argsL).toArray = as') (hlen : ∀ sig, parseMethodDescriptor y.desc = some sig → argsL.length = sig.parameters.length)
    (hstack : g.stack = argsL.reverse ++ .ref a :: rest) (hW : 2 * g.monitorRoom + (rest.map fun v => v.category).sum ≤ W) (hdg : decode c.code g.pc = .ok (.invokevirtual index, 3)) :
    ∃ v T' L, Stand p l e R s m args below meth c T' (locs ++ L) (cells + rm.cells) (slots + rm.slots) ∧ Q v T'.heap L ∧ ∀ target, Steps p.tables e below (T'.setTop { g with pc := g.pc + 3, stack := v.toList ++ rest }) target → Steps p.tables e below (T.setTop g) target := by
  obtain ⟨cq, q1, q2⟩ := E.cell
  obtain ⟨v, _, ⟨T', L', k', n'⟩, -, X', ⟨L, hQ, l', y', z'⟩, st⟩ := X.privateBack hx (y := y) hown (mvT hZ w1) (mvT hZ w2) (mvT hZ w5) (Cond.privateMethod_at (mvP hZ w6 (args := #[]))) (mvT hZ w4) hy (backOf (W := W) hM hZ w4 w3 hf hl) (g := g) hg hsize (Steps.refl _) (a := a) (by rw [eT]; exact q1) q2 (argsL := argsL) (rest := rest) hlen hstack hW hdg (fun _ _ => ⟨has, eT, hc, hs⟩)
  dsimp only [Pt.U, Pt.locs, Pt.cells, Pt.slots] at X' l' y' z' st hQ
  subst l' y' z'
  exact ⟨v, T', L, X', hQ, fun _ k => st.trans k⟩
theorem own_callF {own C : String} {index count : Nat} {xi y : MethodName} {bytes : ByteArray} {maxL : Nat} {ret : Option FieldType} {rm : Room} {as' : Array Value} {Q : Option Value → Heap → List Loc → Prop} {W : Nat} {g : JFrame} {a : Addr} {argsL rest : List Value}
    (X : Stand p l e R s m args below meth c T locs cells slots) (hx : p.tables.exec = Jvm.exec) (hZ : Z.Warmed39 s.vm) (eT : T.heap = h) (hown : s.vm.findClass own = some m.cls)
    (w1 : (Jvm.Cond.methodLink own index xi).before a0 Z = true) (w2 : (Jvm.Cond.declares xi).before a0 Z = true) (w7 : (Jvm.Cond.interfaceMethod xi.cls xi.cls xi.name xi.desc).before args s = true) (w5 : (Jvm.Cond.selects C xi y).before a0 Z = true) (w6 : (Jvm.Cond.instanceMethod y).before a0 Z = true)
    (w8 : (Jvm.Cond.publicMethod y).before a0 Z = true) (w9 : (Jvm.Cond.unhidden C xi.name xi.desc).before a0 Z = true) (w10 : (Jvm.Cond.castable C xi.cls).before a0 Z = true) (w3 : (Jvm.Cond.initialized y.cls).before a0 Z = true) (w4 : (Jvm.Cond.code y bytes maxL ret).before a0 Z = true)
    (hy : xi.cls ≠ "java/lang/invoke/MethodHandle" ∧ xi.cls ≠ "java/lang/invoke/VarHandle") (E : Exa Z h a C)
    (hM : Con l Z y bytes maxL ret [] rm as' h rm.cells rm.slots Q)
    (hf : rm.frames + 1 ≤ R.frames) (hl : W + (maxL + 11) + rm.locals ≤ R.locals) (hc : cells + rm.cells ≤ R.cells) (hs : slots + rm.slots ≤ R.slots)
    (hg : g.method = m) (hsize : g.locals.size = c.maxLocals) (has : (Value.ref a :: argsL).toArray = as') (hlen : ∀ sig, parseMethodDescriptor xi.desc = some sig → argsL.length = sig.parameters.length)
    (hstack : g.stack = argsL.reverse ++ .ref a :: rest) (hW : 2 * g.monitorRoom + (rest.map fun v => v.category).sum ≤ W) (hdg : decode c.code g.pc = .ok (.invokeinterface index count, 5)) :
    ∃ v T' L, Stand p l e R s m args below meth c T' (locs ++ L) (cells + rm.cells) (slots + rm.slots) ∧ Q v T'.heap L ∧ ∀ target, Steps p.tables e below (T'.setTop { g with pc := g.pc + 5, stack := v.toList ++ rest }) target → Steps p.tables e below (T.setTop g) target := by
  obtain ⟨cq, kq, qa, qb, qc⟩ := isOf hZ eT E
  obtain ⟨v, _, ⟨T', L', k', n'⟩, -, X', ⟨L, hQ, l', y', z'⟩, st⟩ := X.interfaceBack hx (xi := xi) (y := y) hown (mvT hZ w1) (mvT hZ w2) w7 (mvT hZ w5) (mvT hZ w6) (mvT hZ w8) (mvT hZ w9) (mvT hZ w10) hy (backOf (W := W) hM hZ w4 w3 hf hl) qa qb qc (g := g) hg hsize (Steps.refl _) (argsL := argsL) (rest := rest) hlen hstack hW hdg (fun _ _ => ⟨has, eT, hc, hs⟩)
  dsimp only [Pt.U, Pt.locs, Pt.cells, Pt.slots] at X' l' y' z' st hQ
  subst l' y' z'
  exact ⟨v, T', L, X', hQ, fun _ k => st.trans k⟩
theorem own_ns_root {O K : String} {n : Nat} (w : (Jvm.Cond.noSuperclass O).before a0 Z = true) (wk : (Jvm.Cond.instantiable K n).before a0 Z = true) (hn : O ≠ K) : NS Z O K := by
  obtain ⟨c, k, h1, h2, h3, -, -⟩ := Cond.noSuperclass_spec w
  obtain ⟨t, kt, g1, -⟩ := Cond.instantiable_spec wk
  have ne := ids_ne h1 g1 hn
  refine ⟨c, t, h1, g1, fun fuel => ?_⟩
  cases fuel with
  | zero => rfl
  | succ f => simp [Vm.isSubclassAux, ne, h2, h3]
theorem own_ns_no {C S K : String} {n : Nat} (w : (Jvm.Cond.superclass C S).before a0 Z = true) (wk : (Jvm.Cond.instantiable K n).before a0 Z = true) (hN : NS Z C K) (hn : C ≠ K) : ∃ c t, Z.vm.findClass C = some c ∧ Z.vm.findClass K = some t ∧ Z.vm.assignable c t = false := by
  obtain ⟨c, t, h0, g0, n3⟩ := hN
  obtain ⟨p, k, kp, h1, h2, h3, h4, h5, -, h7⟩ := Cond.superclass_spec h0 w
  obtain ⟨t', kt, g1, g2, g3, g4, -⟩ := Cond.instantiable_spec wk
  cases g0.symm.trans g1
  have g7 : kt.isInterface = false := by
    cases hq : kt.isInterface
    · rfl
    · simp [hq] at g4
  have ne := ids_ne h0 g0 hn
  refine ⟨c, t, h0, g0, ?_⟩
  show Z.vm.assignableAux (255 + 1) c t = false
  simp [Vm.assignableAux, ne, h2, g2, h5, g3, g7, Vm.isSubclass, n3]
end OwnKit
section OwnStart
variable {args : Array Value} {Z : State}
theorem own_eq_int {t : Term} {k : Int32} (h : (Jvm.Cond.eq t (.int k)).value args Z none Z [] = some true) : t.eval args Z none [] Z = some (.int k) := by
  obtain ⟨a, b, h1, h2, h3, h4⟩ := cmp_v (Or.inl h)
  have hb : b = .int k := Option.some.inj (h2.symm.trans (Term.int_eval k))
  subst hb
  obtain ⟨z, rfl⟩ : ∃ z, a = .int z := h4
  have q : z = k := by simpa [Cond.value, h1, h2] using h
  rw [h1, q]
theorem own_eq_ref {t u : Term} {a : Addr} (h : (Jvm.Cond.eq t u).value args Z none Z [] = some true) (hu : u.eval args Z none [] Z = some (.ref a)) : t.eval args Z none [] Z = some (.ref a) := by
  obtain ⟨x, y, h1, h2, h3, h4⟩ := cmp_v (Or.inl h)
  have hb : y = .ref a := Option.some.inj (h2.symm.trans hu)
  subst hb
  obtain ⟨-, q⟩ : Value.isRef (.ref a) = true ∧ x.isRef = true := h4
  have e := eq_R (a := t) (b := u) h1 h2 q rfl
  rw [e] at h
  have r : x = .ref a := by simpa using h
  rw [h1, r]
theorem own_ne0 {t : Term} {z : Int32} (ht : t.eval args Z none [] Z = some (.int z)) (h : (Jvm.Cond.not (Jvm.Cond.eq t (.int 0))).value args Z none Z [] = some true) : z ≠ 0 := by
  have q := not_v h
  intro e
  subst e
  simp [Cond.value, ht, Term.eval] at q
theorem own_fld {t : Term} {C n d : String} {a : Addr} {v : Value} (ht : t.eval args Z none [] Z = some (.ref a)) (h : (Term.field t C n d).eval args Z none [] Z = some v) : Fld Z Z.heap a C n d v := Fld.start ((fld_at ht).symm.trans h)
theorem own_len {t : Term} {a : Addr} {c : Cell} {k : Int32} {ty : FieldType} (ht : t.eval args Z none [] Z = some (.ref a)) (A : Arr Z Z.heap a c ty) (h : (Term.length t).eval args Z none [] Z = some (.int k)) : c.slots.size < 2 ^ 31 ∧ c.slots.size.toInt32 = k := by
  have q : Z.arrayAt? a = some c := A.fin (Vm.Alike.refl _)
  by_cases hl : c.slots.size < 2 ^ 31
  · have e := (len_f (t := t) ht q hl).symm.trans h
    exact ⟨hl, by simpa using e⟩
  · exfalso
    have hl' : ¬ c.slots.size < 2147483648 := hl
    simp [Term.eval, ht, q, hl'] at h
theorem own_slot {t : Term} {a : Addr} {c : Cell} {ty : FieldType} {v : Value} {j : Int32} (ht : t.eval args Z none [] Z = some (.ref a)) (A : Arr Z Z.heap a c ty) (h : (Term.elem t (.int j)).eval args Z none [] Z = some v) : c.slots[j.toNatClampNeg]? = some v := (elem_in h ht (Term.int_eval j) A.1).2
end OwnStart
theorem dmethod_1_code_0 : decode method_1_code 0 = .ok (.aload_n 0, 1) := by decide +kernel
theorem dmethod_1_code_1 : decode method_1_code 1 = .ok (.lload_n 1, 1) := by decide +kernel
theorem dmethod_1_code_2 : decode method_1_code 2 = .ok (.invokespecial 1, 3) := by decide +kernel
theorem dmethod_1_code_5 : decode method_1_code 5 = .ok (.return_, 1) := by decide +kernel
theorem dprog_27_method_1_code_0 : decode prog_27_method_1_code 0 = .ok (.aload_n 0, 1) := by decide +kernel
theorem dprog_27_method_1_code_1 : decode prog_27_method_1_code 1 = .ok (.invokespecial 1, 3) := by decide +kernel
theorem dprog_27_method_1_code_4 : decode prog_27_method_1_code 4 = .ok (.aload_n 0, 1) := by decide +kernel
theorem dprog_27_method_1_code_5 : decode prog_27_method_1_code 5 = .ok (.aload_n 1, 1) := by decide +kernel
theorem dprog_27_method_1_code_6 : decode prog_27_method_1_code 6 = .ok (.putfield 7, 3) := by decide +kernel
theorem dprog_27_method_1_code_9 : decode prog_27_method_1_code 9 = .ok (.return_, 1) := by decide +kernel
theorem dprog_27_method_5_code_0 : decode prog_27_method_5_code 0 = .ok (.aload_n 1, 1) := by decide +kernel
theorem dprog_27_method_5_code_1 : decode prog_27_method_5_code 1 = .ok (.getfield 35, 3) := by decide +kernel
theorem dprog_27_method_5_code_4 : decode prog_27_method_5_code 4 = .ok (.ifnull 25, 3) := by decide +kernel
theorem dprog_27_method_5_code_7 : decode prog_27_method_5_code 7 = .ok (.aload_n 1, 1) := by decide +kernel
theorem dprog_27_method_5_code_8 : decode prog_27_method_5_code 8 = .ok (.getfield 35, 3) := by decide +kernel
theorem dprog_27_method_5_code_11 : decode prog_27_method_5_code 11 = .ok (.astore_n 2, 1) := by decide +kernel
theorem dprog_27_method_5_code_12 : decode prog_27_method_5_code 12 = .ok (.aload_n 2, 1) := by decide +kernel
theorem dprog_27_method_5_code_13 : decode prog_27_method_5_code 13 = .ok (.getfield 32, 3) := by decide +kernel
theorem dprog_27_method_5_code_16 : decode prog_27_method_5_code 16 = .ok (.ifnull 11, 3) := by decide +kernel
theorem dprog_27_method_5_code_19 : decode prog_27_method_5_code 19 = .ok (.aload_n 2, 1) := by decide +kernel
theorem dprog_27_method_5_code_20 : decode prog_27_method_5_code 20 = .ok (.getfield 32, 3) := by decide +kernel
theorem dprog_27_method_5_code_23 : decode prog_27_method_5_code 23 = .ok (.astore_n 2, 1) := by decide +kernel
theorem dprog_27_method_5_code_24 : decode prog_27_method_5_code 24 = .ok (.goto (-12), 3) := by decide +kernel
theorem dprog_27_method_5_code_27 : decode prog_27_method_5_code 27 = .ok (.aload_n 2, 1) := by decide +kernel
theorem dprog_27_method_5_code_28 : decode prog_27_method_5_code 28 = .ok (.areturn, 1) := by decide +kernel
theorem dprog_27_method_5_code_29 : decode prog_27_method_5_code 29 = .ok (.aload_n 1, 1) := by decide +kernel
theorem dprog_27_method_5_code_30 : decode prog_27_method_5_code 30 = .ok (.astore_n 2, 1) := by decide +kernel
theorem dprog_27_method_5_code_31 : decode prog_27_method_5_code 31 = .ok (.aload_n 1, 1) := by decide +kernel
theorem dprog_27_method_5_code_32 : decode prog_27_method_5_code 32 = .ok (.getfield 44, 3) := by decide +kernel
theorem dprog_27_method_5_code_35 : decode prog_27_method_5_code 35 = .ok (.astore_n 3, 1) := by decide +kernel
theorem dprog_27_method_5_code_36 : decode prog_27_method_5_code 36 = .ok (.aload_n 3, 1) := by decide +kernel
theorem dprog_27_method_5_code_37 : decode prog_27_method_5_code 37 = .ok (.ifnull 21, 3) := by decide +kernel
theorem dprog_27_method_5_code_40 : decode prog_27_method_5_code 40 = .ok (.aload_n 2, 1) := by decide +kernel
theorem dprog_27_method_5_code_41 : decode prog_27_method_5_code 41 = .ok (.aload_n 3, 1) := by decide +kernel
theorem dprog_27_method_5_code_42 : decode prog_27_method_5_code 42 = .ok (.getfield 35, 3) := by decide +kernel
theorem dprog_27_method_5_code_45 : decode prog_27_method_5_code 45 = .ok (.if_acmp .ne 13, 3) := by decide +kernel
theorem dprog_27_method_5_code_48 : decode prog_27_method_5_code 48 = .ok (.aload_n 3, 1) := by decide +kernel
theorem dprog_27_method_5_code_49 : decode prog_27_method_5_code 49 = .ok (.astore_n 2, 1) := by decide +kernel
theorem dprog_27_method_5_code_50 : decode prog_27_method_5_code 50 = .ok (.aload_n 3, 1) := by decide +kernel
theorem dprog_27_method_5_code_51 : decode prog_27_method_5_code 51 = .ok (.getfield 44, 3) := by decide +kernel
theorem dprog_27_method_5_code_54 : decode prog_27_method_5_code 54 = .ok (.astore_n 3, 1) := by decide +kernel
theorem dprog_27_method_5_code_55 : decode prog_27_method_5_code 55 = .ok (.goto (-19), 3) := by decide +kernel
theorem dprog_27_method_5_code_58 : decode prog_27_method_5_code 58 = .ok (.aload_n 3, 1) := by decide +kernel
theorem dprog_27_method_5_code_59 : decode prog_27_method_5_code 59 = .ok (.areturn, 1) := by decide +kernel
theorem dprog_28_method_1_code_0 : decode prog_28_method_1_code 0 = .ok (.aload_n 0, 1) := by decide +kernel
theorem dprog_28_method_1_code_1 : decode prog_28_method_1_code 1 = .ok (.invokespecial 1, 3) := by decide +kernel
theorem dprog_28_method_1_code_4 : decode prog_28_method_1_code 4 = .ok (.aload_n 0, 1) := by decide +kernel
theorem dprog_28_method_1_code_5 : decode prog_28_method_1_code 5 = .ok (.lload_n 1, 1) := by decide +kernel
theorem dprog_28_method_1_code_6 : decode prog_28_method_1_code 6 = .ok (.putfield 7, 3) := by decide +kernel
theorem dprog_28_method_1_code_9 : decode prog_28_method_1_code 9 = .ok (.return_, 1) := by decide +kernel
theorem pn_0 : plainName "com/example/dwellgate/dwellgate/book/PriceTree" = true := by first | (simp [plainName, overriddenIn]; done) | decide +kernel
theorem pn_1 : plainName "com/example/dwellgate/dwellgate/book/PriceTree$Node" = true := by first | (simp [plainName, overriddenIn]; done) | decide +kernel
theorem pn_2 : plainName "com/example/dwellgate/dwellgate/book/PriceTreeNextPinLaw" = true := by first | (simp [plainName, overriddenIn]; done) | decide +kernel
theorem pd_0 : parseMethodDescriptor "(Lcom/example/dwellgate/dwellgate/book/Side;)V" = some ⟨[(.object "com/example/dwellgate/dwellgate/book/Side")], none⟩ := by decide +kernel
theorem pd_1 : parseMethodDescriptor "(J)V" = some ⟨[.long], none⟩ := by decide +kernel
theorem pd_2 : parseMethodDescriptor "(Lcom/example/dwellgate/dwellgate/book/PriceTree$Node;)Lcom/example/dwellgate/dwellgate/book/PriceTree$Node;" = some ⟨[(.object "com/example/dwellgate/dwellgate/book/PriceTree$Node")], some (.object "com/example/dwellgate/dwellgate/book/PriceTree$Node")⟩ := by decide +kernel
theorem ef_1 (m : MethodId) (o0 : Addr) (o1 : Addr) : entryFrame m #[(.ref o0), (.ref o1)] 2 = mkF m 0 #[.val (.ref o0), .val (.ref o1)] [] := by first | (simp [entryFrame, mkF, argsToLocals, Value.category, maxLocals]; done) | rfl
def Q1 (Z : State) (o0 : Addr) (o1 : Addr) (u_o0_side : Value) (h0 : Heap) (n0 : Nat) (v : Option Value) (h : Heap) (L : List Loc) : Prop := (v = none ∧ Fr n0 L ∧ Keep h0 h [o0] ∧ Exa Z h o0 "com/example/dwellgate/dwellgate/book/PriceTree" ∧ Fld Z h o0 "com/example/dwellgate/dwellgate/book/PriceTree" "side" "Lcom/example/dwellgate/dwellgate/book/Side;" (.ref o1))
set_option maxRecDepth 65536 in
set_option maxHeartbeats 40000000 in
theorem rm1 (l : Launch) (Z : State) (a0 : Array Value) (hw : ∀ d ∈ tables_1, d.before a0 Z = true) (ws : List Jvm.Cond) (o0 : Addr) (o1 : Addr) (u_o0_side : Value) (h0 : Heap) (n0 : Nat) (Z0 : n0 ≤ h0.size) (E_o0 : Exa Z h0 o0 "com/example/dwellgate/dwellgate/book/PriceTree") (F_o0_side : Fld Z h0 o0 "com/example/dwellgate/dwellgate/book/PriceTree" "side" "Lcom/example/dwellgate/dwellgate/book/Side;" u_o0_side) (g_o0 : n0 ≤ o0) :
    Con l Z (⟨"com/example/dwellgate/dwellgate/book/PriceTree", "<init>", "(Lcom/example/dwellgate/dwellgate/book/Side;)V"⟩ : MethodName) prog_27_method_1_code 2 none ws ({ frames := 1, cells := 0, slots := 0, locals := 12 } : Room) #[(.ref o0), (.ref o1)] h0 0 0 (Q1 Z o0 o1 u_o0_side h0 n0) := by
  refine MetFree.of_bodySF (plainFor_of_name pn_0) hisR ?_
  intro p e s m args below meth c s₁ Bd hml0 hP hK
  obtain ⟨rfl, hZ, hh⟩ := hP
  have hx := Bd.exec
  have hby := Bd.bytes
  have hml : c.maxLocals = 2 := hml0
  have hown : s.vm.findClass "com/example/dwellgate/dwellgate/book/PriceTree" = some m.cls := findClass_of_methodNamed Bd.named
  have hnm := (name_of_methodNamed Bd.named Bd.method).1
  have X0 : Stand p l e ({ frames := 1, cells := 0, slots := 0, locals := 12 } : Room) s m #[(.ref o0), (.ref o1)] below meth c s₁ [] 0 0 := Stand.of_body Bd
  have e0 : s₁.heap = h0 := by rw [← hh, Bd.state]; rfl
  have N0 := Fr.nil n0
  refine Go.of ?_
  refine Go.st (S' := s₁.setTop (mkF m 0 #[.val (.ref o0), .val (.ref o1)] [])) (fun t k => castTop (ef_1 m o0 o1) k) ?_
  refine Go.st (S' := s₁.setTop (mkF m 1 #[.val (.ref o0), .val (.ref o1)] [(.ref o0)])) (fun t k => XS.aloadN X0.here hx rfl (hb hby dprog_27_method_1_code_0) rfl rfl k) ?_
  obtain ⟨T37, X37, e37, st37⟩ := initO X0 hx hZ hown (hw _ (List.mem_of_getElem? (i := 9) rfl)) (hw _ (List.mem_of_getElem? (i := 10) rfl)) (hw _ (List.mem_of_getElem? (i := 11) rfl)) e0 (g := (mkF m 1 #[.val (.ref o0), .val (.ref o1)] [(.ref o0)])) rfl (by rw [hml]; rfl) rfl (hb hby dprog_27_method_1_code_1) (by decide) (W := 0) (by show 2 * 0 + _ ≤ _; exact Nat.le_of_eq rfl) (by decide)
  refine Go.st (S' := T37.setTop (mkF m 4 #[.val (.ref o0), .val (.ref o1)] [])) st37 ?_
  refine Go.st (S' := T37.setTop (mkF m 5 #[.val (.ref o0), .val (.ref o1)] [(.ref o0)])) (fun t k => XS.aloadN X37.here hx rfl (hb hby dprog_27_method_1_code_4) rfl rfl k) ?_
  refine Go.st (S' := T37.setTop (mkF m 6 #[.val (.ref o0), .val (.ref o1)] [(.ref o1), (.ref o0)])) (fun t k => XS.aloadN X37.here hx rfl (hb hby dprog_27_method_1_code_5) rfl rfl k) ?_
  obtain ⟨T38, h38, X38, e38, W38, st38⟩ := putF X37 hx hZ hown (host := "") (Or.inl (hw _ (List.mem_of_getElem? (i := 12) rfl))) Via.refl e37 F_o0_side E_o0 (Or.inr ⟨(hw _ (List.mem_of_getElem? (i := 13) rfl)), rfl, hnm⟩) (hw _ (List.mem_of_getElem? (i := 4) rfl)) (ty := (.object "com/example/dwellgate/dwellgate/book/Side")) (by decide) rfl rfl (g := (mkF m 6 #[.val (.ref o0), .val (.ref o1)] [(.ref o1), (.ref o0)])) rfl rfl (hb hby dprog_27_method_1_code_6)
  have Fw38 := (F_o0_side).same W38
  have N38 := Fr.snoc X38 N0 g_o0
  have Z39 : n0 ≤ h38.size := Nat.le_trans Z0 (Keep.of_wr W38).1
  have K39 : Keep h0 h38 [o0] := (Keep.refl h0 [o0]).wr W38 (Or.inl (by simp))
  refine Go.st (S' := T38.setTop (mkF m 9 #[.val (.ref o0), .val (.ref o1)] [])) st38 ?_
  have f40 := ((E_o0).wr W38)
  exact Go.ret X38 (v := none) (fun _ => rfl) Bd.notSynchronized (fun fs hr => X38.returnOut hx Bd.returns (hb hby dprog_27_method_1_code_9) hr) (by decide) (by decide) (by rw [e38]; exact ⟨rfl, N38, K39, f40, Fw38⟩)
theorem ef_2 (m : MethodId) (o0 : Addr) (q1 : Int64) : entryFrame m #[(.ref o0), (.long q1)] 3 = mkF m 0 #[.val (.ref o0), .val (.long q1), .second] [] := by first | (simp [entryFrame, mkF, argsToLocals, Value.category, maxLocals]; done) | rfl
def Q2 (Z : State) (o0 : Addr) (q1 : Int64) (u_o0_key : Value) (h0 : Heap) (n0 : Nat) (v : Option Value) (h : Heap) (L : List Loc) : Prop := (v = none ∧ Fr n0 L ∧ Keep h0 h [o0] ∧ Exa Z h o0 "com/example/dwellgate/dwellgate/book/PriceTreeNextPinLaw" ∧ Fld Z h o0 "com/example/dwellgate/dwellgate/book/PriceTree$Node" "key" "J" (.long q1))
set_option maxRecDepth 65536 in
set_option maxHeartbeats 40000000 in
theorem rm2 (l : Launch) (Z : State) (a0 : Array Value) (hw : ∀ d ∈ tables_1, d.before a0 Z = true) (ws : List Jvm.Cond) (o0 : Addr) (q1 : Int64) (u_o0_key : Value) (h0 : Heap) (n0 : Nat) (Z0 : n0 ≤ h0.size) (E_o0 : Exa Z h0 o0 "com/example/dwellgate/dwellgate/book/PriceTreeNextPinLaw") (F_o0_key : Fld Z h0 o0 "com/example/dwellgate/dwellgate/book/PriceTree$Node" "key" "J" u_o0_key) (g_o0 : n0 ≤ o0) :
    Con l Z (⟨"com/example/dwellgate/dwellgate/book/PriceTree$Node", "<init>", "(J)V"⟩ : MethodName) prog_28_method_1_code 3 none ws ({ frames := 1, cells := 0, slots := 0, locals := 12 } : Room) #[(.ref o0), (.long q1)] h0 0 0 (Q2 Z o0 q1 u_o0_key h0 n0) := by
  refine MetFree.of_bodySF (plainFor_of_name pn_1) hisR ?_
  intro p e s m args below meth c s₁ Bd hml0 hP hK
  obtain ⟨rfl, hZ, hh⟩ := hP
  have hx := Bd.exec
  have hby := Bd.bytes
  have hml : c.maxLocals = 3 := hml0
  have hown : s.vm.findClass "com/example/dwellgate/dwellgate/book/PriceTree$Node" = some m.cls := findClass_of_methodNamed Bd.named
  have hnm := (name_of_methodNamed Bd.named Bd.method).1
  have X0 : Stand p l e ({ frames := 1, cells := 0, slots := 0, locals := 12 } : Room) s m #[(.ref o0), (.long q1)] below meth c s₁ [] 0 0 := Stand.of_body Bd
  have e0 : s₁.heap = h0 := by rw [← hh, Bd.state]; rfl
  have N0 := Fr.nil n0
  refine Go.of ?_
  refine Go.st (S' := s₁.setTop (mkF m 0 #[.val (.ref o0), .val (.long q1), .second] [])) (fun t k => castTop (ef_2 m o0 q1) k) ?_
  refine Go.st (S' := s₁.setTop (mkF m 1 #[.val (.ref o0), .val (.long q1), .second] [(.ref o0)])) (fun t k => XS.aloadN X0.here hx rfl (hb hby dprog_28_method_1_code_0) rfl rfl k) ?_
  obtain ⟨T49, X49, e49, st49⟩ := initO X0 hx hZ hown (hw _ (List.mem_of_getElem? (i := 25) rfl)) (hw _ (List.mem_of_getElem? (i := 10) rfl)) (hw _ (List.mem_of_getElem? (i := 11) rfl)) e0 (g := (mkF m 1 #[.val (.ref o0), .val (.long q1), .second] [(.ref o0)])) rfl (by rw [hml]; rfl) rfl (hb hby dprog_28_method_1_code_1) (by decide) (W := 0) (by show 2 * 0 + _ ≤ _; exact Nat.le_of_eq rfl) (by decide)
  refine Go.st (S' := T49.setTop (mkF m 4 #[.val (.ref o0), .val (.long q1), .second] [])) st49 ?_
  refine Go.st (S' := T49.setTop (mkF m 5 #[.val (.ref o0), .val (.long q1), .second] [(.ref o0)])) (fun t k => XS.aloadN X49.here hx rfl (hb hby dprog_28_method_1_code_4) rfl rfl k) ?_
  refine Go.st (S' := T49.setTop (mkF m 6 #[.val (.ref o0), .val (.long q1), .second] [(.long q1), (.ref o0)])) (fun t k => XS.lloadN X49.here hx rfl (hb hby dprog_28_method_1_code_5) rfl k) ?_
  obtain ⟨T50, h50, X50, e50, W50, st50⟩ := putF X49 hx hZ hown (host := "") (Or.inl (hw _ (List.mem_of_getElem? (i := 26) rfl))) Via.refl e49 F_o0_key E_o0 (Or.inl (hw _ (List.mem_of_getElem? (i := 27) rfl))) (hw _ (List.mem_of_getElem? (i := 15) rfl)) (ty := .long) (by decide) rfl rfl (g := (mkF m 6 #[.val (.ref o0), .val (.long q1), .second] [(.long q1), (.ref o0)])) rfl rfl (hb hby dprog_28_method_1_code_6)
  have Fw50 := (F_o0_key).same W50
  have N50 := Fr.snoc X50 N0 g_o0
  have Z51 : n0 ≤ h50.size := Nat.le_trans Z0 (Keep.of_wr W50).1
  have K51 : Keep h0 h50 [o0] := (Keep.refl h0 [o0]).wr W50 (Or.inl (by simp))
  refine Go.st (S' := T50.setTop (mkF m 9 #[.val (.ref o0), .val (.long q1), .second] [])) st50 ?_
  have f52 := ((E_o0).wr W50)
  exact Go.ret X50 (v := none) (fun _ => rfl) Bd.notSynchronized (fun fs hr => X50.returnOut hx Bd.returns (hb hby dprog_28_method_1_code_9) hr) (by decide) (by decide) (by rw [e50]; exact ⟨rfl, N50, K51, f52, Fw50⟩)
theorem ef_3 (m : MethodId) (o0 : Addr) (q1 : Int64) : entryFrame m #[(.ref o0), (.long q1)] 3 = mkF m 0 #[.val (.ref o0), .val (.long q1), .second] [] := by first | (simp [entryFrame, mkF, argsToLocals, Value.category, maxLocals]; done) | rfl
def Q3 (Z : State) (o0 : Addr) (q1 : Int64) (u_o0_key : Value) (u_o0_left : Value) (u_o0_parent : Value) (u_o0_right : Value) (h0 : Heap) (n0 : Nat) (v : Option Value) (h : Heap) (L : List Loc) : Prop := (v = none ∧ Fr n0 L ∧ Keep h0 h [o0] ∧ Exa Z h o0 "com/example/dwellgate/dwellgate/book/PriceTreeNextPinLaw" ∧ Fld Z h o0 "com/example/dwellgate/dwellgate/book/PriceTree$Node" "key" "J" (.long q1) ∧ Fld Z h o0 "com/example/dwellgate/dwellgate/book/PriceTree$Node" "left" "Lcom/example/dwellgate/dwellgate/book/PriceTree$Node;" u_o0_left ∧ Fld Z h o0 "com/example/dwellgate/dwellgate/book/PriceTree$Node" "parent" "Lcom/example/dwellgate/dwellgate/book/PriceTree$Node;" u_o0_parent ∧ Fld Z h o0 "com/example/dwellgate/dwellgate/book/PriceTree$Node" "right" "Lcom/example/dwellgate/dwellgate/book/PriceTree$Node;" u_o0_right)
set_option maxRecDepth 65536 in
set_option maxHeartbeats 40000000 in
theorem rm3 (l : Launch) (Z : State) (a0 : Array Value) (hw : ∀ d ∈ tables_1, d.before a0 Z = true) (ws : List Jvm.Cond) (o0 : Addr) (q1 : Int64) (u_o0_key : Value) (u_o0_left : Value) (u_o0_parent : Value) (u_o0_right : Value) (h0 : Heap) (n0 : Nat) (Z0 : n0 ≤ h0.size) (E_o0 : Exa Z h0 o0 "com/example/dwellgate/dwellgate/book/PriceTreeNextPinLaw") (F_o0_key : Fld Z h0 o0 "com/example/dwellgate/dwellgate/book/PriceTree$Node" "key" "J" u_o0_key) (g_o0 : n0 ≤ o0) (F_o0_left : Fld Z h0 o0 "com/example/dwellgate/dwellgate/book/PriceTree$Node" "left" "Lcom/example/dwellgate/dwellgate/book/PriceTree$Node;" u_o0_left) (F_o0_parent : Fld Z h0 o0 "com/example/dwellgate/dwellgate/book/PriceTree$Node" "parent" "Lcom/example/dwellgate/dwellgate/book/PriceTree$Node;" u_o0_parent) (F_o0_right : Fld Z h0 o0 "com/example/dwellgate/dwellgate/book/PriceTree$Node" "right" "Lcom/example/dwellgate/dwellgate/book/PriceTree$Node;" u_o0_right) :
    Con l Z (⟨"com/example/dwellgate/dwellgate/book/PriceTree$Node", "<init>", "(J)V"⟩ : MethodName) prog_28_method_1_code 3 none ws ({ frames := 1, cells := 0, slots := 0, locals := 12 } : Room) #[(.ref o0), (.long q1)] h0 0 0 (Q3 Z o0 q1 u_o0_key u_o0_left u_o0_parent u_o0_right h0 n0) := by
  refine MetFree.of_bodySF (plainFor_of_name pn_1) hisR ?_
  intro p e s m args below meth c s₁ Bd hml0 hP hK
  obtain ⟨rfl, hZ, hh⟩ := hP
  have hx := Bd.exec
  have hby := Bd.bytes
  have hml : c.maxLocals = 3 := hml0
  have hown : s.vm.findClass "com/example/dwellgate/dwellgate/book/PriceTree$Node" = some m.cls := findClass_of_methodNamed Bd.named
  have hnm := (name_of_methodNamed Bd.named Bd.method).1
  have X0 : Stand p l e ({ frames := 1, cells := 0, slots := 0, locals := 12 } : Room) s m #[(.ref o0), (.long q1)] below meth c s₁ [] 0 0 := Stand.of_body Bd
  have e0 : s₁.heap = h0 := by rw [← hh, Bd.state]; rfl
  have N0 := Fr.nil n0
  refine Go.of ?_
  refine Go.st (S' := s₁.setTop (mkF m 0 #[.val (.ref o0), .val (.long q1), .second] [])) (fun t k => castTop (ef_3 m o0 q1) k) ?_
  refine Go.st (S' := s₁.setTop (mkF m 1 #[.val (.ref o0), .val (.long q1), .second] [(.ref o0)])) (fun t k => XS.aloadN X0.here hx rfl (hb hby dprog_28_method_1_code_0) rfl rfl k) ?_
  obtain ⟨T57, X57, e57, st57⟩ := initO X0 hx hZ hown (hw _ (List.mem_of_getElem? (i := 25) rfl)) (hw _ (List.mem_of_getElem? (i := 10) rfl)) (hw _ (List.mem_of_getElem? (i := 11) rfl)) e0 (g := (mkF m 1 #[.val (.ref o0), .val (.long q1), .second] [(.ref o0)])) rfl (by rw [hml]; rfl) rfl (hb hby dprog_28_method_1_code_1) (by decide) (W := 0) (by show 2 * 0 + _ ≤ _; exact Nat.le_of_eq rfl) (by decide)
  refine Go.st (S' := T57.setTop (mkF m 4 #[.val (.ref o0), .val (.long q1), .second] [])) st57 ?_
  refine Go.st (S' := T57.setTop (mkF m 5 #[.val (.ref o0), .val (.long q1), .second] [(.ref o0)])) (fun t k => XS.aloadN X57.here hx rfl (hb hby dprog_28_method_1_code_4) rfl rfl k) ?_
  refine Go.st (S' := T57.setTop (mkF m 6 #[.val (.ref o0), .val (.long q1), .second] [(.long q1), (.ref o0)])) (fun t k => XS.lloadN X57.here hx rfl (hb hby dprog_28_method_1_code_5) rfl k) ?_
  obtain ⟨T58, h58, X58, e58, W58, st58⟩ := putF X57 hx hZ hown (host := "") (Or.inl (hw _ (List.mem_of_getElem? (i := 26) rfl))) Via.refl e57 F_o0_key E_o0 (Or.inl (hw _ (List.mem_of_getElem? (i := 27) rfl))) (hw _ (List.mem_of_getElem? (i := 15) rfl)) (ty := .long) (by decide) rfl rfl (g := (mkF m 6 #[.val (.ref o0), .val (.long q1), .second] [(.long q1), (.ref o0)])) rfl rfl (hb hby dprog_28_method_1_code_6)
  have Fw58 := (F_o0_key).same W58
  have N58 := Fr.snoc X58 N0 g_o0
  have Z59 : n0 ≤ h58.size := Nat.le_trans Z0 (Keep.of_wr W58).1
  have K59 : Keep h0 h58 [o0] := (Keep.refl h0 [o0]).wr W58 (Or.inl (by simp))
  refine Go.st (S' := T58.setTop (mkF m 9 #[.val (.ref o0), .val (.long q1), .second] [])) st58 ?_
  have f60 := ((F_o0_left).other W58 (Or.inr (slot_ne (Or.inl (hw _ (List.mem_of_getElem? (i := 35) rfl))) (Or.inl (hw _ (List.mem_of_getElem? (i := 27) rfl))) (by decide) (t := (.object "com/example/dwellgate/dwellgate/book/PriceTree$Node")) (t' := .long) (by decide) (by decide))))
  have f61 := ((F_o0_parent).other W58 (Or.inr (slot_ne (Or.inl (hw _ (List.mem_of_getElem? (i := 38) rfl))) (Or.inl (hw _ (List.mem_of_getElem? (i := 27) rfl))) (by decide) (t := (.object "com/example/dwellgate/dwellgate/book/PriceTree$Node")) (t' := .long) (by decide) (by decide))))
  have f62 := ((F_o0_right).other W58 (Or.inr (slot_ne (Or.inl (hw _ (List.mem_of_getElem? (i := 41) rfl))) (Or.inl (hw _ (List.mem_of_getElem? (i := 27) rfl))) (by decide) (t := (.object "com/example/dwellgate/dwellgate/book/PriceTree$Node")) (t' := .long) (by decide) (by decide))))
  have f63 := ((E_o0).wr W58)
  exact Go.ret X58 (v := none) (fun _ => rfl) Bd.notSynchronized (fun fs hr => X58.returnOut hx Bd.returns (hb hby dprog_28_method_1_code_9) hr) (by decide) (by decide) (by rw [e58]; exact ⟨rfl, N58, K59, f63, Fw58, f60, f61, f62⟩)
theorem ef_4 (m : MethodId) (o0 : Addr) (q1 : Int64) : entryFrame m #[(.ref o0), (.long q1)] 3 = mkF m 0 #[.val (.ref o0), .val (.long q1), .second] [] := by first | (simp [entryFrame, mkF, argsToLocals, Value.category, maxLocals]; done) | rfl
def Q4 (Z : State) (o0 : Addr) (q1 : Int64) (u_o0_key : Int64) (h0 : Heap) (n0 : Nat) (v : Option Value) (h : Heap) (L : List Loc) : Prop := (v = none ∧ Fr n0 L ∧ Keep h0 h [o0] ∧ Exa Z h o0 "com/example/dwellgate/dwellgate/book/PriceTreeNextPinLaw" ∧ Fld Z h o0 "com/example/dwellgate/dwellgate/book/PriceTree$Node" "key" "J" (.long q1) ∧ Fld Z h o0 "com/example/dwellgate/dwellgate/book/PriceTree$Node" "left" "Lcom/example/dwellgate/dwellgate/book/PriceTree$Node;" .null ∧ Fld Z h o0 "com/example/dwellgate/dwellgate/book/PriceTree$Node" "parent" "Lcom/example/dwellgate/dwellgate/book/PriceTree$Node;" .null ∧ Fld Z h o0 "com/example/dwellgate/dwellgate/book/PriceTree$Node" "right" "Lcom/example/dwellgate/dwellgate/book/PriceTree$Node;" .null)
set_option maxRecDepth 65536 in
set_option maxHeartbeats 40000000 in
theorem rm4 (l : Launch) (Z : State) (a0 : Array Value) (hw : ∀ d ∈ tables_1, d.before a0 Z = true) (ws : List Jvm.Cond) (o0 : Addr) (q1 : Int64) (u_o0_key : Int64) (h0 : Heap) (n0 : Nat) (Z0 : n0 ≤ h0.size) (E_o0 : Exa Z h0 o0 "com/example/dwellgate/dwellgate/book/PriceTreeNextPinLaw") (F_o0_key : Fld Z h0 o0 "com/example/dwellgate/dwellgate/book/PriceTree$Node" "key" "J" (.long u_o0_key)) (F_o0_left : Fld Z h0 o0 "com/example/dwellgate/dwellgate/book/PriceTree$Node" "left" "Lcom/example/dwellgate/dwellgate/book/PriceTree$Node;" .null) (F_o0_parent : Fld Z h0 o0 "com/example/dwellgate/dwellgate/book/PriceTree$Node" "parent" "Lcom/example/dwellgate/dwellgate/book/PriceTree$Node;" .null) (F_o0_right : Fld Z h0 o0 "com/example/dwellgate/dwellgate/book/PriceTree$Node" "right" "Lcom/example/dwellgate/dwellgate/book/PriceTree$Node;" .null) (g_o0 : n0 ≤ o0) :
    Con l Z (⟨"com/example/dwellgate/dwellgate/book/PriceTreeNextPinLaw", "<init>", "(J)V"⟩ : MethodName) method_1_code 3 none ws ({ frames := 2, cells := 0, slots := 0, locals := 26 } : Room) #[(.ref o0), (.long q1)] h0 0 0 (Q4 Z o0 q1 u_o0_key h0 n0) := by
  refine MetFree.of_bodySF (plainFor_of_name pn_2) hisR ?_
  intro p e s m args below meth c s₁ Bd hml0 hP hK
  obtain ⟨rfl, hZ, hh⟩ := hP
  have hx := Bd.exec
  have hby := Bd.bytes
  have hml : c.maxLocals = 3 := hml0
  have hown : s.vm.findClass "com/example/dwellgate/dwellgate/book/PriceTreeNextPinLaw" = some m.cls := findClass_of_methodNamed Bd.named
  have hnm := (name_of_methodNamed Bd.named Bd.method).1
  have X0 : Stand p l e ({ frames := 2, cells := 0, slots := 0, locals := 26 } : Room) s m #[(.ref o0), (.long q1)] below meth c s₁ [] 0 0 := Stand.of_body Bd
  have e0 : s₁.heap = h0 := by rw [← hh, Bd.state]; rfl
  have N0 := Fr.nil n0
  refine Go.of ?_
  refine Go.st (S' := s₁.setTop (mkF m 0 #[.val (.ref o0), .val (.long q1), .second] [])) (fun t k => castTop (ef_4 m o0 q1) k) ?_
  refine Go.st (S' := s₁.setTop (mkF m 1 #[.val (.ref o0), .val (.long q1), .second] [(.ref o0)])) (fun t k => XS.aloadN X0.here hx rfl (hb hby dmethod_1_code_0) rfl rfl k) ?_
  refine Go.st (S' := s₁.setTop (mkF m 2 #[.val (.ref o0), .val (.long q1), .second] [(.long q1), (.ref o0)])) (fun t k => XS.lloadN X0.here hx rfl (hb hby dmethod_1_code_1) rfl k) ?_
  obtain ⟨r64, T64, L64, X64, hQ64, st64⟩ := own_callI (W := 0) (a := o0) X0 hx hZ e0 hown (y := (⟨"com/example/dwellgate/dwellgate/book/PriceTree$Node", "<init>", "(J)V"⟩ : MethodName)) rfl (hw _ (List.mem_of_getElem? (i := 20) rfl)) (hw _ (List.mem_of_getElem? (i := 21) rfl)) (hw _ (List.mem_of_getElem? (i := 23) rfl)) (hw _ (List.mem_of_getElem? (i := 24) rfl)) (by decide) (rm3 l Z a0 hw [] o0 q1 ((.long u_o0_key)) (.null) (.null) (.null) h0 n0 Z0 (E_o0) (F_o0_key) (g_o0) (F_o0_left) (F_o0_parent) (F_o0_right)) (by decide) (by decide) (by decide) (by decide) (g := (mkF m 2 #[.val (.ref o0), .val (.long q1), .second] [(.long q1), (.ref o0)])) rfl (by rw [hml]; rfl) (argsL := [(.long q1)]) (rest := []) rfl (lenOf pd_1 rfl) rfl (by show 2 * 0 + _ ≤ _; exact Nat.le_of_eq rfl) (hb hby dmethod_1_code_2)
  obtain ⟨rfl, N64, K64_, f65, f66, f67, f68, f69⟩ := hQ64
  have N64_ := Fr.app N0 N64
  have Z70 : n0 ≤ T64.heap.size := Nat.le_trans Z0 K64_.1
  have K70 : Keep h0 T64.heap [o0] := (Keep.refl h0 [o0]).trans K64_ (allS (Or.inl (by simp)) all0)
  refine Go.st (S' := T64.setTop (mkF m 5 #[.val (.ref o0), .val (.long q1), .second] [])) st64 ?_
  exact Go.ret X64 (v := none) (fun _ => rfl) Bd.notSynchronized (fun fs hr => X64.returnOut hx Bd.returns (hb hby dmethod_1_code_5) hr) (by decide) (by decide) (⟨rfl, N64_, K70, f65, f66, f67, f68, f69⟩)
theorem ef_5 (m : MethodId) (o0 : Addr) (o1 : Addr) : entryFrame m #[(.ref o0), (.ref o1)] 4 = mkF m 0 #[.val (.ref o0), .val (.ref o1), .unset, .unset] [] := by first | (simp [entryFrame, mkF, argsToLocals, Value.category, maxLocals]; done) | rfl
def Q5 (Z : State) (o0 : Addr) (o1 : Addr) (o_2 : Addr) (h0 : Heap) (n0 : Nat) (v : Option Value) (h : Heap) (L : List Loc) : Prop := (v = some (.ref o_2) ∧ Fr n0 L ∧ h = h0)
set_option maxRecDepth 65536 in
set_option maxHeartbeats 40000000 in
theorem rm5 (l : Launch) (Z : State) (a0 : Array Value) (hw : ∀ d ∈ tables_1, d.before a0 Z = true) (ws : List Jvm.Cond) (o0 : Addr) (o1 : Addr) (o_2 : Addr) (h0 : Heap) (n0 : Nat) (Z0 : n0 ≤ h0.size) (F_o1_right : Fld Z h0 o1 "com/example/dwellgate/dwellgate/book/PriceTree$Node" "right" "Lcom/example/dwellgate/dwellgate/book/PriceTree$Node;" (.ref o_2)) (F_o_2_left : Fld Z h0 o_2 "com/example/dwellgate/dwellgate/book/PriceTree$Node" "left" "Lcom/example/dwellgate/dwellgate/book/PriceTree$Node;" .null) :
    Con l Z (⟨"com/example/dwellgate/dwellgate/book/PriceTree", "next", "(Lcom/example/dwellgate/dwellgate/book/PriceTree$Node;)Lcom/example/dwellgate/dwellgate/book/PriceTree$Node;"⟩ : MethodName) prog_27_method_5_code 4 (some (.object "com/example/dwellgate/dwellgate/book/PriceTree$Node")) ws ({ frames := 0, cells := 0, slots := 0, locals := 0 } : Room) #[(.ref o0), (.ref o1)] h0 0 0 (Q5 Z o0 o1 o_2 h0 n0) := by
  refine MetFree.of_bodySF (plainFor_of_name pn_0) hisR ?_
  intro p e s m args below meth c s₁ Bd hml0 hP hK
  obtain ⟨rfl, hZ, hh⟩ := hP
  have hx := Bd.exec
  have hby := Bd.bytes
  have hml : c.maxLocals = 4 := hml0
  have hown : s.vm.findClass "com/example/dwellgate/dwellgate/book/PriceTree" = some m.cls := findClass_of_methodNamed Bd.named
  have hnm := (name_of_methodNamed Bd.named Bd.method).1
  have X0 : Stand p l e ({ frames := 0, cells := 0, slots := 0, locals := 0 } : Room) s m #[(.ref o0), (.ref o1)] below meth c s₁ [] 0 0 := Stand.of_body Bd
  have e0 : s₁.heap = h0 := by rw [← hh, Bd.state]; rfl
  have N0 := Fr.nil n0
  refine Go.of ?_
  refine Go.st (S' := s₁.setTop (mkF m 0 #[.val (.ref o0), .val (.ref o1), .unset, .unset] [])) (fun t k => castTop (ef_5 m o0 o1) k) ?_
  refine Go.st (S' := s₁.setTop (mkF m 1 #[.val (.ref o0), .val (.ref o1), .unset, .unset] [(.ref o1)])) (fun t k => XS.aloadN X0.here hx rfl (hb hby dprog_27_method_5_code_0) rfl rfl k) ?_
  obtain ⟨T252, X252, e252, st252⟩ := getF X0 hx hZ hown (host := "") (Or.inl (hw _ (List.mem_of_getElem? (i := 50) rfl))) Via.refl e0 F_o1_right (g := (mkF m 1 #[.val (.ref o0), .val (.ref o1), .unset, .unset] [(.ref o1)])) rfl rfl (hb hby dprog_27_method_5_code_1)
  refine Go.st (S' := T252.setTop (mkF m 4 #[.val (.ref o0), .val (.ref o1), .unset, .unset] [(.ref o_2)])) st252 ?_
  refine Go.st (S' := T252.setTop (mkF m 7 #[.val (.ref o0), .val (.ref o1), .unset, .unset] [])) (fun t k => XS.ifnullNo X252.here hx rfl (hb hby dprog_27_method_5_code_4) rfl k) ?_
  refine Go.st (S' := T252.setTop (mkF m 8 #[.val (.ref o0), .val (.ref o1), .unset, .unset] [(.ref o1)])) (fun t k => XS.aloadN X252.here hx rfl (hb hby dprog_27_method_5_code_7) rfl rfl k) ?_
  obtain ⟨T253, X253, e253, st253⟩ := getF X252 hx hZ hown (host := "") (Or.inl (hw _ (List.mem_of_getElem? (i := 50) rfl))) Via.refl e252 F_o1_right (g := (mkF m 8 #[.val (.ref o0), .val (.ref o1), .unset, .unset] [(.ref o1)])) rfl rfl (hb hby dprog_27_method_5_code_8)
  refine Go.st (S' := T253.setTop (mkF m 11 #[.val (.ref o0), .val (.ref o1), .unset, .unset] [(.ref o_2)])) st253 ?_
  refine Go.st (S' := T253.setTop (mkF m 12 #[.val (.ref o0), .val (.ref o1), .val (.ref o_2), .unset] [])) (fun t k => XS.astoreN X253.here hx rfl (hb hby dprog_27_method_5_code_11) rfl rfl (l' := #[.val (.ref o0), .val (.ref o1), .val (.ref o_2), .unset]) rfl k) ?_
  refine Go.st (S' := T253.setTop (mkF m 13 #[.val (.ref o0), .val (.ref o1), .val (.ref o_2), .unset] [(.ref o_2)])) (fun t k => XS.aloadN X253.here hx rfl (hb hby dprog_27_method_5_code_12) rfl rfl k) ?_
  obtain ⟨T255, X255, e255, st255⟩ := getF X253 hx hZ hown (host := "") (Or.inl (hw _ (List.mem_of_getElem? (i := 51) rfl))) Via.refl e253 F_o_2_left (g := (mkF m 13 #[.val (.ref o0), .val (.ref o1), .val (.ref o_2), .unset] [(.ref o_2)])) rfl rfl (hb hby dprog_27_method_5_code_13)
  refine Go.st (S' := T255.setTop (mkF m 16 #[.val (.ref o0), .val (.ref o1), .val (.ref o_2), .unset] [.null])) st255 ?_
  refine Go.st (S' := T255.setTop (mkF m 27 #[.val (.ref o0), .val (.ref o1), .val (.ref o_2), .unset] [])) (fun t k => XS.ifnullYes X255.here hx rfl (pc0 := 16) (pc' := 27) rfl (hb hby dprog_27_method_5_code_16) rfl (by decide) (by decide) k) ?_
  refine Go.st (S' := T255.setTop (mkF m 28 #[.val (.ref o0), .val (.ref o1), .val (.ref o_2), .unset] [(.ref o_2)])) (fun t k => XS.aloadN X255.here hx rfl (hb hby dprog_27_method_5_code_27) rfl rfl k) ?_
  exact Go.ret X255 (v := some (.ref o_2)) (fun h => by rw [Bd.returns] at h; cases h) Bd.notSynchronized (fun fs hr => retOut X255 hx Bd.returns rfl (Or.inr (Or.inr (Or.inr (Or.inr ⟨rfl, rfl, rfl⟩)))) (hb hby dprog_27_method_5_code_28) hr) (by decide) (by decide) (⟨rfl, N0, (e255)⟩)
theorem ef_6 (m : MethodId) (o0 : Addr) (o1 : Addr) : entryFrame m #[(.ref o0), (.ref o1)] 4 = mkF m 0 #[.val (.ref o0), .val (.ref o1), .unset, .unset] [] := by first | (simp [entryFrame, mkF, argsToLocals, Value.category, maxLocals]; done) | rfl
def Q6 (Z : State) (o0 : Addr) (o1 : Addr) (o_2 : Addr) (o_3 : Addr) (o_4 : Addr) (h0 : Heap) (n0 : Nat) (v : Option Value) (h : Heap) (L : List Loc) : Prop := (v = some (.ref o_3) ∧ Fr n0 L ∧ h = h0)
set_option maxRecDepth 65536 in
set_option maxHeartbeats 40000000 in
theorem rm6 (l : Launch) (Z : State) (a0 : Array Value) (hw : ∀ d ∈ tables_1, d.before a0 Z = true) (ws : List Jvm.Cond) (o0 : Addr) (o1 : Addr) (o_2 : Addr) (o_3 : Addr) (o_4 : Addr) (h0 : Heap) (n0 : Nat) (Z0 : n0 ≤ h0.size) (F_o1_right : Fld Z h0 o1 "com/example/dwellgate/dwellgate/book/PriceTree$Node" "right" "Lcom/example/dwellgate/dwellgate/book/PriceTree$Node;" .null) (F_o1_parent : Fld Z h0 o1 "com/example/dwellgate/dwellgate/book/PriceTree$Node" "parent" "Lcom/example/dwellgate/dwellgate/book/PriceTree$Node;" (.ref o_2)) (F_o_2_right : Fld Z h0 o_2 "com/example/dwellgate/dwellgate/book/PriceTree$Node" "right" "Lcom/example/dwellgate/dwellgate/book/PriceTree$Node;" (.ref o1)) (F_o_2_parent : Fld Z h0 o_2 "com/example/dwellgate/dwellgate/book/PriceTree$Node" "parent" "Lcom/example/dwellgate/dwellgate/book/PriceTree$Node;" (.ref o_3)) (F_o_3_right : Fld Z h0 o_3 "com/example/dwellgate/dwellgate/book/PriceTree$Node" "right" "Lcom/example/dwellgate/dwellgate/book/PriceTree$Node;" (.ref o_4)) (ne_o_2_o_4 : o_2 ≠ o_4) :
    Con l Z (⟨"com/example/dwellgate/dwellgate/book/PriceTree", "next", "(Lcom/example/dwellgate/dwellgate/book/PriceTree$Node;)Lcom/example/dwellgate/dwellgate/book/PriceTree$Node;"⟩ : MethodName) prog_27_method_5_code 4 (some (.object "com/example/dwellgate/dwellgate/book/PriceTree$Node")) ws ({ frames := 0, cells := 0, slots := 0, locals := 0 } : Room) #[(.ref o0), (.ref o1)] h0 0 0 (Q6 Z o0 o1 o_2 o_3 o_4 h0 n0) := by
  refine MetFree.of_bodySF (plainFor_of_name pn_0) hisR ?_
  intro p e s m args below meth c s₁ Bd hml0 hP hK
  obtain ⟨rfl, hZ, hh⟩ := hP
  have hx := Bd.exec
  have hby := Bd.bytes
  have hml : c.maxLocals = 4 := hml0
  have hown : s.vm.findClass "com/example/dwellgate/dwellgate/book/PriceTree" = some m.cls := findClass_of_methodNamed Bd.named
  have hnm := (name_of_methodNamed Bd.named Bd.method).1
  have X0 : Stand p l e ({ frames := 0, cells := 0, slots := 0, locals := 0 } : Room) s m #[(.ref o0), (.ref o1)] below meth c s₁ [] 0 0 := Stand.of_body Bd
  have e0 : s₁.heap = h0 := by rw [← hh, Bd.state]; rfl
  have N0 := Fr.nil n0
  refine Go.of ?_
  refine Go.st (S' := s₁.setTop (mkF m 0 #[.val (.ref o0), .val (.ref o1), .unset, .unset] [])) (fun t k => castTop (ef_6 m o0 o1) k) ?_
  refine Go.st (S' := s₁.setTop (mkF m 1 #[.val (.ref o0), .val (.ref o1), .unset, .unset] [(.ref o1)])) (fun t k => XS.aloadN X0.here hx rfl (hb hby dprog_27_method_5_code_0) rfl rfl k) ?_
  obtain ⟨T268, X268, e268, st268⟩ := getF X0 hx hZ hown (host := "") (Or.inl (hw _ (List.mem_of_getElem? (i := 50) rfl))) Via.refl e0 F_o1_right (g := (mkF m 1 #[.val (.ref o0), .val (.ref o1), .unset, .unset] [(.ref o1)])) rfl rfl (hb hby dprog_27_method_5_code_1)
  refine Go.st (S' := T268.setTop (mkF m 4 #[.val (.ref o0), .val (.ref o1), .unset, .unset] [.null])) st268 ?_
  refine Go.st (S' := T268.setTop (mkF m 29 #[.val (.ref o0), .val (.ref o1), .unset, .unset] [])) (fun t k => XS.ifnullYes X268.here hx rfl (pc0 := 4) (pc' := 29) rfl (hb hby dprog_27_method_5_code_4) rfl (by decide) (by decide) k) ?_
  refine Go.st (S' := T268.setTop (mkF m 30 #[.val (.ref o0), .val (.ref o1), .unset, .unset] [(.ref o1)])) (fun t k => XS.aloadN X268.here hx rfl (hb hby dprog_27_method_5_code_29) rfl rfl k) ?_
  refine Go.st (S' := T268.setTop (mkF m 31 #[.val (.ref o0), .val (.ref o1), .val (.ref o1), .unset] [])) (fun t k => XS.astoreN X268.here hx rfl (hb hby dprog_27_method_5_code_30) rfl rfl (l' := #[.val (.ref o0), .val (.ref o1), .val (.ref o1), .unset]) rfl k) ?_
  refine Go.st (S' := T268.setTop (mkF m 32 #[.val (.ref o0), .val (.ref o1), .val (.ref o1), .unset] [(.ref o1)])) (fun t k => XS.aloadN X268.here hx rfl (hb hby dprog_27_method_5_code_31) rfl rfl k) ?_
  obtain ⟨T270, X270, e270, st270⟩ := getF X268 hx hZ hown (host := "") (Or.inl (hw _ (List.mem_of_getElem? (i := 55) rfl))) Via.refl e268 F_o1_parent (g := (mkF m 32 #[.val (.ref o0), .val (.ref o1), .val (.ref o1), .unset] [(.ref o1)])) rfl rfl (hb hby dprog_27_method_5_code_32)
  refine Go.st (S' := T270.setTop (mkF m 35 #[.val (.ref o0), .val (.ref o1), .val (.ref o1), .unset] [(.ref o_2)])) st270 ?_
  let A271 : Array Slot := #[.val (.ref o0), .val (.ref o1), .val (.ref o1), .val (.ref o_2)]
  refine Go.st (S' := T270.setTop (mkF m 36 A271 [])) (fun t k => XS.astoreN X270.here hx rfl (hb hby dprog_27_method_5_code_35) rfl rfl (l' := A271) rfl k) ?_
  refine Go.st (S' := T270.setTop (mkF m 37 A271 [(.ref o_2)])) (fun t k => XS.aloadN X270.here hx rfl (hb hby dprog_27_method_5_code_36) rfl rfl k) ?_
  refine Go.st (S' := T270.setTop (mkF m 40 A271 [])) (fun t k => XS.ifnullNo X270.here hx rfl (hb hby dprog_27_method_5_code_37) rfl k) ?_
  refine Go.st (S' := T270.setTop (mkF m 41 A271 [(.ref o1)])) (fun t k => XS.aloadN X270.here hx rfl (hb hby dprog_27_method_5_code_40) rfl rfl k) ?_
  refine Go.st (S' := T270.setTop (mkF m 42 A271 [(.ref o_2), (.ref o1)])) (fun t k => XS.aloadN X270.here hx rfl (hb hby dprog_27_method_5_code_41) rfl rfl k) ?_
  obtain ⟨T273, X273, e273, st273⟩ := getF X270 hx hZ hown (host := "") (Or.inl (hw _ (List.mem_of_getElem? (i := 50) rfl))) Via.refl e270 F_o_2_right (g := (mkF m 42 A271 [(.ref o_2), (.ref o1)])) rfl rfl (hb hby dprog_27_method_5_code_42)
  refine Go.st (S' := T273.setTop (mkF m 45 A271 [(.ref o1), (.ref o1)])) st273 ?_
  refine Go.st (S' := T273.setTop (mkF m 48 A271 [])) (fun t k => acmp X273 hx rfl rfl rfl (pc0 := 45) (pc' := 48) (same := true) rfl (hb hby dprog_27_method_5_code_45) rfl (by simp) (by decide) (by decide) k) ?_
  refine Go.st (S' := T273.setTop (mkF m 49 A271 [(.ref o_2)])) (fun t k => XS.aloadN X273.here hx rfl (hb hby dprog_27_method_5_code_48) rfl rfl k) ?_
  let A274 : Array Slot := #[.val (.ref o0), .val (.ref o1), .val (.ref o_2), .val (.ref o_2)]
  refine Go.st (S' := T273.setTop (mkF m 50 A274 [])) (fun t k => XS.astoreN X273.here hx rfl (hb hby dprog_27_method_5_code_49) rfl rfl (l' := A274) rfl k) ?_
  refine Go.st (S' := T273.setTop (mkF m 51 A274 [(.ref o_2)])) (fun t k => XS.aloadN X273.here hx rfl (hb hby dprog_27_method_5_code_50) rfl rfl k) ?_
  obtain ⟨T276, X276, e276, st276⟩ := getF X273 hx hZ hown (host := "") (Or.inl (hw _ (List.mem_of_getElem? (i := 55) rfl))) Via.refl e273 F_o_2_parent (g := (mkF m 51 A274 [(.ref o_2)])) rfl rfl (hb hby dprog_27_method_5_code_51)
  refine Go.st (S' := T276.setTop (mkF m 54 A274 [(.ref o_3)])) st276 ?_
  let A277 : Array Slot := #[.val (.ref o0), .val (.ref o1), .val (.ref o_2), .val (.ref o_3)]
  refine Go.st (S' := T276.setTop (mkF m 55 A277 [])) (fun t k => XS.astoreN X276.here hx rfl (hb hby dprog_27_method_5_code_54) rfl rfl (l' := A277) rfl k) ?_
  refine Go.st (S' := T276.setTop (mkF m 36 A277 [])) (fun t k => XS.goto X276.here hx rfl (pc0 := 55) (pc' := 36) rfl (hb hby dprog_27_method_5_code_55) (by decide) (by decide) k) ?_
  refine Go.st (S' := T276.setTop (mkF m 37 A277 [(.ref o_3)])) (fun t k => XS.aloadN X276.here hx rfl (hb hby dprog_27_method_5_code_36) rfl rfl k) ?_
  refine Go.st (S' := T276.setTop (mkF m 40 A277 [])) (fun t k => XS.ifnullNo X276.here hx rfl (hb hby dprog_27_method_5_code_37) rfl k) ?_
  refine Go.st (S' := T276.setTop (mkF m 41 A277 [(.ref o_2)])) (fun t k => XS.aloadN X276.here hx rfl (hb hby dprog_27_method_5_code_40) rfl rfl k) ?_
  refine Go.st (S' := T276.setTop (mkF m 42 A277 [(.ref o_3), (.ref o_2)])) (fun t k => XS.aloadN X276.here hx rfl (hb hby dprog_27_method_5_code_41) rfl rfl k) ?_
  obtain ⟨T279, X279, e279, st279⟩ := getF X276 hx hZ hown (host := "") (Or.inl (hw _ (List.mem_of_getElem? (i := 50) rfl))) Via.refl e276 F_o_3_right (g := (mkF m 42 A277 [(.ref o_3), (.ref o_2)])) rfl rfl (hb hby dprog_27_method_5_code_42)
  refine Go.st (S' := T279.setTop (mkF m 45 A277 [(.ref o_4), (.ref o_2)])) st279 ?_
  refine Go.st (S' := T279.setTop (mkF m 58 A277 [])) (fun t k => acmp X279 hx rfl rfl rfl (pc0 := 45) (pc' := 58) (same := false) rfl (hb hby dprog_27_method_5_code_45) rfl (by simp [ne_o_2_o_4]) (by decide) (by decide) k) ?_
  refine Go.st (S' := T279.setTop (mkF m 59 A277 [(.ref o_3)])) (fun t k => XS.aloadN X279.here hx rfl (hb hby dprog_27_method_5_code_58) rfl rfl k) ?_
  exact Go.ret X279 (v := some (.ref o_3)) (fun h => by rw [Bd.returns] at h; cases h) Bd.notSynchronized (fun fs hr => retOut X279 hx Bd.returns rfl (Or.inr (Or.inr (Or.inr (Or.inr ⟨rfl, rfl, rfl⟩)))) (hb hby dprog_27_method_5_code_59) hr) (by decide) (by decide) (⟨rfl, N0, (e279)⟩)
theorem ef_7 (m : MethodId) (o0 : Addr) (o1 : Addr) : entryFrame m #[(.ref o0), (.ref o1)] 4 = mkF m 0 #[.val (.ref o0), .val (.ref o1), .unset, .unset] [] := by first | (simp [entryFrame, mkF, argsToLocals, Value.category, maxLocals]; done) | rfl
def Q7 (Z : State) (o0 : Addr) (o1 : Addr) (o_2 : Addr) (o_3 : Addr) (h0 : Heap) (n0 : Nat) (v : Option Value) (h : Heap) (L : List Loc) : Prop := (v = some (.ref o_3) ∧ Fr n0 L ∧ h = h0)
set_option maxRecDepth 65536 in
set_option maxHeartbeats 40000000 in
theorem rm7 (l : Launch) (Z : State) (a0 : Array Value) (hw : ∀ d ∈ tables_1, d.before a0 Z = true) (ws : List Jvm.Cond) (o0 : Addr) (o1 : Addr) (o_2 : Addr) (o_3 : Addr) (h0 : Heap) (n0 : Nat) (Z0 : n0 ≤ h0.size) (F_o1_right : Fld Z h0 o1 "com/example/dwellgate/dwellgate/book/PriceTree$Node" "right" "Lcom/example/dwellgate/dwellgate/book/PriceTree$Node;" (.ref o_2)) (F_o_2_left : Fld Z h0 o_2 "com/example/dwellgate/dwellgate/book/PriceTree$Node" "left" "Lcom/example/dwellgate/dwellgate/book/PriceTree$Node;" (.ref o_3)) (F_o_3_left : Fld Z h0 o_3 "com/example/dwellgate/dwellgate/book/PriceTree$Node" "left" "Lcom/example/dwellgate/dwellgate/book/PriceTree$Node;" .null) :
    Con l Z (⟨"com/example/dwellgate/dwellgate/book/PriceTree", "next", "(Lcom/example/dwellgate/dwellgate/book/PriceTree$Node;)Lcom/example/dwellgate/dwellgate/book/PriceTree$Node;"⟩ : MethodName) prog_27_method_5_code 4 (some (.object "com/example/dwellgate/dwellgate/book/PriceTree$Node")) ws ({ frames := 0, cells := 0, slots := 0, locals := 0 } : Room) #[(.ref o0), (.ref o1)] h0 0 0 (Q7 Z o0 o1 o_2 o_3 h0 n0) := by
  refine MetFree.of_bodySF (plainFor_of_name pn_0) hisR ?_
  intro p e s m args below meth c s₁ Bd hml0 hP hK
  obtain ⟨rfl, hZ, hh⟩ := hP
  have hx := Bd.exec
  have hby := Bd.bytes
  have hml : c.maxLocals = 4 := hml0
  have hown : s.vm.findClass "com/example/dwellgate/dwellgate/book/PriceTree" = some m.cls := findClass_of_methodNamed Bd.named
  have hnm := (name_of_methodNamed Bd.named Bd.method).1
  have X0 : Stand p l e ({ frames := 0, cells := 0, slots := 0, locals := 0 } : Room) s m #[(.ref o0), (.ref o1)] below meth c s₁ [] 0 0 := Stand.of_body Bd
  have e0 : s₁.heap = h0 := by rw [← hh, Bd.state]; rfl
  have N0 := Fr.nil n0
  refine Go.of ?_
  refine Go.st (S' := s₁.setTop (mkF m 0 #[.val (.ref o0), .val (.ref o1), .unset, .unset] [])) (fun t k => castTop (ef_7 m o0 o1) k) ?_
  refine Go.st (S' := s₁.setTop (mkF m 1 #[.val (.ref o0), .val (.ref o1), .unset, .unset] [(.ref o1)])) (fun t k => XS.aloadN X0.here hx rfl (hb hby dprog_27_method_5_code_0) rfl rfl k) ?_
  obtain ⟨T297, X297, e297, st297⟩ := getF X0 hx hZ hown (host := "") (Or.inl (hw _ (List.mem_of_getElem? (i := 50) rfl))) Via.refl e0 F_o1_right (g := (mkF m 1 #[.val (.ref o0), .val (.ref o1), .unset, .unset] [(.ref o1)])) rfl rfl (hb hby dprog_27_method_5_code_1)
  refine Go.st (S' := T297.setTop (mkF m 4 #[.val (.ref o0), .val (.ref o1), .unset, .unset] [(.ref o_2)])) st297 ?_
  refine Go.st (S' := T297.setTop (mkF m 7 #[.val (.ref o0), .val (.ref o1), .unset, .unset] [])) (fun t k => XS.ifnullNo X297.here hx rfl (hb hby dprog_27_method_5_code_4) rfl k) ?_
  refine Go.st (S' := T297.setTop (mkF m 8 #[.val (.ref o0), .val (.ref o1), .unset, .unset] [(.ref o1)])) (fun t k => XS.aloadN X297.here hx rfl (hb hby dprog_27_method_5_code_7) rfl rfl k) ?_
  obtain ⟨T298, X298, e298, st298⟩ := getF X297 hx hZ hown (host := "") (Or.inl (hw _ (List.mem_of_getElem? (i := 50) rfl))) Via.refl e297 F_o1_right (g := (mkF m 8 #[.val (.ref o0), .val (.ref o1), .unset, .unset] [(.ref o1)])) rfl rfl (hb hby dprog_27_method_5_code_8)
  refine Go.st (S' := T298.setTop (mkF m 11 #[.val (.ref o0), .val (.ref o1), .unset, .unset] [(.ref o_2)])) st298 ?_
  refine Go.st (S' := T298.setTop (mkF m 12 #[.val (.ref o0), .val (.ref o1), .val (.ref o_2), .unset] [])) (fun t k => XS.astoreN X298.here hx rfl (hb hby dprog_27_method_5_code_11) rfl rfl (l' := #[.val (.ref o0), .val (.ref o1), .val (.ref o_2), .unset]) rfl k) ?_
  refine Go.st (S' := T298.setTop (mkF m 13 #[.val (.ref o0), .val (.ref o1), .val (.ref o_2), .unset] [(.ref o_2)])) (fun t k => XS.aloadN X298.here hx rfl (hb hby dprog_27_method_5_code_12) rfl rfl k) ?_
  obtain ⟨T300, X300, e300, st300⟩ := getF X298 hx hZ hown (host := "") (Or.inl (hw _ (List.mem_of_getElem? (i := 51) rfl))) Via.refl e298 F_o_2_left (g := (mkF m 13 #[.val (.ref o0), .val (.ref o1), .val (.ref o_2), .unset] [(.ref o_2)])) rfl rfl (hb hby dprog_27_method_5_code_13)
  refine Go.st (S' := T300.setTop (mkF m 16 #[.val (.ref o0), .val (.ref o1), .val (.ref o_2), .unset] [(.ref o_3)])) st300 ?_
  refine Go.st (S' := T300.setTop (mkF m 19 #[.val (.ref o0), .val (.ref o1), .val (.ref o_2), .unset] [])) (fun t k => XS.ifnullNo X300.here hx rfl (hb hby dprog_27_method_5_code_16) rfl k) ?_
  refine Go.st (S' := T300.setTop (mkF m 20 #[.val (.ref o0), .val (.ref o1), .val (.ref o_2), .unset] [(.ref o_2)])) (fun t k => XS.aloadN X300.here hx rfl (hb hby dprog_27_method_5_code_19) rfl rfl k) ?_
  obtain ⟨T301, X301, e301, st301⟩ := getF X300 hx hZ hown (host := "") (Or.inl (hw _ (List.mem_of_getElem? (i := 51) rfl))) Via.refl e300 F_o_2_left (g := (mkF m 20 #[.val (.ref o0), .val (.ref o1), .val (.ref o_2), .unset] [(.ref o_2)])) rfl rfl (hb hby dprog_27_method_5_code_20)
  refine Go.st (S' := T301.setTop (mkF m 23 #[.val (.ref o0), .val (.ref o1), .val (.ref o_2), .unset] [(.ref o_3)])) st301 ?_
  refine Go.st (S' := T301.setTop (mkF m 24 #[.val (.ref o0), .val (.ref o1), .val (.ref o_3), .unset] [])) (fun t k => XS.astoreN X301.here hx rfl (hb hby dprog_27_method_5_code_23) rfl rfl (l' := #[.val (.ref o0), .val (.ref o1), .val (.ref o_3), .unset]) rfl k) ?_
  refine Go.st (S' := T301.setTop (mkF m 12 #[.val (.ref o0), .val (.ref o1), .val (.ref o_3), .unset] [])) (fun t k => XS.goto X301.here hx rfl (pc0 := 24) (pc' := 12) rfl (hb hby dprog_27_method_5_code_24) (by decide) (by decide) k) ?_
  refine Go.st (S' := T301.setTop (mkF m 13 #[.val (.ref o0), .val (.ref o1), .val (.ref o_3), .unset] [(.ref o_3)])) (fun t k => XS.aloadN X301.here hx rfl (hb hby dprog_27_method_5_code_12) rfl rfl k) ?_
  obtain ⟨T303, X303, e303, st303⟩ := getF X301 hx hZ hown (host := "") (Or.inl (hw _ (List.mem_of_getElem? (i := 51) rfl))) Via.refl e301 F_o_3_left (g := (mkF m 13 #[.val (.ref o0), .val (.ref o1), .val (.ref o_3), .unset] [(.ref o_3)])) rfl rfl (hb hby dprog_27_method_5_code_13)
  refine Go.st (S' := T303.setTop (mkF m 16 #[.val (.ref o0), .val (.ref o1), .val (.ref o_3), .unset] [.null])) st303 ?_
  refine Go.st (S' := T303.setTop (mkF m 27 #[.val (.ref o0), .val (.ref o1), .val (.ref o_3), .unset] [])) (fun t k => XS.ifnullYes X303.here hx rfl (pc0 := 16) (pc' := 27) rfl (hb hby dprog_27_method_5_code_16) rfl (by decide) (by decide) k) ?_
  refine Go.st (S' := T303.setTop (mkF m 28 #[.val (.ref o0), .val (.ref o1), .val (.ref o_3), .unset] [(.ref o_3)])) (fun t k => XS.aloadN X303.here hx rfl (hb hby dprog_27_method_5_code_27) rfl rfl k) ?_
  exact Go.ret X303 (v := some (.ref o_3)) (fun h => by rw [Bd.returns] at h; cases h) Bd.notSynchronized (fun fs hr => retOut X303 hx Bd.returns rfl (Or.inr (Or.inr (Or.inr (Or.inr ⟨rfl, rfl, rfl⟩)))) (hb hby dprog_27_method_5_code_28) hr) (by decide) (by decide) (⟨rfl, N0, (e303)⟩)
theorem ef_8 (m : MethodId) (o0 : Addr) (o1 : Addr) : entryFrame m #[(.ref o0), (.ref o1)] 4 = mkF m 0 #[.val (.ref o0), .val (.ref o1), .unset, .unset] [] := by first | (simp [entryFrame, mkF, argsToLocals, Value.category, maxLocals]; done) | rfl
def Q8 (Z : State) (o0 : Addr) (o1 : Addr) (o_2 : Addr) (h0 : Heap) (n0 : Nat) (v : Option Value) (h : Heap) (L : List Loc) : Prop := (v = some (.ref o_2) ∧ Fr n0 L ∧ h = h0)
set_option maxRecDepth 65536 in
set_option maxHeartbeats 40000000 in
theorem rm8 (l : Launch) (Z : State) (a0 : Array Value) (hw : ∀ d ∈ tables_1, d.before a0 Z = true) (ws : List Jvm.Cond) (o0 : Addr) (o1 : Addr) (o_2 : Addr) (h0 : Heap) (n0 : Nat) (Z0 : n0 ≤ h0.size) (F_o1_right : Fld Z h0 o1 "com/example/dwellgate/dwellgate/book/PriceTree$Node" "right" "Lcom/example/dwellgate/dwellgate/book/PriceTree$Node;" .null) (F_o1_parent : Fld Z h0 o1 "com/example/dwellgate/dwellgate/book/PriceTree$Node" "parent" "Lcom/example/dwellgate/dwellgate/book/PriceTree$Node;" (.ref o_2)) (F_o_2_right : Fld Z h0 o_2 "com/example/dwellgate/dwellgate/book/PriceTree$Node" "right" "Lcom/example/dwellgate/dwellgate/book/PriceTree$Node;" .null) :
    Con l Z (⟨"com/example/dwellgate/dwellgate/book/PriceTree", "next", "(Lcom/example/dwellgate/dwellgate/book/PriceTree$Node;)Lcom/example/dwellgate/dwellgate/book/PriceTree$Node;"⟩ : MethodName) prog_27_method_5_code 4 (some (.object "com/example/dwellgate/dwellgate/book/PriceTree$Node")) ws ({ frames := 0, cells := 0, slots := 0, locals := 0 } : Room) #[(.ref o0), (.ref o1)] h0 0 0 (Q8 Z o0 o1 o_2 h0 n0) := by
  refine MetFree.of_bodySF (plainFor_of_name pn_0) hisR ?_
  intro p e s m args below meth c s₁ Bd hml0 hP hK
  obtain ⟨rfl, hZ, hh⟩ := hP
  have hx := Bd.exec
  have hby := Bd.bytes
  have hml : c.maxLocals = 4 := hml0
  have hown : s.vm.findClass "com/example/dwellgate/dwellgate/book/PriceTree" = some m.cls := findClass_of_methodNamed Bd.named
  have hnm := (name_of_methodNamed Bd.named Bd.method).1
  have X0 : Stand p l e ({ frames := 0, cells := 0, slots := 0, locals := 0 } : Room) s m #[(.ref o0), (.ref o1)] below meth c s₁ [] 0 0 := Stand.of_body Bd
  have e0 : s₁.heap = h0 := by rw [← hh, Bd.state]; rfl
  have N0 := Fr.nil n0
  refine Go.of ?_
  refine Go.st (S' := s₁.setTop (mkF m 0 #[.val (.ref o0), .val (.ref o1), .unset, .unset] [])) (fun t k => castTop (ef_8 m o0 o1) k) ?_
  refine Go.st (S' := s₁.setTop (mkF m 1 #[.val (.ref o0), .val (.ref o1), .unset, .unset] [(.ref o1)])) (fun t k => XS.aloadN X0.here hx rfl (hb hby dprog_27_method_5_code_0) rfl rfl k) ?_
  obtain ⟨T322, X322, e322, st322⟩ := getF X0 hx hZ hown (host := "") (Or.inl (hw _ (List.mem_of_getElem? (i := 50) rfl))) Via.refl e0 F_o1_right (g := (mkF m 1 #[.val (.ref o0), .val (.ref o1), .unset, .unset] [(.ref o1)])) rfl rfl (hb hby dprog_27_method_5_code_1)
  refine Go.st (S' := T322.setTop (mkF m 4 #[.val (.ref o0), .val (.ref o1), .unset, .unset] [.null])) st322 ?_
  refine Go.st (S' := T322.setTop (mkF m 29 #[.val (.ref o0), .val (.ref o1), .unset, .unset] [])) (fun t k => XS.ifnullYes X322.here hx rfl (pc0 := 4) (pc' := 29) rfl (hb hby dprog_27_method_5_code_4) rfl (by decide) (by decide) k) ?_
  refine Go.st (S' := T322.setTop (mkF m 30 #[.val (.ref o0), .val (.ref o1), .unset, .unset] [(.ref o1)])) (fun t k => XS.aloadN X322.here hx rfl (hb hby dprog_27_method_5_code_29) rfl rfl k) ?_
  refine Go.st (S' := T322.setTop (mkF m 31 #[.val (.ref o0), .val (.ref o1), .val (.ref o1), .unset] [])) (fun t k => XS.astoreN X322.here hx rfl (hb hby dprog_27_method_5_code_30) rfl rfl (l' := #[.val (.ref o0), .val (.ref o1), .val (.ref o1), .unset]) rfl k) ?_
  refine Go.st (S' := T322.setTop (mkF m 32 #[.val (.ref o0), .val (.ref o1), .val (.ref o1), .unset] [(.ref o1)])) (fun t k => XS.aloadN X322.here hx rfl (hb hby dprog_27_method_5_code_31) rfl rfl k) ?_
  obtain ⟨T324, X324, e324, st324⟩ := getF X322 hx hZ hown (host := "") (Or.inl (hw _ (List.mem_of_getElem? (i := 55) rfl))) Via.refl e322 F_o1_parent (g := (mkF m 32 #[.val (.ref o0), .val (.ref o1), .val (.ref o1), .unset] [(.ref o1)])) rfl rfl (hb hby dprog_27_method_5_code_32)
  refine Go.st (S' := T324.setTop (mkF m 35 #[.val (.ref o0), .val (.ref o1), .val (.ref o1), .unset] [(.ref o_2)])) st324 ?_
  let A325 : Array Slot := #[.val (.ref o0), .val (.ref o1), .val (.ref o1), .val (.ref o_2)]
  refine Go.st (S' := T324.setTop (mkF m 36 A325 [])) (fun t k => XS.astoreN X324.here hx rfl (hb hby dprog_27_method_5_code_35) rfl rfl (l' := A325) rfl k) ?_
  refine Go.st (S' := T324.setTop (mkF m 37 A325 [(.ref o_2)])) (fun t k => XS.aloadN X324.here hx rfl (hb hby dprog_27_method_5_code_36) rfl rfl k) ?_
  refine Go.st (S' := T324.setTop (mkF m 40 A325 [])) (fun t k => XS.ifnullNo X324.here hx rfl (hb hby dprog_27_method_5_code_37) rfl k) ?_
  refine Go.st (S' := T324.setTop (mkF m 41 A325 [(.ref o1)])) (fun t k => XS.aloadN X324.here hx rfl (hb hby dprog_27_method_5_code_40) rfl rfl k) ?_
  refine Go.st (S' := T324.setTop (mkF m 42 A325 [(.ref o_2), (.ref o1)])) (fun t k => XS.aloadN X324.here hx rfl (hb hby dprog_27_method_5_code_41) rfl rfl k) ?_
  obtain ⟨T327, X327, e327, st327⟩ := getF X324 hx hZ hown (host := "") (Or.inl (hw _ (List.mem_of_getElem? (i := 50) rfl))) Via.refl e324 F_o_2_right (g := (mkF m 42 A325 [(.ref o_2), (.ref o1)])) rfl rfl (hb hby dprog_27_method_5_code_42)
  refine Go.st (S' := T327.setTop (mkF m 45 A325 [.null, (.ref o1)])) st327 ?_
  refine Go.st (S' := T327.setTop (mkF m 58 A325 [])) (fun t k => acmp X327 hx rfl rfl rfl (pc0 := 45) (pc' := 58) (same := false) rfl (hb hby dprog_27_method_5_code_45) rfl (by simp) (by decide) (by decide) k) ?_
  refine Go.st (S' := T327.setTop (mkF m 59 A325 [(.ref o_2)])) (fun t k => XS.aloadN X327.here hx rfl (hb hby dprog_27_method_5_code_58) rfl rfl k) ?_
  exact Go.ret X327 (v := some (.ref o_2)) (fun h => by rw [Bd.returns] at h; cases h) Bd.notSynchronized (fun fs hr => retOut X327 hx Bd.returns rfl (Or.inr (Or.inr (Or.inr (Or.inr ⟨rfl, rfl, rfl⟩)))) (hb hby dprog_27_method_5_code_59) hr) (by decide) (by decide) (⟨rfl, N0, (e327)⟩)
theorem ef_9 (m : MethodId) (o0 : Addr) (o1 : Addr) : entryFrame m #[(.ref o0), (.ref o1)] 4 = mkF m 0 #[.val (.ref o0), .val (.ref o1), .unset, .unset] [] := by first | (simp [entryFrame, mkF, argsToLocals, Value.category, maxLocals]; done) | rfl
def Q9 (Z : State) (o0 : Addr) (o1 : Addr) (o_2 : Addr) (h0 : Heap) (n0 : Nat) (v : Option Value) (h : Heap) (L : List Loc) : Prop := (v = some .null ∧ Fr n0 L ∧ h = h0)
set_option maxRecDepth 65536 in
set_option maxHeartbeats 40000000 in
theorem rm9 (l : Launch) (Z : State) (a0 : Array Value) (hw : ∀ d ∈ tables_1, d.before a0 Z = true) (ws : List Jvm.Cond) (o0 : Addr) (o1 : Addr) (o_2 : Addr) (h0 : Heap) (n0 : Nat) (Z0 : n0 ≤ h0.size) (F_o1_right : Fld Z h0 o1 "com/example/dwellgate/dwellgate/book/PriceTree$Node" "right" "Lcom/example/dwellgate/dwellgate/book/PriceTree$Node;" .null) (F_o1_parent : Fld Z h0 o1 "com/example/dwellgate/dwellgate/book/PriceTree$Node" "parent" "Lcom/example/dwellgate/dwellgate/book/PriceTree$Node;" (.ref o_2)) (F_o_2_right : Fld Z h0 o_2 "com/example/dwellgate/dwellgate/book/PriceTree$Node" "right" "Lcom/example/dwellgate/dwellgate/book/PriceTree$Node;" (.ref o1)) (F_o_2_parent : Fld Z h0 o_2 "com/example/dwellgate/dwellgate/book/PriceTree$Node" "parent" "Lcom/example/dwellgate/dwellgate/book/PriceTree$Node;" .null) :
    Con l Z (⟨"com/example/dwellgate/dwellgate/book/PriceTree", "next", "(Lcom/example/dwellgate/dwellgate/book/PriceTree$Node;)Lcom/example/dwellgate/dwellgate/book/PriceTree$Node;"⟩ : MethodName) prog_27_method_5_code 4 (some (.object "com/example/dwellgate/dwellgate/book/PriceTree$Node")) ws ({ frames := 0, cells := 0, slots := 0, locals := 0 } : Room) #[(.ref o0), (.ref o1)] h0 0 0 (Q9 Z o0 o1 o_2 h0 n0) := by
  refine MetFree.of_bodySF (plainFor_of_name pn_0) hisR ?_
  intro p e s m args below meth c s₁ Bd hml0 hP hK
  obtain ⟨rfl, hZ, hh⟩ := hP
  have hx := Bd.exec
  have hby := Bd.bytes
  have hml : c.maxLocals = 4 := hml0
  have hown : s.vm.findClass "com/example/dwellgate/dwellgate/book/PriceTree" = some m.cls := findClass_of_methodNamed Bd.named
  have hnm := (name_of_methodNamed Bd.named Bd.method).1
  have X0 : Stand p l e ({ frames := 0, cells := 0, slots := 0, locals := 0 } : Room) s m #[(.ref o0), (.ref o1)] below meth c s₁ [] 0 0 := Stand.of_body Bd
  have e0 : s₁.heap = h0 := by rw [← hh, Bd.state]; rfl
  have N0 := Fr.nil n0
  refine Go.of ?_
  refine Go.st (S' := s₁.setTop (mkF m 0 #[.val (.ref o0), .val (.ref o1), .unset, .unset] [])) (fun t k => castTop (ef_9 m o0 o1) k) ?_
  refine Go.st (S' := s₁.setTop (mkF m 1 #[.val (.ref o0), .val (.ref o1), .unset, .unset] [(.ref o1)])) (fun t k => XS.aloadN X0.here hx rfl (hb hby dprog_27_method_5_code_0) rfl rfl k) ?_
  obtain ⟨T347, X347, e347, st347⟩ := getF X0 hx hZ hown (host := "") (Or.inl (hw _ (List.mem_of_getElem? (i := 50) rfl))) Via.refl e0 F_o1_right (g := (mkF m 1 #[.val (.ref o0), .val (.ref o1), .unset, .unset] [(.ref o1)])) rfl rfl (hb hby dprog_27_method_5_code_1)
  refine Go.st (S' := T347.setTop (mkF m 4 #[.val (.ref o0), .val (.ref o1), .unset, .unset] [.null])) st347 ?_
  refine Go.st (S' := T347.setTop (mkF m 29 #[.val (.ref o0), .val (.ref o1), .unset, .unset] [])) (fun t k => XS.ifnullYes X347.here hx rfl (pc0 := 4) (pc' := 29) rfl (hb hby dprog_27_method_5_code_4) rfl (by decide) (by decide) k) ?_
  refine Go.st (S' := T347.setTop (mkF m 30 #[.val (.ref o0), .val (.ref o1), .unset, .unset] [(.ref o1)])) (fun t k => XS.aloadN X347.here hx rfl (hb hby dprog_27_method_5_code_29) rfl rfl k) ?_
  refine Go.st (S' := T347.setTop (mkF m 31 #[.val (.ref o0), .val (.ref o1), .val (.ref o1), .unset] [])) (fun t k => XS.astoreN X347.here hx rfl (hb hby dprog_27_method_5_code_30) rfl rfl (l' := #[.val (.ref o0), .val (.ref o1), .val (.ref o1), .unset]) rfl k) ?_
  refine Go.st (S' := T347.setTop (mkF m 32 #[.val (.ref o0), .val (.ref o1), .val (.ref o1), .unset] [(.ref o1)])) (fun t k => XS.aloadN X347.here hx rfl (hb hby dprog_27_method_5_code_31) rfl rfl k) ?_
  obtain ⟨T349, X349, e349, st349⟩ := getF X347 hx hZ hown (host := "") (Or.inl (hw _ (List.mem_of_getElem? (i := 55) rfl))) Via.refl e347 F_o1_parent (g := (mkF m 32 #[.val (.ref o0), .val (.ref o1), .val (.ref o1), .unset] [(.ref o1)])) rfl rfl (hb hby dprog_27_method_5_code_32)
  refine Go.st (S' := T349.setTop (mkF m 35 #[.val (.ref o0), .val (.ref o1), .val (.ref o1), .unset] [(.ref o_2)])) st349 ?_
  let A350 : Array Slot := #[.val (.ref o0), .val (.ref o1), .val (.ref o1), .val (.ref o_2)]
  refine Go.st (S' := T349.setTop (mkF m 36 A350 [])) (fun t k => XS.astoreN X349.here hx rfl (hb hby dprog_27_method_5_code_35) rfl rfl (l' := A350) rfl k) ?_
  refine Go.st (S' := T349.setTop (mkF m 37 A350 [(.ref o_2)])) (fun t k => XS.aloadN X349.here hx rfl (hb hby dprog_27_method_5_code_36) rfl rfl k) ?_
  refine Go.st (S' := T349.setTop (mkF m 40 A350 [])) (fun t k => XS.ifnullNo X349.here hx rfl (hb hby dprog_27_method_5_code_37) rfl k) ?_
  refine Go.st (S' := T349.setTop (mkF m 41 A350 [(.ref o1)])) (fun t k => XS.aloadN X349.here hx rfl (hb hby dprog_27_method_5_code_40) rfl rfl k) ?_
  refine Go.st (S' := T349.setTop (mkF m 42 A350 [(.ref o_2), (.ref o1)])) (fun t k => XS.aloadN X349.here hx rfl (hb hby dprog_27_method_5_code_41) rfl rfl k) ?_
  obtain ⟨T352, X352, e352, st352⟩ := getF X349 hx hZ hown (host := "") (Or.inl (hw _ (List.mem_of_getElem? (i := 50) rfl))) Via.refl e349 F_o_2_right (g := (mkF m 42 A350 [(.ref o_2), (.ref o1)])) rfl rfl (hb hby dprog_27_method_5_code_42)
  refine Go.st (S' := T352.setTop (mkF m 45 A350 [(.ref o1), (.ref o1)])) st352 ?_
  refine Go.st (S' := T352.setTop (mkF m 48 A350 [])) (fun t k => acmp X352 hx rfl rfl rfl (pc0 := 45) (pc' := 48) (same := true) rfl (hb hby dprog_27_method_5_code_45) rfl (by simp) (by decide) (by decide) k) ?_
  refine Go.st (S' := T352.setTop (mkF m 49 A350 [(.ref o_2)])) (fun t k => XS.aloadN X352.here hx rfl (hb hby dprog_27_method_5_code_48) rfl rfl k) ?_
  let A353 : Array Slot := #[.val (.ref o0), .val (.ref o1), .val (.ref o_2), .val (.ref o_2)]
  refine Go.st (S' := T352.setTop (mkF m 50 A353 [])) (fun t k => XS.astoreN X352.here hx rfl (hb hby dprog_27_method_5_code_49) rfl rfl (l' := A353) rfl k) ?_
  refine Go.st (S' := T352.setTop (mkF m 51 A353 [(.ref o_2)])) (fun t k => XS.aloadN X352.here hx rfl (hb hby dprog_27_method_5_code_50) rfl rfl k) ?_
  obtain ⟨T355, X355, e355, st355⟩ := getF X352 hx hZ hown (host := "") (Or.inl (hw _ (List.mem_of_getElem? (i := 55) rfl))) Via.refl e352 F_o_2_parent (g := (mkF m 51 A353 [(.ref o_2)])) rfl rfl (hb hby dprog_27_method_5_code_51)
  refine Go.st (S' := T355.setTop (mkF m 54 A353 [.null])) st355 ?_
  refine Go.st (S' := T355.setTop (mkF m 55 #[.val (.ref o0), .val (.ref o1), .val (.ref o_2), .val .null] [])) (fun t k => XS.astoreN X355.here hx rfl (hb hby dprog_27_method_5_code_54) rfl rfl (l' := #[.val (.ref o0), .val (.ref o1), .val (.ref o_2), .val .null]) rfl k) ?_
  refine Go.st (S' := T355.setTop (mkF m 36 #[.val (.ref o0), .val (.ref o1), .val (.ref o_2), .val .null] [])) (fun t k => XS.goto X355.here hx rfl (pc0 := 55) (pc' := 36) rfl (hb hby dprog_27_method_5_code_55) (by decide) (by decide) k) ?_
  refine Go.st (S' := T355.setTop (mkF m 37 #[.val (.ref o0), .val (.ref o1), .val (.ref o_2), .val .null] [.null])) (fun t k => XS.aloadN X355.here hx rfl (hb hby dprog_27_method_5_code_36) rfl rfl k) ?_
  refine Go.st (S' := T355.setTop (mkF m 58 #[.val (.ref o0), .val (.ref o1), .val (.ref o_2), .val .null] [])) (fun t k => XS.ifnullYes X355.here hx rfl (pc0 := 37) (pc' := 58) rfl (hb hby dprog_27_method_5_code_37) rfl (by decide) (by decide) k) ?_
  refine Go.st (S' := T355.setTop (mkF m 59 #[.val (.ref o0), .val (.ref o1), .val (.ref o_2), .val .null] [.null])) (fun t k => XS.aloadN X355.here hx rfl (hb hby dprog_27_method_5_code_58) rfl rfl k) ?_
  exact Go.ret X355 (v := some .null) (fun h => by rw [Bd.returns] at h; cases h) Bd.notSynchronized (fun fs hr => retOut X355 hx Bd.returns rfl (Or.inr (Or.inr (Or.inr (Or.inr ⟨rfl, rfl, rfl⟩)))) (hb hby dprog_27_method_5_code_59) hr) (by decide) (by decide) (⟨rfl, N0, (e355)⟩)
theorem ef_10 (m : MethodId) (o0 : Addr) (o1 : Addr) : entryFrame m #[(.ref o0), (.ref o1)] 4 = mkF m 0 #[.val (.ref o0), .val (.ref o1), .unset, .unset] [] := by first | (simp [entryFrame, mkF, argsToLocals, Value.category, maxLocals]; done) | rfl
def Q10 (Z : State) (o0 : Addr) (o1 : Addr) (o_2 : Addr) (o_3 : Addr) (o_4 : Addr) (h0 : Heap) (n0 : Nat) (v : Option Value) (h : Heap) (L : List Loc) : Prop := (v = some (.ref o_4) ∧ Fr n0 L ∧ h = h0)
set_option maxRecDepth 65536 in
set_option maxHeartbeats 40000000 in
theorem rm10 (l : Launch) (Z : State) (a0 : Array Value) (hw : ∀ d ∈ tables_1, d.before a0 Z = true) (ws : List Jvm.Cond) (o0 : Addr) (o1 : Addr) (o_2 : Addr) (o_3 : Addr) (o_4 : Addr) (h0 : Heap) (n0 : Nat) (Z0 : n0 ≤ h0.size) (F_o1_right : Fld Z h0 o1 "com/example/dwellgate/dwellgate/book/PriceTree$Node" "right" "Lcom/example/dwellgate/dwellgate/book/PriceTree$Node;" (.ref o_2)) (F_o_2_left : Fld Z h0 o_2 "com/example/dwellgate/dwellgate/book/PriceTree$Node" "left" "Lcom/example/dwellgate/dwellgate/book/PriceTree$Node;" (.ref o_3)) (F_o_3_left : Fld Z h0 o_3 "com/example/dwellgate/dwellgate/book/PriceTree$Node" "left" "Lcom/example/dwellgate/dwellgate/book/PriceTree$Node;" (.ref o_4)) (F_o_4_left : Fld Z h0 o_4 "com/example/dwellgate/dwellgate/book/PriceTree$Node" "left" "Lcom/example/dwellgate/dwellgate/book/PriceTree$Node;" .null) :
    Con l Z (⟨"com/example/dwellgate/dwellgate/book/PriceTree", "next", "(Lcom/example/dwellgate/dwellgate/book/PriceTree$Node;)Lcom/example/dwellgate/dwellgate/book/PriceTree$Node;"⟩ : MethodName) prog_27_method_5_code 4 (some (.object "com/example/dwellgate/dwellgate/book/PriceTree$Node")) ws ({ frames := 0, cells := 0, slots := 0, locals := 0 } : Room) #[(.ref o0), (.ref o1)] h0 0 0 (Q10 Z o0 o1 o_2 o_3 o_4 h0 n0) := by
  refine MetFree.of_bodySF (plainFor_of_name pn_0) hisR ?_
  intro p e s m args below meth c s₁ Bd hml0 hP hK
  obtain ⟨rfl, hZ, hh⟩ := hP
  have hx := Bd.exec
  have hby := Bd.bytes
  have hml : c.maxLocals = 4 := hml0
  have hown : s.vm.findClass "com/example/dwellgate/dwellgate/book/PriceTree" = some m.cls := findClass_of_methodNamed Bd.named
  have hnm := (name_of_methodNamed Bd.named Bd.method).1
  have X0 : Stand p l e ({ frames := 0, cells := 0, slots := 0, locals := 0 } : Room) s m #[(.ref o0), (.ref o1)] below meth c s₁ [] 0 0 := Stand.of_body Bd
  have e0 : s₁.heap = h0 := by rw [← hh, Bd.state]; rfl
  have N0 := Fr.nil n0
  refine Go.of ?_
  refine Go.st (S' := s₁.setTop (mkF m 0 #[.val (.ref o0), .val (.ref o1), .unset, .unset] [])) (fun t k => castTop (ef_10 m o0 o1) k) ?_
  refine Go.st (S' := s₁.setTop (mkF m 1 #[.val (.ref o0), .val (.ref o1), .unset, .unset] [(.ref o1)])) (fun t k => XS.aloadN X0.here hx rfl (hb hby dprog_27_method_5_code_0) rfl rfl k) ?_
  obtain ⟨T458, X458, e458, st458⟩ := getF X0 hx hZ hown (host := "") (Or.inl (hw _ (List.mem_of_getElem? (i := 50) rfl))) Via.refl e0 F_o1_right (g := (mkF m 1 #[.val (.ref o0), .val (.ref o1), .unset, .unset] [(.ref o1)])) rfl rfl (hb hby dprog_27_method_5_code_1)
  refine Go.st (S' := T458.setTop (mkF m 4 #[.val (.ref o0), .val (.ref o1), .unset, .unset] [(.ref o_2)])) st458 ?_
  refine Go.st (S' := T458.setTop (mkF m 7 #[.val (.ref o0), .val (.ref o1), .unset, .unset] [])) (fun t k => XS.ifnullNo X458.here hx rfl (hb hby dprog_27_method_5_code_4) rfl k) ?_
  refine Go.st (S' := T458.setTop (mkF m 8 #[.val (.ref o0), .val (.ref o1), .unset, .unset] [(.ref o1)])) (fun t k => XS.aloadN X458.here hx rfl (hb hby dprog_27_method_5_code_7) rfl rfl k) ?_
  obtain ⟨T459, X459, e459, st459⟩ := getF X458 hx hZ hown (host := "") (Or.inl (hw _ (List.mem_of_getElem? (i := 50) rfl))) Via.refl e458 F_o1_right (g := (mkF m 8 #[.val (.ref o0), .val (.ref o1), .unset, .unset] [(.ref o1)])) rfl rfl (hb hby dprog_27_method_5_code_8)
  refine Go.st (S' := T459.setTop (mkF m 11 #[.val (.ref o0), .val (.ref o1), .unset, .unset] [(.ref o_2)])) st459 ?_
  refine Go.st (S' := T459.setTop (mkF m 12 #[.val (.ref o0), .val (.ref o1), .val (.ref o_2), .unset] [])) (fun t k => XS.astoreN X459.here hx rfl (hb hby dprog_27_method_5_code_11) rfl rfl (l' := #[.val (.ref o0), .val (.ref o1), .val (.ref o_2), .unset]) rfl k) ?_
  refine Go.st (S' := T459.setTop (mkF m 13 #[.val (.ref o0), .val (.ref o1), .val (.ref o_2), .unset] [(.ref o_2)])) (fun t k => XS.aloadN X459.here hx rfl (hb hby dprog_27_method_5_code_12) rfl rfl k) ?_
  obtain ⟨T461, X461, e461, st461⟩ := getF X459 hx hZ hown (host := "") (Or.inl (hw _ (List.mem_of_getElem? (i := 51) rfl))) Via.refl e459 F_o_2_left (g := (mkF m 13 #[.val (.ref o0), .val (.ref o1), .val (.ref o_2), .unset] [(.ref o_2)])) rfl rfl (hb hby dprog_27_method_5_code_13)
  refine Go.st (S' := T461.setTop (mkF m 16 #[.val (.ref o0), .val (.ref o1), .val (.ref o_2), .unset] [(.ref o_3)])) st461 ?_
  refine Go.st (S' := T461.setTop (mkF m 19 #[.val (.ref o0), .val (.ref o1), .val (.ref o_2), .unset] [])) (fun t k => XS.ifnullNo X461.here hx rfl (hb hby dprog_27_method_5_code_16) rfl k) ?_
  refine Go.st (S' := T461.setTop (mkF m 20 #[.val (.ref o0), .val (.ref o1), .val (.ref o_2), .unset] [(.ref o_2)])) (fun t k => XS.aloadN X461.here hx rfl (hb hby dprog_27_method_5_code_19) rfl rfl k) ?_
  obtain ⟨T462, X462, e462, st462⟩ := getF X461 hx hZ hown (host := "") (Or.inl (hw _ (List.mem_of_getElem? (i := 51) rfl))) Via.refl e461 F_o_2_left (g := (mkF m 20 #[.val (.ref o0), .val (.ref o1), .val (.ref o_2), .unset] [(.ref o_2)])) rfl rfl (hb hby dprog_27_method_5_code_20)
  refine Go.st (S' := T462.setTop (mkF m 23 #[.val (.ref o0), .val (.ref o1), .val (.ref o_2), .unset] [(.ref o_3)])) st462 ?_
  refine Go.st (S' := T462.setTop (mkF m 24 #[.val (.ref o0), .val (.ref o1), .val (.ref o_3), .unset] [])) (fun t k => XS.astoreN X462.here hx rfl (hb hby dprog_27_method_5_code_23) rfl rfl (l' := #[.val (.ref o0), .val (.ref o1), .val (.ref o_3), .unset]) rfl k) ?_
  refine Go.st (S' := T462.setTop (mkF m 12 #[.val (.ref o0), .val (.ref o1), .val (.ref o_3), .unset] [])) (fun t k => XS.goto X462.here hx rfl (pc0 := 24) (pc' := 12) rfl (hb hby dprog_27_method_5_code_24) (by decide) (by decide) k) ?_
  refine Go.st (S' := T462.setTop (mkF m 13 #[.val (.ref o0), .val (.ref o1), .val (.ref o_3), .unset] [(.ref o_3)])) (fun t k => XS.aloadN X462.here hx rfl (hb hby dprog_27_method_5_code_12) rfl rfl k) ?_
  obtain ⟨T464, X464, e464, st464⟩ := getF X462 hx hZ hown (host := "") (Or.inl (hw _ (List.mem_of_getElem? (i := 51) rfl))) Via.refl e462 F_o_3_left (g := (mkF m 13 #[.val (.ref o0), .val (.ref o1), .val (.ref o_3), .unset] [(.ref o_3)])) rfl rfl (hb hby dprog_27_method_5_code_13)
  refine Go.st (S' := T464.setTop (mkF m 16 #[.val (.ref o0), .val (.ref o1), .val (.ref o_3), .unset] [(.ref o_4)])) st464 ?_
  refine Go.st (S' := T464.setTop (mkF m 19 #[.val (.ref o0), .val (.ref o1), .val (.ref o_3), .unset] [])) (fun t k => XS.ifnullNo X464.here hx rfl (hb hby dprog_27_method_5_code_16) rfl k) ?_
  refine Go.st (S' := T464.setTop (mkF m 20 #[.val (.ref o0), .val (.ref o1), .val (.ref o_3), .unset] [(.ref o_3)])) (fun t k => XS.aloadN X464.here hx rfl (hb hby dprog_27_method_5_code_19) rfl rfl k) ?_
  obtain ⟨T465, X465, e465, st465⟩ := getF X464 hx hZ hown (host := "") (Or.inl (hw _ (List.mem_of_getElem? (i := 51) rfl))) Via.refl e464 F_o_3_left (g := (mkF m 20 #[.val (.ref o0), .val (.ref o1), .val (.ref o_3), .unset] [(.ref o_3)])) rfl rfl (hb hby dprog_27_method_5_code_20)
  refine Go.st (S' := T465.setTop (mkF m 23 #[.val (.ref o0), .val (.ref o1), .val (.ref o_3), .unset] [(.ref o_4)])) st465 ?_
  refine Go.st (S' := T465.setTop (mkF m 24 #[.val (.ref o0), .val (.ref o1), .val (.ref o_4), .unset] [])) (fun t k => XS.astoreN X465.here hx rfl (hb hby dprog_27_method_5_code_23) rfl rfl (l' := #[.val (.ref o0), .val (.ref o1), .val (.ref o_4), .unset]) rfl k) ?_
  refine Go.st (S' := T465.setTop (mkF m 12 #[.val (.ref o0), .val (.ref o1), .val (.ref o_4), .unset] [])) (fun t k => XS.goto X465.here hx rfl (pc0 := 24) (pc' := 12) rfl (hb hby dprog_27_method_5_code_24) (by decide) (by decide) k) ?_
  refine Go.st (S' := T465.setTop (mkF m 13 #[.val (.ref o0), .val (.ref o1), .val (.ref o_4), .unset] [(.ref o_4)])) (fun t k => XS.aloadN X465.here hx rfl (hb hby dprog_27_method_5_code_12) rfl rfl k) ?_
  obtain ⟨T467, X467, e467, st467⟩ := getF X465 hx hZ hown (host := "") (Or.inl (hw _ (List.mem_of_getElem? (i := 51) rfl))) Via.refl e465 F_o_4_left (g := (mkF m 13 #[.val (.ref o0), .val (.ref o1), .val (.ref o_4), .unset] [(.ref o_4)])) rfl rfl (hb hby dprog_27_method_5_code_13)
  refine Go.st (S' := T467.setTop (mkF m 16 #[.val (.ref o0), .val (.ref o1), .val (.ref o_4), .unset] [.null])) st467 ?_
  refine Go.st (S' := T467.setTop (mkF m 27 #[.val (.ref o0), .val (.ref o1), .val (.ref o_4), .unset] [])) (fun t k => XS.ifnullYes X467.here hx rfl (pc0 := 16) (pc' := 27) rfl (hb hby dprog_27_method_5_code_16) rfl (by decide) (by decide) k) ?_
  refine Go.st (S' := T467.setTop (mkF m 28 #[.val (.ref o0), .val (.ref o1), .val (.ref o_4), .unset] [(.ref o_4)])) (fun t k => XS.aloadN X467.here hx rfl (hb hby dprog_27_method_5_code_27) rfl rfl k) ?_
  exact Go.ret X467 (v := some (.ref o_4)) (fun h => by rw [Bd.returns] at h; cases h) Bd.notSynchronized (fun fs hr => retOut X467 hx Bd.returns rfl (Or.inr (Or.inr (Or.inr (Or.inr ⟨rfl, rfl, rfl⟩)))) (hb hby dprog_27_method_5_code_28) hr) (by decide) (by decide) (⟨rfl, N0, (e467)⟩)
theorem ef_11 (m : MethodId) (o0 : Addr) (o1 : Addr) : entryFrame m #[(.ref o0), (.ref o1)] 4 = mkF m 0 #[.val (.ref o0), .val (.ref o1), .unset, .unset] [] := by first | (simp [entryFrame, mkF, argsToLocals, Value.category, maxLocals]; done) | rfl
def Q11 (Z : State) (o0 : Addr) (o1 : Addr) (o_2 : Addr) (o_3 : Addr) (o_4 : Addr) (o_5 : Addr) (h0 : Heap) (n0 : Nat) (v : Option Value) (h : Heap) (L : List Loc) : Prop := (v = some (.ref o_4) ∧ Fr n0 L ∧ h = h0)
set_option maxRecDepth 65536 in
set_option maxHeartbeats 40000000 in
theorem rm11 (l : Launch) (Z : State) (a0 : Array Value) (hw : ∀ d ∈ tables_1, d.before a0 Z = true) (ws : List Jvm.Cond) (o0 : Addr) (o1 : Addr) (o_2 : Addr) (o_3 : Addr) (o_4 : Addr) (o_5 : Addr) (h0 : Heap) (n0 : Nat) (Z0 : n0 ≤ h0.size) (F_o1_right : Fld Z h0 o1 "com/example/dwellgate/dwellgate/book/PriceTree$Node" "right" "Lcom/example/dwellgate/dwellgate/book/PriceTree$Node;" .null) (F_o1_parent : Fld Z h0 o1 "com/example/dwellgate/dwellgate/book/PriceTree$Node" "parent" "Lcom/example/dwellgate/dwellgate/book/PriceTree$Node;" (.ref o_2)) (F_o_2_right : Fld Z h0 o_2 "com/example/dwellgate/dwellgate/book/PriceTree$Node" "right" "Lcom/example/dwellgate/dwellgate/book/PriceTree$Node;" (.ref o1)) (F_o_2_parent : Fld Z h0 o_2 "com/example/dwellgate/dwellgate/book/PriceTree$Node" "parent" "Lcom/example/dwellgate/dwellgate/book/PriceTree$Node;" (.ref o_3)) (F_o_3_right : Fld Z h0 o_3 "com/example/dwellgate/dwellgate/book/PriceTree$Node" "right" "Lcom/example/dwellgate/dwellgate/book/PriceTree$Node;" (.ref o_2)) (F_o_3_parent : Fld Z h0 o_3 "com/example/dwellgate/dwellgate/book/PriceTree$Node" "parent" "Lcom/example/dwellgate/dwellgate/book/PriceTree$Node;" (.ref o_4)) (F_o_4_right : Fld Z h0 o_4 "com/example/dwellgate/dwellgate/book/PriceTree$Node" "right" "Lcom/example/dwellgate/dwellgate/book/PriceTree$Node;" (.ref o_5)) (ne_o_3_o_5 : o_3 ≠ o_5) :
    Con l Z (⟨"com/example/dwellgate/dwellgate/book/PriceTree", "next", "(Lcom/example/dwellgate/dwellgate/book/PriceTree$Node;)Lcom/example/dwellgate/dwellgate/book/PriceTree$Node;"⟩ : MethodName) prog_27_method_5_code 4 (some (.object "com/example/dwellgate/dwellgate/book/PriceTree$Node")) ws ({ frames := 0, cells := 0, slots := 0, locals := 0 } : Room) #[(.ref o0), (.ref o1)] h0 0 0 (Q11 Z o0 o1 o_2 o_3 o_4 o_5 h0 n0) := by
  refine MetFree.of_bodySF (plainFor_of_name pn_0) hisR ?_
  intro p e s m args below meth c s₁ Bd hml0 hP hK
  obtain ⟨rfl, hZ, hh⟩ := hP
  have hx := Bd.exec
  have hby := Bd.bytes
  have hml : c.maxLocals = 4 := hml0
  have hown : s.vm.findClass "com/example/dwellgate/dwellgate/book/PriceTree" = some m.cls := findClass_of_methodNamed Bd.named
  have hnm := (name_of_methodNamed Bd.named Bd.method).1
  have X0 : Stand p l e ({ frames := 0, cells := 0, slots := 0, locals := 0 } : Room) s m #[(.ref o0), (.ref o1)] below meth c s₁ [] 0 0 := Stand.of_body Bd
  have e0 : s₁.heap = h0 := by rw [← hh, Bd.state]; rfl
  have N0 := Fr.nil n0
  refine Go.of ?_
  refine Go.st (S' := s₁.setTop (mkF m 0 #[.val (.ref o0), .val (.ref o1), .unset, .unset] [])) (fun t k => castTop (ef_11 m o0 o1) k) ?_
  refine Go.st (S' := s₁.setTop (mkF m 1 #[.val (.ref o0), .val (.ref o1), .unset, .unset] [(.ref o1)])) (fun t k => XS.aloadN X0.here hx rfl (hb hby dprog_27_method_5_code_0) rfl rfl k) ?_
  obtain ⟨T1118, X1118, e1118, st1118⟩ := getF X0 hx hZ hown (host := "") (Or.inl (hw _ (List.mem_of_getElem? (i := 50) rfl))) Via.refl e0 F_o1_right (g := (mkF m 1 #[.val (.ref o0), .val (.ref o1), .unset, .unset] [(.ref o1)])) rfl rfl (hb hby dprog_27_method_5_code_1)
  refine Go.st (S' := T1118.setTop (mkF m 4 #[.val (.ref o0), .val (.ref o1), .unset, .unset] [.null])) st1118 ?_
  refine Go.st (S' := T1118.setTop (mkF m 29 #[.val (.ref o0), .val (.ref o1), .unset, .unset] [])) (fun t k => XS.ifnullYes X1118.here hx rfl (pc0 := 4) (pc' := 29) rfl (hb hby dprog_27_method_5_code_4) rfl (by decide) (by decide) k) ?_
  refine Go.st (S' := T1118.setTop (mkF m 30 #[.val (.ref o0), .val (.ref o1), .unset, .unset] [(.ref o1)])) (fun t k => XS.aloadN X1118.here hx rfl (hb hby dprog_27_method_5_code_29) rfl rfl k) ?_
  refine Go.st (S' := T1118.setTop (mkF m 31 #[.val (.ref o0), .val (.ref o1), .val (.ref o1), .unset] [])) (fun t k => XS.astoreN X1118.here hx rfl (hb hby dprog_27_method_5_code_30) rfl rfl (l' := #[.val (.ref o0), .val (.ref o1), .val (.ref o1), .unset]) rfl k) ?_
  refine Go.st (S' := T1118.setTop (mkF m 32 #[.val (.ref o0), .val (.ref o1), .val (.ref o1), .unset] [(.ref o1)])) (fun t k => XS.aloadN X1118.here hx rfl (hb hby dprog_27_method_5_code_31) rfl rfl k) ?_
  obtain ⟨T1120, X1120, e1120, st1120⟩ := getF X1118 hx hZ hown (host := "") (Or.inl (hw _ (List.mem_of_getElem? (i := 55) rfl))) Via.refl e1118 F_o1_parent (g := (mkF m 32 #[.val (.ref o0), .val (.ref o1), .val (.ref o1), .unset] [(.ref o1)])) rfl rfl (hb hby dprog_27_method_5_code_32)
  refine Go.st (S' := T1120.setTop (mkF m 35 #[.val (.ref o0), .val (.ref o1), .val (.ref o1), .unset] [(.ref o_2)])) st1120 ?_
  let A1121 : Array Slot := #[.val (.ref o0), .val (.ref o1), .val (.ref o1), .val (.ref o_2)]
  refine Go.st (S' := T1120.setTop (mkF m 36 A1121 [])) (fun t k => XS.astoreN X1120.here hx rfl (hb hby dprog_27_method_5_code_35) rfl rfl (l' := A1121) rfl k) ?_
  refine Go.st (S' := T1120.setTop (mkF m 37 A1121 [(.ref o_2)])) (fun t k => XS.aloadN X1120.here hx rfl (hb hby dprog_27_method_5_code_36) rfl rfl k) ?_
  refine Go.st (S' := T1120.setTop (mkF m 40 A1121 [])) (fun t k => XS.ifnullNo X1120.here hx rfl (hb hby dprog_27_method_5_code_37) rfl k) ?_
  refine Go.st (S' := T1120.setTop (mkF m 41 A1121 [(.ref o1)])) (fun t k => XS.aloadN X1120.here hx rfl (hb hby dprog_27_method_5_code_40) rfl rfl k) ?_
  refine Go.st (S' := T1120.setTop (mkF m 42 A1121 [(.ref o_2), (.ref o1)])) (fun t k => XS.aloadN X1120.here hx rfl (hb hby dprog_27_method_5_code_41) rfl rfl k) ?_
  obtain ⟨T1123, X1123, e1123, st1123⟩ := getF X1120 hx hZ hown (host := "") (Or.inl (hw _ (List.mem_of_getElem? (i := 50) rfl))) Via.refl e1120 F_o_2_right (g := (mkF m 42 A1121 [(.ref o_2), (.ref o1)])) rfl rfl (hb hby dprog_27_method_5_code_42)
  refine Go.st (S' := T1123.setTop (mkF m 45 A1121 [(.ref o1), (.ref o1)])) st1123 ?_
  refine Go.st (S' := T1123.setTop (mkF m 48 A1121 [])) (fun t k => acmp X1123 hx rfl rfl rfl (pc0 := 45) (pc' := 48) (same := true) rfl (hb hby dprog_27_method_5_code_45) rfl (by simp) (by decide) (by decide) k) ?_
  refine Go.st (S' := T1123.setTop (mkF m 49 A1121 [(.ref o_2)])) (fun t k => XS.aloadN X1123.here hx rfl (hb hby dprog_27_method_5_code_48) rfl rfl k) ?_
  let A1124 : Array Slot := #[.val (.ref o0), .val (.ref o1), .val (.ref o_2), .val (.ref o_2)]
  refine Go.st (S' := T1123.setTop (mkF m 50 A1124 [])) (fun t k => XS.astoreN X1123.here hx rfl (hb hby dprog_27_method_5_code_49) rfl rfl (l' := A1124) rfl k) ?_
  refine Go.st (S' := T1123.setTop (mkF m 51 A1124 [(.ref o_2)])) (fun t k => XS.aloadN X1123.here hx rfl (hb hby dprog_27_method_5_code_50) rfl rfl k) ?_
  obtain ⟨T1126, X1126, e1126, st1126⟩ := getF X1123 hx hZ hown (host := "") (Or.inl (hw _ (List.mem_of_getElem? (i := 55) rfl))) Via.refl e1123 F_o_2_parent (g := (mkF m 51 A1124 [(.ref o_2)])) rfl rfl (hb hby dprog_27_method_5_code_51)
  refine Go.st (S' := T1126.setTop (mkF m 54 A1124 [(.ref o_3)])) st1126 ?_
  let A1127 : Array Slot := #[.val (.ref o0), .val (.ref o1), .val (.ref o_2), .val (.ref o_3)]
  refine Go.st (S' := T1126.setTop (mkF m 55 A1127 [])) (fun t k => XS.astoreN X1126.here hx rfl (hb hby dprog_27_method_5_code_54) rfl rfl (l' := A1127) rfl k) ?_
  refine Go.st (S' := T1126.setTop (mkF m 36 A1127 [])) (fun t k => XS.goto X1126.here hx rfl (pc0 := 55) (pc' := 36) rfl (hb hby dprog_27_method_5_code_55) (by decide) (by decide) k) ?_
  refine Go.st (S' := T1126.setTop (mkF m 37 A1127 [(.ref o_3)])) (fun t k => XS.aloadN X1126.here hx rfl (hb hby dprog_27_method_5_code_36) rfl rfl k) ?_
  refine Go.st (S' := T1126.setTop (mkF m 40 A1127 [])) (fun t k => XS.ifnullNo X1126.here hx rfl (hb hby dprog_27_method_5_code_37) rfl k) ?_
  refine Go.st (S' := T1126.setTop (mkF m 41 A1127 [(.ref o_2)])) (fun t k => XS.aloadN X1126.here hx rfl (hb hby dprog_27_method_5_code_40) rfl rfl k) ?_
  refine Go.st (S' := T1126.setTop (mkF m 42 A1127 [(.ref o_3), (.ref o_2)])) (fun t k => XS.aloadN X1126.here hx rfl (hb hby dprog_27_method_5_code_41) rfl rfl k) ?_
  obtain ⟨T1129, X1129, e1129, st1129⟩ := getF X1126 hx hZ hown (host := "") (Or.inl (hw _ (List.mem_of_getElem? (i := 50) rfl))) Via.refl e1126 F_o_3_right (g := (mkF m 42 A1127 [(.ref o_3), (.ref o_2)])) rfl rfl (hb hby dprog_27_method_5_code_42)
  refine Go.st (S' := T1129.setTop (mkF m 45 A1127 [(.ref o_2), (.ref o_2)])) st1129 ?_
  refine Go.st (S' := T1129.setTop (mkF m 48 A1127 [])) (fun t k => acmp X1129 hx rfl rfl rfl (pc0 := 45) (pc' := 48) (same := true) rfl (hb hby dprog_27_method_5_code_45) rfl (by simp) (by decide) (by decide) k) ?_
  refine Go.st (S' := T1129.setTop (mkF m 49 A1127 [(.ref o_3)])) (fun t k => XS.aloadN X1129.here hx rfl (hb hby dprog_27_method_5_code_48) rfl rfl k) ?_
  let A1130 : Array Slot := #[.val (.ref o0), .val (.ref o1), .val (.ref o_3), .val (.ref o_3)]
  refine Go.st (S' := T1129.setTop (mkF m 50 A1130 [])) (fun t k => XS.astoreN X1129.here hx rfl (hb hby dprog_27_method_5_code_49) rfl rfl (l' := A1130) rfl k) ?_
  refine Go.st (S' := T1129.setTop (mkF m 51 A1130 [(.ref o_3)])) (fun t k => XS.aloadN X1129.here hx rfl (hb hby dprog_27_method_5_code_50) rfl rfl k) ?_
  obtain ⟨T1132, X1132, e1132, st1132⟩ := getF X1129 hx hZ hown (host := "") (Or.inl (hw _ (List.mem_of_getElem? (i := 55) rfl))) Via.refl e1129 F_o_3_parent (g := (mkF m 51 A1130 [(.ref o_3)])) rfl rfl (hb hby dprog_27_method_5_code_51)
  refine Go.st (S' := T1132.setTop (mkF m 54 A1130 [(.ref o_4)])) st1132 ?_
  let A1133 : Array Slot := #[.val (.ref o0), .val (.ref o1), .val (.ref o_3), .val (.ref o_4)]
  refine Go.st (S' := T1132.setTop (mkF m 55 A1133 [])) (fun t k => XS.astoreN X1132.here hx rfl (hb hby dprog_27_method_5_code_54) rfl rfl (l' := A1133) rfl k) ?_
  refine Go.st (S' := T1132.setTop (mkF m 36 A1133 [])) (fun t k => XS.goto X1132.here hx rfl (pc0 := 55) (pc' := 36) rfl (hb hby dprog_27_method_5_code_55) (by decide) (by decide) k) ?_
  refine Go.st (S' := T1132.setTop (mkF m 37 A1133 [(.ref o_4)])) (fun t k => XS.aloadN X1132.here hx rfl (hb hby dprog_27_method_5_code_36) rfl rfl k) ?_
  refine Go.st (S' := T1132.setTop (mkF m 40 A1133 [])) (fun t k => XS.ifnullNo X1132.here hx rfl (hb hby dprog_27_method_5_code_37) rfl k) ?_
  refine Go.st (S' := T1132.setTop (mkF m 41 A1133 [(.ref o_3)])) (fun t k => XS.aloadN X1132.here hx rfl (hb hby dprog_27_method_5_code_40) rfl rfl k) ?_
  refine Go.st (S' := T1132.setTop (mkF m 42 A1133 [(.ref o_4), (.ref o_3)])) (fun t k => XS.aloadN X1132.here hx rfl (hb hby dprog_27_method_5_code_41) rfl rfl k) ?_
  obtain ⟨T1135, X1135, e1135, st1135⟩ := getF X1132 hx hZ hown (host := "") (Or.inl (hw _ (List.mem_of_getElem? (i := 50) rfl))) Via.refl e1132 F_o_4_right (g := (mkF m 42 A1133 [(.ref o_4), (.ref o_3)])) rfl rfl (hb hby dprog_27_method_5_code_42)
  refine Go.st (S' := T1135.setTop (mkF m 45 A1133 [(.ref o_5), (.ref o_3)])) st1135 ?_
  refine Go.st (S' := T1135.setTop (mkF m 58 A1133 [])) (fun t k => acmp X1135 hx rfl rfl rfl (pc0 := 45) (pc' := 58) (same := false) rfl (hb hby dprog_27_method_5_code_45) rfl (by simp [ne_o_3_o_5]) (by decide) (by decide) k) ?_
  refine Go.st (S' := T1135.setTop (mkF m 59 A1133 [(.ref o_4)])) (fun t k => XS.aloadN X1135.here hx rfl (hb hby dprog_27_method_5_code_58) rfl rfl k) ?_
  exact Go.ret X1135 (v := some (.ref o_4)) (fun h => by rw [Bd.returns] at h; cases h) Bd.notSynchronized (fun fs hr => retOut X1135 hx Bd.returns rfl (Or.inr (Or.inr (Or.inr (Or.inr ⟨rfl, rfl, rfl⟩)))) (hb hby dprog_27_method_5_code_59) hr) (by decide) (by decide) (⟨rfl, N0, (e1135)⟩)
theorem ef_12 (m : MethodId) (p0 : Int32) (p1 : Int32) : entryFrame m #[(.int p0), (.int p1)] maxLocals = mkF m 0 #[.val (.int p0), .val (.int p1), .unset, .unset, .unset, .unset, .unset, .unset, .unset, .unset, .unset, .unset, .unset, .unset, .unset, .unset, .unset, .unset, .unset, .unset] [] := by first | (simp [entryFrame, mkF, argsToLocals, Value.category, maxLocals]; done) | rfl
def Q12 (Z : State) (p0 : Int32) (p1 : Int32) (s_Side_SELL : Addr) (s_Side_BUY : Addr) (h0 : Heap) (n0 : Nat) (v : Option Value) (h : Heap) (L : List Loc) : Prop := v = some (.int 1) ∧ Fr n0 L
set_option maxRecDepth 65536 in
set_option maxHeartbeats 40000000 in
theorem rm12 (l : Launch) (Z : State) (a0 : Array Value) (hw : ∀ d ∈ tables_1, d.before a0 Z = true) (ws : List Jvm.Cond) (p0 : Int32) (p1 : Int32) (s_Side_SELL : Addr) (s_Side_BUY : Addr) (h0 : Heap) (n0 : Nat) (Z0 : n0 ≤ h0.size) (S_s_Side_SELL : Sta Z h0 "com/example/dwellgate/dwellgate/book/Side" "SELL" "Lcom/example/dwellgate/dwellgate/book/Side;" (.ref s_Side_SELL)) (S_s_Side_BUY : Sta Z h0 "com/example/dwellgate/dwellgate/book/Side" "BUY" "Lcom/example/dwellgate/dwellgate/book/Side;" (.ref s_Side_BUY)) :
    Con l Z x code maxLocals ret ws room_1 #[(.int p0), (.int p1)] h0 9 45 (Q12 Z p0 p1 s_Side_SELL s_Side_BUY h0 n0) := by
  refine MetFree.of_bodySF (plainFor_of_name pn_2) hisR ?_
  intro p e s m args below meth c s₁ Bd hml0 hP hK
  obtain ⟨rfl, hZ, hh⟩ := hP
  have hx := Bd.exec
  have hby := Bd.bytes
  have hml : c.maxLocals = 20 := hml0
  have hown : s.vm.findClass "com/example/dwellgate/dwellgate/book/PriceTreeNextPinLaw" = some m.cls := findClass_of_methodNamed Bd.named
  have hnm := (name_of_methodNamed Bd.named Bd.method).1
  have X0 : Stand p l e room_1 s m #[(.int p0), (.int p1)] below meth c s₁ [] 0 0 := Stand.of_body Bd
  have e0 : s₁.heap = h0 := by rw [← hh, Bd.state]; rfl
  have N0 := Fr.nil n0
  refine Go.of ?_
  refine Go.st (S' := s₁.setTop (mkF m 0 #[.val (.int p0), .val (.int p1), .unset, .unset, .unset, .unset, .unset, .unset, .unset, .unset, .unset, .unset, .unset, .unset, .unset, .unset, .unset, .unset, .unset, .unset] [])) (fun t k => castTop (ef_12 m p0 p1) k) ?_
  let A1 : Array Slot := #[.val (.int p0), .val (.int p1), .unset, .unset, .unset, .unset, .unset, .unset, .unset, .unset, .unset, .unset, .unset, .unset, .unset, .unset, .unset, .unset, .unset, .unset]
  refine Go.st (S' := s₁.setTop (mkF m 1 A1 [(.int p1)])) (fun t k => XS.iloadN X0.here hx rfl (hb hby at_0) rfl k) ?_
  refine Go.st (S' := s₁.setTop (mkF m 2 A1 [(.int (1 : Int32)), (.int p1)])) (fun t k => XS.iconst X0.here hx rfl (hb hby at_1) k) ?_
  refine Go.op (F := fun z => s₁.setTop (mkF m 3 A1 [(.int z)])) (x := (p1 &&& (1 : Int32))) (fun t k => XS.iand X0.here hx rfl (hb hby at_2) rfl k) ?_
  intro v2 hv2
  refine Go.join (α := Int32) (fun r => (((v2 = (0 : Int32)) ∧ (r = (0 : Int32))) ∨ ((¬ (v2 = (0 : Int32))) ∧ (r = (1 : Int32))))) (fun r => s₁.setTop (mkF m 11 A1 [(.int r)])) ?_ ?_
  · intro r5 hc6
    let A7 : Array Slot := #[.val (.int p0), .val (.int p1), .val (.int r5), .unset, .unset, .unset, .unset, .unset, .unset, .unset, .unset, .unset, .unset, .unset, .unset, .unset, .unset, .unset, .unset, .unset]
    refine Go.st (S' := s₁.setTop (mkF m 12 A7 [])) (fun t k => XS.istoreN X0.here hx rfl (hb hby at_11) rfl (l' := A7) rfl k) ?_
    refine Go.st (S' := s₁.setTop (mkF m 13 A7 [(.int p1)])) (fun t k => XS.iloadN X0.here hx rfl (hb hby at_12) rfl k) ?_
    refine Go.st (S' := s₁.setTop (mkF m 14 A7 [(.int (2 : Int32)), (.int p1)])) (fun t k => XS.iconst X0.here hx rfl (hb hby at_13) k) ?_
    refine Go.op (F := fun z => s₁.setTop (mkF m 15 A7 [(.int z)])) (x := (p1 &&& (2 : Int32))) (fun t k => XS.iand X0.here hx rfl (hb hby at_14) rfl k) ?_
    intro v8 hv8
    refine Go.join (α := Int32) (fun r => (((v8 = (0 : Int32)) ∧ (r = (0 : Int32))) ∨ ((¬ (v8 = (0 : Int32))) ∧ (r = (1 : Int32))))) (fun r => s₁.setTop (mkF m 23 A7 [(.int r)])) ?_ ?_
    · intro r11 hc12
      let A13 : Array Slot := #[.val (.int p0), .val (.int p1), .val (.int r5), .val (.int r11), .unset, .unset, .unset, .unset, .unset, .unset, .unset, .unset, .unset, .unset, .unset, .unset, .unset, .unset, .unset, .unset]
      refine Go.st (S' := s₁.setTop (mkF m 24 A13 [])) (fun t k => XS.istoreN X0.here hx rfl (hb hby at_23) rfl (l' := A13) rfl k) ?_
      refine Go.st (S' := s₁.setTop (mkF m 25 A13 [(.int p1)])) (fun t k => XS.iloadN X0.here hx rfl (hb hby at_24) rfl k) ?_
      refine Go.st (S' := s₁.setTop (mkF m 26 A13 [(.int (4 : Int32)), (.int p1)])) (fun t k => XS.iconst X0.here hx rfl (hb hby at_25) k) ?_
      refine Go.op (F := fun z => s₁.setTop (mkF m 27 A13 [(.int z)])) (x := (p1 &&& (4 : Int32))) (fun t k => XS.iand X0.here hx rfl (hb hby at_26) rfl k) ?_
      intro v14 hv14
      refine Go.join (α := Int32) (fun r => (((v14 = (0 : Int32)) ∧ (r = (0 : Int32))) ∨ ((¬ (v14 = (0 : Int32))) ∧ (r = (1 : Int32))))) (fun r => s₁.setTop (mkF m 35 A13 [(.int r)])) ?_ ?_
      · intro r17 hc18
        let A19 : Array Slot := #[.val (.int p0), .val (.int p1), .val (.int r5), .val (.int r11), .val (.int r17), .unset, .unset, .unset, .unset, .unset, .unset, .unset, .unset, .unset, .unset, .unset, .unset, .unset, .unset, .unset]
        refine Go.st (S' := s₁.setTop (mkF m 37 A19 [])) (fun t k => XS.istore X0.here hx rfl (hb hby at_35) rfl (l' := A19) rfl k) ?_
        refine Go.st (S' := s₁.setTop (mkF m 39 A19 [(.int r17)])) (fun t k => XS.iload X0.here hx rfl (hb hby at_37) rfl k) ?_
        refine Go.joinT X0 e0 (α := Addr) (fun r => (((r17 = (0 : Int32))) ∨ ((¬ (r17 = (0 : Int32)))))) (fun T' r => T'.setTop (mkF m 51 A19 [(.ref r)])) ?_ ?_
        · intro T28 X28 e28
          intro r26 hc27
          let A29 : Array Slot := #[.val (.int p0), .val (.int p1), .val (.int r5), .val (.int r11), .val (.int r17), .val (.ref r26), .unset, .unset, .unset, .unset, .unset, .unset, .unset, .unset, .unset, .unset, .unset, .unset, .unset, .unset]
          refine Go.st (S' := T28.setTop (mkF m 53 A29 [])) (fun t k => XS.astore X28.here hx rfl (hb hby at_51) rfl rfl (l' := A29) rfl k) ?_
          refine Go.st (S' := T28.setTop (mkF m 55 A29 [(.int r17)])) (fun t k => XS.iload X28.here hx rfl (hb hby at_53) rfl k) ?_
          refine Go.join (α := Int64) (fun r => (((r17 = (0 : Int32)) ∧ (r = (1 : Int64))) ∨ ((¬ (r17 = (0 : Int32))) ∧ (r = (-1 : Int64))))) (fun r => T28.setTop (mkF m 65 A29 [(.long r)])) ?_ ?_
          · intro r32 hc33
            let A34 : Array Slot := #[.val (.int p0), .val (.int p1), .val (.int r5), .val (.int r11), .val (.int r17), .val (.ref r26), .val (.long r32), .second, .unset, .unset, .unset, .unset, .unset, .unset, .unset, .unset, .unset, .unset, .unset, .unset]
            refine Go.st (S' := T28.setTop (mkF m 67 A34 [])) (fun t k => XS.lstore X28.here hx rfl (hb hby at_65) rfl (l' := A34) rfl k) ?_
            obtain ⟨T35, h35, X35, e35, E35, A35, D35, -, st35⟩ := newO X28 hx hZ hown (hw _ (List.mem_of_getElem? (i := 3) rfl)) (hw _ (List.mem_of_getElem? (i := 4) rfl)) (hw _ (List.mem_of_getElem? (i := 5) rfl)) e28 (g := (mkF m 67 A34 [])) rfl (hb hby at_67) (by decide) (by decide)
            obtain ⟨b35, gg35⟩ : ∃ z, z = h0.size := ⟨_, rfl⟩
            rw [← gg35] at A35 D35 st35
            have g_b35 : n0 ≤ b35 := Nat.le_trans Z0 (Nat.le_of_eq gg35.symm)
            have sz_b35 : h0.size ≤ b35 := Nat.le_trans (Keep.refl h0 []).1 (Nat.le_of_eq gg35.symm)
            have Z36 : n0 ≤ h35.size := Nat.le_trans Z0 E35.1
            have K36 : Keep h0 h35 [] := (Keep.refl h0 []).ext E35
            have Fb35_side : Fld Z h35 b35 "com/example/dwellgate/dwellgate/book/PriceTree" "side" "Lcom/example/dwellgate/dwellgate/book/Side;" .null := D35 (Or.inr (hw _ (List.mem_of_getElem? (i := 13) rfl))) (ty := (.object "com/example/dwellgate/dwellgate/book/Side")) (by decide)
            refine Go.st (S' := T35.setTop (mkF m 70 A34 [(.ref b35)])) st35 ?_
            refine Go.st (S' := T35.setTop (mkF m 71 A34 [(.ref b35), (.ref b35)])) (fun t k => XS.dup X35.here hx rfl (hb hby at_70) rfl rfl k) ?_
            refine Go.st (S' := T35.setTop (mkF m 73 A34 [(.ref r26), (.ref b35), (.ref b35)])) (fun t k => XS.aload X35.here hx rfl (hb hby at_71) rfl rfl k) ?_
            obtain ⟨r41, T41, L41, X41, hQ41, st41⟩ := own_callI (W := 1) (a := b35) X35 hx hZ e35 hown (y := (⟨"com/example/dwellgate/dwellgate/book/PriceTree", "<init>", "(Lcom/example/dwellgate/dwellgate/book/Side;)V"⟩ : MethodName)) rfl (hw _ (List.mem_of_getElem? (i := 6) rfl)) (hw _ (List.mem_of_getElem? (i := 7) rfl)) (hw _ (List.mem_of_getElem? (i := 5) rfl)) (hw _ (List.mem_of_getElem? (i := 8) rfl)) (by decide) (rm1 l Z a0 hw [] b35 r26 (.null) h35 n0 Z36 (A35) (Fb35_side) (g_b35)) (by decide) (by decide) (by decide) (by decide) (g := (mkF m 73 A34 [(.ref r26), (.ref b35), (.ref b35)])) rfl (by rw [hml]; rfl) (argsL := [(.ref r26)]) (rest := [(.ref b35)]) rfl (lenOf pd_0 rfl) rfl (by show 2 * 0 + _ ≤ _; exact Nat.le_of_eq rfl) (hb hby at_73)
            obtain ⟨rfl, N41, K41_, f42, f43⟩ := hQ41
            have N41_ := Fr.app N0 N41
            have Z44 : n0 ≤ T41.heap.size := Nat.le_trans Z36 K41_.1
            have K44 : Keep h0 T41.heap [] := K36.trans K41_ (allS (Or.inr sz_b35) all0)
            refine Go.st (S' := T41.setTop (mkF m 76 A34 [(.ref b35)])) st41 ?_
            let A45 : Array Slot := #[.val (.int p0), .val (.int p1), .val (.int r5), .val (.int r11), .val (.int r17), .val (.ref r26), .val (.long r32), .second, .val (.ref b35), .unset, .unset, .unset, .unset, .unset, .unset, .unset, .unset, .unset, .unset, .unset]
            refine Go.st (S' := T41.setTop (mkF m 78 A45 [])) (fun t k => XS.astore X41.here hx rfl (hb hby at_76) rfl rfl (l' := A45) rfl k) ?_
            obtain ⟨T46, h46, X46, e46, E46, A46, D46, -, st46⟩ := newO X41 hx hZ hown (hw _ (List.mem_of_getElem? (i := 14) rfl)) (hw _ (List.mem_of_getElem? (i := 15) rfl)) (hw _ (List.mem_of_getElem? (i := 16) rfl)) rfl (g := (mkF m 78 A45 [])) rfl (hb hby at_78) (by decide) (by decide)
            obtain ⟨b46, gg46⟩ : ∃ z, z = T41.heap.size := ⟨_, rfl⟩
            rw [← gg46] at A46 D46 st46
            have g_b46 : n0 ≤ b46 := Nat.le_trans Z44 (Nat.le_of_eq gg46.symm)
            have sz_b46 : h0.size ≤ b46 := Nat.le_trans K44.1 (Nat.le_of_eq gg46.symm)
            have lt_b35_b46 : b35 < b46 := Nat.lt_of_lt_of_le (f42).lt (Nat.le_of_eq gg46.symm)
            have Z47 : n0 ≤ h46.size := Nat.le_trans Z44 E46.1
            have K47 : Keep h0 h46 [] := K44.ext E46
            have Fb46_key : Fld Z h46 b46 "com/example/dwellgate/dwellgate/book/PriceTree$Node" "key" "J" (.long (0 : Int64)) := D46 (Or.inl (hw _ (List.mem_of_getElem? (i := 27) rfl))) (ty := .long) (by decide)
            have Fb46_left : Fld Z h46 b46 "com/example/dwellgate/dwellgate/book/PriceTree$Node" "left" "Lcom/example/dwellgate/dwellgate/book/PriceTree$Node;" .null := D46 (Or.inl (hw _ (List.mem_of_getElem? (i := 35) rfl))) (ty := (.object "com/example/dwellgate/dwellgate/book/PriceTree$Node")) (by decide)
            have Fb46_parent : Fld Z h46 b46 "com/example/dwellgate/dwellgate/book/PriceTree$Node" "parent" "Lcom/example/dwellgate/dwellgate/book/PriceTree$Node;" .null := D46 (Or.inl (hw _ (List.mem_of_getElem? (i := 38) rfl))) (ty := (.object "com/example/dwellgate/dwellgate/book/PriceTree$Node")) (by decide)
            have Fb46_right : Fld Z h46 b46 "com/example/dwellgate/dwellgate/book/PriceTree$Node" "right" "Lcom/example/dwellgate/dwellgate/book/PriceTree$Node;" .null := D46 (Or.inl (hw _ (List.mem_of_getElem? (i := 41) rfl))) (ty := (.object "com/example/dwellgate/dwellgate/book/PriceTree$Node")) (by decide)
            refine Go.st (S' := T46.setTop (mkF m 81 A45 [(.ref b46)])) st46 ?_
            refine Go.st (S' := T46.setTop (mkF m 82 A45 [(.ref b46), (.ref b46)])) (fun t k => XS.dup X46.here hx rfl (hb hby at_81) rfl rfl k) ?_
            refine Go.st (S' := T46.setTop (mkF m 83 A45 [(.long (0 : Int64)), (.ref b46), (.ref b46)])) (fun t k => XS.lconst X46.here hx rfl (hb hby at_82) k) ?_
            refine Go.st (S' := T46.setTop (mkF m 85 A45 [(.long r32), (.long (0 : Int64)), (.ref b46), (.ref b46)])) (fun t k => XS.lload X46.here hx rfl (hb hby at_83) rfl k) ?_
            refine Go.op (F := fun z => T46.setTop (mkF m 86 A45 [(.long z), (.ref b46), (.ref b46)])) (x := ((0 : Int64) * r32)) (fun t k => XS.lmul X46.here hx rfl (hb hby at_85) rfl k) ?_
            intro v48 hv48
            obtain ⟨r71, T71, L71, X71, hQ71, st71⟩ := own_callI (W := 1) (a := b46) X46 hx hZ e46 hown (y := (⟨"com/example/dwellgate/dwellgate/book/PriceTreeNextPinLaw", "<init>", "(J)V"⟩ : MethodName)) rfl (hw _ (List.mem_of_getElem? (i := 17) rfl)) (hw _ (List.mem_of_getElem? (i := 18) rfl)) (hw _ (List.mem_of_getElem? (i := 16) rfl)) (hw _ (List.mem_of_getElem? (i := 19) rfl)) (by decide) (rm4 l Z a0 hw [] b46 v48 (0 : Int64) h46 n0 Z47 (A46) (Fb46_key) (Fb46_left) (Fb46_parent) (Fb46_right) (g_b46)) (by decide) (by decide) (by decide) (by decide) (g := (mkF m 86 A45 [(.long v48), (.ref b46), (.ref b46)])) rfl (by rw [hml]; rfl) (argsL := [(.long v48)]) (rest := [(.ref b46)]) rfl (lenOf pd_1 rfl) rfl (by show 2 * 0 + _ ≤ _; exact Nat.le_of_eq rfl) (hb hby at_86)
            obtain ⟨rfl, N71, K71_, f72, f73, f74, f75, f76⟩ := hQ71
            have N71_ := Fr.app N41_ N71
            have Z77 : n0 ≤ T71.heap.size := Nat.le_trans Z47 K71_.1
            have K77 : Keep h0 T71.heap [] := K47.trans K71_ (allS (Or.inr sz_b46) all0)
            refine Go.st (S' := T71.setTop (mkF m 89 A45 [(.ref b46)])) st71 ?_
            let A78 : Array Slot := #[.val (.int p0), .val (.int p1), .val (.int r5), .val (.int r11), .val (.int r17), .val (.ref r26), .val (.long r32), .second, .val (.ref b35), .val (.ref b46), .unset, .unset, .unset, .unset, .unset, .unset, .unset, .unset, .unset, .unset]
            refine Go.st (S' := T71.setTop (mkF m 91 A78 [])) (fun t k => XS.astore X71.here hx rfl (hb hby at_89) rfl rfl (l' := A78) rfl k) ?_
            obtain ⟨T79, h79, X79, e79, E79, A79, D79, -, st79⟩ := newO X71 hx hZ hown (hw _ (List.mem_of_getElem? (i := 14) rfl)) (hw _ (List.mem_of_getElem? (i := 15) rfl)) (hw _ (List.mem_of_getElem? (i := 16) rfl)) rfl (g := (mkF m 91 A78 [])) rfl (hb hby at_91) (by decide) (by decide)
            obtain ⟨b79, gg79⟩ : ∃ z, z = T71.heap.size := ⟨_, rfl⟩
            rw [← gg79] at A79 D79 st79
            have g_b79 : n0 ≤ b79 := Nat.le_trans Z77 (Nat.le_of_eq gg79.symm)
            have sz_b79 : h0.size ≤ b79 := Nat.le_trans K77.1 (Nat.le_of_eq gg79.symm)
            have f80 := ((((f42).ext E46)).keep K71_)
            have lt_b35_b79 : b35 < b79 := Nat.lt_of_lt_of_le (f80).lt (Nat.le_of_eq gg79.symm)
            have lt_b46_b79 : b46 < b79 := Nat.lt_of_lt_of_le (f72).lt (Nat.le_of_eq gg79.symm)
            have Z81 : n0 ≤ h79.size := Nat.le_trans Z77 E79.1
            have K81 : Keep h0 h79 [] := K77.ext E79
            have Fb79_key : Fld Z h79 b79 "com/example/dwellgate/dwellgate/book/PriceTree$Node" "key" "J" (.long (0 : Int64)) := D79 (Or.inl (hw _ (List.mem_of_getElem? (i := 27) rfl))) (ty := .long) (by decide)
            have Fb79_left : Fld Z h79 b79 "com/example/dwellgate/dwellgate/book/PriceTree$Node" "left" "Lcom/example/dwellgate/dwellgate/book/PriceTree$Node;" .null := D79 (Or.inl (hw _ (List.mem_of_getElem? (i := 35) rfl))) (ty := (.object "com/example/dwellgate/dwellgate/book/PriceTree$Node")) (by decide)
            have Fb79_parent : Fld Z h79 b79 "com/example/dwellgate/dwellgate/book/PriceTree$Node" "parent" "Lcom/example/dwellgate/dwellgate/book/PriceTree$Node;" .null := D79 (Or.inl (hw _ (List.mem_of_getElem? (i := 38) rfl))) (ty := (.object "com/example/dwellgate/dwellgate/book/PriceTree$Node")) (by decide)
            have Fb79_right : Fld Z h79 b79 "com/example/dwellgate/dwellgate/book/PriceTree$Node" "right" "Lcom/example/dwellgate/dwellgate/book/PriceTree$Node;" .null := D79 (Or.inl (hw _ (List.mem_of_getElem? (i := 41) rfl))) (ty := (.object "com/example/dwellgate/dwellgate/book/PriceTree$Node")) (by decide)
            refine Go.st (S' := T79.setTop (mkF m 94 A78 [(.ref b79)])) st79 ?_
            refine Go.st (S' := T79.setTop (mkF m 95 A78 [(.ref b79), (.ref b79)])) (fun t k => XS.dup X79.here hx rfl (hb hby at_94) rfl rfl k) ?_
            refine Go.st (S' := T79.setTop (mkF m 96 A78 [(.long (1 : Int64)), (.ref b79), (.ref b79)])) (fun t k => XS.lconst X79.here hx rfl (hb hby at_95) k) ?_
            refine Go.st (S' := T79.setTop (mkF m 98 A78 [(.long r32), (.long (1 : Int64)), (.ref b79), (.ref b79)])) (fun t k => XS.lload X79.here hx rfl (hb hby at_96) rfl k) ?_
            refine Go.op (F := fun z => T79.setTop (mkF m 99 A78 [(.long z), (.ref b79), (.ref b79)])) (x := ((1 : Int64) * r32)) (fun t k => XS.lmul X79.here hx rfl (hb hby at_98) rfl k) ?_
            intro v82 hv82
            obtain ⟨r83, T83, L83, X83, hQ83, st83⟩ := own_callI (W := 1) (a := b79) X79 hx hZ e79 hown (y := (⟨"com/example/dwellgate/dwellgate/book/PriceTreeNextPinLaw", "<init>", "(J)V"⟩ : MethodName)) rfl (hw _ (List.mem_of_getElem? (i := 17) rfl)) (hw _ (List.mem_of_getElem? (i := 18) rfl)) (hw _ (List.mem_of_getElem? (i := 16) rfl)) (hw _ (List.mem_of_getElem? (i := 19) rfl)) (by decide) (rm4 l Z a0 hw [] b79 v82 (0 : Int64) h79 n0 Z81 (A79) (Fb79_key) (Fb79_left) (Fb79_parent) (Fb79_right) (g_b79)) (by decide) (by decide) (by decide) (by decide) (g := (mkF m 99 A78 [(.long v82), (.ref b79), (.ref b79)])) rfl (by rw [hml]; rfl) (argsL := [(.long v82)]) (rest := [(.ref b79)]) rfl (lenOf pd_1 rfl) rfl (by show 2 * 0 + _ ≤ _; exact Nat.le_of_eq rfl) (hb hby at_99)
            obtain ⟨rfl, N83, K83_, f84, f85, f86, f87, f88⟩ := hQ83
            have N83_ := Fr.app N71_ N83
            have Z89 : n0 ≤ T83.heap.size := Nat.le_trans Z81 K83_.1
            have K89 : Keep h0 T83.heap [] := K81.trans K83_ (allS (Or.inr sz_b79) all0)
            refine Go.st (S' := T83.setTop (mkF m 102 A78 [(.ref b79)])) st83 ?_
            let A90 : Array Slot := #[.val (.int p0), .val (.int p1), .val (.int r5), .val (.int r11), .val (.int r17), .val (.ref r26), .val (.long r32), .second, .val (.ref b35), .val (.ref b46), .val (.ref b79), .unset, .unset, .unset, .unset, .unset, .unset, .unset, .unset, .unset]
            refine Go.st (S' := T83.setTop (mkF m 104 A90 [])) (fun t k => XS.astore X83.here hx rfl (hb hby at_102) rfl rfl (l' := A90) rfl k) ?_
            obtain ⟨T91, h91, X91, e91, E91, A91, D91, -, st91⟩ := newO X83 hx hZ hown (hw _ (List.mem_of_getElem? (i := 14) rfl)) (hw _ (List.mem_of_getElem? (i := 15) rfl)) (hw _ (List.mem_of_getElem? (i := 16) rfl)) rfl (g := (mkF m 104 A90 [])) rfl (hb hby at_104) (by decide) (by decide)
            obtain ⟨b91, gg91⟩ : ∃ z, z = T83.heap.size := ⟨_, rfl⟩
            rw [← gg91] at A91 D91 st91
            have g_b91 : n0 ≤ b91 := Nat.le_trans Z89 (Nat.le_of_eq gg91.symm)
            have sz_b91 : h0.size ≤ b91 := Nat.le_trans K89.1 (Nat.le_of_eq gg91.symm)
            have f92 := ((((f80).ext E79)).keep K83_)
            have lt_b35_b91 : b35 < b91 := Nat.lt_of_lt_of_le (f92).lt (Nat.le_of_eq gg91.symm)
            have f93 := ((((f72).ext E79)).keep K83_)
            have lt_b46_b91 : b46 < b91 := Nat.lt_of_lt_of_le (f93).lt (Nat.le_of_eq gg91.symm)
            have lt_b79_b91 : b79 < b91 := Nat.lt_of_lt_of_le (f84).lt (Nat.le_of_eq gg91.symm)
            have Z94 : n0 ≤ h91.size := Nat.le_trans Z89 E91.1
            have K94 : Keep h0 h91 [] := K89.ext E91
            have Fb91_key : Fld Z h91 b91 "com/example/dwellgate/dwellgate/book/PriceTree$Node" "key" "J" (.long (0 : Int64)) := D91 (Or.inl (hw _ (List.mem_of_getElem? (i := 27) rfl))) (ty := .long) (by decide)
            have Fb91_left : Fld Z h91 b91 "com/example/dwellgate/dwellgate/book/PriceTree$Node" "left" "Lcom/example/dwellgate/dwellgate/book/PriceTree$Node;" .null := D91 (Or.inl (hw _ (List.mem_of_getElem? (i := 35) rfl))) (ty := (.object "com/example/dwellgate/dwellgate/book/PriceTree$Node")) (by decide)
            have Fb91_parent : Fld Z h91 b91 "com/example/dwellgate/dwellgate/book/PriceTree$Node" "parent" "Lcom/example/dwellgate/dwellgate/book/PriceTree$Node;" .null := D91 (Or.inl (hw _ (List.mem_of_getElem? (i := 38) rfl))) (ty := (.object "com/example/dwellgate/dwellgate/book/PriceTree$Node")) (by decide)
            have Fb91_right : Fld Z h91 b91 "com/example/dwellgate/dwellgate/book/PriceTree$Node" "right" "Lcom/example/dwellgate/dwellgate/book/PriceTree$Node;" .null := D91 (Or.inl (hw _ (List.mem_of_getElem? (i := 41) rfl))) (ty := (.object "com/example/dwellgate/dwellgate/book/PriceTree$Node")) (by decide)
            refine Go.st (S' := T91.setTop (mkF m 107 A90 [(.ref b91)])) st91 ?_
            refine Go.st (S' := T91.setTop (mkF m 108 A90 [(.ref b91), (.ref b91)])) (fun t k => XS.dup X91.here hx rfl (hb hby at_107) rfl rfl k) ?_
            refine Go.st (S' := T91.setTop (mkF m 111 A90 [(.long (2 : Int64)), (.ref b91), (.ref b91)])) (fun t k => X91.ldc2Long hx hown (mvT hZ (hw _ (List.mem_of_getElem? (i := 28) rfl))) (g := (mkF m 108 A90 [(.ref b91), (.ref b91)])) rfl (hb hby at_108) t k) ?_
            refine Go.st (S' := T91.setTop (mkF m 113 A90 [(.long r32), (.long (2 : Int64)), (.ref b91), (.ref b91)])) (fun t k => XS.lload X91.here hx rfl (hb hby at_111) rfl k) ?_
            refine Go.op (F := fun z => T91.setTop (mkF m 114 A90 [(.long z), (.ref b91), (.ref b91)])) (x := ((2 : Int64) * r32)) (fun t k => XS.lmul X91.here hx rfl (hb hby at_113) rfl k) ?_
            intro v95 hv95
            obtain ⟨r96, T96, L96, X96, hQ96, st96⟩ := own_callI (W := 1) (a := b91) X91 hx hZ e91 hown (y := (⟨"com/example/dwellgate/dwellgate/book/PriceTreeNextPinLaw", "<init>", "(J)V"⟩ : MethodName)) rfl (hw _ (List.mem_of_getElem? (i := 17) rfl)) (hw _ (List.mem_of_getElem? (i := 18) rfl)) (hw _ (List.mem_of_getElem? (i := 16) rfl)) (hw _ (List.mem_of_getElem? (i := 19) rfl)) (by decide) (rm4 l Z a0 hw [] b91 v95 (0 : Int64) h91 n0 Z94 (A91) (Fb91_key) (Fb91_left) (Fb91_parent) (Fb91_right) (g_b91)) (by decide) (by decide) (by decide) (by decide) (g := (mkF m 114 A90 [(.long v95), (.ref b91), (.ref b91)])) rfl (by rw [hml]; rfl) (argsL := [(.long v95)]) (rest := [(.ref b91)]) rfl (lenOf pd_1 rfl) rfl (by show 2 * 0 + _ ≤ _; exact Nat.le_of_eq rfl) (hb hby at_114)
            obtain ⟨rfl, N96, K96_, f97, f98, f99, f100, f101⟩ := hQ96
            have N96_ := Fr.app N83_ N96
            have Z102 : n0 ≤ T96.heap.size := Nat.le_trans Z94 K96_.1
            have K102 : Keep h0 T96.heap [] := K94.trans K96_ (allS (Or.inr sz_b91) all0)
            refine Go.st (S' := T96.setTop (mkF m 117 A90 [(.ref b91)])) st96 ?_
            let A103 : Array Slot := #[.val (.int p0), .val (.int p1), .val (.int r5), .val (.int r11), .val (.int r17), .val (.ref r26), .val (.long r32), .second, .val (.ref b35), .val (.ref b46), .val (.ref b79), .val (.ref b91), .unset, .unset, .unset, .unset, .unset, .unset, .unset, .unset]
            refine Go.st (S' := T96.setTop (mkF m 119 A103 [])) (fun t k => XS.astore X96.here hx rfl (hb hby at_117) rfl rfl (l' := A103) rfl k) ?_
            obtain ⟨T104, h104, X104, e104, E104, A104, D104, -, st104⟩ := newO X96 hx hZ hown (hw _ (List.mem_of_getElem? (i := 14) rfl)) (hw _ (List.mem_of_getElem? (i := 15) rfl)) (hw _ (List.mem_of_getElem? (i := 16) rfl)) rfl (g := (mkF m 119 A103 [])) rfl (hb hby at_119) (by decide) (by decide)
            obtain ⟨b104, gg104⟩ : ∃ z, z = T96.heap.size := ⟨_, rfl⟩
            rw [← gg104] at A104 D104 st104
            have g_b104 : n0 ≤ b104 := Nat.le_trans Z102 (Nat.le_of_eq gg104.symm)
            have sz_b104 : h0.size ≤ b104 := Nat.le_trans K102.1 (Nat.le_of_eq gg104.symm)
            have f105 := ((((f92).ext E91)).keep K96_)
            have lt_b35_b104 : b35 < b104 := Nat.lt_of_lt_of_le (f105).lt (Nat.le_of_eq gg104.symm)
            have f106 := ((((f93).ext E91)).keep K96_)
            have lt_b46_b104 : b46 < b104 := Nat.lt_of_lt_of_le (f106).lt (Nat.le_of_eq gg104.symm)
            have f107 := ((((f84).ext E91)).keep K96_)
            have lt_b79_b104 : b79 < b104 := Nat.lt_of_lt_of_le (f107).lt (Nat.le_of_eq gg104.symm)
            have lt_b91_b104 : b91 < b104 := Nat.lt_of_lt_of_le (f97).lt (Nat.le_of_eq gg104.symm)
            have Z108 : n0 ≤ h104.size := Nat.le_trans Z102 E104.1
            have K108 : Keep h0 h104 [] := K102.ext E104
            have Fb104_key : Fld Z h104 b104 "com/example/dwellgate/dwellgate/book/PriceTree$Node" "key" "J" (.long (0 : Int64)) := D104 (Or.inl (hw _ (List.mem_of_getElem? (i := 27) rfl))) (ty := .long) (by decide)
            have Fb104_left : Fld Z h104 b104 "com/example/dwellgate/dwellgate/book/PriceTree$Node" "left" "Lcom/example/dwellgate/dwellgate/book/PriceTree$Node;" .null := D104 (Or.inl (hw _ (List.mem_of_getElem? (i := 35) rfl))) (ty := (.object "com/example/dwellgate/dwellgate/book/PriceTree$Node")) (by decide)
            have Fb104_parent : Fld Z h104 b104 "com/example/dwellgate/dwellgate/book/PriceTree$Node" "parent" "Lcom/example/dwellgate/dwellgate/book/PriceTree$Node;" .null := D104 (Or.inl (hw _ (List.mem_of_getElem? (i := 38) rfl))) (ty := (.object "com/example/dwellgate/dwellgate/book/PriceTree$Node")) (by decide)
            have Fb104_right : Fld Z h104 b104 "com/example/dwellgate/dwellgate/book/PriceTree$Node" "right" "Lcom/example/dwellgate/dwellgate/book/PriceTree$Node;" .null := D104 (Or.inl (hw _ (List.mem_of_getElem? (i := 41) rfl))) (ty := (.object "com/example/dwellgate/dwellgate/book/PriceTree$Node")) (by decide)
            refine Go.st (S' := T104.setTop (mkF m 122 A103 [(.ref b104)])) st104 ?_
            refine Go.st (S' := T104.setTop (mkF m 123 A103 [(.ref b104), (.ref b104)])) (fun t k => XS.dup X104.here hx rfl (hb hby at_122) rfl rfl k) ?_
            refine Go.st (S' := T104.setTop (mkF m 126 A103 [(.long (3 : Int64)), (.ref b104), (.ref b104)])) (fun t k => X104.ldc2Long hx hown (mvT hZ (hw _ (List.mem_of_getElem? (i := 29) rfl))) (g := (mkF m 123 A103 [(.ref b104), (.ref b104)])) rfl (hb hby at_123) t k) ?_
            refine Go.st (S' := T104.setTop (mkF m 128 A103 [(.long r32), (.long (3 : Int64)), (.ref b104), (.ref b104)])) (fun t k => XS.lload X104.here hx rfl (hb hby at_126) rfl k) ?_
            refine Go.op (F := fun z => T104.setTop (mkF m 129 A103 [(.long z), (.ref b104), (.ref b104)])) (x := ((3 : Int64) * r32)) (fun t k => XS.lmul X104.here hx rfl (hb hby at_128) rfl k) ?_
            intro v109 hv109
            obtain ⟨r110, T110, L110, X110, hQ110, st110⟩ := own_callI (W := 1) (a := b104) X104 hx hZ e104 hown (y := (⟨"com/example/dwellgate/dwellgate/book/PriceTreeNextPinLaw", "<init>", "(J)V"⟩ : MethodName)) rfl (hw _ (List.mem_of_getElem? (i := 17) rfl)) (hw _ (List.mem_of_getElem? (i := 18) rfl)) (hw _ (List.mem_of_getElem? (i := 16) rfl)) (hw _ (List.mem_of_getElem? (i := 19) rfl)) (by decide) (rm4 l Z a0 hw [] b104 v109 (0 : Int64) h104 n0 Z108 (A104) (Fb104_key) (Fb104_left) (Fb104_parent) (Fb104_right) (g_b104)) (by decide) (by decide) (by decide) (by decide) (g := (mkF m 129 A103 [(.long v109), (.ref b104), (.ref b104)])) rfl (by rw [hml]; rfl) (argsL := [(.long v109)]) (rest := [(.ref b104)]) rfl (lenOf pd_1 rfl) rfl (by show 2 * 0 + _ ≤ _; exact Nat.le_of_eq rfl) (hb hby at_129)
            obtain ⟨rfl, N110, K110_, f111, f112, f113, f114, f115⟩ := hQ110
            have N110_ := Fr.app N96_ N110
            have Z116 : n0 ≤ T110.heap.size := Nat.le_trans Z108 K110_.1
            have K116 : Keep h0 T110.heap [] := K108.trans K110_ (allS (Or.inr sz_b104) all0)
            refine Go.st (S' := T110.setTop (mkF m 132 A103 [(.ref b104)])) st110 ?_
            let A117 : Array Slot := #[.val (.int p0), .val (.int p1), .val (.int r5), .val (.int r11), .val (.int r17), .val (.ref r26), .val (.long r32), .second, .val (.ref b35), .val (.ref b46), .val (.ref b79), .val (.ref b91), .val (.ref b104), .unset, .unset, .unset, .unset, .unset, .unset, .unset]
            refine Go.st (S' := T110.setTop (mkF m 134 A117 [])) (fun t k => XS.astore X110.here hx rfl (hb hby at_132) rfl rfl (l' := A117) rfl k) ?_
            obtain ⟨T118, h118, X118, e118, E118, A118, D118, -, st118⟩ := newO X110 hx hZ hown (hw _ (List.mem_of_getElem? (i := 14) rfl)) (hw _ (List.mem_of_getElem? (i := 15) rfl)) (hw _ (List.mem_of_getElem? (i := 16) rfl)) rfl (g := (mkF m 134 A117 [])) rfl (hb hby at_134) (by decide) (by decide)
            obtain ⟨b118, gg118⟩ : ∃ z, z = T110.heap.size := ⟨_, rfl⟩
            rw [← gg118] at A118 D118 st118
            have g_b118 : n0 ≤ b118 := Nat.le_trans Z116 (Nat.le_of_eq gg118.symm)
            have sz_b118 : h0.size ≤ b118 := Nat.le_trans K116.1 (Nat.le_of_eq gg118.symm)
            have f119 := ((((f105).ext E104)).keep K110_)
            have lt_b35_b118 : b35 < b118 := Nat.lt_of_lt_of_le (f119).lt (Nat.le_of_eq gg118.symm)
            have f120 := ((((f106).ext E104)).keep K110_)
            have lt_b46_b118 : b46 < b118 := Nat.lt_of_lt_of_le (f120).lt (Nat.le_of_eq gg118.symm)
            have f121 := ((((f107).ext E104)).keep K110_)
            have lt_b79_b118 : b79 < b118 := Nat.lt_of_lt_of_le (f121).lt (Nat.le_of_eq gg118.symm)
            have f122 := ((((f97).ext E104)).keep K110_)
            have lt_b91_b118 : b91 < b118 := Nat.lt_of_lt_of_le (f122).lt (Nat.le_of_eq gg118.symm)
            have lt_b104_b118 : b104 < b118 := Nat.lt_of_lt_of_le (f111).lt (Nat.le_of_eq gg118.symm)
            have Z123 : n0 ≤ h118.size := Nat.le_trans Z116 E118.1
            have K123 : Keep h0 h118 [] := K116.ext E118
            have Fb118_key : Fld Z h118 b118 "com/example/dwellgate/dwellgate/book/PriceTree$Node" "key" "J" (.long (0 : Int64)) := D118 (Or.inl (hw _ (List.mem_of_getElem? (i := 27) rfl))) (ty := .long) (by decide)
            have Fb118_left : Fld Z h118 b118 "com/example/dwellgate/dwellgate/book/PriceTree$Node" "left" "Lcom/example/dwellgate/dwellgate/book/PriceTree$Node;" .null := D118 (Or.inl (hw _ (List.mem_of_getElem? (i := 35) rfl))) (ty := (.object "com/example/dwellgate/dwellgate/book/PriceTree$Node")) (by decide)
            have Fb118_parent : Fld Z h118 b118 "com/example/dwellgate/dwellgate/book/PriceTree$Node" "parent" "Lcom/example/dwellgate/dwellgate/book/PriceTree$Node;" .null := D118 (Or.inl (hw _ (List.mem_of_getElem? (i := 38) rfl))) (ty := (.object "com/example/dwellgate/dwellgate/book/PriceTree$Node")) (by decide)
            have Fb118_right : Fld Z h118 b118 "com/example/dwellgate/dwellgate/book/PriceTree$Node" "right" "Lcom/example/dwellgate/dwellgate/book/PriceTree$Node;" .null := D118 (Or.inl (hw _ (List.mem_of_getElem? (i := 41) rfl))) (ty := (.object "com/example/dwellgate/dwellgate/book/PriceTree$Node")) (by decide)
            refine Go.st (S' := T118.setTop (mkF m 137 A117 [(.ref b118)])) st118 ?_
            refine Go.st (S' := T118.setTop (mkF m 138 A117 [(.ref b118), (.ref b118)])) (fun t k => XS.dup X118.here hx rfl (hb hby at_137) rfl rfl k) ?_
            refine Go.st (S' := T118.setTop (mkF m 141 A117 [(.long (4 : Int64)), (.ref b118), (.ref b118)])) (fun t k => X118.ldc2Long hx hown (mvT hZ (hw _ (List.mem_of_getElem? (i := 30) rfl))) (g := (mkF m 138 A117 [(.ref b118), (.ref b118)])) rfl (hb hby at_138) t k) ?_
            refine Go.st (S' := T118.setTop (mkF m 143 A117 [(.long r32), (.long (4 : Int64)), (.ref b118), (.ref b118)])) (fun t k => XS.lload X118.here hx rfl (hb hby at_141) rfl k) ?_
            refine Go.op (F := fun z => T118.setTop (mkF m 144 A117 [(.long z), (.ref b118), (.ref b118)])) (x := ((4 : Int64) * r32)) (fun t k => XS.lmul X118.here hx rfl (hb hby at_143) rfl k) ?_
            intro v124 hv124
            obtain ⟨r125, T125, L125, X125, hQ125, st125⟩ := own_callI (W := 1) (a := b118) X118 hx hZ e118 hown (y := (⟨"com/example/dwellgate/dwellgate/book/PriceTreeNextPinLaw", "<init>", "(J)V"⟩ : MethodName)) rfl (hw _ (List.mem_of_getElem? (i := 17) rfl)) (hw _ (List.mem_of_getElem? (i := 18) rfl)) (hw _ (List.mem_of_getElem? (i := 16) rfl)) (hw _ (List.mem_of_getElem? (i := 19) rfl)) (by decide) (rm4 l Z a0 hw [] b118 v124 (0 : Int64) h118 n0 Z123 (A118) (Fb118_key) (Fb118_left) (Fb118_parent) (Fb118_right) (g_b118)) (by decide) (by decide) (by decide) (by decide) (g := (mkF m 144 A117 [(.long v124), (.ref b118), (.ref b118)])) rfl (by rw [hml]; rfl) (argsL := [(.long v124)]) (rest := [(.ref b118)]) rfl (lenOf pd_1 rfl) rfl (by show 2 * 0 + _ ≤ _; exact Nat.le_of_eq rfl) (hb hby at_144)
            obtain ⟨rfl, N125, K125_, f126, f127, f128, f129, f130⟩ := hQ125
            have N125_ := Fr.app N110_ N125
            have Z131 : n0 ≤ T125.heap.size := Nat.le_trans Z123 K125_.1
            have K131 : Keep h0 T125.heap [] := K123.trans K125_ (allS (Or.inr sz_b118) all0)
            refine Go.st (S' := T125.setTop (mkF m 147 A117 [(.ref b118)])) st125 ?_
            let A132 : Array Slot := #[.val (.int p0), .val (.int p1), .val (.int r5), .val (.int r11), .val (.int r17), .val (.ref r26), .val (.long r32), .second, .val (.ref b35), .val (.ref b46), .val (.ref b79), .val (.ref b91), .val (.ref b104), .val (.ref b118), .unset, .unset, .unset, .unset, .unset, .unset]
            refine Go.st (S' := T125.setTop (mkF m 149 A132 [])) (fun t k => XS.astore X125.here hx rfl (hb hby at_147) rfl rfl (l' := A132) rfl k) ?_
            obtain ⟨T133, h133, X133, e133, E133, A133, D133, -, st133⟩ := newO X125 hx hZ hown (hw _ (List.mem_of_getElem? (i := 14) rfl)) (hw _ (List.mem_of_getElem? (i := 15) rfl)) (hw _ (List.mem_of_getElem? (i := 16) rfl)) rfl (g := (mkF m 149 A132 [])) rfl (hb hby at_149) (by decide) (by decide)
            obtain ⟨b133, gg133⟩ : ∃ z, z = T125.heap.size := ⟨_, rfl⟩
            rw [← gg133] at A133 D133 st133
            have g_b133 : n0 ≤ b133 := Nat.le_trans Z131 (Nat.le_of_eq gg133.symm)
            have sz_b133 : h0.size ≤ b133 := Nat.le_trans K131.1 (Nat.le_of_eq gg133.symm)
            have f134 := ((((f119).ext E118)).keep K125_)
            have lt_b35_b133 : b35 < b133 := Nat.lt_of_lt_of_le (f134).lt (Nat.le_of_eq gg133.symm)
            have f135 := ((((f120).ext E118)).keep K125_)
            have lt_b46_b133 : b46 < b133 := Nat.lt_of_lt_of_le (f135).lt (Nat.le_of_eq gg133.symm)
            have f136 := ((((f121).ext E118)).keep K125_)
            have lt_b79_b133 : b79 < b133 := Nat.lt_of_lt_of_le (f136).lt (Nat.le_of_eq gg133.symm)
            have f137 := ((((f122).ext E118)).keep K125_)
            have lt_b91_b133 : b91 < b133 := Nat.lt_of_lt_of_le (f137).lt (Nat.le_of_eq gg133.symm)
            have f138 := ((((f111).ext E118)).keep K125_)
            have lt_b104_b133 : b104 < b133 := Nat.lt_of_lt_of_le (f138).lt (Nat.le_of_eq gg133.symm)
            have lt_b118_b133 : b118 < b133 := Nat.lt_of_lt_of_le (f126).lt (Nat.le_of_eq gg133.symm)
            have Z139 : n0 ≤ h133.size := Nat.le_trans Z131 E133.1
            have K139 : Keep h0 h133 [] := K131.ext E133
            have Fb133_key : Fld Z h133 b133 "com/example/dwellgate/dwellgate/book/PriceTree$Node" "key" "J" (.long (0 : Int64)) := D133 (Or.inl (hw _ (List.mem_of_getElem? (i := 27) rfl))) (ty := .long) (by decide)
            have Fb133_left : Fld Z h133 b133 "com/example/dwellgate/dwellgate/book/PriceTree$Node" "left" "Lcom/example/dwellgate/dwellgate/book/PriceTree$Node;" .null := D133 (Or.inl (hw _ (List.mem_of_getElem? (i := 35) rfl))) (ty := (.object "com/example/dwellgate/dwellgate/book/PriceTree$Node")) (by decide)
            have Fb133_parent : Fld Z h133 b133 "com/example/dwellgate/dwellgate/book/PriceTree$Node" "parent" "Lcom/example/dwellgate/dwellgate/book/PriceTree$Node;" .null := D133 (Or.inl (hw _ (List.mem_of_getElem? (i := 38) rfl))) (ty := (.object "com/example/dwellgate/dwellgate/book/PriceTree$Node")) (by decide)
            have Fb133_right : Fld Z h133 b133 "com/example/dwellgate/dwellgate/book/PriceTree$Node" "right" "Lcom/example/dwellgate/dwellgate/book/PriceTree$Node;" .null := D133 (Or.inl (hw _ (List.mem_of_getElem? (i := 41) rfl))) (ty := (.object "com/example/dwellgate/dwellgate/book/PriceTree$Node")) (by decide)
            refine Go.st (S' := T133.setTop (mkF m 152 A132 [(.ref b133)])) st133 ?_
            refine Go.st (S' := T133.setTop (mkF m 153 A132 [(.ref b133), (.ref b133)])) (fun t k => XS.dup X133.here hx rfl (hb hby at_152) rfl rfl k) ?_
            refine Go.st (S' := T133.setTop (mkF m 156 A132 [(.long (5 : Int64)), (.ref b133), (.ref b133)])) (fun t k => X133.ldc2Long hx hown (mvT hZ (hw _ (List.mem_of_getElem? (i := 31) rfl))) (g := (mkF m 153 A132 [(.ref b133), (.ref b133)])) rfl (hb hby at_153) t k) ?_
            refine Go.st (S' := T133.setTop (mkF m 158 A132 [(.long r32), (.long (5 : Int64)), (.ref b133), (.ref b133)])) (fun t k => XS.lload X133.here hx rfl (hb hby at_156) rfl k) ?_
            refine Go.op (F := fun z => T133.setTop (mkF m 159 A132 [(.long z), (.ref b133), (.ref b133)])) (x := ((5 : Int64) * r32)) (fun t k => XS.lmul X133.here hx rfl (hb hby at_158) rfl k) ?_
            intro v140 hv140
            obtain ⟨r141, T141, L141, X141, hQ141, st141⟩ := own_callI (W := 1) (a := b133) X133 hx hZ e133 hown (y := (⟨"com/example/dwellgate/dwellgate/book/PriceTreeNextPinLaw", "<init>", "(J)V"⟩ : MethodName)) rfl (hw _ (List.mem_of_getElem? (i := 17) rfl)) (hw _ (List.mem_of_getElem? (i := 18) rfl)) (hw _ (List.mem_of_getElem? (i := 16) rfl)) (hw _ (List.mem_of_getElem? (i := 19) rfl)) (by decide) (rm4 l Z a0 hw [] b133 v140 (0 : Int64) h133 n0 Z139 (A133) (Fb133_key) (Fb133_left) (Fb133_parent) (Fb133_right) (g_b133)) (by decide) (by decide) (by decide) (by decide) (g := (mkF m 159 A132 [(.long v140), (.ref b133), (.ref b133)])) rfl (by rw [hml]; rfl) (argsL := [(.long v140)]) (rest := [(.ref b133)]) rfl (lenOf pd_1 rfl) rfl (by show 2 * 0 + _ ≤ _; exact Nat.le_of_eq rfl) (hb hby at_159)
            obtain ⟨rfl, N141, K141_, f142, f143, f144, f145, f146⟩ := hQ141
            have N141_ := Fr.app N125_ N141
            have Z147 : n0 ≤ T141.heap.size := Nat.le_trans Z139 K141_.1
            have K147 : Keep h0 T141.heap [] := K139.trans K141_ (allS (Or.inr sz_b133) all0)
            refine Go.st (S' := T141.setTop (mkF m 162 A132 [(.ref b133)])) st141 ?_
            let A148 : Array Slot := #[.val (.int p0), .val (.int p1), .val (.int r5), .val (.int r11), .val (.int r17), .val (.ref r26), .val (.long r32), .second, .val (.ref b35), .val (.ref b46), .val (.ref b79), .val (.ref b91), .val (.ref b104), .val (.ref b118), .val (.ref b133), .unset, .unset, .unset, .unset, .unset]
            refine Go.st (S' := T141.setTop (mkF m 164 A148 [])) (fun t k => XS.astore X141.here hx rfl (hb hby at_162) rfl rfl (l' := A148) rfl k) ?_
            obtain ⟨T149, h149, X149, e149, E149, A149, D149, -, st149⟩ := newO X141 hx hZ hown (hw _ (List.mem_of_getElem? (i := 14) rfl)) (hw _ (List.mem_of_getElem? (i := 15) rfl)) (hw _ (List.mem_of_getElem? (i := 16) rfl)) rfl (g := (mkF m 164 A148 [])) rfl (hb hby at_164) (by decide) (by decide)
            obtain ⟨b149, gg149⟩ : ∃ z, z = T141.heap.size := ⟨_, rfl⟩
            rw [← gg149] at A149 D149 st149
            have g_b149 : n0 ≤ b149 := Nat.le_trans Z147 (Nat.le_of_eq gg149.symm)
            have sz_b149 : h0.size ≤ b149 := Nat.le_trans K147.1 (Nat.le_of_eq gg149.symm)
            have f150 := ((((f134).ext E133)).keep K141_)
            have lt_b35_b149 : b35 < b149 := Nat.lt_of_lt_of_le (f150).lt (Nat.le_of_eq gg149.symm)
            have f151 := ((((f135).ext E133)).keep K141_)
            have lt_b46_b149 : b46 < b149 := Nat.lt_of_lt_of_le (f151).lt (Nat.le_of_eq gg149.symm)
            have f152 := ((((f136).ext E133)).keep K141_)
            have lt_b79_b149 : b79 < b149 := Nat.lt_of_lt_of_le (f152).lt (Nat.le_of_eq gg149.symm)
            have f153 := ((((f137).ext E133)).keep K141_)
            have lt_b91_b149 : b91 < b149 := Nat.lt_of_lt_of_le (f153).lt (Nat.le_of_eq gg149.symm)
            have f154 := ((((f138).ext E133)).keep K141_)
            have lt_b104_b149 : b104 < b149 := Nat.lt_of_lt_of_le (f154).lt (Nat.le_of_eq gg149.symm)
            have f155 := ((((f126).ext E133)).keep K141_)
            have lt_b118_b149 : b118 < b149 := Nat.lt_of_lt_of_le (f155).lt (Nat.le_of_eq gg149.symm)
            have lt_b133_b149 : b133 < b149 := Nat.lt_of_lt_of_le (f142).lt (Nat.le_of_eq gg149.symm)
            have Z156 : n0 ≤ h149.size := Nat.le_trans Z147 E149.1
            have K156 : Keep h0 h149 [] := K147.ext E149
            have Fb149_key : Fld Z h149 b149 "com/example/dwellgate/dwellgate/book/PriceTree$Node" "key" "J" (.long (0 : Int64)) := D149 (Or.inl (hw _ (List.mem_of_getElem? (i := 27) rfl))) (ty := .long) (by decide)
            have Fb149_left : Fld Z h149 b149 "com/example/dwellgate/dwellgate/book/PriceTree$Node" "left" "Lcom/example/dwellgate/dwellgate/book/PriceTree$Node;" .null := D149 (Or.inl (hw _ (List.mem_of_getElem? (i := 35) rfl))) (ty := (.object "com/example/dwellgate/dwellgate/book/PriceTree$Node")) (by decide)
            have Fb149_parent : Fld Z h149 b149 "com/example/dwellgate/dwellgate/book/PriceTree$Node" "parent" "Lcom/example/dwellgate/dwellgate/book/PriceTree$Node;" .null := D149 (Or.inl (hw _ (List.mem_of_getElem? (i := 38) rfl))) (ty := (.object "com/example/dwellgate/dwellgate/book/PriceTree$Node")) (by decide)
            have Fb149_right : Fld Z h149 b149 "com/example/dwellgate/dwellgate/book/PriceTree$Node" "right" "Lcom/example/dwellgate/dwellgate/book/PriceTree$Node;" .null := D149 (Or.inl (hw _ (List.mem_of_getElem? (i := 41) rfl))) (ty := (.object "com/example/dwellgate/dwellgate/book/PriceTree$Node")) (by decide)
            refine Go.st (S' := T149.setTop (mkF m 167 A148 [(.ref b149)])) st149 ?_
            refine Go.st (S' := T149.setTop (mkF m 168 A148 [(.ref b149), (.ref b149)])) (fun t k => XS.dup X149.here hx rfl (hb hby at_167) rfl rfl k) ?_
            refine Go.st (S' := T149.setTop (mkF m 171 A148 [(.long (6 : Int64)), (.ref b149), (.ref b149)])) (fun t k => X149.ldc2Long hx hown (mvT hZ (hw _ (List.mem_of_getElem? (i := 32) rfl))) (g := (mkF m 168 A148 [(.ref b149), (.ref b149)])) rfl (hb hby at_168) t k) ?_
            refine Go.st (S' := T149.setTop (mkF m 173 A148 [(.long r32), (.long (6 : Int64)), (.ref b149), (.ref b149)])) (fun t k => XS.lload X149.here hx rfl (hb hby at_171) rfl k) ?_
            refine Go.op (F := fun z => T149.setTop (mkF m 174 A148 [(.long z), (.ref b149), (.ref b149)])) (x := ((6 : Int64) * r32)) (fun t k => XS.lmul X149.here hx rfl (hb hby at_173) rfl k) ?_
            intro v157 hv157
            obtain ⟨r158, T158, L158, X158, hQ158, st158⟩ := own_callI (W := 1) (a := b149) X149 hx hZ e149 hown (y := (⟨"com/example/dwellgate/dwellgate/book/PriceTreeNextPinLaw", "<init>", "(J)V"⟩ : MethodName)) rfl (hw _ (List.mem_of_getElem? (i := 17) rfl)) (hw _ (List.mem_of_getElem? (i := 18) rfl)) (hw _ (List.mem_of_getElem? (i := 16) rfl)) (hw _ (List.mem_of_getElem? (i := 19) rfl)) (by decide) (rm4 l Z a0 hw [] b149 v157 (0 : Int64) h149 n0 Z156 (A149) (Fb149_key) (Fb149_left) (Fb149_parent) (Fb149_right) (g_b149)) (by decide) (by decide) (by decide) (by decide) (g := (mkF m 174 A148 [(.long v157), (.ref b149), (.ref b149)])) rfl (by rw [hml]; rfl) (argsL := [(.long v157)]) (rest := [(.ref b149)]) rfl (lenOf pd_1 rfl) rfl (by show 2 * 0 + _ ≤ _; exact Nat.le_of_eq rfl) (hb hby at_174)
            obtain ⟨rfl, N158, K158_, f159, f160, f161, f162, f163⟩ := hQ158
            have N158_ := Fr.app N141_ N158
            have Z164 : n0 ≤ T158.heap.size := Nat.le_trans Z156 K158_.1
            have K164 : Keep h0 T158.heap [] := K156.trans K158_ (allS (Or.inr sz_b149) all0)
            refine Go.st (S' := T158.setTop (mkF m 177 A148 [(.ref b149)])) st158 ?_
            let A165 : Array Slot := #[.val (.int p0), .val (.int p1), .val (.int r5), .val (.int r11), .val (.int r17), .val (.ref r26), .val (.long r32), .second, .val (.ref b35), .val (.ref b46), .val (.ref b79), .val (.ref b91), .val (.ref b104), .val (.ref b118), .val (.ref b133), .val (.ref b149), .unset, .unset, .unset, .unset]
            refine Go.st (S' := T158.setTop (mkF m 179 A165 [])) (fun t k => XS.astore X158.here hx rfl (hb hby at_177) rfl rfl (l' := A165) rfl k) ?_
            refine Go.st (S' := T158.setTop (mkF m 181 A165 [(.ref b104)])) (fun t k => XS.aload X158.here hx rfl (hb hby at_179) rfl rfl k) ?_
            refine Go.st (S' := T158.setTop (mkF m 183 A165 [(.ref b46), (.ref b104)])) (fun t k => XS.aload X158.here hx rfl (hb hby at_181) rfl rfl k) ?_
            have f166 := ((((f154).ext E149)).keep K158_)
            have f167 := ((((((((((((f113).ext E118)).keep K125_ (ninS (Nat.ne_of_lt lt_b104_b118) nin0))).ext E133)).keep K141_ (ninS (Nat.ne_of_lt lt_b104_b133) nin0))).ext E149)).keep K158_ (ninS (Nat.ne_of_lt lt_b104_b149) nin0))
            obtain ⟨T168, h168, X168, e168, W168, st168⟩ := putF X158 hx hZ hown (host := "") (Or.inl (hw _ (List.mem_of_getElem? (i := 33) rfl))) (Via.of (hw _ (List.mem_of_getElem? (i := 34) rfl))) rfl f167 f166 (Or.inl (hw _ (List.mem_of_getElem? (i := 35) rfl))) (hw _ (List.mem_of_getElem? (i := 15) rfl)) (ty := (.object "com/example/dwellgate/dwellgate/book/PriceTree$Node")) (by decide) rfl rfl (g := (mkF m 183 A165 [(.ref b46), (.ref b104)])) rfl rfl (hb hby at_183)
            have Fw168 := (f167).same W168
            have N168 := Fr.snoc X168 N158_ g_b104
            have Z169 : n0 ≤ h168.size := Nat.le_trans Z164 (Keep.of_wr W168).1
            have K169 : Keep h0 h168 [] := K164.wr W168 (Or.inr sz_b104)
            refine Go.st (S' := T168.setTop (mkF m 186 A165 [])) st168 ?_
            refine Go.st (S' := T168.setTop (mkF m 188 A165 [(.ref b46)])) (fun t k => XS.aload X168.here hx rfl (hb hby at_186) rfl rfl k) ?_
            refine Go.st (S' := T168.setTop (mkF m 190 A165 [(.ref b104), (.ref b46)])) (fun t k => XS.aload X168.here hx rfl (hb hby at_188) rfl rfl k) ?_
            have f170 := ((((((f151).ext E149)).keep K158_)).wr W168)
            have f171 := ((((((((((((((((((((((((((f75).ext E79)).keep K83_ (ninS (Nat.ne_of_lt lt_b46_b79) nin0))).ext E91)).keep K96_ (ninS (Nat.ne_of_lt lt_b46_b91) nin0))).ext E104)).keep K110_ (ninS (Nat.ne_of_lt lt_b46_b104) nin0))).ext E118)).keep K125_ (ninS (Nat.ne_of_lt lt_b46_b118) nin0))).ext E133)).keep K141_ (ninS (Nat.ne_of_lt lt_b46_b133) nin0))).ext E149)).keep K158_ (ninS (Nat.ne_of_lt lt_b46_b149) nin0))).other W168 (Or.inl (Nat.ne_of_lt lt_b46_b104)))
            obtain ⟨T172, h172, X172, e172, W172, st172⟩ := putF X168 hx hZ hown (host := "") (Or.inl (hw _ (List.mem_of_getElem? (i := 36) rfl))) (Via.of (hw _ (List.mem_of_getElem? (i := 37) rfl))) e168 f171 f170 (Or.inl (hw _ (List.mem_of_getElem? (i := 38) rfl))) (hw _ (List.mem_of_getElem? (i := 15) rfl)) (ty := (.object "com/example/dwellgate/dwellgate/book/PriceTree$Node")) (by decide) rfl rfl (g := (mkF m 190 A165 [(.ref b104), (.ref b46)])) rfl rfl (hb hby at_190)
            have Fw172 := (f171).same W172
            have N172 := Fr.snoc X172 N168 g_b46
            have Z173 : n0 ≤ h172.size := Nat.le_trans Z169 (Keep.of_wr W172).1
            have K173 : Keep h0 h172 [] := K169.wr W172 (Or.inr sz_b46)
            refine Go.st (S' := T172.setTop (mkF m 193 A165 [])) st172 ?_
            refine Go.st (S' := T172.setTop (mkF m 195 A165 [(.ref b46)])) (fun t k => XS.aload X172.here hx rfl (hb hby at_193) rfl rfl k) ?_
            refine Go.st (S' := T172.setTop (mkF m 197 A165 [(.ref b79), (.ref b46)])) (fun t k => XS.aload X172.here hx rfl (hb hby at_195) rfl rfl k) ?_
            have f174 := ((f170).wr W172)
            have f175 := ((((((((((((((((((((((((((((f76).ext E79)).keep K83_ (ninS (Nat.ne_of_lt lt_b46_b79) nin0))).ext E91)).keep K96_ (ninS (Nat.ne_of_lt lt_b46_b91) nin0))).ext E104)).keep K110_ (ninS (Nat.ne_of_lt lt_b46_b104) nin0))).ext E118)).keep K125_ (ninS (Nat.ne_of_lt lt_b46_b118) nin0))).ext E133)).keep K141_ (ninS (Nat.ne_of_lt lt_b46_b133) nin0))).ext E149)).keep K158_ (ninS (Nat.ne_of_lt lt_b46_b149) nin0))).other W168 (Or.inl (Nat.ne_of_lt lt_b46_b104)))).other W172 (Or.inr (slot_ne (Or.inl (hw _ (List.mem_of_getElem? (i := 41) rfl))) (Or.inl (hw _ (List.mem_of_getElem? (i := 38) rfl))) (by decide) (t := (.object "com/example/dwellgate/dwellgate/book/PriceTree$Node")) (t' := (.object "com/example/dwellgate/dwellgate/book/PriceTree$Node")) (by decide) (by decide))))
            obtain ⟨T176, h176, X176, e176, W176, st176⟩ := putF X172 hx hZ hown (host := "") (Or.inl (hw _ (List.mem_of_getElem? (i := 39) rfl))) (Via.of (hw _ (List.mem_of_getElem? (i := 40) rfl))) e172 f175 f174 (Or.inl (hw _ (List.mem_of_getElem? (i := 41) rfl))) (hw _ (List.mem_of_getElem? (i := 15) rfl)) (ty := (.object "com/example/dwellgate/dwellgate/book/PriceTree$Node")) (by decide) rfl rfl (g := (mkF m 197 A165 [(.ref b79), (.ref b46)])) rfl rfl (hb hby at_197)
            have Fw176 := (f175).same W176
            have N176 := Fr.snoc X176 N172 g_b46
            have Z177 : n0 ≤ h176.size := Nat.le_trans Z173 (Keep.of_wr W176).1
            have K177 : Keep h0 h176 [] := K173.wr W176 (Or.inr sz_b46)
            refine Go.st (S' := T176.setTop (mkF m 200 A165 [])) st176 ?_
            refine Go.st (S' := T176.setTop (mkF m 202 A165 [(.ref b79)])) (fun t k => XS.aload X176.here hx rfl (hb hby at_200) rfl rfl k) ?_
            refine Go.st (S' := T176.setTop (mkF m 204 A165 [(.ref b46), (.ref b79)])) (fun t k => XS.aload X176.here hx rfl (hb hby at_202) rfl rfl k) ?_
            have f178 := ((((((((((f152).ext E149)).keep K158_)).wr W168)).wr W172)).wr W176)
            have f179 := ((((((((((((((((((((((((((f87).ext E91)).keep K96_ (ninS (Nat.ne_of_lt lt_b79_b91) nin0))).ext E104)).keep K110_ (ninS (Nat.ne_of_lt lt_b79_b104) nin0))).ext E118)).keep K125_ (ninS (Nat.ne_of_lt lt_b79_b118) nin0))).ext E133)).keep K141_ (ninS (Nat.ne_of_lt lt_b79_b133) nin0))).ext E149)).keep K158_ (ninS (Nat.ne_of_lt lt_b79_b149) nin0))).other W168 (Or.inl (Nat.ne_of_lt lt_b79_b104)))).other W172 (Or.inl (Nat.ne_of_gt lt_b46_b79)))).other W176 (Or.inl (Nat.ne_of_gt lt_b46_b79)))
            obtain ⟨T180, h180, X180, e180, W180, st180⟩ := putF X176 hx hZ hown (host := "") (Or.inl (hw _ (List.mem_of_getElem? (i := 36) rfl))) (Via.of (hw _ (List.mem_of_getElem? (i := 37) rfl))) e176 f179 f178 (Or.inl (hw _ (List.mem_of_getElem? (i := 38) rfl))) (hw _ (List.mem_of_getElem? (i := 15) rfl)) (ty := (.object "com/example/dwellgate/dwellgate/book/PriceTree$Node")) (by decide) rfl rfl (g := (mkF m 204 A165 [(.ref b46), (.ref b79)])) rfl rfl (hb hby at_204)
            have Fw180 := (f179).same W180
            have N180 := Fr.snoc X180 N176 g_b79
            have Z181 : n0 ≤ h180.size := Nat.le_trans Z177 (Keep.of_wr W180).1
            have K181 : Keep h0 h180 [] := K177.wr W180 (Or.inr sz_b79)
            refine Go.st (S' := T180.setTop (mkF m 207 A165 [])) st180 ?_
            refine Go.st (S' := T180.setTop (mkF m 208 A165 [(.int r11)])) (fun t k => XS.iloadN X180.here hx rfl (hb hby at_207) rfl k) ?_
            by_cases hc533 : (r11 = (0 : Int32))
            · refine Go.st (S' := T180.setTop (mkF m 225 A165 [])) (fun t k => XS.ifYes X180.here hx rfl (pc0 := 208) (pc' := 225) rfl (hb hby at_208) rfl ((if0 _ _).trans (teq hc533).1) (by decide) (by decide) k) ?_
              refine Go.st (S' := T180.setTop (mkF m 227 A165 [(.ref b104)])) (fun t k => XS.aload X180.here hx rfl (hb hby at_225) rfl rfl k) ?_
              refine Go.st (S' := T180.setTop (mkF m 229 A165 [(.ref b149), (.ref b104)])) (fun t k => XS.aload X180.here hx rfl (hb hby at_227) rfl rfl k) ?_
              have f534 := ((((((((f166).wr W168)).wr W172)).wr W176)).wr W180)
              have f535 := ((((((((((((((((((((f115).ext E118)).keep K125_ (ninS (Nat.ne_of_lt lt_b104_b118) nin0))).ext E133)).keep K141_ (ninS (Nat.ne_of_lt lt_b104_b133) nin0))).ext E149)).keep K158_ (ninS (Nat.ne_of_lt lt_b104_b149) nin0))).other W168 (Or.inr (slot_ne (Or.inl (hw _ (List.mem_of_getElem? (i := 41) rfl))) (Or.inl (hw _ (List.mem_of_getElem? (i := 35) rfl))) (by decide) (t := (.object "com/example/dwellgate/dwellgate/book/PriceTree$Node")) (t' := (.object "com/example/dwellgate/dwellgate/book/PriceTree$Node")) (by decide) (by decide))))).other W172 (Or.inl (Nat.ne_of_gt lt_b46_b104)))).other W176 (Or.inl (Nat.ne_of_gt lt_b46_b104)))).other W180 (Or.inl (Nat.ne_of_gt lt_b79_b104)))
              obtain ⟨T536, h536, X536, e536, W536, st536⟩ := putF X180 hx hZ hown (host := "") (Or.inl (hw _ (List.mem_of_getElem? (i := 39) rfl))) (Via.of (hw _ (List.mem_of_getElem? (i := 40) rfl))) e180 f535 f534 (Or.inl (hw _ (List.mem_of_getElem? (i := 41) rfl))) (hw _ (List.mem_of_getElem? (i := 15) rfl)) (ty := (.object "com/example/dwellgate/dwellgate/book/PriceTree$Node")) (by decide) rfl rfl (g := (mkF m 229 A165 [(.ref b149), (.ref b104)])) rfl rfl (hb hby at_229)
              have Fw536 := (f535).same W536
              have N536 := Fr.snoc X536 N180 g_b104
              have Z537 : n0 ≤ h536.size := Nat.le_trans Z181 (Keep.of_wr W536).1
              have K537 : Keep h0 h536 [] := K181.wr W536 (Or.inr sz_b104)
              refine Go.st (S' := T536.setTop (mkF m 232 A165 [])) st536 ?_
              refine Go.st (S' := T536.setTop (mkF m 234 A165 [(.ref b149)])) (fun t k => XS.aload X536.here hx rfl (hb hby at_232) rfl rfl k) ?_
              refine Go.st (S' := T536.setTop (mkF m 236 A165 [(.ref b104), (.ref b149)])) (fun t k => XS.aload X536.here hx rfl (hb hby at_234) rfl rfl k) ?_
              have f538 := ((((((((((f159).wr W168)).wr W172)).wr W176)).wr W180)).wr W536)
              have f539 := ((((((((((f162).other W168 (Or.inl (Nat.ne_of_gt lt_b104_b149)))).other W172 (Or.inl (Nat.ne_of_gt lt_b46_b149)))).other W176 (Or.inl (Nat.ne_of_gt lt_b46_b149)))).other W180 (Or.inl (Nat.ne_of_gt lt_b79_b149)))).other W536 (Or.inl (Nat.ne_of_gt lt_b104_b149)))
              obtain ⟨T540, h540, X540, e540, W540, st540⟩ := putF X536 hx hZ hown (host := "") (Or.inl (hw _ (List.mem_of_getElem? (i := 36) rfl))) (Via.of (hw _ (List.mem_of_getElem? (i := 37) rfl))) e536 f539 f538 (Or.inl (hw _ (List.mem_of_getElem? (i := 38) rfl))) (hw _ (List.mem_of_getElem? (i := 15) rfl)) (ty := (.object "com/example/dwellgate/dwellgate/book/PriceTree$Node")) (by decide) rfl rfl (g := (mkF m 236 A165 [(.ref b104), (.ref b149)])) rfl rfl (hb hby at_236)
              have Fw540 := (f539).same W540
              have N540 := Fr.snoc X540 N536 g_b149
              have Z541 : n0 ≤ h540.size := Nat.le_trans Z537 (Keep.of_wr W540).1
              have K541 : Keep h0 h540 [] := K537.wr W540 (Or.inr sz_b149)
              refine Go.st (S' := T540.setTop (mkF m 239 A165 [])) st540 ?_
              refine Go.st (S' := T540.setTop (mkF m 241 A165 [(.ref b149)])) (fun t k => XS.aload X540.here hx rfl (hb hby at_239) rfl rfl k) ?_
              refine Go.st (S' := T540.setTop (mkF m 243 A165 [(.ref b133), (.ref b149)])) (fun t k => XS.aload X540.here hx rfl (hb hby at_241) rfl rfl k) ?_
              have f542 := ((f538).wr W540)
              have f543 := ((((((((((((f161).other W168 (Or.inl (Nat.ne_of_gt lt_b104_b149)))).other W172 (Or.inl (Nat.ne_of_gt lt_b46_b149)))).other W176 (Or.inl (Nat.ne_of_gt lt_b46_b149)))).other W180 (Or.inl (Nat.ne_of_gt lt_b79_b149)))).other W536 (Or.inl (Nat.ne_of_gt lt_b104_b149)))).other W540 (Or.inr (slot_ne (Or.inl (hw _ (List.mem_of_getElem? (i := 35) rfl))) (Or.inl (hw _ (List.mem_of_getElem? (i := 38) rfl))) (by decide) (t := (.object "com/example/dwellgate/dwellgate/book/PriceTree$Node")) (t' := (.object "com/example/dwellgate/dwellgate/book/PriceTree$Node")) (by decide) (by decide))))
              obtain ⟨T544, h544, X544, e544, W544, st544⟩ := putF X540 hx hZ hown (host := "") (Or.inl (hw _ (List.mem_of_getElem? (i := 33) rfl))) (Via.of (hw _ (List.mem_of_getElem? (i := 34) rfl))) e540 f543 f542 (Or.inl (hw _ (List.mem_of_getElem? (i := 35) rfl))) (hw _ (List.mem_of_getElem? (i := 15) rfl)) (ty := (.object "com/example/dwellgate/dwellgate/book/PriceTree$Node")) (by decide) rfl rfl (g := (mkF m 243 A165 [(.ref b133), (.ref b149)])) rfl rfl (hb hby at_243)
              have Fw544 := (f543).same W544
              have N544 := Fr.snoc X544 N540 g_b149
              have Z545 : n0 ≤ h544.size := Nat.le_trans Z541 (Keep.of_wr W544).1
              have K545 : Keep h0 h544 [] := K541.wr W544 (Or.inr sz_b149)
              refine Go.st (S' := T544.setTop (mkF m 246 A165 [])) st544 ?_
              refine Go.st (S' := T544.setTop (mkF m 248 A165 [(.ref b133)])) (fun t k => XS.aload X544.here hx rfl (hb hby at_246) rfl rfl k) ?_
              refine Go.st (S' := T544.setTop (mkF m 250 A165 [(.ref b149), (.ref b133)])) (fun t k => XS.aload X544.here hx rfl (hb hby at_248) rfl rfl k) ?_
              have f546 := ((((((((((((((((((f142).ext E149)).keep K158_)).wr W168)).wr W172)).wr W176)).wr W180)).wr W536)).wr W540)).wr W544)
              have f547 := ((((((((((((((((((f145).ext E149)).keep K158_ (ninS (Nat.ne_of_lt lt_b133_b149) nin0))).other W168 (Or.inl (Nat.ne_of_gt lt_b104_b133)))).other W172 (Or.inl (Nat.ne_of_gt lt_b46_b133)))).other W176 (Or.inl (Nat.ne_of_gt lt_b46_b133)))).other W180 (Or.inl (Nat.ne_of_gt lt_b79_b133)))).other W536 (Or.inl (Nat.ne_of_gt lt_b104_b133)))).other W540 (Or.inl (Nat.ne_of_lt lt_b133_b149)))).other W544 (Or.inl (Nat.ne_of_lt lt_b133_b149)))
              obtain ⟨T548, h548, X548, e548, W548, st548⟩ := putF X544 hx hZ hown (host := "") (Or.inl (hw _ (List.mem_of_getElem? (i := 36) rfl))) (Via.of (hw _ (List.mem_of_getElem? (i := 37) rfl))) e544 f547 f546 (Or.inl (hw _ (List.mem_of_getElem? (i := 38) rfl))) (hw _ (List.mem_of_getElem? (i := 15) rfl)) (ty := (.object "com/example/dwellgate/dwellgate/book/PriceTree$Node")) (by decide) rfl rfl (g := (mkF m 250 A165 [(.ref b149), (.ref b133)])) rfl rfl (hb hby at_250)
              have Fw548 := (f547).same W548
              have N548 := Fr.snoc X548 N544 g_b133
              have Z549 : n0 ≤ h548.size := Nat.le_trans Z545 (Keep.of_wr W548).1
              have K549 : Keep h0 h548 [] := K545.wr W548 (Or.inr sz_b133)
              refine Go.st (S' := T548.setTop (mkF m 253 A165 [])) st548 ?_
              refine Go.st (S' := T548.setTop (mkF m 254 A165 [(.int r5)])) (fun t k => XS.iloadN X548.here hx rfl (hb hby at_253) rfl k) ?_
              by_cases hc677 : (r5 = (0 : Int32))
              · refine Go.st (S' := T548.setTop (mkF m 271 A165 [])) (fun t k => XS.ifYes X548.here hx rfl (pc0 := 254) (pc' := 271) rfl (hb hby at_254) rfl ((if0 _ _).trans (teq hc677).1) (by decide) (by decide) k) ?_
                refine Go.st (S' := T548.setTop (mkF m 273 A165 [(.int (7 : Int32))])) (fun t k => XS.bipush X548.here hx rfl (hb hby at_271) k) ?_
                obtain ⟨T678, h678, k678, X678, e678, E678, A678, B678, O678, st678⟩ := newRE X548 hx hZ hown (hw _ (List.mem_of_getElem? (i := 14) rfl)) (hw _ (List.mem_of_getElem? (i := 42) rfl)) e548 (g := (mkF m 273 A165 [(.int (7 : Int32))])) rfl (hb hby at_273) rfl (by decide) (cap := 7) (by decide) (by decide) (by decide) (by decide) (ad := "[Lcom/example/dwellgate/dwellgate/book/PriceTreeNextPinLaw;") (by decide)
                obtain ⟨b678, gg678⟩ : ∃ z, z = h548.size := ⟨_, rfl⟩
                rw [← gg678] at A678 B678 st678
                have g_b678 : n0 ≤ b678 := Nat.le_trans Z549 (Nat.le_of_eq gg678.symm)
                have sz_b678 : h0.size ≤ b678 := Nat.le_trans K549.1 (Nat.le_of_eq gg678.symm)
                have f679 := ((((((((((((((((((((f150).ext E149)).keep K158_)).wr W168)).wr W172)).wr W176)).wr W180)).wr W536)).wr W540)).wr W544)).wr W548)
                have lt_b35_b678 : b35 < b678 := Nat.lt_of_lt_of_le (f679).lt (Nat.le_of_eq gg678.symm)
                have f680 := ((((((((((((f174).wr W176)).wr W180)).wr W536)).wr W540)).wr W544)).wr W548)
                have lt_b46_b678 : b46 < b678 := Nat.lt_of_lt_of_le (f680).lt (Nat.le_of_eq gg678.symm)
                have f681 := ((((((((((f178).wr W180)).wr W536)).wr W540)).wr W544)).wr W548)
                have lt_b79_b678 : b79 < b678 := Nat.lt_of_lt_of_le (f681).lt (Nat.le_of_eq gg678.symm)
                have f682 := ((((((((((((((((((((f153).ext E149)).keep K158_)).wr W168)).wr W172)).wr W176)).wr W180)).wr W536)).wr W540)).wr W544)).wr W548)
                have lt_b91_b678 : b91 < b678 := Nat.lt_of_lt_of_le (f682).lt (Nat.le_of_eq gg678.symm)
                have f683 := ((((((((f534).wr W536)).wr W540)).wr W544)).wr W548)
                have lt_b104_b678 : b104 < b678 := Nat.lt_of_lt_of_le (f683).lt (Nat.le_of_eq gg678.symm)
                have f684 := ((((((((((((((((((((f155).ext E149)).keep K158_)).wr W168)).wr W172)).wr W176)).wr W180)).wr W536)).wr W540)).wr W544)).wr W548)
                have lt_b118_b678 : b118 < b678 := Nat.lt_of_lt_of_le (f684).lt (Nat.le_of_eq gg678.symm)
                have f685 := ((f546).wr W548)
                have lt_b133_b678 : b133 < b678 := Nat.lt_of_lt_of_le (f685).lt (Nat.le_of_eq gg678.symm)
                have f686 := ((((f542).wr W544)).wr W548)
                have lt_b149_b678 : b149 < b678 := Nat.lt_of_lt_of_le (f686).lt (Nat.le_of_eq gg678.symm)
                have Z687 : n0 ≤ h678.size := Nat.le_trans Z549 E678.1
                have K687 : Keep h0 h678 [] := K549.ext E678
                have V678 : Arv Z h678 b678 k678 (.object "com/example/dwellgate/dwellgate/book/PriceTreeNextPinLaw") (7 : Int32) [.null, .null, .null, .null, .null, .null, .null] .null := (Arv.new A678 (by decide)).pad (pad_rep [] .null 7)
                refine Go.st (S' := T678.setTop (mkF m 276 A165 [(.ref b678)])) st678 ?_
                let A688 : Array Slot := #[.val (.int p0), .val (.int p1), .val (.int r5), .val (.int r11), .val (.int r17), .val (.ref r26), .val (.long r32), .second, .val (.ref b35), .val (.ref b46), .val (.ref b79), .val (.ref b91), .val (.ref b104), .val (.ref b118), .val (.ref b133), .val (.ref b149), .val (.ref b678), .unset, .unset, .unset]
                refine Go.st (S' := T678.setTop (mkF m 278 A688 [])) (fun t k => XS.astore X678.here hx rfl (hb hby at_276) rfl rfl (l' := A688) rfl k) ?_
                refine Go.st (S' := T678.setTop (mkF m 279 A688 [(.int (0 : Int32))])) (fun t k => XS.iconst X678.here hx rfl (hb hby at_278) k) ?_
                let A689 : Array Slot := #[.val (.int p0), .val (.int p1), .val (.int r5), .val (.int r11), .val (.int r17), .val (.ref r26), .val (.long r32), .second, .val (.ref b35), .val (.ref b46), .val (.ref b79), .val (.ref b91), .val (.ref b104), .val (.ref b118), .val (.ref b133), .val (.ref b149), .val (.ref b678), .val (.int (0 : Int32)), .unset, .unset]
                refine Go.st (S' := T678.setTop (mkF m 281 A689 [])) (fun t k => XS.istore X678.here hx rfl (hb hby at_279) rfl (l' := A689) rfl k) ?_
                refine Go.st (S' := T678.setTop (mkF m 283 A689 [(.ref b678)])) (fun t k => XS.aload X678.here hx rfl (hb hby at_281) rfl rfl k) ?_
                refine Go.st (S' := T678.setTop (mkF m 285 A689 [(.int (0 : Int32)), (.ref b678)])) (fun t k => XS.iload X678.here hx rfl (hb hby at_283) rfl k) ?_
                refine Go.st (S' := T678.setTop (mkF m 287 A689 [(.ref b46), (.int (0 : Int32)), (.ref b678)])) (fun t k => XS.aload X678.here hx rfl (hb hby at_285) rfl rfl k) ?_
                obtain ⟨cl690, Ar690, q690, S690, N690_, H690, G690⟩ := id V678
                have hin690 : ¬ ((0 : Int32) < 0 ∨ cl690.slots.size ≤ ((0 : Int32)).toNatClampNeg) := inb_of S690 ⟨by decide, by decide⟩
                have f691 := ((f680).ext E678)
                obtain ⟨T690, h690, X690, e690, W690, st690⟩ := stR X678 hx hZ e678 Ar690 (j := (0 : Int32)) hin690 rfl (Sto.ofV Ar690 q690 O678 (Ins.self f691)) (g := (mkF m 287 A689 [(.ref b46), (.int (0 : Int32)), (.ref b678)])) rfl rfl (hb hby at_287)
                have V690 : Arv Z h690 b678 k678 (.object "com/example/dwellgate/dwellgate/book/PriceTreeNextPinLaw") (7 : Int32) [(.ref b46), .null, .null, .null, .null, .null, .null] .null := Arv.set Ar690 q690 S690 N690_ H690 G690 rfl W690 0 rfl (Nat.le_of_ble_eq_true rfl)
                have N690 := Fr.snoc X690 N548 g_b678
                have Z692 : n0 ≤ h690.size := Nat.le_trans Z687 (Keep.of_wr W690).1
                have K692 : Keep h0 h690 [] := K687.wr W690 (Or.inr sz_b678)
                refine Go.st (S' := T690.setTop (mkF m 288 A689 [])) st690 ?_
                refine Go.st (S' := T690.setTop (mkF m 290 A689 [(.int (0 : Int32))])) (fun t k => XS.iload X690.here hx rfl (hb hby at_288) rfl k) ?_
                refine Go.st (S' := T690.setTop (mkF m 291 A689 [(.int (1 : Int32)), (.int (0 : Int32))])) (fun t k => XS.iconst X690.here hx rfl (hb hby at_290) k) ?_
                refine Go.op (F := fun z => T690.setTop (mkF m 292 A689 [(.int z)])) (x := ((0 : Int32) + (1 : Int32))) (fun t k => XS.iadd X690.here hx rfl (hb hby at_291) rfl k) ?_
                intro v693 hv693
                obtain rfl : (1 : Int32) = v693 := (hv693.trans (by decide)).symm
                let A694 : Array Slot := #[.val (.int p0), .val (.int p1), .val (.int r5), .val (.int r11), .val (.int r17), .val (.ref r26), .val (.long r32), .second, .val (.ref b35), .val (.ref b46), .val (.ref b79), .val (.ref b91), .val (.ref b104), .val (.ref b118), .val (.ref b133), .val (.ref b149), .val (.ref b678), .val (.int (1 : Int32)), .unset, .unset]
                refine Go.st (S' := T690.setTop (mkF m 294 A694 [])) (fun t k => XS.istore X690.here hx rfl (hb hby at_292) rfl (l' := A694) rfl k) ?_
                refine Go.st (S' := T690.setTop (mkF m 296 A694 [(.ref b678)])) (fun t k => XS.aload X690.here hx rfl (hb hby at_294) rfl rfl k) ?_
                refine Go.st (S' := T690.setTop (mkF m 298 A694 [(.int (1 : Int32)), (.ref b678)])) (fun t k => XS.iload X690.here hx rfl (hb hby at_296) rfl k) ?_
                refine Go.st (S' := T690.setTop (mkF m 300 A694 [(.ref b79), (.int (1 : Int32)), (.ref b678)])) (fun t k => XS.aload X690.here hx rfl (hb hby at_298) rfl rfl k) ?_
                obtain ⟨cl695, Ar695, q695, S695, N695_, H695, G695⟩ := id V690
                have hin695 : ¬ ((1 : Int32) < 0 ∨ cl695.slots.size ≤ ((1 : Int32)).toNatClampNeg) := inb_of S695 ⟨by decide, by decide⟩
                have f696 := ((((f681).ext E678)).wr W690)
                obtain ⟨T695, h695, X695, e695, W695, st695⟩ := stR X690 hx hZ e690 Ar695 (j := (1 : Int32)) hin695 rfl (Sto.ofV Ar695 q695 O678 (Ins.self f696)) (g := (mkF m 300 A694 [(.ref b79), (.int (1 : Int32)), (.ref b678)])) rfl rfl (hb hby at_300)
                have V695 : Arv Z h695 b678 k678 (.object "com/example/dwellgate/dwellgate/book/PriceTreeNextPinLaw") (7 : Int32) [(.ref b46), (.ref b79), .null, .null, .null, .null, .null] .null := Arv.set Ar695 q695 S695 N695_ H695 G695 rfl W695 1 rfl (Nat.le_of_ble_eq_true rfl)
                have N695 := Fr.snoc X695 N690 g_b678
                have Z697 : n0 ≤ h695.size := Nat.le_trans Z692 (Keep.of_wr W695).1
                have K697 : Keep h0 h695 [] := K692.wr W695 (Or.inr sz_b678)
                refine Go.st (S' := T695.setTop (mkF m 301 A694 [])) st695 ?_
                refine Go.st (S' := T695.setTop (mkF m 303 A694 [(.int (1 : Int32))])) (fun t k => XS.iload X695.here hx rfl (hb hby at_301) rfl k) ?_
                refine Go.st (S' := T695.setTop (mkF m 304 A694 [(.int (1 : Int32)), (.int (1 : Int32))])) (fun t k => XS.iconst X695.here hx rfl (hb hby at_303) k) ?_
                refine Go.op (F := fun z => T695.setTop (mkF m 305 A694 [(.int z)])) (x := ((1 : Int32) + (1 : Int32))) (fun t k => XS.iadd X695.here hx rfl (hb hby at_304) rfl k) ?_
                intro v698 hv698
                obtain rfl : (2 : Int32) = v698 := (hv698.trans (by decide)).symm
                let A699 : Array Slot := #[.val (.int p0), .val (.int p1), .val (.int r5), .val (.int r11), .val (.int r17), .val (.ref r26), .val (.long r32), .second, .val (.ref b35), .val (.ref b46), .val (.ref b79), .val (.ref b91), .val (.ref b104), .val (.ref b118), .val (.ref b133), .val (.ref b149), .val (.ref b678), .val (.int (2 : Int32)), .unset, .unset]
                refine Go.st (S' := T695.setTop (mkF m 307 A699 [])) (fun t k => XS.istore X695.here hx rfl (hb hby at_305) rfl (l' := A699) rfl k) ?_
                refine Go.st (S' := T695.setTop (mkF m 308 A699 [(.int r11)])) (fun t k => XS.iloadN X695.here hx rfl (hb hby at_307) rfl k) ?_
                refine Go.st (S' := T695.setTop (mkF m 324 A699 [])) (fun t k => XS.ifYes X695.here hx rfl (pc0 := 308) (pc' := 324) rfl (hb hby at_308) rfl ((if0 _ _).trans (teq hc533).1) (by decide) (by decide) k) ?_
                refine Go.st (S' := T695.setTop (mkF m 326 A699 [(.ref b678)])) (fun t k => XS.aload X695.here hx rfl (hb hby at_324) rfl rfl k) ?_
                refine Go.st (S' := T695.setTop (mkF m 328 A699 [(.int (2 : Int32)), (.ref b678)])) (fun t k => XS.iload X695.here hx rfl (hb hby at_326) rfl k) ?_
                refine Go.st (S' := T695.setTop (mkF m 330 A699 [(.ref b104), (.int (2 : Int32)), (.ref b678)])) (fun t k => XS.aload X695.here hx rfl (hb hby at_328) rfl rfl k) ?_
                obtain ⟨cl700, Ar700, q700, S700, N700_, H700, G700⟩ := id V695
                have hin700 : ¬ ((2 : Int32) < 0 ∨ cl700.slots.size ≤ ((2 : Int32)).toNatClampNeg) := inb_of S700 ⟨by decide, by decide⟩
                have f701 := ((((((f683).ext E678)).wr W690)).wr W695)
                obtain ⟨T700, h700, X700, e700, W700, st700⟩ := stR X695 hx hZ e695 Ar700 (j := (2 : Int32)) hin700 rfl (Sto.ofV Ar700 q700 O678 (Ins.self f701)) (g := (mkF m 330 A699 [(.ref b104), (.int (2 : Int32)), (.ref b678)])) rfl rfl (hb hby at_330)
                have V700 : Arv Z h700 b678 k678 (.object "com/example/dwellgate/dwellgate/book/PriceTreeNextPinLaw") (7 : Int32) [(.ref b46), (.ref b79), (.ref b104), .null, .null, .null, .null] .null := Arv.set Ar700 q700 S700 N700_ H700 G700 rfl W700 2 rfl (Nat.le_of_ble_eq_true rfl)
                have N700 := Fr.snoc X700 N695 g_b678
                have Z702 : n0 ≤ h700.size := Nat.le_trans Z697 (Keep.of_wr W700).1
                have K702 : Keep h0 h700 [] := K697.wr W700 (Or.inr sz_b678)
                refine Go.st (S' := T700.setTop (mkF m 331 A699 [])) st700 ?_
                refine Go.st (S' := T700.setTop (mkF m 333 A699 [(.int (2 : Int32))])) (fun t k => XS.iload X700.here hx rfl (hb hby at_331) rfl k) ?_
                refine Go.st (S' := T700.setTop (mkF m 334 A699 [(.int (1 : Int32)), (.int (2 : Int32))])) (fun t k => XS.iconst X700.here hx rfl (hb hby at_333) k) ?_
                refine Go.op (F := fun z => T700.setTop (mkF m 335 A699 [(.int z)])) (x := ((2 : Int32) + (1 : Int32))) (fun t k => XS.iadd X700.here hx rfl (hb hby at_334) rfl k) ?_
                intro v703 hv703
                obtain rfl : (3 : Int32) = v703 := (hv703.trans (by decide)).symm
                let A704 : Array Slot := #[.val (.int p0), .val (.int p1), .val (.int r5), .val (.int r11), .val (.int r17), .val (.ref r26), .val (.long r32), .second, .val (.ref b35), .val (.ref b46), .val (.ref b79), .val (.ref b91), .val (.ref b104), .val (.ref b118), .val (.ref b133), .val (.ref b149), .val (.ref b678), .val (.int (3 : Int32)), .unset, .unset]
                refine Go.st (S' := T700.setTop (mkF m 337 A704 [])) (fun t k => XS.istore X700.here hx rfl (hb hby at_335) rfl (l' := A704) rfl k) ?_
                refine Go.st (S' := T700.setTop (mkF m 338 A704 [(.int r5)])) (fun t k => XS.iloadN X700.here hx rfl (hb hby at_337) rfl k) ?_
                refine Go.st (S' := T700.setTop (mkF m 354 A704 [])) (fun t k => XS.ifYes X700.here hx rfl (pc0 := 338) (pc' := 354) rfl (hb hby at_338) rfl ((if0 _ _).trans (teq hc677).1) (by decide) (by decide) k) ?_
                refine Go.st (S' := T700.setTop (mkF m 356 A704 [(.ref b678)])) (fun t k => XS.aload X700.here hx rfl (hb hby at_354) rfl rfl k) ?_
                refine Go.st (S' := T700.setTop (mkF m 358 A704 [(.int (3 : Int32)), (.ref b678)])) (fun t k => XS.iload X700.here hx rfl (hb hby at_356) rfl k) ?_
                refine Go.st (S' := T700.setTop (mkF m 360 A704 [(.ref b133), (.int (3 : Int32)), (.ref b678)])) (fun t k => XS.aload X700.here hx rfl (hb hby at_358) rfl rfl k) ?_
                obtain ⟨cl705, Ar705, q705, S705, N705_, H705, G705⟩ := id V700
                have hin705 : ¬ ((3 : Int32) < 0 ∨ cl705.slots.size ≤ ((3 : Int32)).toNatClampNeg) := inb_of S705 ⟨by decide, by decide⟩
                have f706 := ((((((((f685).ext E678)).wr W690)).wr W695)).wr W700)
                obtain ⟨T705, h705, X705, e705, W705, st705⟩ := stR X700 hx hZ e700 Ar705 (j := (3 : Int32)) hin705 rfl (Sto.ofV Ar705 q705 O678 (Ins.self f706)) (g := (mkF m 360 A704 [(.ref b133), (.int (3 : Int32)), (.ref b678)])) rfl rfl (hb hby at_360)
                have V705 : Arv Z h705 b678 k678 (.object "com/example/dwellgate/dwellgate/book/PriceTreeNextPinLaw") (7 : Int32) [(.ref b46), (.ref b79), (.ref b104), (.ref b133), .null, .null, .null] .null := Arv.set Ar705 q705 S705 N705_ H705 G705 rfl W705 3 rfl (Nat.le_of_ble_eq_true rfl)
                have N705 := Fr.snoc X705 N700 g_b678
                have Z707 : n0 ≤ h705.size := Nat.le_trans Z702 (Keep.of_wr W705).1
                have K707 : Keep h0 h705 [] := K702.wr W705 (Or.inr sz_b678)
                refine Go.st (S' := T705.setTop (mkF m 361 A704 [])) st705 ?_
                refine Go.st (S' := T705.setTop (mkF m 363 A704 [(.int (3 : Int32))])) (fun t k => XS.iload X705.here hx rfl (hb hby at_361) rfl k) ?_
                refine Go.st (S' := T705.setTop (mkF m 364 A704 [(.int (1 : Int32)), (.int (3 : Int32))])) (fun t k => XS.iconst X705.here hx rfl (hb hby at_363) k) ?_
                refine Go.op (F := fun z => T705.setTop (mkF m 365 A704 [(.int z)])) (x := ((3 : Int32) + (1 : Int32))) (fun t k => XS.iadd X705.here hx rfl (hb hby at_364) rfl k) ?_
                intro v708 hv708
                obtain rfl : (4 : Int32) = v708 := (hv708.trans (by decide)).symm
                let A709 : Array Slot := #[.val (.int p0), .val (.int p1), .val (.int r5), .val (.int r11), .val (.int r17), .val (.ref r26), .val (.long r32), .second, .val (.ref b35), .val (.ref b46), .val (.ref b79), .val (.ref b91), .val (.ref b104), .val (.ref b118), .val (.ref b133), .val (.ref b149), .val (.ref b678), .val (.int (4 : Int32)), .unset, .unset]
                refine Go.st (S' := T705.setTop (mkF m 367 A709 [])) (fun t k => XS.istore X705.here hx rfl (hb hby at_365) rfl (l' := A709) rfl k) ?_
                refine Go.st (S' := T705.setTop (mkF m 369 A709 [(.ref b678)])) (fun t k => XS.aload X705.here hx rfl (hb hby at_367) rfl rfl k) ?_
                refine Go.st (S' := T705.setTop (mkF m 371 A709 [(.int (4 : Int32)), (.ref b678)])) (fun t k => XS.iload X705.here hx rfl (hb hby at_369) rfl k) ?_
                refine Go.st (S' := T705.setTop (mkF m 373 A709 [(.ref b149), (.int (4 : Int32)), (.ref b678)])) (fun t k => XS.aload X705.here hx rfl (hb hby at_371) rfl rfl k) ?_
                obtain ⟨cl710, Ar710, q710, S710, N710_, H710, G710⟩ := id V705
                have hin710 : ¬ ((4 : Int32) < 0 ∨ cl710.slots.size ≤ ((4 : Int32)).toNatClampNeg) := inb_of S710 ⟨by decide, by decide⟩
                have f711 := ((((((((((f686).ext E678)).wr W690)).wr W695)).wr W700)).wr W705)
                obtain ⟨T710, h710, X710, e710, W710, st710⟩ := stR X705 hx hZ e705 Ar710 (j := (4 : Int32)) hin710 rfl (Sto.ofV Ar710 q710 O678 (Ins.self f711)) (g := (mkF m 373 A709 [(.ref b149), (.int (4 : Int32)), (.ref b678)])) rfl rfl (hb hby at_373)
                have V710 : Arv Z h710 b678 k678 (.object "com/example/dwellgate/dwellgate/book/PriceTreeNextPinLaw") (7 : Int32) [(.ref b46), (.ref b79), (.ref b104), (.ref b133), (.ref b149), .null, .null] .null := Arv.set Ar710 q710 S710 N710_ H710 G710 rfl W710 4 rfl (Nat.le_of_ble_eq_true rfl)
                have N710 := Fr.snoc X710 N705 g_b678
                have Z712 : n0 ≤ h710.size := Nat.le_trans Z707 (Keep.of_wr W710).1
                have K712 : Keep h0 h710 [] := K707.wr W710 (Or.inr sz_b678)
                refine Go.st (S' := T710.setTop (mkF m 374 A709 [])) st710 ?_
                refine Go.st (S' := T710.setTop (mkF m 376 A709 [(.int (4 : Int32))])) (fun t k => XS.iload X710.here hx rfl (hb hby at_374) rfl k) ?_
                refine Go.st (S' := T710.setTop (mkF m 377 A709 [(.int (1 : Int32)), (.int (4 : Int32))])) (fun t k => XS.iconst X710.here hx rfl (hb hby at_376) k) ?_
                refine Go.op (F := fun z => T710.setTop (mkF m 378 A709 [(.int z)])) (x := ((4 : Int32) + (1 : Int32))) (fun t k => XS.iadd X710.here hx rfl (hb hby at_377) rfl k) ?_
                intro v713 hv713
                obtain rfl : (5 : Int32) = v713 := (hv713.trans (by decide)).symm
                let A714 : Array Slot := #[.val (.int p0), .val (.int p1), .val (.int r5), .val (.int r11), .val (.int r17), .val (.ref r26), .val (.long r32), .second, .val (.ref b35), .val (.ref b46), .val (.ref b79), .val (.ref b91), .val (.ref b104), .val (.ref b118), .val (.ref b133), .val (.ref b149), .val (.ref b678), .val (.int (5 : Int32)), .unset, .unset]
                refine Go.st (S' := T710.setTop (mkF m 380 A714 [])) (fun t k => XS.istore X710.here hx rfl (hb hby at_378) rfl (l' := A714) rfl k) ?_
                refine Go.st (S' := T710.setTop (mkF m 381 A714 [(.int p0)])) (fun t k => XS.iloadN X710.here hx rfl (hb hby at_380) rfl k) ?_
                refine Go.st (S' := T710.setTop (mkF m 383 A714 [(.int (2147483647 : Int32)), (.int p0)])) (fun t k => X710.ldcInt hx hown (mvT hZ (hw _ (List.mem_of_getElem? (i := 44) rfl))) (g := (mkF m 381 A714 [(.int p0)])) rfl (hb hby at_381) t k) ?_
                refine Go.op (F := fun z => T710.setTop (mkF m 384 A714 [(.int z)])) (x := (p0 &&& (2147483647 : Int32))) (fun t k => XS.iand X710.here hx rfl (hb hby at_383) rfl k) ?_
                intro v715 hv715
                refine Go.st (S' := T710.setTop (mkF m 386 A714 [(.int (5 : Int32)), (.int v715)])) (fun t k => XS.iload X710.here hx rfl (hb hby at_384) rfl k) ?_
                refine Go.op (F := fun z => T710.setTop (mkF m 387 A714 [(.int z)])) (x := (v715 % (5 : Int32))) (fun t k => iremM X710 hx rfl (hb hby at_386) rfl (by decide) k) ?_
                intro v716 hv716
                let A717 : Array Slot := #[.val (.int p0), .val (.int p1), .val (.int r5), .val (.int r11), .val (.int r17), .val (.ref r26), .val (.long r32), .second, .val (.ref b35), .val (.ref b46), .val (.ref b79), .val (.ref b91), .val (.ref b104), .val (.ref b118), .val (.ref b133), .val (.ref b149), .val (.ref b678), .val (.int (5 : Int32)), .val (.int v716), .unset]
                refine Go.st (S' := T710.setTop (mkF m 389 A717 [])) (fun t k => XS.istore X710.here hx rfl (hb hby at_387) rfl (l' := A717) rfl k) ?_
                refine Go.st (S' := T710.setTop (mkF m 391 A717 [(.int v716)])) (fun t k => XS.iload X710.here hx rfl (hb hby at_389) rfl k) ?_
                refine Go.st (S' := T710.setTop (mkF m 392 A717 [(.int (1 : Int32)), (.int v716)])) (fun t k => XS.iconst X710.here hx rfl (hb hby at_391) k) ?_
                refine Go.op (F := fun z => T710.setTop (mkF m 393 A717 [(.int z)])) (x := (v716 + (1 : Int32))) (fun t k => XS.iadd X710.here hx rfl (hb hby at_392) rfl k) ?_
                intro v718 hv718
                refine Go.st (S' := T710.setTop (mkF m 395 A717 [(.int (5 : Int32)), (.int v718)])) (fun t k => XS.iload X710.here hx rfl (hb hby at_393) rfl k) ?_
                by_cases hc743 : (v718 < (5 : Int32))
                · refine Go.st (S' := T710.setTop (mkF m 398 A717 [])) (fun t k => XS.icmpNo X710.here hx rfl (hb hby at_395) rfl (tlt hc743).2.1 k) ?_
                  refine Go.st (S' := T710.setTop (mkF m 400 A717 [(.ref b678)])) (fun t k => XS.aload X710.here hx rfl (hb hby at_398) rfl rfl k) ?_
                  refine Go.st (S' := T710.setTop (mkF m 402 A717 [(.int v716), (.ref b678)])) (fun t k => XS.iload X710.here hx rfl (hb hby at_400) rfl k) ?_
                  refine Go.st (S' := T710.setTop (mkF m 403 A717 [(.int (1 : Int32)), (.int v716), (.ref b678)])) (fun t k => XS.iconst X710.here hx rfl (hb hby at_402) k) ?_
                  refine Go.op (F := fun z => T710.setTop (mkF m 404 A717 [(.int z), (.ref b678)])) (x := (v716 + (1 : Int32))) (fun t k => XS.iadd X710.here hx rfl (hb hby at_403) rfl k) ?_
                  intro v744 hv744
                  obtain rfl : v718 = v744 := hv718.trans hv744.symm
                  by_cases hj746 : v718 = (1 : Int32)
                  · obtain ⟨cl747, Ar747, -, S747, N747_, H747, -⟩ := id V710
                    have hin747 : ¬ (v718 < 0 ∨ cl747.slots.size ≤ (v718).toNatClampNeg) := by rw [hj746]; exact inb_of S747 ⟨by decide, by decide⟩
                    have hat747 : cl747.slots[(v718).toNatClampNeg]? = some (.ref b79) := Has.at H747 hin747 (by rw [hj746]; rfl)
                    refine Go.st (S' := T710.setTop (mkF m 405 A717 [(.ref b79)])) (fun t k => X710.aaload hx (j := v718) (v := (.ref b79)) (own_eh e710 Ar747.1) (State.isArrayOf_alike hZ.alike Ar747.2.1) rfl Ar747.2.2 hin747 hat747 (g := (mkF m 404 A717 [(.int v718), (.ref b678)])) rfl rfl (hb hby at_404) t k) ?_
                    refine Go.st (S' := T710.setTop (mkF m 409 A717 [(.ref b79)])) (fun t k => XS.goto X710.here hx rfl (pc0 := 405) (pc' := 409) rfl (hb hby at_405) (by decide) (by decide) k) ?_
                    let A748 : Array Slot := #[.val (.int p0), .val (.int p1), .val (.int r5), .val (.int r11), .val (.int r17), .val (.ref r26), .val (.long r32), .second, .val (.ref b35), .val (.ref b46), .val (.ref b79), .val (.ref b91), .val (.ref b104), .val (.ref b118), .val (.ref b133), .val (.ref b149), .val (.ref b678), .val (.int (5 : Int32)), .val (.int v716), .val (.ref b79)]
                    refine Go.st (S' := T710.setTop (mkF m 411 A748 [])) (fun t k => XS.astore X710.here hx rfl (hb hby at_409) rfl rfl (l' := A748) rfl k) ?_
                    refine Go.st (S' := T710.setTop (mkF m 413 A748 [(.ref b35)])) (fun t k => XS.aload X710.here hx rfl (hb hby at_411) rfl rfl k) ?_
                    refine Go.st (S' := T710.setTop (mkF m 415 A748 [(.ref b678), (.ref b35)])) (fun t k => XS.aload X710.here hx rfl (hb hby at_413) rfl rfl k) ?_
                    refine Go.st (S' := T710.setTop (mkF m 417 A748 [(.int v716), (.ref b678), (.ref b35)])) (fun t k => XS.iload X710.here hx rfl (hb hby at_415) rfl k) ?_
                    have hj750 : v716 = (0 : Int32) := by
                      refine Decidable.byContradiction fun hc751 => ?_
                      have rv715 := rng32 v715
                      have wv715 := c_mask p0 (2147483647 : Int32) 31 (by decide) (by decide)
                      rw [← hv715] at wv715
                      have rv716 := rng32 v716
                      have wv716 := c_irem v715 (5 : Int32) 5 (by decide)
                      rw [← hv716] at wv716
                      have rv718 := rng32 v718
                      have wv718 := c_iadd v716 (1 : Int32)
                      rw [← hv718] at wv718
                      have rp0 := rng32 p0
                      have lI0 : (0 : Int32).toInt = 0 := by decide
                      have lI1 : (1 : Int32).toInt = 1 := by decide
                      have lI5 : (5 : Int32).toInt = 5 := by decide
                      have lI2147483647 : (2147483647 : Int32).toInt = 2147483647 := by decide
                      simp only [Int32.lt_iff_toInt_lt, Int64.lt_iff_toInt_lt, ← Int32.toInt_inj, ← Int64.toInt_inj] at hc743 hj746 hc751
                      omega
                    obtain ⟨cl749, Ar749, -, S749, N749_, H749, -⟩ := id V710
                    have hin749 : ¬ (v716 < 0 ∨ cl749.slots.size ≤ (v716).toNatClampNeg) := by rw [hj750]; exact inb_of S749 ⟨by decide, by decide⟩
                    have hat749 : cl749.slots[(v716).toNatClampNeg]? = some (.ref b46) := Has.at H749 hin749 (by rw [hj750]; rfl)
                    refine Go.st (S' := T710.setTop (mkF m 418 A748 [(.ref b46), (.ref b35)])) (fun t k => X710.aaload hx (j := v716) (v := (.ref b46)) (own_eh e710 Ar749.1) (State.isArrayOf_alike hZ.alike Ar749.2.1) rfl Ar749.2.2 hin749 hat749 (g := (mkF m 417 A748 [(.int v716), (.ref b678), (.ref b35)])) rfl rfl (hb hby at_417) t k) ?_
                    have f752 := ((((((((((((f679).ext E678)).wr W690)).wr W695)).wr W700)).wr W705)).wr W710)
                    have f753 := ((((((((((((((((((((((Fw176).other W180 (Or.inl (Nat.ne_of_lt lt_b46_b79)))).other W536 (Or.inl (Nat.ne_of_lt lt_b46_b104)))).other W540 (Or.inl (Nat.ne_of_lt lt_b46_b149)))).other W544 (Or.inl (Nat.ne_of_lt lt_b46_b149)))).other W548 (Or.inl (Nat.ne_of_lt lt_b46_b133)))).ext E678)).other W690 (Or.inl (Nat.ne_of_lt lt_b46_b678)))).other W695 (Or.inl (Nat.ne_of_lt lt_b46_b678)))).other W700 (Or.inl (Nat.ne_of_lt lt_b46_b678)))).other W705 (Or.inl (Nat.ne_of_lt lt_b46_b678)))).other W710 (Or.inl (Nat.ne_of_lt lt_b46_b678)))
                    have f754 := ((((((((((((((((((((((((((((((((((((((((((((((((f86).ext E91)).keep K96_ (ninS (Nat.ne_of_lt lt_b79_b91) nin0))).ext E104)).keep K110_ (ninS (Nat.ne_of_lt lt_b79_b104) nin0))).ext E118)).keep K125_ (ninS (Nat.ne_of_lt lt_b79_b118) nin0))).ext E133)).keep K141_ (ninS (Nat.ne_of_lt lt_b79_b133) nin0))).ext E149)).keep K158_ (ninS (Nat.ne_of_lt lt_b79_b149) nin0))).other W168 (Or.inl (Nat.ne_of_lt lt_b79_b104)))).other W172 (Or.inl (Nat.ne_of_gt lt_b46_b79)))).other W176 (Or.inl (Nat.ne_of_gt lt_b46_b79)))).other W180 (Or.inr (slot_ne (Or.inl (hw _ (List.mem_of_getElem? (i := 35) rfl))) (Or.inl (hw _ (List.mem_of_getElem? (i := 38) rfl))) (by decide) (t := (.object "com/example/dwellgate/dwellgate/book/PriceTree$Node")) (t' := (.object "com/example/dwellgate/dwellgate/book/PriceTree$Node")) (by decide) (by decide))))).other W536 (Or.inl (Nat.ne_of_lt lt_b79_b104)))).other W540 (Or.inl (Nat.ne_of_lt lt_b79_b149)))).other W544 (Or.inl (Nat.ne_of_lt lt_b79_b149)))).other W548 (Or.inl (Nat.ne_of_lt lt_b79_b133)))).ext E678)).other W690 (Or.inl (Nat.ne_of_lt lt_b79_b678)))).other W695 (Or.inl (Nat.ne_of_lt lt_b79_b678)))).other W700 (Or.inl (Nat.ne_of_lt lt_b79_b678)))).other W705 (Or.inl (Nat.ne_of_lt lt_b79_b678)))).other W710 (Or.inl (Nat.ne_of_lt lt_b79_b678)))
                    obtain ⟨r755, T755, L755, X755, hQ755, st755⟩ := own_callV (W := 0) (a := b35) (C := "com/example/dwellgate/dwellgate/book/PriceTree") X710 hx hZ e710 hown (y := (⟨"com/example/dwellgate/dwellgate/book/PriceTree", "next", "(Lcom/example/dwellgate/dwellgate/book/PriceTree$Node;)Lcom/example/dwellgate/dwellgate/book/PriceTree$Node;"⟩ : MethodName)) (z := (⟨"com/example/dwellgate/dwellgate/book/PriceTree", "next", "(Lcom/example/dwellgate/dwellgate/book/PriceTree$Node;)Lcom/example/dwellgate/dwellgate/book/PriceTree$Node;"⟩ : MethodName)) (hw _ (List.mem_of_getElem? (i := 45) rfl)) (hw _ (List.mem_of_getElem? (i := 46) rfl)) (notFace_of_selects (args := #[]) (mvT hZ (hw _ (List.mem_of_getElem? (i := 48) rfl)))) (hw _ (List.mem_of_getElem? (i := 48) rfl)) (hw _ (List.mem_of_getElem? (i := 47) rfl)) (hw _ (List.mem_of_getElem? (i := 5) rfl)) (hw _ (List.mem_of_getElem? (i := 49) rfl)) (by decide) (f752) (rm5 l Z a0 hw [] b35 b46 b79 h710 n0 Z712 (f753) (f754)) (by decide) (by decide) (by decide) (by decide) (g := (mkF m 418 A748 [(.ref b46), (.ref b35)])) rfl (by rw [hml]; rfl) (argsL := [(.ref b46)]) (rest := []) rfl (lenOf pd_2 rfl) rfl (by show 2 * 0 + _ ≤ _; exact Nat.le_of_eq rfl) (hb hby at_418)
                    obtain ⟨rfl, N755, e755⟩ := hQ755
                    have N755_ := Fr.app N710 N755
                    refine Go.st (S' := T755.setTop (mkF m 421 A748 [(.ref b79)])) st755 ?_
                    refine Go.st (S' := T755.setTop (mkF m 423 A748 [(.ref b79), (.ref b79)])) (fun t k => XS.aload X755.here hx rfl (hb hby at_421) rfl rfl k) ?_
                    refine Go.st (S' := T755.setTop (mkF m 426 A748 [])) (fun t k => acmp X755 hx rfl rfl rfl (pc0 := 423) (pc' := 426) (same := true) rfl (hb hby at_423) rfl (by simp) (by decide) (by decide) k) ?_
                    refine Go.st (S' := T755.setTop (mkF m 427 A748 [(.int (1 : Int32))])) (fun t k => XS.iconst X755.here hx rfl (hb hby at_426) k) ?_
                    refine Go.st (S' := T755.setTop (mkF m 431 A748 [(.int (1 : Int32))])) (fun t k => XS.goto X755.here hx rfl (pc0 := 427) (pc' := 431) rfl (hb hby at_427) (by decide) (by decide) k) ?_
                    exact Go.ret X755 (v := some (.int (1 : Int32))) (fun h => by rw [Bd.returns] at h; cases h) Bd.notSynchronized (fun fs hr => retN X755 hx (t := .boolean) Bd.returns (by simp) (hb hby at_431) hr) (by decide) (by decide) ⟨rfl, N755_⟩
                  · by_cases hj756 : v718 = (2 : Int32)
                    · obtain ⟨cl757, Ar757, -, S757, N757_, H757, -⟩ := id V710
                      have hin757 : ¬ (v718 < 0 ∨ cl757.slots.size ≤ (v718).toNatClampNeg) := by rw [hj756]; exact inb_of S757 ⟨by decide, by decide⟩
                      have hat757 : cl757.slots[(v718).toNatClampNeg]? = some (.ref b104) := Has.at H757 hin757 (by rw [hj756]; rfl)
                      refine Go.st (S' := T710.setTop (mkF m 405 A717 [(.ref b104)])) (fun t k => X710.aaload hx (j := v718) (v := (.ref b104)) (own_eh e710 Ar757.1) (State.isArrayOf_alike hZ.alike Ar757.2.1) rfl Ar757.2.2 hin757 hat757 (g := (mkF m 404 A717 [(.int v718), (.ref b678)])) rfl rfl (hb hby at_404) t k) ?_
                      refine Go.st (S' := T710.setTop (mkF m 409 A717 [(.ref b104)])) (fun t k => XS.goto X710.here hx rfl (pc0 := 405) (pc' := 409) rfl (hb hby at_405) (by decide) (by decide) k) ?_
                      let A758 : Array Slot := #[.val (.int p0), .val (.int p1), .val (.int r5), .val (.int r11), .val (.int r17), .val (.ref r26), .val (.long r32), .second, .val (.ref b35), .val (.ref b46), .val (.ref b79), .val (.ref b91), .val (.ref b104), .val (.ref b118), .val (.ref b133), .val (.ref b149), .val (.ref b678), .val (.int (5 : Int32)), .val (.int v716), .val (.ref b104)]
                      refine Go.st (S' := T710.setTop (mkF m 411 A758 [])) (fun t k => XS.astore X710.here hx rfl (hb hby at_409) rfl rfl (l' := A758) rfl k) ?_
                      refine Go.st (S' := T710.setTop (mkF m 413 A758 [(.ref b35)])) (fun t k => XS.aload X710.here hx rfl (hb hby at_411) rfl rfl k) ?_
                      refine Go.st (S' := T710.setTop (mkF m 415 A758 [(.ref b678), (.ref b35)])) (fun t k => XS.aload X710.here hx rfl (hb hby at_413) rfl rfl k) ?_
                      refine Go.st (S' := T710.setTop (mkF m 417 A758 [(.int v716), (.ref b678), (.ref b35)])) (fun t k => XS.iload X710.here hx rfl (hb hby at_415) rfl k) ?_
                      have hj760 : v716 = (1 : Int32) := by
                        refine Decidable.byContradiction fun hc761 => ?_
                        have rv715 := rng32 v715
                        have wv715 := c_mask p0 (2147483647 : Int32) 31 (by decide) (by decide)
                        rw [← hv715] at wv715
                        have rv716 := rng32 v716
                        have wv716 := c_irem v715 (5 : Int32) 5 (by decide)
                        rw [← hv716] at wv716
                        have rv718 := rng32 v718
                        have wv718 := c_iadd v716 (1 : Int32)
                        rw [← hv718] at wv718
                        have rp0 := rng32 p0
                        have lI1 : (1 : Int32).toInt = 1 := by decide
                        have lI2 : (2 : Int32).toInt = 2 := by decide
                        have lI5 : (5 : Int32).toInt = 5 := by decide
                        have lI2147483647 : (2147483647 : Int32).toInt = 2147483647 := by decide
                        simp only [Int32.lt_iff_toInt_lt, Int64.lt_iff_toInt_lt, ← Int32.toInt_inj, ← Int64.toInt_inj] at hc743 hj746 hj756 hc761
                        omega
                      obtain ⟨cl759, Ar759, -, S759, N759_, H759, -⟩ := id V710
                      have hin759 : ¬ (v716 < 0 ∨ cl759.slots.size ≤ (v716).toNatClampNeg) := by rw [hj760]; exact inb_of S759 ⟨by decide, by decide⟩
                      have hat759 : cl759.slots[(v716).toNatClampNeg]? = some (.ref b79) := Has.at H759 hin759 (by rw [hj760]; rfl)
                      refine Go.st (S' := T710.setTop (mkF m 418 A758 [(.ref b79), (.ref b35)])) (fun t k => X710.aaload hx (j := v716) (v := (.ref b79)) (own_eh e710 Ar759.1) (State.isArrayOf_alike hZ.alike Ar759.2.1) rfl Ar759.2.2 hin759 hat759 (g := (mkF m 417 A758 [(.int v716), (.ref b678), (.ref b35)])) rfl rfl (hb hby at_417) t k) ?_
                      have f762 := ((((((((((((f679).ext E678)).wr W690)).wr W695)).wr W700)).wr W705)).wr W710)
                      have f764 := ((((((((((((((((((((((((((((((((((((((((((((((((f88).ext E91)).keep K96_ (ninS (Nat.ne_of_lt lt_b79_b91) nin0))).ext E104)).keep K110_ (ninS (Nat.ne_of_lt lt_b79_b104) nin0))).ext E118)).keep K125_ (ninS (Nat.ne_of_lt lt_b79_b118) nin0))).ext E133)).keep K141_ (ninS (Nat.ne_of_lt lt_b79_b133) nin0))).ext E149)).keep K158_ (ninS (Nat.ne_of_lt lt_b79_b149) nin0))).other W168 (Or.inl (Nat.ne_of_lt lt_b79_b104)))).other W172 (Or.inl (Nat.ne_of_gt lt_b46_b79)))).other W176 (Or.inl (Nat.ne_of_gt lt_b46_b79)))).other W180 (Or.inr (slot_ne (Or.inl (hw _ (List.mem_of_getElem? (i := 41) rfl))) (Or.inl (hw _ (List.mem_of_getElem? (i := 38) rfl))) (by decide) (t := (.object "com/example/dwellgate/dwellgate/book/PriceTree$Node")) (t' := (.object "com/example/dwellgate/dwellgate/book/PriceTree$Node")) (by decide) (by decide))))).other W536 (Or.inl (Nat.ne_of_lt lt_b79_b104)))).other W540 (Or.inl (Nat.ne_of_lt lt_b79_b149)))).other W544 (Or.inl (Nat.ne_of_lt lt_b79_b149)))).other W548 (Or.inl (Nat.ne_of_lt lt_b79_b133)))).ext E678)).other W690 (Or.inl (Nat.ne_of_lt lt_b79_b678)))).other W695 (Or.inl (Nat.ne_of_lt lt_b79_b678)))).other W700 (Or.inl (Nat.ne_of_lt lt_b79_b678)))).other W705 (Or.inl (Nat.ne_of_lt lt_b79_b678)))).other W710 (Or.inl (Nat.ne_of_lt lt_b79_b678)))
                      have f765 := ((((((((((((((((((((Fw180).other W536 (Or.inl (Nat.ne_of_lt lt_b79_b104)))).other W540 (Or.inl (Nat.ne_of_lt lt_b79_b149)))).other W544 (Or.inl (Nat.ne_of_lt lt_b79_b149)))).other W548 (Or.inl (Nat.ne_of_lt lt_b79_b133)))).ext E678)).other W690 (Or.inl (Nat.ne_of_lt lt_b79_b678)))).other W695 (Or.inl (Nat.ne_of_lt lt_b79_b678)))).other W700 (Or.inl (Nat.ne_of_lt lt_b79_b678)))).other W705 (Or.inl (Nat.ne_of_lt lt_b79_b678)))).other W710 (Or.inl (Nat.ne_of_lt lt_b79_b678)))
                      have f766 := ((((((((((((((((((((((Fw176).other W180 (Or.inl (Nat.ne_of_lt lt_b46_b79)))).other W536 (Or.inl (Nat.ne_of_lt lt_b46_b104)))).other W540 (Or.inl (Nat.ne_of_lt lt_b46_b149)))).other W544 (Or.inl (Nat.ne_of_lt lt_b46_b149)))).other W548 (Or.inl (Nat.ne_of_lt lt_b46_b133)))).ext E678)).other W690 (Or.inl (Nat.ne_of_lt lt_b46_b678)))).other W695 (Or.inl (Nat.ne_of_lt lt_b46_b678)))).other W700 (Or.inl (Nat.ne_of_lt lt_b46_b678)))).other W705 (Or.inl (Nat.ne_of_lt lt_b46_b678)))).other W710 (Or.inl (Nat.ne_of_lt lt_b46_b678)))
                      have f767 := ((((((((((((((((((((((((Fw172).other W176 (Or.inr (slot_ne (Or.inl (hw _ (List.mem_of_getElem? (i := 38) rfl))) (Or.inl (hw _ (List.mem_of_getElem? (i := 41) rfl))) (by decide) (t := (.object "com/example/dwellgate/dwellgate/book/PriceTree$Node")) (t' := (.object "com/example/dwellgate/dwellgate/book/PriceTree$Node")) (by decide) (by decide))))).other W180 (Or.inl (Nat.ne_of_lt lt_b46_b79)))).other W536 (Or.inl (Nat.ne_of_lt lt_b46_b104)))).other W540 (Or.inl (Nat.ne_of_lt lt_b46_b149)))).other W544 (Or.inl (Nat.ne_of_lt lt_b46_b149)))).other W548 (Or.inl (Nat.ne_of_lt lt_b46_b133)))).ext E678)).other W690 (Or.inl (Nat.ne_of_lt lt_b46_b678)))).other W695 (Or.inl (Nat.ne_of_lt lt_b46_b678)))).other W700 (Or.inl (Nat.ne_of_lt lt_b46_b678)))).other W705 (Or.inl (Nat.ne_of_lt lt_b46_b678)))).other W710 (Or.inl (Nat.ne_of_lt lt_b46_b678)))
                      have f768 := ((((((((((((((((((Fw536).other W540 (Or.inl (Nat.ne_of_lt lt_b104_b149)))).other W544 (Or.inl (Nat.ne_of_lt lt_b104_b149)))).other W548 (Or.inl (Nat.ne_of_lt lt_b104_b133)))).ext E678)).other W690 (Or.inl (Nat.ne_of_lt lt_b104_b678)))).other W695 (Or.inl (Nat.ne_of_lt lt_b104_b678)))).other W700 (Or.inl (Nat.ne_of_lt lt_b104_b678)))).other W705 (Or.inl (Nat.ne_of_lt lt_b104_b678)))).other W710 (Or.inl (Nat.ne_of_lt lt_b104_b678)))
                      obtain ⟨r769, T769, L769, X769, hQ769, st769⟩ := own_callV (W := 0) (a := b35) (C := "com/example/dwellgate/dwellgate/book/PriceTree") X710 hx hZ e710 hown (y := (⟨"com/example/dwellgate/dwellgate/book/PriceTree", "next", "(Lcom/example/dwellgate/dwellgate/book/PriceTree$Node;)Lcom/example/dwellgate/dwellgate/book/PriceTree$Node;"⟩ : MethodName)) (z := (⟨"com/example/dwellgate/dwellgate/book/PriceTree", "next", "(Lcom/example/dwellgate/dwellgate/book/PriceTree$Node;)Lcom/example/dwellgate/dwellgate/book/PriceTree$Node;"⟩ : MethodName)) (hw _ (List.mem_of_getElem? (i := 45) rfl)) (hw _ (List.mem_of_getElem? (i := 46) rfl)) (notFace_of_selects (args := #[]) (mvT hZ (hw _ (List.mem_of_getElem? (i := 48) rfl)))) (hw _ (List.mem_of_getElem? (i := 48) rfl)) (hw _ (List.mem_of_getElem? (i := 47) rfl)) (hw _ (List.mem_of_getElem? (i := 5) rfl)) (hw _ (List.mem_of_getElem? (i := 49) rfl)) (by decide) (f762) (rm6 l Z a0 hw [] b35 b79 b46 b104 b149 h710 n0 Z712 (f764) (f765) (f766) (f767) (f768) ((Nat.ne_of_lt lt_b46_b149))) (by decide) (by decide) (by decide) (by decide) (g := (mkF m 418 A758 [(.ref b79), (.ref b35)])) rfl (by rw [hml]; rfl) (argsL := [(.ref b79)]) (rest := []) rfl (lenOf pd_2 rfl) rfl (by show 2 * 0 + _ ≤ _; exact Nat.le_of_eq rfl) (hb hby at_418)
                      obtain ⟨rfl, N769, e769⟩ := hQ769
                      have N769_ := Fr.app N710 N769
                      refine Go.st (S' := T769.setTop (mkF m 421 A758 [(.ref b104)])) st769 ?_
                      refine Go.st (S' := T769.setTop (mkF m 423 A758 [(.ref b104), (.ref b104)])) (fun t k => XS.aload X769.here hx rfl (hb hby at_421) rfl rfl k) ?_
                      refine Go.st (S' := T769.setTop (mkF m 426 A758 [])) (fun t k => acmp X769 hx rfl rfl rfl (pc0 := 423) (pc' := 426) (same := true) rfl (hb hby at_423) rfl (by simp) (by decide) (by decide) k) ?_
                      refine Go.st (S' := T769.setTop (mkF m 427 A758 [(.int (1 : Int32))])) (fun t k => XS.iconst X769.here hx rfl (hb hby at_426) k) ?_
                      refine Go.st (S' := T769.setTop (mkF m 431 A758 [(.int (1 : Int32))])) (fun t k => XS.goto X769.here hx rfl (pc0 := 427) (pc' := 431) rfl (hb hby at_427) (by decide) (by decide) k) ?_
                      exact Go.ret X769 (v := some (.int (1 : Int32))) (fun h => by rw [Bd.returns] at h; cases h) Bd.notSynchronized (fun fs hr => retN X769 hx (t := .boolean) Bd.returns (by simp) (hb hby at_431) hr) (by decide) (by decide) ⟨rfl, N769_⟩
                    · by_cases hj770 : v718 = (3 : Int32)
                      · obtain ⟨cl771, Ar771, -, S771, N771_, H771, -⟩ := id V710
                        have hin771 : ¬ (v718 < 0 ∨ cl771.slots.size ≤ (v718).toNatClampNeg) := by rw [hj770]; exact inb_of S771 ⟨by decide, by decide⟩
                        have hat771 : cl771.slots[(v718).toNatClampNeg]? = some (.ref b133) := Has.at H771 hin771 (by rw [hj770]; rfl)
                        refine Go.st (S' := T710.setTop (mkF m 405 A717 [(.ref b133)])) (fun t k => X710.aaload hx (j := v718) (v := (.ref b133)) (own_eh e710 Ar771.1) (State.isArrayOf_alike hZ.alike Ar771.2.1) rfl Ar771.2.2 hin771 hat771 (g := (mkF m 404 A717 [(.int v718), (.ref b678)])) rfl rfl (hb hby at_404) t k) ?_
                        refine Go.st (S' := T710.setTop (mkF m 409 A717 [(.ref b133)])) (fun t k => XS.goto X710.here hx rfl (pc0 := 405) (pc' := 409) rfl (hb hby at_405) (by decide) (by decide) k) ?_
                        let A772 : Array Slot := #[.val (.int p0), .val (.int p1), .val (.int r5), .val (.int r11), .val (.int r17), .val (.ref r26), .val (.long r32), .second, .val (.ref b35), .val (.ref b46), .val (.ref b79), .val (.ref b91), .val (.ref b104), .val (.ref b118), .val (.ref b133), .val (.ref b149), .val (.ref b678), .val (.int (5 : Int32)), .val (.int v716), .val (.ref b133)]
                        refine Go.st (S' := T710.setTop (mkF m 411 A772 [])) (fun t k => XS.astore X710.here hx rfl (hb hby at_409) rfl rfl (l' := A772) rfl k) ?_
                        refine Go.st (S' := T710.setTop (mkF m 413 A772 [(.ref b35)])) (fun t k => XS.aload X710.here hx rfl (hb hby at_411) rfl rfl k) ?_
                        refine Go.st (S' := T710.setTop (mkF m 415 A772 [(.ref b678), (.ref b35)])) (fun t k => XS.aload X710.here hx rfl (hb hby at_413) rfl rfl k) ?_
                        refine Go.st (S' := T710.setTop (mkF m 417 A772 [(.int v716), (.ref b678), (.ref b35)])) (fun t k => XS.iload X710.here hx rfl (hb hby at_415) rfl k) ?_
                        have hj774 : v716 = (2 : Int32) := by
                          refine Decidable.byContradiction fun hc775 => ?_
                          have rv715 := rng32 v715
                          have wv715 := c_mask p0 (2147483647 : Int32) 31 (by decide) (by decide)
                          rw [← hv715] at wv715
                          have rv716 := rng32 v716
                          have wv716 := c_irem v715 (5 : Int32) 5 (by decide)
                          rw [← hv716] at wv716
                          have rv718 := rng32 v718
                          have wv718 := c_iadd v716 (1 : Int32)
                          rw [← hv718] at wv718
                          have rp0 := rng32 p0
                          have lI1 : (1 : Int32).toInt = 1 := by decide
                          have lI2 : (2 : Int32).toInt = 2 := by decide
                          have lI3 : (3 : Int32).toInt = 3 := by decide
                          have lI5 : (5 : Int32).toInt = 5 := by decide
                          have lI2147483647 : (2147483647 : Int32).toInt = 2147483647 := by decide
                          simp only [Int32.lt_iff_toInt_lt, Int64.lt_iff_toInt_lt, ← Int32.toInt_inj, ← Int64.toInt_inj] at hc743 hj746 hj756 hj770 hc775
                          omega
                        obtain ⟨cl773, Ar773, -, S773, N773_, H773, -⟩ := id V710
                        have hin773 : ¬ (v716 < 0 ∨ cl773.slots.size ≤ (v716).toNatClampNeg) := by rw [hj774]; exact inb_of S773 ⟨by decide, by decide⟩
                        have hat773 : cl773.slots[(v716).toNatClampNeg]? = some (.ref b104) := Has.at H773 hin773 (by rw [hj774]; rfl)
                        refine Go.st (S' := T710.setTop (mkF m 418 A772 [(.ref b104), (.ref b35)])) (fun t k => X710.aaload hx (j := v716) (v := (.ref b104)) (own_eh e710 Ar773.1) (State.isArrayOf_alike hZ.alike Ar773.2.1) rfl Ar773.2.2 hin773 hat773 (g := (mkF m 417 A772 [(.int v716), (.ref b678), (.ref b35)])) rfl rfl (hb hby at_417) t k) ?_
                        have f776 := ((((((((((((f679).ext E678)).wr W690)).wr W695)).wr W700)).wr W705)).wr W710)
                        have f780 := ((((((((((((((((((Fw536).other W540 (Or.inl (Nat.ne_of_lt lt_b104_b149)))).other W544 (Or.inl (Nat.ne_of_lt lt_b104_b149)))).other W548 (Or.inl (Nat.ne_of_lt lt_b104_b133)))).ext E678)).other W690 (Or.inl (Nat.ne_of_lt lt_b104_b678)))).other W695 (Or.inl (Nat.ne_of_lt lt_b104_b678)))).other W700 (Or.inl (Nat.ne_of_lt lt_b104_b678)))).other W705 (Or.inl (Nat.ne_of_lt lt_b104_b678)))).other W710 (Or.inl (Nat.ne_of_lt lt_b104_b678)))
                        have f781 := ((((((((((((((Fw544).other W548 (Or.inl (Nat.ne_of_gt lt_b133_b149)))).ext E678)).other W690 (Or.inl (Nat.ne_of_lt lt_b149_b678)))).other W695 (Or.inl (Nat.ne_of_lt lt_b149_b678)))).other W700 (Or.inl (Nat.ne_of_lt lt_b149_b678)))).other W705 (Or.inl (Nat.ne_of_lt lt_b149_b678)))).other W710 (Or.inl (Nat.ne_of_lt lt_b149_b678)))
                        have f782 := ((((((((((((((((((((((((((((((((f144).ext E149)).keep K158_ (ninS (Nat.ne_of_lt lt_b133_b149) nin0))).other W168 (Or.inl (Nat.ne_of_gt lt_b104_b133)))).other W172 (Or.inl (Nat.ne_of_gt lt_b46_b133)))).other W176 (Or.inl (Nat.ne_of_gt lt_b46_b133)))).other W180 (Or.inl (Nat.ne_of_gt lt_b79_b133)))).other W536 (Or.inl (Nat.ne_of_gt lt_b104_b133)))).other W540 (Or.inl (Nat.ne_of_lt lt_b133_b149)))).other W544 (Or.inl (Nat.ne_of_lt lt_b133_b149)))).other W548 (Or.inr (slot_ne (Or.inl (hw _ (List.mem_of_getElem? (i := 35) rfl))) (Or.inl (hw _ (List.mem_of_getElem? (i := 38) rfl))) (by decide) (t := (.object "com/example/dwellgate/dwellgate/book/PriceTree$Node")) (t' := (.object "com/example/dwellgate/dwellgate/book/PriceTree$Node")) (by decide) (by decide))))).ext E678)).other W690 (Or.inl (Nat.ne_of_lt lt_b133_b678)))).other W695 (Or.inl (Nat.ne_of_lt lt_b133_b678)))).other W700 (Or.inl (Nat.ne_of_lt lt_b133_b678)))).other W705 (Or.inl (Nat.ne_of_lt lt_b133_b678)))).other W710 (Or.inl (Nat.ne_of_lt lt_b133_b678)))
                        obtain ⟨r783, T783, L783, X783, hQ783, st783⟩ := own_callV (W := 0) (a := b35) (C := "com/example/dwellgate/dwellgate/book/PriceTree") X710 hx hZ e710 hown (y := (⟨"com/example/dwellgate/dwellgate/book/PriceTree", "next", "(Lcom/example/dwellgate/dwellgate/book/PriceTree$Node;)Lcom/example/dwellgate/dwellgate/book/PriceTree$Node;"⟩ : MethodName)) (z := (⟨"com/example/dwellgate/dwellgate/book/PriceTree", "next", "(Lcom/example/dwellgate/dwellgate/book/PriceTree$Node;)Lcom/example/dwellgate/dwellgate/book/PriceTree$Node;"⟩ : MethodName)) (hw _ (List.mem_of_getElem? (i := 45) rfl)) (hw _ (List.mem_of_getElem? (i := 46) rfl)) (notFace_of_selects (args := #[]) (mvT hZ (hw _ (List.mem_of_getElem? (i := 48) rfl)))) (hw _ (List.mem_of_getElem? (i := 48) rfl)) (hw _ (List.mem_of_getElem? (i := 47) rfl)) (hw _ (List.mem_of_getElem? (i := 5) rfl)) (hw _ (List.mem_of_getElem? (i := 49) rfl)) (by decide) (f776) (rm7 l Z a0 hw [] b35 b104 b149 b133 h710 n0 Z712 (f780) (f781) (f782)) (by decide) (by decide) (by decide) (by decide) (g := (mkF m 418 A772 [(.ref b104), (.ref b35)])) rfl (by rw [hml]; rfl) (argsL := [(.ref b104)]) (rest := []) rfl (lenOf pd_2 rfl) rfl (by show 2 * 0 + _ ≤ _; exact Nat.le_of_eq rfl) (hb hby at_418)
                        obtain ⟨rfl, N783, e783⟩ := hQ783
                        have N783_ := Fr.app N710 N783
                        refine Go.st (S' := T783.setTop (mkF m 421 A772 [(.ref b133)])) st783 ?_
                        refine Go.st (S' := T783.setTop (mkF m 423 A772 [(.ref b133), (.ref b133)])) (fun t k => XS.aload X783.here hx rfl (hb hby at_421) rfl rfl k) ?_
                        refine Go.st (S' := T783.setTop (mkF m 426 A772 [])) (fun t k => acmp X783 hx rfl rfl rfl (pc0 := 423) (pc' := 426) (same := true) rfl (hb hby at_423) rfl (by simp) (by decide) (by decide) k) ?_
                        refine Go.st (S' := T783.setTop (mkF m 427 A772 [(.int (1 : Int32))])) (fun t k => XS.iconst X783.here hx rfl (hb hby at_426) k) ?_
                        refine Go.st (S' := T783.setTop (mkF m 431 A772 [(.int (1 : Int32))])) (fun t k => XS.goto X783.here hx rfl (pc0 := 427) (pc' := 431) rfl (hb hby at_427) (by decide) (by decide) k) ?_
                        exact Go.ret X783 (v := some (.int (1 : Int32))) (fun h => by rw [Bd.returns] at h; cases h) Bd.notSynchronized (fun fs hr => retN X783 hx (t := .boolean) Bd.returns (by simp) (hb hby at_431) hr) (by decide) (by decide) ⟨rfl, N783_⟩
                      · have hj784 : v718 = (4 : Int32) := by
                          refine Decidable.byContradiction fun hc785 => ?_
                          have rv715 := rng32 v715
                          have wv715 := c_mask p0 (2147483647 : Int32) 31 (by decide) (by decide)
                          rw [← hv715] at wv715
                          have rv716 := rng32 v716
                          have wv716 := c_irem v715 (5 : Int32) 5 (by decide)
                          rw [← hv716] at wv716
                          have rv718 := rng32 v718
                          have wv718 := c_iadd v716 (1 : Int32)
                          rw [← hv718] at wv718
                          have rp0 := rng32 p0
                          have lI1 : (1 : Int32).toInt = 1 := by decide
                          have lI2 : (2 : Int32).toInt = 2 := by decide
                          have lI3 : (3 : Int32).toInt = 3 := by decide
                          have lI4 : (4 : Int32).toInt = 4 := by decide
                          have lI5 : (5 : Int32).toInt = 5 := by decide
                          have lI2147483647 : (2147483647 : Int32).toInt = 2147483647 := by decide
                          simp only [Int32.lt_iff_toInt_lt, Int64.lt_iff_toInt_lt, ← Int32.toInt_inj, ← Int64.toInt_inj] at hc743 hj746 hj756 hj770 hc785
                          omega
                        obtain ⟨cl786, Ar786, -, S786, N786_, H786, -⟩ := id V710
                        have hin786 : ¬ (v718 < 0 ∨ cl786.slots.size ≤ (v718).toNatClampNeg) := by rw [hj784]; exact inb_of S786 ⟨by decide, by decide⟩
                        have hat786 : cl786.slots[(v718).toNatClampNeg]? = some (.ref b149) := Has.at H786 hin786 (by rw [hj784]; rfl)
                        refine Go.st (S' := T710.setTop (mkF m 405 A717 [(.ref b149)])) (fun t k => X710.aaload hx (j := v718) (v := (.ref b149)) (own_eh e710 Ar786.1) (State.isArrayOf_alike hZ.alike Ar786.2.1) rfl Ar786.2.2 hin786 hat786 (g := (mkF m 404 A717 [(.int v718), (.ref b678)])) rfl rfl (hb hby at_404) t k) ?_
                        refine Go.st (S' := T710.setTop (mkF m 409 A717 [(.ref b149)])) (fun t k => XS.goto X710.here hx rfl (pc0 := 405) (pc' := 409) rfl (hb hby at_405) (by decide) (by decide) k) ?_
                        let A787 : Array Slot := #[.val (.int p0), .val (.int p1), .val (.int r5), .val (.int r11), .val (.int r17), .val (.ref r26), .val (.long r32), .second, .val (.ref b35), .val (.ref b46), .val (.ref b79), .val (.ref b91), .val (.ref b104), .val (.ref b118), .val (.ref b133), .val (.ref b149), .val (.ref b678), .val (.int (5 : Int32)), .val (.int v716), .val (.ref b149)]
                        refine Go.st (S' := T710.setTop (mkF m 411 A787 [])) (fun t k => XS.astore X710.here hx rfl (hb hby at_409) rfl rfl (l' := A787) rfl k) ?_
                        refine Go.st (S' := T710.setTop (mkF m 413 A787 [(.ref b35)])) (fun t k => XS.aload X710.here hx rfl (hb hby at_411) rfl rfl k) ?_
                        refine Go.st (S' := T710.setTop (mkF m 415 A787 [(.ref b678), (.ref b35)])) (fun t k => XS.aload X710.here hx rfl (hb hby at_413) rfl rfl k) ?_
                        refine Go.st (S' := T710.setTop (mkF m 417 A787 [(.int v716), (.ref b678), (.ref b35)])) (fun t k => XS.iload X710.here hx rfl (hb hby at_415) rfl k) ?_
                        have hj789 : v716 = (3 : Int32) := by
                          refine Decidable.byContradiction fun hc790 => ?_
                          have rv715 := rng32 v715
                          have wv715 := c_mask p0 (2147483647 : Int32) 31 (by decide) (by decide)
                          rw [← hv715] at wv715
                          have rv716 := rng32 v716
                          have wv716 := c_irem v715 (5 : Int32) 5 (by decide)
                          rw [← hv716] at wv716
                          have rv718 := rng32 v718
                          have wv718 := c_iadd v716 (1 : Int32)
                          rw [← hv718] at wv718
                          have rp0 := rng32 p0
                          have lI1 : (1 : Int32).toInt = 1 := by decide
                          have lI2 : (2 : Int32).toInt = 2 := by decide
                          have lI3 : (3 : Int32).toInt = 3 := by decide
                          have lI4 : (4 : Int32).toInt = 4 := by decide
                          have lI5 : (5 : Int32).toInt = 5 := by decide
                          have lI2147483647 : (2147483647 : Int32).toInt = 2147483647 := by decide
                          simp only [Int32.lt_iff_toInt_lt, Int64.lt_iff_toInt_lt, ← Int32.toInt_inj, ← Int64.toInt_inj] at hc743 hj746 hj756 hj770 hj784 hc790
                          omega
                        obtain ⟨cl788, Ar788, -, S788, N788_, H788, -⟩ := id V710
                        have hin788 : ¬ (v716 < 0 ∨ cl788.slots.size ≤ (v716).toNatClampNeg) := by rw [hj789]; exact inb_of S788 ⟨by decide, by decide⟩
                        have hat788 : cl788.slots[(v716).toNatClampNeg]? = some (.ref b133) := Has.at H788 hin788 (by rw [hj789]; rfl)
                        refine Go.st (S' := T710.setTop (mkF m 418 A787 [(.ref b133), (.ref b35)])) (fun t k => X710.aaload hx (j := v716) (v := (.ref b133)) (own_eh e710 Ar788.1) (State.isArrayOf_alike hZ.alike Ar788.2.1) rfl Ar788.2.2 hin788 hat788 (g := (mkF m 417 A787 [(.int v716), (.ref b678), (.ref b35)])) rfl rfl (hb hby at_417) t k) ?_
                        have f791 := ((((((((((((f679).ext E678)).wr W690)).wr W695)).wr W700)).wr W705)).wr W710)
                        have f797 := ((((((((((((((((((((((((((((((((f146).ext E149)).keep K158_ (ninS (Nat.ne_of_lt lt_b133_b149) nin0))).other W168 (Or.inl (Nat.ne_of_gt lt_b104_b133)))).other W172 (Or.inl (Nat.ne_of_gt lt_b46_b133)))).other W176 (Or.inl (Nat.ne_of_gt lt_b46_b133)))).other W180 (Or.inl (Nat.ne_of_gt lt_b79_b133)))).other W536 (Or.inl (Nat.ne_of_gt lt_b104_b133)))).other W540 (Or.inl (Nat.ne_of_lt lt_b133_b149)))).other W544 (Or.inl (Nat.ne_of_lt lt_b133_b149)))).other W548 (Or.inr (slot_ne (Or.inl (hw _ (List.mem_of_getElem? (i := 41) rfl))) (Or.inl (hw _ (List.mem_of_getElem? (i := 38) rfl))) (by decide) (t := (.object "com/example/dwellgate/dwellgate/book/PriceTree$Node")) (t' := (.object "com/example/dwellgate/dwellgate/book/PriceTree$Node")) (by decide) (by decide))))).ext E678)).other W690 (Or.inl (Nat.ne_of_lt lt_b133_b678)))).other W695 (Or.inl (Nat.ne_of_lt lt_b133_b678)))).other W700 (Or.inl (Nat.ne_of_lt lt_b133_b678)))).other W705 (Or.inl (Nat.ne_of_lt lt_b133_b678)))).other W710 (Or.inl (Nat.ne_of_lt lt_b133_b678)))
                        have f798 := ((((((((((((Fw548).ext E678)).other W690 (Or.inl (Nat.ne_of_lt lt_b133_b678)))).other W695 (Or.inl (Nat.ne_of_lt lt_b133_b678)))).other W700 (Or.inl (Nat.ne_of_lt lt_b133_b678)))).other W705 (Or.inl (Nat.ne_of_lt lt_b133_b678)))).other W710 (Or.inl (Nat.ne_of_lt lt_b133_b678)))
                        have f799 := ((((((((((((((((((((((((((((f163).other W168 (Or.inl (Nat.ne_of_gt lt_b104_b149)))).other W172 (Or.inl (Nat.ne_of_gt lt_b46_b149)))).other W176 (Or.inl (Nat.ne_of_gt lt_b46_b149)))).other W180 (Or.inl (Nat.ne_of_gt lt_b79_b149)))).other W536 (Or.inl (Nat.ne_of_gt lt_b104_b149)))).other W540 (Or.inr (slot_ne (Or.inl (hw _ (List.mem_of_getElem? (i := 41) rfl))) (Or.inl (hw _ (List.mem_of_getElem? (i := 38) rfl))) (by decide) (t := (.object "com/example/dwellgate/dwellgate/book/PriceTree$Node")) (t' := (.object "com/example/dwellgate/dwellgate/book/PriceTree$Node")) (by decide) (by decide))))).other W544 (Or.inr (slot_ne (Or.inl (hw _ (List.mem_of_getElem? (i := 41) rfl))) (Or.inl (hw _ (List.mem_of_getElem? (i := 35) rfl))) (by decide) (t := (.object "com/example/dwellgate/dwellgate/book/PriceTree$Node")) (t' := (.object "com/example/dwellgate/dwellgate/book/PriceTree$Node")) (by decide) (by decide))))).other W548 (Or.inl (Nat.ne_of_gt lt_b133_b149)))).ext E678)).other W690 (Or.inl (Nat.ne_of_lt lt_b149_b678)))).other W695 (Or.inl (Nat.ne_of_lt lt_b149_b678)))).other W700 (Or.inl (Nat.ne_of_lt lt_b149_b678)))).other W705 (Or.inl (Nat.ne_of_lt lt_b149_b678)))).other W710 (Or.inl (Nat.ne_of_lt lt_b149_b678)))
                        obtain ⟨r800, T800, L800, X800, hQ800, st800⟩ := own_callV (W := 0) (a := b35) (C := "com/example/dwellgate/dwellgate/book/PriceTree") X710 hx hZ e710 hown (y := (⟨"com/example/dwellgate/dwellgate/book/PriceTree", "next", "(Lcom/example/dwellgate/dwellgate/book/PriceTree$Node;)Lcom/example/dwellgate/dwellgate/book/PriceTree$Node;"⟩ : MethodName)) (z := (⟨"com/example/dwellgate/dwellgate/book/PriceTree", "next", "(Lcom/example/dwellgate/dwellgate/book/PriceTree$Node;)Lcom/example/dwellgate/dwellgate/book/PriceTree$Node;"⟩ : MethodName)) (hw _ (List.mem_of_getElem? (i := 45) rfl)) (hw _ (List.mem_of_getElem? (i := 46) rfl)) (notFace_of_selects (args := #[]) (mvT hZ (hw _ (List.mem_of_getElem? (i := 48) rfl)))) (hw _ (List.mem_of_getElem? (i := 48) rfl)) (hw _ (List.mem_of_getElem? (i := 47) rfl)) (hw _ (List.mem_of_getElem? (i := 5) rfl)) (hw _ (List.mem_of_getElem? (i := 49) rfl)) (by decide) (f791) (rm8 l Z a0 hw [] b35 b133 b149 h710 n0 Z712 (f797) (f798) (f799)) (by decide) (by decide) (by decide) (by decide) (g := (mkF m 418 A787 [(.ref b133), (.ref b35)])) rfl (by rw [hml]; rfl) (argsL := [(.ref b133)]) (rest := []) rfl (lenOf pd_2 rfl) rfl (by show 2 * 0 + _ ≤ _; exact Nat.le_of_eq rfl) (hb hby at_418)
                        obtain ⟨rfl, N800, e800⟩ := hQ800
                        have N800_ := Fr.app N710 N800
                        refine Go.st (S' := T800.setTop (mkF m 421 A787 [(.ref b149)])) st800 ?_
                        refine Go.st (S' := T800.setTop (mkF m 423 A787 [(.ref b149), (.ref b149)])) (fun t k => XS.aload X800.here hx rfl (hb hby at_421) rfl rfl k) ?_
                        refine Go.st (S' := T800.setTop (mkF m 426 A787 [])) (fun t k => acmp X800 hx rfl rfl rfl (pc0 := 423) (pc' := 426) (same := true) rfl (hb hby at_423) rfl (by simp) (by decide) (by decide) k) ?_
                        refine Go.st (S' := T800.setTop (mkF m 427 A787 [(.int (1 : Int32))])) (fun t k => XS.iconst X800.here hx rfl (hb hby at_426) k) ?_
                        refine Go.st (S' := T800.setTop (mkF m 431 A787 [(.int (1 : Int32))])) (fun t k => XS.goto X800.here hx rfl (pc0 := 427) (pc' := 431) rfl (hb hby at_427) (by decide) (by decide) k) ?_
                        exact Go.ret X800 (v := some (.int (1 : Int32))) (fun h => by rw [Bd.returns] at h; cases h) Bd.notSynchronized (fun fs hr => retN X800 hx (t := .boolean) Bd.returns (by simp) (hb hby at_431) hr) (by decide) (by decide) ⟨rfl, N800_⟩
                · refine Go.st (S' := T710.setTop (mkF m 408 A717 [])) (fun t k => XS.icmpYes X710.here hx rfl (pc0 := 395) (pc' := 408) rfl (hb hby at_395) rfl (flt hc743).2.1 (by decide) (by decide) k) ?_
                  refine Go.st (S' := T710.setTop (mkF m 409 A717 [.null])) (fun t k => XS.aconstNull X710.here hx rfl (hb hby at_408) k) ?_
                  let A801 : Array Slot := #[.val (.int p0), .val (.int p1), .val (.int r5), .val (.int r11), .val (.int r17), .val (.ref r26), .val (.long r32), .second, .val (.ref b35), .val (.ref b46), .val (.ref b79), .val (.ref b91), .val (.ref b104), .val (.ref b118), .val (.ref b133), .val (.ref b149), .val (.ref b678), .val (.int (5 : Int32)), .val (.int v716), .val .null]
                  refine Go.st (S' := T710.setTop (mkF m 411 A801 [])) (fun t k => XS.astore X710.here hx rfl (hb hby at_409) rfl rfl (l' := A801) rfl k) ?_
                  refine Go.st (S' := T710.setTop (mkF m 413 A801 [(.ref b35)])) (fun t k => XS.aload X710.here hx rfl (hb hby at_411) rfl rfl k) ?_
                  refine Go.st (S' := T710.setTop (mkF m 415 A801 [(.ref b678), (.ref b35)])) (fun t k => XS.aload X710.here hx rfl (hb hby at_413) rfl rfl k) ?_
                  refine Go.st (S' := T710.setTop (mkF m 417 A801 [(.int v716), (.ref b678), (.ref b35)])) (fun t k => XS.iload X710.here hx rfl (hb hby at_415) rfl k) ?_
                  have hj803 : v716 = (4 : Int32) := by
                    refine Decidable.byContradiction fun hc804 => ?_
                    have rv715 := rng32 v715
                    have wv715 := c_mask p0 (2147483647 : Int32) 31 (by decide) (by decide)
                    rw [← hv715] at wv715
                    have rv716 := rng32 v716
                    have wv716 := c_irem v715 (5 : Int32) 5 (by decide)
                    rw [← hv716] at wv716
                    have rv718 := rng32 v718
                    have wv718 := c_iadd v716 (1 : Int32)
                    rw [← hv718] at wv718
                    have rp0 := rng32 p0
                    have lI1 : (1 : Int32).toInt = 1 := by decide
                    have lI4 : (4 : Int32).toInt = 4 := by decide
                    have lI5 : (5 : Int32).toInt = 5 := by decide
                    have lI2147483647 : (2147483647 : Int32).toInt = 2147483647 := by decide
                    simp only [Int32.lt_iff_toInt_lt, Int64.lt_iff_toInt_lt, ← Int32.toInt_inj, ← Int64.toInt_inj] at hc743 hc804
                    omega
                  obtain ⟨cl802, Ar802, -, S802, N802_, H802, -⟩ := id V710
                  have hin802 : ¬ (v716 < 0 ∨ cl802.slots.size ≤ (v716).toNatClampNeg) := by rw [hj803]; exact inb_of S802 ⟨by decide, by decide⟩
                  have hat802 : cl802.slots[(v716).toNatClampNeg]? = some (.ref b149) := Has.at H802 hin802 (by rw [hj803]; rfl)
                  refine Go.st (S' := T710.setTop (mkF m 418 A801 [(.ref b149), (.ref b35)])) (fun t k => X710.aaload hx (j := v716) (v := (.ref b149)) (own_eh e710 Ar802.1) (State.isArrayOf_alike hZ.alike Ar802.2.1) rfl Ar802.2.2 hin802 hat802 (g := (mkF m 417 A801 [(.int v716), (.ref b678), (.ref b35)])) rfl rfl (hb hby at_417) t k) ?_
                  have f805 := ((((((((((((f679).ext E678)).wr W690)).wr W695)).wr W700)).wr W705)).wr W710)
                  have f815 := ((((((((((((((((((((((((((((f163).other W168 (Or.inl (Nat.ne_of_gt lt_b104_b149)))).other W172 (Or.inl (Nat.ne_of_gt lt_b46_b149)))).other W176 (Or.inl (Nat.ne_of_gt lt_b46_b149)))).other W180 (Or.inl (Nat.ne_of_gt lt_b79_b149)))).other W536 (Or.inl (Nat.ne_of_gt lt_b104_b149)))).other W540 (Or.inr (slot_ne (Or.inl (hw _ (List.mem_of_getElem? (i := 41) rfl))) (Or.inl (hw _ (List.mem_of_getElem? (i := 38) rfl))) (by decide) (t := (.object "com/example/dwellgate/dwellgate/book/PriceTree$Node")) (t' := (.object "com/example/dwellgate/dwellgate/book/PriceTree$Node")) (by decide) (by decide))))).other W544 (Or.inr (slot_ne (Or.inl (hw _ (List.mem_of_getElem? (i := 41) rfl))) (Or.inl (hw _ (List.mem_of_getElem? (i := 35) rfl))) (by decide) (t := (.object "com/example/dwellgate/dwellgate/book/PriceTree$Node")) (t' := (.object "com/example/dwellgate/dwellgate/book/PriceTree$Node")) (by decide) (by decide))))).other W548 (Or.inl (Nat.ne_of_gt lt_b133_b149)))).ext E678)).other W690 (Or.inl (Nat.ne_of_lt lt_b149_b678)))).other W695 (Or.inl (Nat.ne_of_lt lt_b149_b678)))).other W700 (Or.inl (Nat.ne_of_lt lt_b149_b678)))).other W705 (Or.inl (Nat.ne_of_lt lt_b149_b678)))).other W710 (Or.inl (Nat.ne_of_lt lt_b149_b678)))
                  have f816 := ((((((((((((((((Fw540).other W544 (Or.inr (slot_ne (Or.inl (hw _ (List.mem_of_getElem? (i := 38) rfl))) (Or.inl (hw _ (List.mem_of_getElem? (i := 35) rfl))) (by decide) (t := (.object "com/example/dwellgate/dwellgate/book/PriceTree$Node")) (t' := (.object "com/example/dwellgate/dwellgate/book/PriceTree$Node")) (by decide) (by decide))))).other W548 (Or.inl (Nat.ne_of_gt lt_b133_b149)))).ext E678)).other W690 (Or.inl (Nat.ne_of_lt lt_b149_b678)))).other W695 (Or.inl (Nat.ne_of_lt lt_b149_b678)))).other W700 (Or.inl (Nat.ne_of_lt lt_b149_b678)))).other W705 (Or.inl (Nat.ne_of_lt lt_b149_b678)))).other W710 (Or.inl (Nat.ne_of_lt lt_b149_b678)))
                  have f817 := ((((((((((((((((((Fw536).other W540 (Or.inl (Nat.ne_of_lt lt_b104_b149)))).other W544 (Or.inl (Nat.ne_of_lt lt_b104_b149)))).other W548 (Or.inl (Nat.ne_of_lt lt_b104_b133)))).ext E678)).other W690 (Or.inl (Nat.ne_of_lt lt_b104_b678)))).other W695 (Or.inl (Nat.ne_of_lt lt_b104_b678)))).other W700 (Or.inl (Nat.ne_of_lt lt_b104_b678)))).other W705 (Or.inl (Nat.ne_of_lt lt_b104_b678)))).other W710 (Or.inl (Nat.ne_of_lt lt_b104_b678)))
                  have f818 := ((((((((((((((((((((((((((((((((((((((((f114).ext E118)).keep K125_ (ninS (Nat.ne_of_lt lt_b104_b118) nin0))).ext E133)).keep K141_ (ninS (Nat.ne_of_lt lt_b104_b133) nin0))).ext E149)).keep K158_ (ninS (Nat.ne_of_lt lt_b104_b149) nin0))).other W168 (Or.inr (slot_ne (Or.inl (hw _ (List.mem_of_getElem? (i := 38) rfl))) (Or.inl (hw _ (List.mem_of_getElem? (i := 35) rfl))) (by decide) (t := (.object "com/example/dwellgate/dwellgate/book/PriceTree$Node")) (t' := (.object "com/example/dwellgate/dwellgate/book/PriceTree$Node")) (by decide) (by decide))))).other W172 (Or.inl (Nat.ne_of_gt lt_b46_b104)))).other W176 (Or.inl (Nat.ne_of_gt lt_b46_b104)))).other W180 (Or.inl (Nat.ne_of_gt lt_b79_b104)))).other W536 (Or.inr (slot_ne (Or.inl (hw _ (List.mem_of_getElem? (i := 38) rfl))) (Or.inl (hw _ (List.mem_of_getElem? (i := 41) rfl))) (by decide) (t := (.object "com/example/dwellgate/dwellgate/book/PriceTree$Node")) (t' := (.object "com/example/dwellgate/dwellgate/book/PriceTree$Node")) (by decide) (by decide))))).other W540 (Or.inl (Nat.ne_of_lt lt_b104_b149)))).other W544 (Or.inl (Nat.ne_of_lt lt_b104_b149)))).other W548 (Or.inl (Nat.ne_of_lt lt_b104_b133)))).ext E678)).other W690 (Or.inl (Nat.ne_of_lt lt_b104_b678)))).other W695 (Or.inl (Nat.ne_of_lt lt_b104_b678)))).other W700 (Or.inl (Nat.ne_of_lt lt_b104_b678)))).other W705 (Or.inl (Nat.ne_of_lt lt_b104_b678)))).other W710 (Or.inl (Nat.ne_of_lt lt_b104_b678)))
                  obtain ⟨r819, T819, L819, X819, hQ819, st819⟩ := own_callV (W := 0) (a := b35) (C := "com/example/dwellgate/dwellgate/book/PriceTree") X710 hx hZ e710 hown (y := (⟨"com/example/dwellgate/dwellgate/book/PriceTree", "next", "(Lcom/example/dwellgate/dwellgate/book/PriceTree$Node;)Lcom/example/dwellgate/dwellgate/book/PriceTree$Node;"⟩ : MethodName)) (z := (⟨"com/example/dwellgate/dwellgate/book/PriceTree", "next", "(Lcom/example/dwellgate/dwellgate/book/PriceTree$Node;)Lcom/example/dwellgate/dwellgate/book/PriceTree$Node;"⟩ : MethodName)) (hw _ (List.mem_of_getElem? (i := 45) rfl)) (hw _ (List.mem_of_getElem? (i := 46) rfl)) (notFace_of_selects (args := #[]) (mvT hZ (hw _ (List.mem_of_getElem? (i := 48) rfl)))) (hw _ (List.mem_of_getElem? (i := 48) rfl)) (hw _ (List.mem_of_getElem? (i := 47) rfl)) (hw _ (List.mem_of_getElem? (i := 5) rfl)) (hw _ (List.mem_of_getElem? (i := 49) rfl)) (by decide) (f805) (rm9 l Z a0 hw [] b35 b149 b104 h710 n0 Z712 (f815) (f816) (f817) (f818)) (by decide) (by decide) (by decide) (by decide) (g := (mkF m 418 A801 [(.ref b149), (.ref b35)])) rfl (by rw [hml]; rfl) (argsL := [(.ref b149)]) (rest := []) rfl (lenOf pd_2 rfl) rfl (by show 2 * 0 + _ ≤ _; exact Nat.le_of_eq rfl) (hb hby at_418)
                  obtain ⟨rfl, N819, e819⟩ := hQ819
                  have N819_ := Fr.app N710 N819
                  refine Go.st (S' := T819.setTop (mkF m 421 A801 [.null])) st819 ?_
                  refine Go.st (S' := T819.setTop (mkF m 423 A801 [.null, .null])) (fun t k => XS.aload X819.here hx rfl (hb hby at_421) rfl rfl k) ?_
                  refine Go.st (S' := T819.setTop (mkF m 426 A801 [])) (fun t k => acmp X819 hx rfl rfl rfl (pc0 := 423) (pc' := 426) (same := true) rfl (hb hby at_423) rfl (by simp) (by decide) (by decide) k) ?_
                  refine Go.st (S' := T819.setTop (mkF m 427 A801 [(.int (1 : Int32))])) (fun t k => XS.iconst X819.here hx rfl (hb hby at_426) k) ?_
                  refine Go.st (S' := T819.setTop (mkF m 431 A801 [(.int (1 : Int32))])) (fun t k => XS.goto X819.here hx rfl (pc0 := 427) (pc' := 431) rfl (hb hby at_427) (by decide) (by decide) k) ?_
                  exact Go.ret X819 (v := some (.int (1 : Int32))) (fun h => by rw [Bd.returns] at h; cases h) Bd.notSynchronized (fun fs hr => retN X819 hx (t := .boolean) Bd.returns (by simp) (hb hby at_431) hr) (by decide) (by decide) ⟨rfl, N819_⟩
              · refine Go.st (S' := T548.setTop (mkF m 257 A165 [])) (fun t k => XS.ifNo X548.here hx rfl (hb hby at_254) rfl ((if0 _ _).trans (feq hc677).1) k) ?_
                refine Go.st (S' := T548.setTop (mkF m 259 A165 [(.ref b133)])) (fun t k => XS.aload X548.here hx rfl (hb hby at_257) rfl rfl k) ?_
                refine Go.st (S' := T548.setTop (mkF m 261 A165 [(.ref b118), (.ref b133)])) (fun t k => XS.aload X548.here hx rfl (hb hby at_259) rfl rfl k) ?_
                have f820 := ((f546).wr W548)
                have f821 := ((((((((((((((((((((f144).ext E149)).keep K158_ (ninS (Nat.ne_of_lt lt_b133_b149) nin0))).other W168 (Or.inl (Nat.ne_of_gt lt_b104_b133)))).other W172 (Or.inl (Nat.ne_of_gt lt_b46_b133)))).other W176 (Or.inl (Nat.ne_of_gt lt_b46_b133)))).other W180 (Or.inl (Nat.ne_of_gt lt_b79_b133)))).other W536 (Or.inl (Nat.ne_of_gt lt_b104_b133)))).other W540 (Or.inl (Nat.ne_of_lt lt_b133_b149)))).other W544 (Or.inl (Nat.ne_of_lt lt_b133_b149)))).other W548 (Or.inr (slot_ne (Or.inl (hw _ (List.mem_of_getElem? (i := 35) rfl))) (Or.inl (hw _ (List.mem_of_getElem? (i := 38) rfl))) (by decide) (t := (.object "com/example/dwellgate/dwellgate/book/PriceTree$Node")) (t' := (.object "com/example/dwellgate/dwellgate/book/PriceTree$Node")) (by decide) (by decide))))
                obtain ⟨T822, h822, X822, e822, W822, st822⟩ := putF X548 hx hZ hown (host := "") (Or.inl (hw _ (List.mem_of_getElem? (i := 33) rfl))) (Via.of (hw _ (List.mem_of_getElem? (i := 34) rfl))) e548 f821 f820 (Or.inl (hw _ (List.mem_of_getElem? (i := 35) rfl))) (hw _ (List.mem_of_getElem? (i := 15) rfl)) (ty := (.object "com/example/dwellgate/dwellgate/book/PriceTree$Node")) (by decide) rfl rfl (g := (mkF m 261 A165 [(.ref b118), (.ref b133)])) rfl rfl (hb hby at_261)
                have Fw822 := (f821).same W822
                have N822 := Fr.snoc X822 N548 g_b133
                have Z823 : n0 ≤ h822.size := Nat.le_trans Z549 (Keep.of_wr W822).1
                have K823 : Keep h0 h822 [] := K549.wr W822 (Or.inr sz_b133)
                refine Go.st (S' := T822.setTop (mkF m 264 A165 [])) st822 ?_
                refine Go.st (S' := T822.setTop (mkF m 266 A165 [(.ref b118)])) (fun t k => XS.aload X822.here hx rfl (hb hby at_264) rfl rfl k) ?_
                refine Go.st (S' := T822.setTop (mkF m 268 A165 [(.ref b133), (.ref b118)])) (fun t k => XS.aload X822.here hx rfl (hb hby at_266) rfl rfl k) ?_
                have f824 := ((((((((((((((((((((((f155).ext E149)).keep K158_)).wr W168)).wr W172)).wr W176)).wr W180)).wr W536)).wr W540)).wr W544)).wr W548)).wr W822)
                have f825 := ((((((((((((((((((((((((((f129).ext E133)).keep K141_ (ninS (Nat.ne_of_lt lt_b118_b133) nin0))).ext E149)).keep K158_ (ninS (Nat.ne_of_lt lt_b118_b149) nin0))).other W168 (Or.inl (Nat.ne_of_gt lt_b104_b118)))).other W172 (Or.inl (Nat.ne_of_gt lt_b46_b118)))).other W176 (Or.inl (Nat.ne_of_gt lt_b46_b118)))).other W180 (Or.inl (Nat.ne_of_gt lt_b79_b118)))).other W536 (Or.inl (Nat.ne_of_gt lt_b104_b118)))).other W540 (Or.inl (Nat.ne_of_lt lt_b118_b149)))).other W544 (Or.inl (Nat.ne_of_lt lt_b118_b149)))).other W548 (Or.inl (Nat.ne_of_lt lt_b118_b133)))).other W822 (Or.inl (Nat.ne_of_lt lt_b118_b133)))
                obtain ⟨T826, h826, X826, e826, W826, st826⟩ := putF X822 hx hZ hown (host := "") (Or.inl (hw _ (List.mem_of_getElem? (i := 36) rfl))) (Via.of (hw _ (List.mem_of_getElem? (i := 37) rfl))) e822 f825 f824 (Or.inl (hw _ (List.mem_of_getElem? (i := 38) rfl))) (hw _ (List.mem_of_getElem? (i := 15) rfl)) (ty := (.object "com/example/dwellgate/dwellgate/book/PriceTree$Node")) (by decide) rfl rfl (g := (mkF m 268 A165 [(.ref b133), (.ref b118)])) rfl rfl (hb hby at_268)
                have Fw826 := (f825).same W826
                have N826 := Fr.snoc X826 N822 g_b118
                have Z827 : n0 ≤ h826.size := Nat.le_trans Z823 (Keep.of_wr W826).1
                have K827 : Keep h0 h826 [] := K823.wr W826 (Or.inr sz_b118)
                refine Go.st (S' := T826.setTop (mkF m 271 A165 [])) st826 ?_
                refine Go.st (S' := T826.setTop (mkF m 273 A165 [(.int (7 : Int32))])) (fun t k => XS.bipush X826.here hx rfl (hb hby at_271) k) ?_
                obtain ⟨T828, h828, k828, X828, e828, E828, A828, B828, O828, st828⟩ := newRE X826 hx hZ hown (hw _ (List.mem_of_getElem? (i := 14) rfl)) (hw _ (List.mem_of_getElem? (i := 42) rfl)) e826 (g := (mkF m 273 A165 [(.int (7 : Int32))])) rfl (hb hby at_273) rfl (by decide) (cap := 7) (by decide) (by decide) (by decide) (by decide) (ad := "[Lcom/example/dwellgate/dwellgate/book/PriceTreeNextPinLaw;") (by decide)
                obtain ⟨b828, gg828⟩ : ∃ z, z = h826.size := ⟨_, rfl⟩
                rw [← gg828] at A828 B828 st828
                have g_b828 : n0 ≤ b828 := Nat.le_trans Z827 (Nat.le_of_eq gg828.symm)
                have sz_b828 : h0.size ≤ b828 := Nat.le_trans K827.1 (Nat.le_of_eq gg828.symm)
                have f829 := ((((((((((((((((((((((((f150).ext E149)).keep K158_)).wr W168)).wr W172)).wr W176)).wr W180)).wr W536)).wr W540)).wr W544)).wr W548)).wr W822)).wr W826)
                have lt_b35_b828 : b35 < b828 := Nat.lt_of_lt_of_le (f829).lt (Nat.le_of_eq gg828.symm)
                have f830 := ((((((((((((((((f174).wr W176)).wr W180)).wr W536)).wr W540)).wr W544)).wr W548)).wr W822)).wr W826)
                have lt_b46_b828 : b46 < b828 := Nat.lt_of_lt_of_le (f830).lt (Nat.le_of_eq gg828.symm)
                have f831 := ((((((((((((((f178).wr W180)).wr W536)).wr W540)).wr W544)).wr W548)).wr W822)).wr W826)
                have lt_b79_b828 : b79 < b828 := Nat.lt_of_lt_of_le (f831).lt (Nat.le_of_eq gg828.symm)
                have f832 := ((((((((((((((((((((((((f153).ext E149)).keep K158_)).wr W168)).wr W172)).wr W176)).wr W180)).wr W536)).wr W540)).wr W544)).wr W548)).wr W822)).wr W826)
                have lt_b91_b828 : b91 < b828 := Nat.lt_of_lt_of_le (f832).lt (Nat.le_of_eq gg828.symm)
                have f833 := ((((((((((((f534).wr W536)).wr W540)).wr W544)).wr W548)).wr W822)).wr W826)
                have lt_b104_b828 : b104 < b828 := Nat.lt_of_lt_of_le (f833).lt (Nat.le_of_eq gg828.symm)
                have f834 := ((f824).wr W826)
                have lt_b118_b828 : b118 < b828 := Nat.lt_of_lt_of_le (f834).lt (Nat.le_of_eq gg828.symm)
                have f835 := ((((f820).wr W822)).wr W826)
                have lt_b133_b828 : b133 < b828 := Nat.lt_of_lt_of_le (f835).lt (Nat.le_of_eq gg828.symm)
                have f836 := ((((((((f542).wr W544)).wr W548)).wr W822)).wr W826)
                have lt_b149_b828 : b149 < b828 := Nat.lt_of_lt_of_le (f836).lt (Nat.le_of_eq gg828.symm)
                have Z837 : n0 ≤ h828.size := Nat.le_trans Z827 E828.1
                have K837 : Keep h0 h828 [] := K827.ext E828
                have V828 : Arv Z h828 b828 k828 (.object "com/example/dwellgate/dwellgate/book/PriceTreeNextPinLaw") (7 : Int32) [.null, .null, .null, .null, .null, .null, .null] .null := (Arv.new A828 (by decide)).pad (pad_rep [] .null 7)
                refine Go.st (S' := T828.setTop (mkF m 276 A165 [(.ref b828)])) st828 ?_
                let A838 : Array Slot := #[.val (.int p0), .val (.int p1), .val (.int r5), .val (.int r11), .val (.int r17), .val (.ref r26), .val (.long r32), .second, .val (.ref b35), .val (.ref b46), .val (.ref b79), .val (.ref b91), .val (.ref b104), .val (.ref b118), .val (.ref b133), .val (.ref b149), .val (.ref b828), .unset, .unset, .unset]
                refine Go.st (S' := T828.setTop (mkF m 278 A838 [])) (fun t k => XS.astore X828.here hx rfl (hb hby at_276) rfl rfl (l' := A838) rfl k) ?_
                refine Go.st (S' := T828.setTop (mkF m 279 A838 [(.int (0 : Int32))])) (fun t k => XS.iconst X828.here hx rfl (hb hby at_278) k) ?_
                let A839 : Array Slot := #[.val (.int p0), .val (.int p1), .val (.int r5), .val (.int r11), .val (.int r17), .val (.ref r26), .val (.long r32), .second, .val (.ref b35), .val (.ref b46), .val (.ref b79), .val (.ref b91), .val (.ref b104), .val (.ref b118), .val (.ref b133), .val (.ref b149), .val (.ref b828), .val (.int (0 : Int32)), .unset, .unset]
                refine Go.st (S' := T828.setTop (mkF m 281 A839 [])) (fun t k => XS.istore X828.here hx rfl (hb hby at_279) rfl (l' := A839) rfl k) ?_
                refine Go.st (S' := T828.setTop (mkF m 283 A839 [(.ref b828)])) (fun t k => XS.aload X828.here hx rfl (hb hby at_281) rfl rfl k) ?_
                refine Go.st (S' := T828.setTop (mkF m 285 A839 [(.int (0 : Int32)), (.ref b828)])) (fun t k => XS.iload X828.here hx rfl (hb hby at_283) rfl k) ?_
                refine Go.st (S' := T828.setTop (mkF m 287 A839 [(.ref b46), (.int (0 : Int32)), (.ref b828)])) (fun t k => XS.aload X828.here hx rfl (hb hby at_285) rfl rfl k) ?_
                obtain ⟨cl840, Ar840, q840, S840, N840_, H840, G840⟩ := id V828
                have hin840 : ¬ ((0 : Int32) < 0 ∨ cl840.slots.size ≤ ((0 : Int32)).toNatClampNeg) := inb_of S840 ⟨by decide, by decide⟩
                have f841 := ((f830).ext E828)
                obtain ⟨T840, h840, X840, e840, W840, st840⟩ := stR X828 hx hZ e828 Ar840 (j := (0 : Int32)) hin840 rfl (Sto.ofV Ar840 q840 O828 (Ins.self f841)) (g := (mkF m 287 A839 [(.ref b46), (.int (0 : Int32)), (.ref b828)])) rfl rfl (hb hby at_287)
                have V840 : Arv Z h840 b828 k828 (.object "com/example/dwellgate/dwellgate/book/PriceTreeNextPinLaw") (7 : Int32) [(.ref b46), .null, .null, .null, .null, .null, .null] .null := Arv.set Ar840 q840 S840 N840_ H840 G840 rfl W840 0 rfl (Nat.le_of_ble_eq_true rfl)
                have N840 := Fr.snoc X840 N826 g_b828
                have Z842 : n0 ≤ h840.size := Nat.le_trans Z837 (Keep.of_wr W840).1
                have K842 : Keep h0 h840 [] := K837.wr W840 (Or.inr sz_b828)
                refine Go.st (S' := T840.setTop (mkF m 288 A839 [])) st840 ?_
                refine Go.st (S' := T840.setTop (mkF m 290 A839 [(.int (0 : Int32))])) (fun t k => XS.iload X840.here hx rfl (hb hby at_288) rfl k) ?_
                refine Go.st (S' := T840.setTop (mkF m 291 A839 [(.int (1 : Int32)), (.int (0 : Int32))])) (fun t k => XS.iconst X840.here hx rfl (hb hby at_290) k) ?_
                refine Go.op (F := fun z => T840.setTop (mkF m 292 A839 [(.int z)])) (x := ((0 : Int32) + (1 : Int32))) (fun t k => XS.iadd X840.here hx rfl (hb hby at_291) rfl k) ?_
                intro v843 hv843
                obtain rfl : (1 : Int32) = v843 := (hv843.trans (by decide)).symm
                let A844 : Array Slot := #[.val (.int p0), .val (.int p1), .val (.int r5), .val (.int r11), .val (.int r17), .val (.ref r26), .val (.long r32), .second, .val (.ref b35), .val (.ref b46), .val (.ref b79), .val (.ref b91), .val (.ref b104), .val (.ref b118), .val (.ref b133), .val (.ref b149), .val (.ref b828), .val (.int (1 : Int32)), .unset, .unset]
                refine Go.st (S' := T840.setTop (mkF m 294 A844 [])) (fun t k => XS.istore X840.here hx rfl (hb hby at_292) rfl (l' := A844) rfl k) ?_
                refine Go.st (S' := T840.setTop (mkF m 296 A844 [(.ref b828)])) (fun t k => XS.aload X840.here hx rfl (hb hby at_294) rfl rfl k) ?_
                refine Go.st (S' := T840.setTop (mkF m 298 A844 [(.int (1 : Int32)), (.ref b828)])) (fun t k => XS.iload X840.here hx rfl (hb hby at_296) rfl k) ?_
                refine Go.st (S' := T840.setTop (mkF m 300 A844 [(.ref b79), (.int (1 : Int32)), (.ref b828)])) (fun t k => XS.aload X840.here hx rfl (hb hby at_298) rfl rfl k) ?_
                obtain ⟨cl845, Ar845, q845, S845, N845_, H845, G845⟩ := id V840
                have hin845 : ¬ ((1 : Int32) < 0 ∨ cl845.slots.size ≤ ((1 : Int32)).toNatClampNeg) := inb_of S845 ⟨by decide, by decide⟩
                have f846 := ((((f831).ext E828)).wr W840)
                obtain ⟨T845, h845, X845, e845, W845, st845⟩ := stR X840 hx hZ e840 Ar845 (j := (1 : Int32)) hin845 rfl (Sto.ofV Ar845 q845 O828 (Ins.self f846)) (g := (mkF m 300 A844 [(.ref b79), (.int (1 : Int32)), (.ref b828)])) rfl rfl (hb hby at_300)
                have V845 : Arv Z h845 b828 k828 (.object "com/example/dwellgate/dwellgate/book/PriceTreeNextPinLaw") (7 : Int32) [(.ref b46), (.ref b79), .null, .null, .null, .null, .null] .null := Arv.set Ar845 q845 S845 N845_ H845 G845 rfl W845 1 rfl (Nat.le_of_ble_eq_true rfl)
                have N845 := Fr.snoc X845 N840 g_b828
                have Z847 : n0 ≤ h845.size := Nat.le_trans Z842 (Keep.of_wr W845).1
                have K847 : Keep h0 h845 [] := K842.wr W845 (Or.inr sz_b828)
                refine Go.st (S' := T845.setTop (mkF m 301 A844 [])) st845 ?_
                refine Go.st (S' := T845.setTop (mkF m 303 A844 [(.int (1 : Int32))])) (fun t k => XS.iload X845.here hx rfl (hb hby at_301) rfl k) ?_
                refine Go.st (S' := T845.setTop (mkF m 304 A844 [(.int (1 : Int32)), (.int (1 : Int32))])) (fun t k => XS.iconst X845.here hx rfl (hb hby at_303) k) ?_
                refine Go.op (F := fun z => T845.setTop (mkF m 305 A844 [(.int z)])) (x := ((1 : Int32) + (1 : Int32))) (fun t k => XS.iadd X845.here hx rfl (hb hby at_304) rfl k) ?_
                intro v848 hv848
                obtain rfl : (2 : Int32) = v848 := (hv848.trans (by decide)).symm
                let A849 : Array Slot := #[.val (.int p0), .val (.int p1), .val (.int r5), .val (.int r11), .val (.int r17), .val (.ref r26), .val (.long r32), .second, .val (.ref b35), .val (.ref b46), .val (.ref b79), .val (.ref b91), .val (.ref b104), .val (.ref b118), .val (.ref b133), .val (.ref b149), .val (.ref b828), .val (.int (2 : Int32)), .unset, .unset]
                refine Go.st (S' := T845.setTop (mkF m 307 A849 [])) (fun t k => XS.istore X845.here hx rfl (hb hby at_305) rfl (l' := A849) rfl k) ?_
                refine Go.st (S' := T845.setTop (mkF m 308 A849 [(.int r11)])) (fun t k => XS.iloadN X845.here hx rfl (hb hby at_307) rfl k) ?_
                refine Go.st (S' := T845.setTop (mkF m 324 A849 [])) (fun t k => XS.ifYes X845.here hx rfl (pc0 := 308) (pc' := 324) rfl (hb hby at_308) rfl ((if0 _ _).trans (teq hc533).1) (by decide) (by decide) k) ?_
                refine Go.st (S' := T845.setTop (mkF m 326 A849 [(.ref b828)])) (fun t k => XS.aload X845.here hx rfl (hb hby at_324) rfl rfl k) ?_
                refine Go.st (S' := T845.setTop (mkF m 328 A849 [(.int (2 : Int32)), (.ref b828)])) (fun t k => XS.iload X845.here hx rfl (hb hby at_326) rfl k) ?_
                refine Go.st (S' := T845.setTop (mkF m 330 A849 [(.ref b104), (.int (2 : Int32)), (.ref b828)])) (fun t k => XS.aload X845.here hx rfl (hb hby at_328) rfl rfl k) ?_
                obtain ⟨cl850, Ar850, q850, S850, N850_, H850, G850⟩ := id V845
                have hin850 : ¬ ((2 : Int32) < 0 ∨ cl850.slots.size ≤ ((2 : Int32)).toNatClampNeg) := inb_of S850 ⟨by decide, by decide⟩
                have f851 := ((((((f833).ext E828)).wr W840)).wr W845)
                obtain ⟨T850, h850, X850, e850, W850, st850⟩ := stR X845 hx hZ e845 Ar850 (j := (2 : Int32)) hin850 rfl (Sto.ofV Ar850 q850 O828 (Ins.self f851)) (g := (mkF m 330 A849 [(.ref b104), (.int (2 : Int32)), (.ref b828)])) rfl rfl (hb hby at_330)
                have V850 : Arv Z h850 b828 k828 (.object "com/example/dwellgate/dwellgate/book/PriceTreeNextPinLaw") (7 : Int32) [(.ref b46), (.ref b79), (.ref b104), .null, .null, .null, .null] .null := Arv.set Ar850 q850 S850 N850_ H850 G850 rfl W850 2 rfl (Nat.le_of_ble_eq_true rfl)
                have N850 := Fr.snoc X850 N845 g_b828
                have Z852 : n0 ≤ h850.size := Nat.le_trans Z847 (Keep.of_wr W850).1
                have K852 : Keep h0 h850 [] := K847.wr W850 (Or.inr sz_b828)
                refine Go.st (S' := T850.setTop (mkF m 331 A849 [])) st850 ?_
                refine Go.st (S' := T850.setTop (mkF m 333 A849 [(.int (2 : Int32))])) (fun t k => XS.iload X850.here hx rfl (hb hby at_331) rfl k) ?_
                refine Go.st (S' := T850.setTop (mkF m 334 A849 [(.int (1 : Int32)), (.int (2 : Int32))])) (fun t k => XS.iconst X850.here hx rfl (hb hby at_333) k) ?_
                refine Go.op (F := fun z => T850.setTop (mkF m 335 A849 [(.int z)])) (x := ((2 : Int32) + (1 : Int32))) (fun t k => XS.iadd X850.here hx rfl (hb hby at_334) rfl k) ?_
                intro v853 hv853
                obtain rfl : (3 : Int32) = v853 := (hv853.trans (by decide)).symm
                let A854 : Array Slot := #[.val (.int p0), .val (.int p1), .val (.int r5), .val (.int r11), .val (.int r17), .val (.ref r26), .val (.long r32), .second, .val (.ref b35), .val (.ref b46), .val (.ref b79), .val (.ref b91), .val (.ref b104), .val (.ref b118), .val (.ref b133), .val (.ref b149), .val (.ref b828), .val (.int (3 : Int32)), .unset, .unset]
                refine Go.st (S' := T850.setTop (mkF m 337 A854 [])) (fun t k => XS.istore X850.here hx rfl (hb hby at_335) rfl (l' := A854) rfl k) ?_
                refine Go.st (S' := T850.setTop (mkF m 338 A854 [(.int r5)])) (fun t k => XS.iloadN X850.here hx rfl (hb hby at_337) rfl k) ?_
                refine Go.st (S' := T850.setTop (mkF m 341 A854 [])) (fun t k => XS.ifNo X850.here hx rfl (hb hby at_338) rfl ((if0 _ _).trans (feq hc677).1) k) ?_
                refine Go.st (S' := T850.setTop (mkF m 343 A854 [(.ref b828)])) (fun t k => XS.aload X850.here hx rfl (hb hby at_341) rfl rfl k) ?_
                refine Go.st (S' := T850.setTop (mkF m 345 A854 [(.int (3 : Int32)), (.ref b828)])) (fun t k => XS.iload X850.here hx rfl (hb hby at_343) rfl k) ?_
                refine Go.st (S' := T850.setTop (mkF m 347 A854 [(.ref b118), (.int (3 : Int32)), (.ref b828)])) (fun t k => XS.aload X850.here hx rfl (hb hby at_345) rfl rfl k) ?_
                obtain ⟨cl855, Ar855, q855, S855, N855_, H855, G855⟩ := id V850
                have hin855 : ¬ ((3 : Int32) < 0 ∨ cl855.slots.size ≤ ((3 : Int32)).toNatClampNeg) := inb_of S855 ⟨by decide, by decide⟩
                have f856 := ((((((((f834).ext E828)).wr W840)).wr W845)).wr W850)
                obtain ⟨T855, h855, X855, e855, W855, st855⟩ := stR X850 hx hZ e850 Ar855 (j := (3 : Int32)) hin855 rfl (Sto.ofV Ar855 q855 O828 (Ins.self f856)) (g := (mkF m 347 A854 [(.ref b118), (.int (3 : Int32)), (.ref b828)])) rfl rfl (hb hby at_347)
                have V855 : Arv Z h855 b828 k828 (.object "com/example/dwellgate/dwellgate/book/PriceTreeNextPinLaw") (7 : Int32) [(.ref b46), (.ref b79), (.ref b104), (.ref b118), .null, .null, .null] .null := Arv.set Ar855 q855 S855 N855_ H855 G855 rfl W855 3 rfl (Nat.le_of_ble_eq_true rfl)
                have N855 := Fr.snoc X855 N850 g_b828
                have Z857 : n0 ≤ h855.size := Nat.le_trans Z852 (Keep.of_wr W855).1
                have K857 : Keep h0 h855 [] := K852.wr W855 (Or.inr sz_b828)
                refine Go.st (S' := T855.setTop (mkF m 348 A854 [])) st855 ?_
                refine Go.st (S' := T855.setTop (mkF m 350 A854 [(.int (3 : Int32))])) (fun t k => XS.iload X855.here hx rfl (hb hby at_348) rfl k) ?_
                refine Go.st (S' := T855.setTop (mkF m 351 A854 [(.int (1 : Int32)), (.int (3 : Int32))])) (fun t k => XS.iconst X855.here hx rfl (hb hby at_350) k) ?_
                refine Go.op (F := fun z => T855.setTop (mkF m 352 A854 [(.int z)])) (x := ((3 : Int32) + (1 : Int32))) (fun t k => XS.iadd X855.here hx rfl (hb hby at_351) rfl k) ?_
                intro v858 hv858
                obtain rfl : (4 : Int32) = v858 := (hv858.trans (by decide)).symm
                let A859 : Array Slot := #[.val (.int p0), .val (.int p1), .val (.int r5), .val (.int r11), .val (.int r17), .val (.ref r26), .val (.long r32), .second, .val (.ref b35), .val (.ref b46), .val (.ref b79), .val (.ref b91), .val (.ref b104), .val (.ref b118), .val (.ref b133), .val (.ref b149), .val (.ref b828), .val (.int (4 : Int32)), .unset, .unset]
                refine Go.st (S' := T855.setTop (mkF m 354 A859 [])) (fun t k => XS.istore X855.here hx rfl (hb hby at_352) rfl (l' := A859) rfl k) ?_
                refine Go.st (S' := T855.setTop (mkF m 356 A859 [(.ref b828)])) (fun t k => XS.aload X855.here hx rfl (hb hby at_354) rfl rfl k) ?_
                refine Go.st (S' := T855.setTop (mkF m 358 A859 [(.int (4 : Int32)), (.ref b828)])) (fun t k => XS.iload X855.here hx rfl (hb hby at_356) rfl k) ?_
                refine Go.st (S' := T855.setTop (mkF m 360 A859 [(.ref b133), (.int (4 : Int32)), (.ref b828)])) (fun t k => XS.aload X855.here hx rfl (hb hby at_358) rfl rfl k) ?_
                obtain ⟨cl860, Ar860, q860, S860, N860_, H860, G860⟩ := id V855
                have hin860 : ¬ ((4 : Int32) < 0 ∨ cl860.slots.size ≤ ((4 : Int32)).toNatClampNeg) := inb_of S860 ⟨by decide, by decide⟩
                have f861 := ((((((((((f835).ext E828)).wr W840)).wr W845)).wr W850)).wr W855)
                obtain ⟨T860, h860, X860, e860, W860, st860⟩ := stR X855 hx hZ e855 Ar860 (j := (4 : Int32)) hin860 rfl (Sto.ofV Ar860 q860 O828 (Ins.self f861)) (g := (mkF m 360 A859 [(.ref b133), (.int (4 : Int32)), (.ref b828)])) rfl rfl (hb hby at_360)
                have V860 : Arv Z h860 b828 k828 (.object "com/example/dwellgate/dwellgate/book/PriceTreeNextPinLaw") (7 : Int32) [(.ref b46), (.ref b79), (.ref b104), (.ref b118), (.ref b133), .null, .null] .null := Arv.set Ar860 q860 S860 N860_ H860 G860 rfl W860 4 rfl (Nat.le_of_ble_eq_true rfl)
                have N860 := Fr.snoc X860 N855 g_b828
                have Z862 : n0 ≤ h860.size := Nat.le_trans Z857 (Keep.of_wr W860).1
                have K862 : Keep h0 h860 [] := K857.wr W860 (Or.inr sz_b828)
                refine Go.st (S' := T860.setTop (mkF m 361 A859 [])) st860 ?_
                refine Go.st (S' := T860.setTop (mkF m 363 A859 [(.int (4 : Int32))])) (fun t k => XS.iload X860.here hx rfl (hb hby at_361) rfl k) ?_
                refine Go.st (S' := T860.setTop (mkF m 364 A859 [(.int (1 : Int32)), (.int (4 : Int32))])) (fun t k => XS.iconst X860.here hx rfl (hb hby at_363) k) ?_
                refine Go.op (F := fun z => T860.setTop (mkF m 365 A859 [(.int z)])) (x := ((4 : Int32) + (1 : Int32))) (fun t k => XS.iadd X860.here hx rfl (hb hby at_364) rfl k) ?_
                intro v863 hv863
                obtain rfl : (5 : Int32) = v863 := (hv863.trans (by decide)).symm
                let A864 : Array Slot := #[.val (.int p0), .val (.int p1), .val (.int r5), .val (.int r11), .val (.int r17), .val (.ref r26), .val (.long r32), .second, .val (.ref b35), .val (.ref b46), .val (.ref b79), .val (.ref b91), .val (.ref b104), .val (.ref b118), .val (.ref b133), .val (.ref b149), .val (.ref b828), .val (.int (5 : Int32)), .unset, .unset]
                refine Go.st (S' := T860.setTop (mkF m 367 A864 [])) (fun t k => XS.istore X860.here hx rfl (hb hby at_365) rfl (l' := A864) rfl k) ?_
                refine Go.st (S' := T860.setTop (mkF m 369 A864 [(.ref b828)])) (fun t k => XS.aload X860.here hx rfl (hb hby at_367) rfl rfl k) ?_
                refine Go.st (S' := T860.setTop (mkF m 371 A864 [(.int (5 : Int32)), (.ref b828)])) (fun t k => XS.iload X860.here hx rfl (hb hby at_369) rfl k) ?_
                refine Go.st (S' := T860.setTop (mkF m 373 A864 [(.ref b149), (.int (5 : Int32)), (.ref b828)])) (fun t k => XS.aload X860.here hx rfl (hb hby at_371) rfl rfl k) ?_
                obtain ⟨cl865, Ar865, q865, S865, N865_, H865, G865⟩ := id V860
                have hin865 : ¬ ((5 : Int32) < 0 ∨ cl865.slots.size ≤ ((5 : Int32)).toNatClampNeg) := inb_of S865 ⟨by decide, by decide⟩
                have f866 := ((((((((((((f836).ext E828)).wr W840)).wr W845)).wr W850)).wr W855)).wr W860)
                obtain ⟨T865, h865, X865, e865, W865, st865⟩ := stR X860 hx hZ e860 Ar865 (j := (5 : Int32)) hin865 rfl (Sto.ofV Ar865 q865 O828 (Ins.self f866)) (g := (mkF m 373 A864 [(.ref b149), (.int (5 : Int32)), (.ref b828)])) rfl rfl (hb hby at_373)
                have V865 : Arv Z h865 b828 k828 (.object "com/example/dwellgate/dwellgate/book/PriceTreeNextPinLaw") (7 : Int32) [(.ref b46), (.ref b79), (.ref b104), (.ref b118), (.ref b133), (.ref b149), .null] .null := Arv.set Ar865 q865 S865 N865_ H865 G865 rfl W865 5 rfl (Nat.le_of_ble_eq_true rfl)
                have N865 := Fr.snoc X865 N860 g_b828
                have Z867 : n0 ≤ h865.size := Nat.le_trans Z862 (Keep.of_wr W865).1
                have K867 : Keep h0 h865 [] := K862.wr W865 (Or.inr sz_b828)
                refine Go.st (S' := T865.setTop (mkF m 374 A864 [])) st865 ?_
                refine Go.st (S' := T865.setTop (mkF m 376 A864 [(.int (5 : Int32))])) (fun t k => XS.iload X865.here hx rfl (hb hby at_374) rfl k) ?_
                refine Go.st (S' := T865.setTop (mkF m 377 A864 [(.int (1 : Int32)), (.int (5 : Int32))])) (fun t k => XS.iconst X865.here hx rfl (hb hby at_376) k) ?_
                refine Go.op (F := fun z => T865.setTop (mkF m 378 A864 [(.int z)])) (x := ((5 : Int32) + (1 : Int32))) (fun t k => XS.iadd X865.here hx rfl (hb hby at_377) rfl k) ?_
                intro v868 hv868
                obtain rfl : (6 : Int32) = v868 := (hv868.trans (by decide)).symm
                let A869 : Array Slot := #[.val (.int p0), .val (.int p1), .val (.int r5), .val (.int r11), .val (.int r17), .val (.ref r26), .val (.long r32), .second, .val (.ref b35), .val (.ref b46), .val (.ref b79), .val (.ref b91), .val (.ref b104), .val (.ref b118), .val (.ref b133), .val (.ref b149), .val (.ref b828), .val (.int (6 : Int32)), .unset, .unset]
                refine Go.st (S' := T865.setTop (mkF m 380 A869 [])) (fun t k => XS.istore X865.here hx rfl (hb hby at_378) rfl (l' := A869) rfl k) ?_
                refine Go.st (S' := T865.setTop (mkF m 381 A869 [(.int p0)])) (fun t k => XS.iloadN X865.here hx rfl (hb hby at_380) rfl k) ?_
                refine Go.st (S' := T865.setTop (mkF m 383 A869 [(.int (2147483647 : Int32)), (.int p0)])) (fun t k => X865.ldcInt hx hown (mvT hZ (hw _ (List.mem_of_getElem? (i := 44) rfl))) (g := (mkF m 381 A869 [(.int p0)])) rfl (hb hby at_381) t k) ?_
                refine Go.op (F := fun z => T865.setTop (mkF m 384 A869 [(.int z)])) (x := (p0 &&& (2147483647 : Int32))) (fun t k => XS.iand X865.here hx rfl (hb hby at_383) rfl k) ?_
                intro v870 hv870
                refine Go.st (S' := T865.setTop (mkF m 386 A869 [(.int (6 : Int32)), (.int v870)])) (fun t k => XS.iload X865.here hx rfl (hb hby at_384) rfl k) ?_
                refine Go.op (F := fun z => T865.setTop (mkF m 387 A869 [(.int z)])) (x := (v870 % (6 : Int32))) (fun t k => iremM X865 hx rfl (hb hby at_386) rfl (by decide) k) ?_
                intro v871 hv871
                let A872 : Array Slot := #[.val (.int p0), .val (.int p1), .val (.int r5), .val (.int r11), .val (.int r17), .val (.ref r26), .val (.long r32), .second, .val (.ref b35), .val (.ref b46), .val (.ref b79), .val (.ref b91), .val (.ref b104), .val (.ref b118), .val (.ref b133), .val (.ref b149), .val (.ref b828), .val (.int (6 : Int32)), .val (.int v871), .unset]
                refine Go.st (S' := T865.setTop (mkF m 389 A872 [])) (fun t k => XS.istore X865.here hx rfl (hb hby at_387) rfl (l' := A872) rfl k) ?_
                refine Go.st (S' := T865.setTop (mkF m 391 A872 [(.int v871)])) (fun t k => XS.iload X865.here hx rfl (hb hby at_389) rfl k) ?_
                refine Go.st (S' := T865.setTop (mkF m 392 A872 [(.int (1 : Int32)), (.int v871)])) (fun t k => XS.iconst X865.here hx rfl (hb hby at_391) k) ?_
                refine Go.op (F := fun z => T865.setTop (mkF m 393 A872 [(.int z)])) (x := (v871 + (1 : Int32))) (fun t k => XS.iadd X865.here hx rfl (hb hby at_392) rfl k) ?_
                intro v873 hv873
                refine Go.st (S' := T865.setTop (mkF m 395 A872 [(.int (6 : Int32)), (.int v873)])) (fun t k => XS.iload X865.here hx rfl (hb hby at_393) rfl k) ?_
                by_cases hc902 : (v873 < (6 : Int32))
                · refine Go.st (S' := T865.setTop (mkF m 398 A872 [])) (fun t k => XS.icmpNo X865.here hx rfl (hb hby at_395) rfl (tlt hc902).2.1 k) ?_
                  refine Go.st (S' := T865.setTop (mkF m 400 A872 [(.ref b828)])) (fun t k => XS.aload X865.here hx rfl (hb hby at_398) rfl rfl k) ?_
                  refine Go.st (S' := T865.setTop (mkF m 402 A872 [(.int v871), (.ref b828)])) (fun t k => XS.iload X865.here hx rfl (hb hby at_400) rfl k) ?_
                  refine Go.st (S' := T865.setTop (mkF m 403 A872 [(.int (1 : Int32)), (.int v871), (.ref b828)])) (fun t k => XS.iconst X865.here hx rfl (hb hby at_402) k) ?_
                  refine Go.op (F := fun z => T865.setTop (mkF m 404 A872 [(.int z), (.ref b828)])) (x := (v871 + (1 : Int32))) (fun t k => XS.iadd X865.here hx rfl (hb hby at_403) rfl k) ?_
                  intro v903 hv903
                  obtain rfl : v873 = v903 := hv873.trans hv903.symm
                  by_cases hj905 : v873 = (1 : Int32)
                  · obtain ⟨cl906, Ar906, -, S906, N906_, H906, -⟩ := id V865
                    have hin906 : ¬ (v873 < 0 ∨ cl906.slots.size ≤ (v873).toNatClampNeg) := by rw [hj905]; exact inb_of S906 ⟨by decide, by decide⟩
                    have hat906 : cl906.slots[(v873).toNatClampNeg]? = some (.ref b79) := Has.at H906 hin906 (by rw [hj905]; rfl)
                    refine Go.st (S' := T865.setTop (mkF m 405 A872 [(.ref b79)])) (fun t k => X865.aaload hx (j := v873) (v := (.ref b79)) (own_eh e865 Ar906.1) (State.isArrayOf_alike hZ.alike Ar906.2.1) rfl Ar906.2.2 hin906 hat906 (g := (mkF m 404 A872 [(.int v873), (.ref b828)])) rfl rfl (hb hby at_404) t k) ?_
                    refine Go.st (S' := T865.setTop (mkF m 409 A872 [(.ref b79)])) (fun t k => XS.goto X865.here hx rfl (pc0 := 405) (pc' := 409) rfl (hb hby at_405) (by decide) (by decide) k) ?_
                    let A907 : Array Slot := #[.val (.int p0), .val (.int p1), .val (.int r5), .val (.int r11), .val (.int r17), .val (.ref r26), .val (.long r32), .second, .val (.ref b35), .val (.ref b46), .val (.ref b79), .val (.ref b91), .val (.ref b104), .val (.ref b118), .val (.ref b133), .val (.ref b149), .val (.ref b828), .val (.int (6 : Int32)), .val (.int v871), .val (.ref b79)]
                    refine Go.st (S' := T865.setTop (mkF m 411 A907 [])) (fun t k => XS.astore X865.here hx rfl (hb hby at_409) rfl rfl (l' := A907) rfl k) ?_
                    refine Go.st (S' := T865.setTop (mkF m 413 A907 [(.ref b35)])) (fun t k => XS.aload X865.here hx rfl (hb hby at_411) rfl rfl k) ?_
                    refine Go.st (S' := T865.setTop (mkF m 415 A907 [(.ref b828), (.ref b35)])) (fun t k => XS.aload X865.here hx rfl (hb hby at_413) rfl rfl k) ?_
                    refine Go.st (S' := T865.setTop (mkF m 417 A907 [(.int v871), (.ref b828), (.ref b35)])) (fun t k => XS.iload X865.here hx rfl (hb hby at_415) rfl k) ?_
                    have hj909 : v871 = (0 : Int32) := by
                      refine Decidable.byContradiction fun hc910 => ?_
                      have rv870 := rng32 v870
                      have wv870 := c_mask p0 (2147483647 : Int32) 31 (by decide) (by decide)
                      rw [← hv870] at wv870
                      have rv871 := rng32 v871
                      have wv871 := c_irem v870 (6 : Int32) 6 (by decide)
                      rw [← hv871] at wv871
                      have rv873 := rng32 v873
                      have wv873 := c_iadd v871 (1 : Int32)
                      rw [← hv873] at wv873
                      have rp0 := rng32 p0
                      have lI0 : (0 : Int32).toInt = 0 := by decide
                      have lI1 : (1 : Int32).toInt = 1 := by decide
                      have lI6 : (6 : Int32).toInt = 6 := by decide
                      have lI2147483647 : (2147483647 : Int32).toInt = 2147483647 := by decide
                      simp only [Int32.lt_iff_toInt_lt, Int64.lt_iff_toInt_lt, ← Int32.toInt_inj, ← Int64.toInt_inj] at hc902 hj905 hc910
                      omega
                    obtain ⟨cl908, Ar908, -, S908, N908_, H908, -⟩ := id V865
                    have hin908 : ¬ (v871 < 0 ∨ cl908.slots.size ≤ (v871).toNatClampNeg) := by rw [hj909]; exact inb_of S908 ⟨by decide, by decide⟩
                    have hat908 : cl908.slots[(v871).toNatClampNeg]? = some (.ref b46) := Has.at H908 hin908 (by rw [hj909]; rfl)
                    refine Go.st (S' := T865.setTop (mkF m 418 A907 [(.ref b46), (.ref b35)])) (fun t k => X865.aaload hx (j := v871) (v := (.ref b46)) (own_eh e865 Ar908.1) (State.isArrayOf_alike hZ.alike Ar908.2.1) rfl Ar908.2.2 hin908 hat908 (g := (mkF m 417 A907 [(.int v871), (.ref b828), (.ref b35)])) rfl rfl (hb hby at_417) t k) ?_
                    have f911 := ((((((((((((((f829).ext E828)).wr W840)).wr W845)).wr W850)).wr W855)).wr W860)).wr W865)
                    have f912 := ((((((((((((((((((((((((((((Fw176).other W180 (Or.inl (Nat.ne_of_lt lt_b46_b79)))).other W536 (Or.inl (Nat.ne_of_lt lt_b46_b104)))).other W540 (Or.inl (Nat.ne_of_lt lt_b46_b149)))).other W544 (Or.inl (Nat.ne_of_lt lt_b46_b149)))).other W548 (Or.inl (Nat.ne_of_lt lt_b46_b133)))).other W822 (Or.inl (Nat.ne_of_lt lt_b46_b133)))).other W826 (Or.inl (Nat.ne_of_lt lt_b46_b118)))).ext E828)).other W840 (Or.inl (Nat.ne_of_lt lt_b46_b828)))).other W845 (Or.inl (Nat.ne_of_lt lt_b46_b828)))).other W850 (Or.inl (Nat.ne_of_lt lt_b46_b828)))).other W855 (Or.inl (Nat.ne_of_lt lt_b46_b828)))).other W860 (Or.inl (Nat.ne_of_lt lt_b46_b828)))).other W865 (Or.inl (Nat.ne_of_lt lt_b46_b828)))
                    have f913 := ((((((((((((((((((((((((((((((((((((((((((((((((((((((f86).ext E91)).keep K96_ (ninS (Nat.ne_of_lt lt_b79_b91) nin0))).ext E104)).keep K110_ (ninS (Nat.ne_of_lt lt_b79_b104) nin0))).ext E118)).keep K125_ (ninS (Nat.ne_of_lt lt_b79_b118) nin0))).ext E133)).keep K141_ (ninS (Nat.ne_of_lt lt_b79_b133) nin0))).ext E149)).keep K158_ (ninS (Nat.ne_of_lt lt_b79_b149) nin0))).other W168 (Or.inl (Nat.ne_of_lt lt_b79_b104)))).other W172 (Or.inl (Nat.ne_of_gt lt_b46_b79)))).other W176 (Or.inl (Nat.ne_of_gt lt_b46_b79)))).other W180 (Or.inr (slot_ne (Or.inl (hw _ (List.mem_of_getElem? (i := 35) rfl))) (Or.inl (hw _ (List.mem_of_getElem? (i := 38) rfl))) (by decide) (t := (.object "com/example/dwellgate/dwellgate/book/PriceTree$Node")) (t' := (.object "com/example/dwellgate/dwellgate/book/PriceTree$Node")) (by decide) (by decide))))).other W536 (Or.inl (Nat.ne_of_lt lt_b79_b104)))).other W540 (Or.inl (Nat.ne_of_lt lt_b79_b149)))).other W544 (Or.inl (Nat.ne_of_lt lt_b79_b149)))).other W548 (Or.inl (Nat.ne_of_lt lt_b79_b133)))).other W822 (Or.inl (Nat.ne_of_lt lt_b79_b133)))).other W826 (Or.inl (Nat.ne_of_lt lt_b79_b118)))).ext E828)).other W840 (Or.inl (Nat.ne_of_lt lt_b79_b828)))).other W845 (Or.inl (Nat.ne_of_lt lt_b79_b828)))).other W850 (Or.inl (Nat.ne_of_lt lt_b79_b828)))).other W855 (Or.inl (Nat.ne_of_lt lt_b79_b828)))).other W860 (Or.inl (Nat.ne_of_lt lt_b79_b828)))).other W865 (Or.inl (Nat.ne_of_lt lt_b79_b828)))
                    obtain ⟨r914, T914, L914, X914, hQ914, st914⟩ := own_callV (W := 0) (a := b35) (C := "com/example/dwellgate/dwellgate/book/PriceTree") X865 hx hZ e865 hown (y := (⟨"com/example/dwellgate/dwellgate/book/PriceTree", "next", "(Lcom/example/dwellgate/dwellgate/book/PriceTree$Node;)Lcom/example/dwellgate/dwellgate/book/PriceTree$Node;"⟩ : MethodName)) (z := (⟨"com/example/dwellgate/dwellgate/book/PriceTree", "next", "(Lcom/example/dwellgate/dwellgate/book/PriceTree$Node;)Lcom/example/dwellgate/dwellgate/book/PriceTree$Node;"⟩ : MethodName)) (hw _ (List.mem_of_getElem? (i := 45) rfl)) (hw _ (List.mem_of_getElem? (i := 46) rfl)) (notFace_of_selects (args := #[]) (mvT hZ (hw _ (List.mem_of_getElem? (i := 48) rfl)))) (hw _ (List.mem_of_getElem? (i := 48) rfl)) (hw _ (List.mem_of_getElem? (i := 47) rfl)) (hw _ (List.mem_of_getElem? (i := 5) rfl)) (hw _ (List.mem_of_getElem? (i := 49) rfl)) (by decide) (f911) (rm5 l Z a0 hw [] b35 b46 b79 h865 n0 Z867 (f912) (f913)) (by decide) (by decide) (by decide) (by decide) (g := (mkF m 418 A907 [(.ref b46), (.ref b35)])) rfl (by rw [hml]; rfl) (argsL := [(.ref b46)]) (rest := []) rfl (lenOf pd_2 rfl) rfl (by show 2 * 0 + _ ≤ _; exact Nat.le_of_eq rfl) (hb hby at_418)
                    obtain ⟨rfl, N914, e914⟩ := hQ914
                    have N914_ := Fr.app N865 N914
                    refine Go.st (S' := T914.setTop (mkF m 421 A907 [(.ref b79)])) st914 ?_
                    refine Go.st (S' := T914.setTop (mkF m 423 A907 [(.ref b79), (.ref b79)])) (fun t k => XS.aload X914.here hx rfl (hb hby at_421) rfl rfl k) ?_
                    refine Go.st (S' := T914.setTop (mkF m 426 A907 [])) (fun t k => acmp X914 hx rfl rfl rfl (pc0 := 423) (pc' := 426) (same := true) rfl (hb hby at_423) rfl (by simp) (by decide) (by decide) k) ?_
                    refine Go.st (S' := T914.setTop (mkF m 427 A907 [(.int (1 : Int32))])) (fun t k => XS.iconst X914.here hx rfl (hb hby at_426) k) ?_
                    refine Go.st (S' := T914.setTop (mkF m 431 A907 [(.int (1 : Int32))])) (fun t k => XS.goto X914.here hx rfl (pc0 := 427) (pc' := 431) rfl (hb hby at_427) (by decide) (by decide) k) ?_
                    exact Go.ret X914 (v := some (.int (1 : Int32))) (fun h => by rw [Bd.returns] at h; cases h) Bd.notSynchronized (fun fs hr => retN X914 hx (t := .boolean) Bd.returns (by simp) (hb hby at_431) hr) (by decide) (by decide) ⟨rfl, N914_⟩
                  · by_cases hj915 : v873 = (2 : Int32)
                    · obtain ⟨cl916, Ar916, -, S916, N916_, H916, -⟩ := id V865
                      have hin916 : ¬ (v873 < 0 ∨ cl916.slots.size ≤ (v873).toNatClampNeg) := by rw [hj915]; exact inb_of S916 ⟨by decide, by decide⟩
                      have hat916 : cl916.slots[(v873).toNatClampNeg]? = some (.ref b104) := Has.at H916 hin916 (by rw [hj915]; rfl)
                      refine Go.st (S' := T865.setTop (mkF m 405 A872 [(.ref b104)])) (fun t k => X865.aaload hx (j := v873) (v := (.ref b104)) (own_eh e865 Ar916.1) (State.isArrayOf_alike hZ.alike Ar916.2.1) rfl Ar916.2.2 hin916 hat916 (g := (mkF m 404 A872 [(.int v873), (.ref b828)])) rfl rfl (hb hby at_404) t k) ?_
                      refine Go.st (S' := T865.setTop (mkF m 409 A872 [(.ref b104)])) (fun t k => XS.goto X865.here hx rfl (pc0 := 405) (pc' := 409) rfl (hb hby at_405) (by decide) (by decide) k) ?_
                      let A917 : Array Slot := #[.val (.int p0), .val (.int p1), .val (.int r5), .val (.int r11), .val (.int r17), .val (.ref r26), .val (.long r32), .second, .val (.ref b35), .val (.ref b46), .val (.ref b79), .val (.ref b91), .val (.ref b104), .val (.ref b118), .val (.ref b133), .val (.ref b149), .val (.ref b828), .val (.int (6 : Int32)), .val (.int v871), .val (.ref b104)]
                      refine Go.st (S' := T865.setTop (mkF m 411 A917 [])) (fun t k => XS.astore X865.here hx rfl (hb hby at_409) rfl rfl (l' := A917) rfl k) ?_
                      refine Go.st (S' := T865.setTop (mkF m 413 A917 [(.ref b35)])) (fun t k => XS.aload X865.here hx rfl (hb hby at_411) rfl rfl k) ?_
                      refine Go.st (S' := T865.setTop (mkF m 415 A917 [(.ref b828), (.ref b35)])) (fun t k => XS.aload X865.here hx rfl (hb hby at_413) rfl rfl k) ?_
                      refine Go.st (S' := T865.setTop (mkF m 417 A917 [(.int v871), (.ref b828), (.ref b35)])) (fun t k => XS.iload X865.here hx rfl (hb hby at_415) rfl k) ?_
                      have hj919 : v871 = (1 : Int32) := by
                        refine Decidable.byContradiction fun hc920 => ?_
                        have rv870 := rng32 v870
                        have wv870 := c_mask p0 (2147483647 : Int32) 31 (by decide) (by decide)
                        rw [← hv870] at wv870
                        have rv871 := rng32 v871
                        have wv871 := c_irem v870 (6 : Int32) 6 (by decide)
                        rw [← hv871] at wv871
                        have rv873 := rng32 v873
                        have wv873 := c_iadd v871 (1 : Int32)
                        rw [← hv873] at wv873
                        have rp0 := rng32 p0
                        have lI1 : (1 : Int32).toInt = 1 := by decide
                        have lI2 : (2 : Int32).toInt = 2 := by decide
                        have lI6 : (6 : Int32).toInt = 6 := by decide
                        have lI2147483647 : (2147483647 : Int32).toInt = 2147483647 := by decide
                        simp only [Int32.lt_iff_toInt_lt, Int64.lt_iff_toInt_lt, ← Int32.toInt_inj, ← Int64.toInt_inj] at hc902 hj905 hj915 hc920
                        omega
                      obtain ⟨cl918, Ar918, -, S918, N918_, H918, -⟩ := id V865
                      have hin918 : ¬ (v871 < 0 ∨ cl918.slots.size ≤ (v871).toNatClampNeg) := by rw [hj919]; exact inb_of S918 ⟨by decide, by decide⟩
                      have hat918 : cl918.slots[(v871).toNatClampNeg]? = some (.ref b79) := Has.at H918 hin918 (by rw [hj919]; rfl)
                      refine Go.st (S' := T865.setTop (mkF m 418 A917 [(.ref b79), (.ref b35)])) (fun t k => X865.aaload hx (j := v871) (v := (.ref b79)) (own_eh e865 Ar918.1) (State.isArrayOf_alike hZ.alike Ar918.2.1) rfl Ar918.2.2 hin918 hat918 (g := (mkF m 417 A917 [(.int v871), (.ref b828), (.ref b35)])) rfl rfl (hb hby at_417) t k) ?_
                      have f921 := ((((((((((((((f829).ext E828)).wr W840)).wr W845)).wr W850)).wr W855)).wr W860)).wr W865)
                      have f923 := ((((((((((((((((((((((((((((((((((((((((((((((((((((((f88).ext E91)).keep K96_ (ninS (Nat.ne_of_lt lt_b79_b91) nin0))).ext E104)).keep K110_ (ninS (Nat.ne_of_lt lt_b79_b104) nin0))).ext E118)).keep K125_ (ninS (Nat.ne_of_lt lt_b79_b118) nin0))).ext E133)).keep K141_ (ninS (Nat.ne_of_lt lt_b79_b133) nin0))).ext E149)).keep K158_ (ninS (Nat.ne_of_lt lt_b79_b149) nin0))).other W168 (Or.inl (Nat.ne_of_lt lt_b79_b104)))).other W172 (Or.inl (Nat.ne_of_gt lt_b46_b79)))).other W176 (Or.inl (Nat.ne_of_gt lt_b46_b79)))).other W180 (Or.inr (slot_ne (Or.inl (hw _ (List.mem_of_getElem? (i := 41) rfl))) (Or.inl (hw _ (List.mem_of_getElem? (i := 38) rfl))) (by decide) (t := (.object "com/example/dwellgate/dwellgate/book/PriceTree$Node")) (t' := (.object "com/example/dwellgate/dwellgate/book/PriceTree$Node")) (by decide) (by decide))))).other W536 (Or.inl (Nat.ne_of_lt lt_b79_b104)))).other W540 (Or.inl (Nat.ne_of_lt lt_b79_b149)))).other W544 (Or.inl (Nat.ne_of_lt lt_b79_b149)))).other W548 (Or.inl (Nat.ne_of_lt lt_b79_b133)))).other W822 (Or.inl (Nat.ne_of_lt lt_b79_b133)))).other W826 (Or.inl (Nat.ne_of_lt lt_b79_b118)))).ext E828)).other W840 (Or.inl (Nat.ne_of_lt lt_b79_b828)))).other W845 (Or.inl (Nat.ne_of_lt lt_b79_b828)))).other W850 (Or.inl (Nat.ne_of_lt lt_b79_b828)))).other W855 (Or.inl (Nat.ne_of_lt lt_b79_b828)))).other W860 (Or.inl (Nat.ne_of_lt lt_b79_b828)))).other W865 (Or.inl (Nat.ne_of_lt lt_b79_b828)))
                      have f924 := ((((((((((((((((((((((((((Fw180).other W536 (Or.inl (Nat.ne_of_lt lt_b79_b104)))).other W540 (Or.inl (Nat.ne_of_lt lt_b79_b149)))).other W544 (Or.inl (Nat.ne_of_lt lt_b79_b149)))).other W548 (Or.inl (Nat.ne_of_lt lt_b79_b133)))).other W822 (Or.inl (Nat.ne_of_lt lt_b79_b133)))).other W826 (Or.inl (Nat.ne_of_lt lt_b79_b118)))).ext E828)).other W840 (Or.inl (Nat.ne_of_lt lt_b79_b828)))).other W845 (Or.inl (Nat.ne_of_lt lt_b79_b828)))).other W850 (Or.inl (Nat.ne_of_lt lt_b79_b828)))).other W855 (Or.inl (Nat.ne_of_lt lt_b79_b828)))).other W860 (Or.inl (Nat.ne_of_lt lt_b79_b828)))).other W865 (Or.inl (Nat.ne_of_lt lt_b79_b828)))
                      have f925 := ((((((((((((((((((((((((((((Fw176).other W180 (Or.inl (Nat.ne_of_lt lt_b46_b79)))).other W536 (Or.inl (Nat.ne_of_lt lt_b46_b104)))).other W540 (Or.inl (Nat.ne_of_lt lt_b46_b149)))).other W544 (Or.inl (Nat.ne_of_lt lt_b46_b149)))).other W548 (Or.inl (Nat.ne_of_lt lt_b46_b133)))).other W822 (Or.inl (Nat.ne_of_lt lt_b46_b133)))).other W826 (Or.inl (Nat.ne_of_lt lt_b46_b118)))).ext E828)).other W840 (Or.inl (Nat.ne_of_lt lt_b46_b828)))).other W845 (Or.inl (Nat.ne_of_lt lt_b46_b828)))).other W850 (Or.inl (Nat.ne_of_lt lt_b46_b828)))).other W855 (Or.inl (Nat.ne_of_lt lt_b46_b828)))).other W860 (Or.inl (Nat.ne_of_lt lt_b46_b828)))).other W865 (Or.inl (Nat.ne_of_lt lt_b46_b828)))
                      have f926 := ((((((((((((((((((((((((((((((Fw172).other W176 (Or.inr (slot_ne (Or.inl (hw _ (List.mem_of_getElem? (i := 38) rfl))) (Or.inl (hw _ (List.mem_of_getElem? (i := 41) rfl))) (by decide) (t := (.object "com/example/dwellgate/dwellgate/book/PriceTree$Node")) (t' := (.object "com/example/dwellgate/dwellgate/book/PriceTree$Node")) (by decide) (by decide))))).other W180 (Or.inl (Nat.ne_of_lt lt_b46_b79)))).other W536 (Or.inl (Nat.ne_of_lt lt_b46_b104)))).other W540 (Or.inl (Nat.ne_of_lt lt_b46_b149)))).other W544 (Or.inl (Nat.ne_of_lt lt_b46_b149)))).other W548 (Or.inl (Nat.ne_of_lt lt_b46_b133)))).other W822 (Or.inl (Nat.ne_of_lt lt_b46_b133)))).other W826 (Or.inl (Nat.ne_of_lt lt_b46_b118)))).ext E828)).other W840 (Or.inl (Nat.ne_of_lt lt_b46_b828)))).other W845 (Or.inl (Nat.ne_of_lt lt_b46_b828)))).other W850 (Or.inl (Nat.ne_of_lt lt_b46_b828)))).other W855 (Or.inl (Nat.ne_of_lt lt_b46_b828)))).other W860 (Or.inl (Nat.ne_of_lt lt_b46_b828)))).other W865 (Or.inl (Nat.ne_of_lt lt_b46_b828)))
                      have f927 := ((((((((((((((((((((((((Fw536).other W540 (Or.inl (Nat.ne_of_lt lt_b104_b149)))).other W544 (Or.inl (Nat.ne_of_lt lt_b104_b149)))).other W548 (Or.inl (Nat.ne_of_lt lt_b104_b133)))).other W822 (Or.inl (Nat.ne_of_lt lt_b104_b133)))).other W826 (Or.inl (Nat.ne_of_lt lt_b104_b118)))).ext E828)).other W840 (Or.inl (Nat.ne_of_lt lt_b104_b828)))).other W845 (Or.inl (Nat.ne_of_lt lt_b104_b828)))).other W850 (Or.inl (Nat.ne_of_lt lt_b104_b828)))).other W855 (Or.inl (Nat.ne_of_lt lt_b104_b828)))).other W860 (Or.inl (Nat.ne_of_lt lt_b104_b828)))).other W865 (Or.inl (Nat.ne_of_lt lt_b104_b828)))
                      obtain ⟨r928, T928, L928, X928, hQ928, st928⟩ := own_callV (W := 0) (a := b35) (C := "com/example/dwellgate/dwellgate/book/PriceTree") X865 hx hZ e865 hown (y := (⟨"com/example/dwellgate/dwellgate/book/PriceTree", "next", "(Lcom/example/dwellgate/dwellgate/book/PriceTree$Node;)Lcom/example/dwellgate/dwellgate/book/PriceTree$Node;"⟩ : MethodName)) (z := (⟨"com/example/dwellgate/dwellgate/book/PriceTree", "next", "(Lcom/example/dwellgate/dwellgate/book/PriceTree$Node;)Lcom/example/dwellgate/dwellgate/book/PriceTree$Node;"⟩ : MethodName)) (hw _ (List.mem_of_getElem? (i := 45) rfl)) (hw _ (List.mem_of_getElem? (i := 46) rfl)) (notFace_of_selects (args := #[]) (mvT hZ (hw _ (List.mem_of_getElem? (i := 48) rfl)))) (hw _ (List.mem_of_getElem? (i := 48) rfl)) (hw _ (List.mem_of_getElem? (i := 47) rfl)) (hw _ (List.mem_of_getElem? (i := 5) rfl)) (hw _ (List.mem_of_getElem? (i := 49) rfl)) (by decide) (f921) (rm6 l Z a0 hw [] b35 b79 b46 b104 b149 h865 n0 Z867 (f923) (f924) (f925) (f926) (f927) ((Nat.ne_of_lt lt_b46_b149))) (by decide) (by decide) (by decide) (by decide) (g := (mkF m 418 A917 [(.ref b79), (.ref b35)])) rfl (by rw [hml]; rfl) (argsL := [(.ref b79)]) (rest := []) rfl (lenOf pd_2 rfl) rfl (by show 2 * 0 + _ ≤ _; exact Nat.le_of_eq rfl) (hb hby at_418)
                      obtain ⟨rfl, N928, e928⟩ := hQ928
                      have N928_ := Fr.app N865 N928
                      refine Go.st (S' := T928.setTop (mkF m 421 A917 [(.ref b104)])) st928 ?_
                      refine Go.st (S' := T928.setTop (mkF m 423 A917 [(.ref b104), (.ref b104)])) (fun t k => XS.aload X928.here hx rfl (hb hby at_421) rfl rfl k) ?_
                      refine Go.st (S' := T928.setTop (mkF m 426 A917 [])) (fun t k => acmp X928 hx rfl rfl rfl (pc0 := 423) (pc' := 426) (same := true) rfl (hb hby at_423) rfl (by simp) (by decide) (by decide) k) ?_
                      refine Go.st (S' := T928.setTop (mkF m 427 A917 [(.int (1 : Int32))])) (fun t k => XS.iconst X928.here hx rfl (hb hby at_426) k) ?_
                      refine Go.st (S' := T928.setTop (mkF m 431 A917 [(.int (1 : Int32))])) (fun t k => XS.goto X928.here hx rfl (pc0 := 427) (pc' := 431) rfl (hb hby at_427) (by decide) (by decide) k) ?_
                      exact Go.ret X928 (v := some (.int (1 : Int32))) (fun h => by rw [Bd.returns] at h; cases h) Bd.notSynchronized (fun fs hr => retN X928 hx (t := .boolean) Bd.returns (by simp) (hb hby at_431) hr) (by decide) (by decide) ⟨rfl, N928_⟩
                    · by_cases hj929 : v873 = (3 : Int32)
                      · obtain ⟨cl930, Ar930, -, S930, N930_, H930, -⟩ := id V865
                        have hin930 : ¬ (v873 < 0 ∨ cl930.slots.size ≤ (v873).toNatClampNeg) := by rw [hj929]; exact inb_of S930 ⟨by decide, by decide⟩
                        have hat930 : cl930.slots[(v873).toNatClampNeg]? = some (.ref b118) := Has.at H930 hin930 (by rw [hj929]; rfl)
                        refine Go.st (S' := T865.setTop (mkF m 405 A872 [(.ref b118)])) (fun t k => X865.aaload hx (j := v873) (v := (.ref b118)) (own_eh e865 Ar930.1) (State.isArrayOf_alike hZ.alike Ar930.2.1) rfl Ar930.2.2 hin930 hat930 (g := (mkF m 404 A872 [(.int v873), (.ref b828)])) rfl rfl (hb hby at_404) t k) ?_
                        refine Go.st (S' := T865.setTop (mkF m 409 A872 [(.ref b118)])) (fun t k => XS.goto X865.here hx rfl (pc0 := 405) (pc' := 409) rfl (hb hby at_405) (by decide) (by decide) k) ?_
                        let A931 : Array Slot := #[.val (.int p0), .val (.int p1), .val (.int r5), .val (.int r11), .val (.int r17), .val (.ref r26), .val (.long r32), .second, .val (.ref b35), .val (.ref b46), .val (.ref b79), .val (.ref b91), .val (.ref b104), .val (.ref b118), .val (.ref b133), .val (.ref b149), .val (.ref b828), .val (.int (6 : Int32)), .val (.int v871), .val (.ref b118)]
                        refine Go.st (S' := T865.setTop (mkF m 411 A931 [])) (fun t k => XS.astore X865.here hx rfl (hb hby at_409) rfl rfl (l' := A931) rfl k) ?_
                        refine Go.st (S' := T865.setTop (mkF m 413 A931 [(.ref b35)])) (fun t k => XS.aload X865.here hx rfl (hb hby at_411) rfl rfl k) ?_
                        refine Go.st (S' := T865.setTop (mkF m 415 A931 [(.ref b828), (.ref b35)])) (fun t k => XS.aload X865.here hx rfl (hb hby at_413) rfl rfl k) ?_
                        refine Go.st (S' := T865.setTop (mkF m 417 A931 [(.int v871), (.ref b828), (.ref b35)])) (fun t k => XS.iload X865.here hx rfl (hb hby at_415) rfl k) ?_
                        have hj933 : v871 = (2 : Int32) := by
                          refine Decidable.byContradiction fun hc934 => ?_
                          have rv870 := rng32 v870
                          have wv870 := c_mask p0 (2147483647 : Int32) 31 (by decide) (by decide)
                          rw [← hv870] at wv870
                          have rv871 := rng32 v871
                          have wv871 := c_irem v870 (6 : Int32) 6 (by decide)
                          rw [← hv871] at wv871
                          have rv873 := rng32 v873
                          have wv873 := c_iadd v871 (1 : Int32)
                          rw [← hv873] at wv873
                          have rp0 := rng32 p0
                          have lI1 : (1 : Int32).toInt = 1 := by decide
                          have lI2 : (2 : Int32).toInt = 2 := by decide
                          have lI3 : (3 : Int32).toInt = 3 := by decide
                          have lI6 : (6 : Int32).toInt = 6 := by decide
                          have lI2147483647 : (2147483647 : Int32).toInt = 2147483647 := by decide
                          simp only [Int32.lt_iff_toInt_lt, Int64.lt_iff_toInt_lt, ← Int32.toInt_inj, ← Int64.toInt_inj] at hc902 hj905 hj915 hj929 hc934
                          omega
                        obtain ⟨cl932, Ar932, -, S932, N932_, H932, -⟩ := id V865
                        have hin932 : ¬ (v871 < 0 ∨ cl932.slots.size ≤ (v871).toNatClampNeg) := by rw [hj933]; exact inb_of S932 ⟨by decide, by decide⟩
                        have hat932 : cl932.slots[(v871).toNatClampNeg]? = some (.ref b104) := Has.at H932 hin932 (by rw [hj933]; rfl)
                        refine Go.st (S' := T865.setTop (mkF m 418 A931 [(.ref b104), (.ref b35)])) (fun t k => X865.aaload hx (j := v871) (v := (.ref b104)) (own_eh e865 Ar932.1) (State.isArrayOf_alike hZ.alike Ar932.2.1) rfl Ar932.2.2 hin932 hat932 (g := (mkF m 417 A931 [(.int v871), (.ref b828), (.ref b35)])) rfl rfl (hb hby at_417) t k) ?_
                        have f935 := ((((((((((((((f829).ext E828)).wr W840)).wr W845)).wr W850)).wr W855)).wr W860)).wr W865)
                        have f944 := ((((((((((((((((((((((((Fw536).other W540 (Or.inl (Nat.ne_of_lt lt_b104_b149)))).other W544 (Or.inl (Nat.ne_of_lt lt_b104_b149)))).other W548 (Or.inl (Nat.ne_of_lt lt_b104_b133)))).other W822 (Or.inl (Nat.ne_of_lt lt_b104_b133)))).other W826 (Or.inl (Nat.ne_of_lt lt_b104_b118)))).ext E828)).other W840 (Or.inl (Nat.ne_of_lt lt_b104_b828)))).other W845 (Or.inl (Nat.ne_of_lt lt_b104_b828)))).other W850 (Or.inl (Nat.ne_of_lt lt_b104_b828)))).other W855 (Or.inl (Nat.ne_of_lt lt_b104_b828)))).other W860 (Or.inl (Nat.ne_of_lt lt_b104_b828)))).other W865 (Or.inl (Nat.ne_of_lt lt_b104_b828)))
                        have f945 := ((((((((((((((((((((Fw544).other W548 (Or.inl (Nat.ne_of_gt lt_b133_b149)))).other W822 (Or.inl (Nat.ne_of_gt lt_b133_b149)))).other W826 (Or.inl (Nat.ne_of_gt lt_b118_b149)))).ext E828)).other W840 (Or.inl (Nat.ne_of_lt lt_b149_b828)))).other W845 (Or.inl (Nat.ne_of_lt lt_b149_b828)))).other W850 (Or.inl (Nat.ne_of_lt lt_b149_b828)))).other W855 (Or.inl (Nat.ne_of_lt lt_b149_b828)))).other W860 (Or.inl (Nat.ne_of_lt lt_b149_b828)))).other W865 (Or.inl (Nat.ne_of_lt lt_b149_b828)))
                        have f946 := ((((((((((((((((Fw822).other W826 (Or.inl (Nat.ne_of_gt lt_b118_b133)))).ext E828)).other W840 (Or.inl (Nat.ne_of_lt lt_b133_b828)))).other W845 (Or.inl (Nat.ne_of_lt lt_b133_b828)))).other W850 (Or.inl (Nat.ne_of_lt lt_b133_b828)))).other W855 (Or.inl (Nat.ne_of_lt lt_b133_b828)))).other W860 (Or.inl (Nat.ne_of_lt lt_b133_b828)))).other W865 (Or.inl (Nat.ne_of_lt lt_b133_b828)))
                        have f947 := ((((((((((((((((((((((((((((((((((((((((((f128).ext E133)).keep K141_ (ninS (Nat.ne_of_lt lt_b118_b133) nin0))).ext E149)).keep K158_ (ninS (Nat.ne_of_lt lt_b118_b149) nin0))).other W168 (Or.inl (Nat.ne_of_gt lt_b104_b118)))).other W172 (Or.inl (Nat.ne_of_gt lt_b46_b118)))).other W176 (Or.inl (Nat.ne_of_gt lt_b46_b118)))).other W180 (Or.inl (Nat.ne_of_gt lt_b79_b118)))).other W536 (Or.inl (Nat.ne_of_gt lt_b104_b118)))).other W540 (Or.inl (Nat.ne_of_lt lt_b118_b149)))).other W544 (Or.inl (Nat.ne_of_lt lt_b118_b149)))).other W548 (Or.inl (Nat.ne_of_lt lt_b118_b133)))).other W822 (Or.inl (Nat.ne_of_lt lt_b118_b133)))).other W826 (Or.inr (slot_ne (Or.inl (hw _ (List.mem_of_getElem? (i := 35) rfl))) (Or.inl (hw _ (List.mem_of_getElem? (i := 38) rfl))) (by decide) (t := (.object "com/example/dwellgate/dwellgate/book/PriceTree$Node")) (t' := (.object "com/example/dwellgate/dwellgate/book/PriceTree$Node")) (by decide) (by decide))))).ext E828)).other W840 (Or.inl (Nat.ne_of_lt lt_b118_b828)))).other W845 (Or.inl (Nat.ne_of_lt lt_b118_b828)))).other W850 (Or.inl (Nat.ne_of_lt lt_b118_b828)))).other W855 (Or.inl (Nat.ne_of_lt lt_b118_b828)))).other W860 (Or.inl (Nat.ne_of_lt lt_b118_b828)))).other W865 (Or.inl (Nat.ne_of_lt lt_b118_b828)))
                        obtain ⟨r948, T948, L948, X948, hQ948, st948⟩ := own_callV (W := 0) (a := b35) (C := "com/example/dwellgate/dwellgate/book/PriceTree") X865 hx hZ e865 hown (y := (⟨"com/example/dwellgate/dwellgate/book/PriceTree", "next", "(Lcom/example/dwellgate/dwellgate/book/PriceTree$Node;)Lcom/example/dwellgate/dwellgate/book/PriceTree$Node;"⟩ : MethodName)) (z := (⟨"com/example/dwellgate/dwellgate/book/PriceTree", "next", "(Lcom/example/dwellgate/dwellgate/book/PriceTree$Node;)Lcom/example/dwellgate/dwellgate/book/PriceTree$Node;"⟩ : MethodName)) (hw _ (List.mem_of_getElem? (i := 45) rfl)) (hw _ (List.mem_of_getElem? (i := 46) rfl)) (notFace_of_selects (args := #[]) (mvT hZ (hw _ (List.mem_of_getElem? (i := 48) rfl)))) (hw _ (List.mem_of_getElem? (i := 48) rfl)) (hw _ (List.mem_of_getElem? (i := 47) rfl)) (hw _ (List.mem_of_getElem? (i := 5) rfl)) (hw _ (List.mem_of_getElem? (i := 49) rfl)) (by decide) (f935) (rm10 l Z a0 hw [] b35 b104 b149 b133 b118 h865 n0 Z867 (f944) (f945) (f946) (f947)) (by decide) (by decide) (by decide) (by decide) (g := (mkF m 418 A931 [(.ref b104), (.ref b35)])) rfl (by rw [hml]; rfl) (argsL := [(.ref b104)]) (rest := []) rfl (lenOf pd_2 rfl) rfl (by show 2 * 0 + _ ≤ _; exact Nat.le_of_eq rfl) (hb hby at_418)
                        obtain ⟨rfl, N948, e948⟩ := hQ948
                        have N948_ := Fr.app N865 N948
                        refine Go.st (S' := T948.setTop (mkF m 421 A931 [(.ref b118)])) st948 ?_
                        refine Go.st (S' := T948.setTop (mkF m 423 A931 [(.ref b118), (.ref b118)])) (fun t k => XS.aload X948.here hx rfl (hb hby at_421) rfl rfl k) ?_
                        refine Go.st (S' := T948.setTop (mkF m 426 A931 [])) (fun t k => acmp X948 hx rfl rfl rfl (pc0 := 423) (pc' := 426) (same := true) rfl (hb hby at_423) rfl (by simp) (by decide) (by decide) k) ?_
                        refine Go.st (S' := T948.setTop (mkF m 427 A931 [(.int (1 : Int32))])) (fun t k => XS.iconst X948.here hx rfl (hb hby at_426) k) ?_
                        refine Go.st (S' := T948.setTop (mkF m 431 A931 [(.int (1 : Int32))])) (fun t k => XS.goto X948.here hx rfl (pc0 := 427) (pc' := 431) rfl (hb hby at_427) (by decide) (by decide) k) ?_
                        exact Go.ret X948 (v := some (.int (1 : Int32))) (fun h => by rw [Bd.returns] at h; cases h) Bd.notSynchronized (fun fs hr => retN X948 hx (t := .boolean) Bd.returns (by simp) (hb hby at_431) hr) (by decide) (by decide) ⟨rfl, N948_⟩
                      · by_cases hj949 : v873 = (4 : Int32)
                        · obtain ⟨cl950, Ar950, -, S950, N950_, H950, -⟩ := id V865
                          have hin950 : ¬ (v873 < 0 ∨ cl950.slots.size ≤ (v873).toNatClampNeg) := by rw [hj949]; exact inb_of S950 ⟨by decide, by decide⟩
                          have hat950 : cl950.slots[(v873).toNatClampNeg]? = some (.ref b133) := Has.at H950 hin950 (by rw [hj949]; rfl)
                          refine Go.st (S' := T865.setTop (mkF m 405 A872 [(.ref b133)])) (fun t k => X865.aaload hx (j := v873) (v := (.ref b133)) (own_eh e865 Ar950.1) (State.isArrayOf_alike hZ.alike Ar950.2.1) rfl Ar950.2.2 hin950 hat950 (g := (mkF m 404 A872 [(.int v873), (.ref b828)])) rfl rfl (hb hby at_404) t k) ?_
                          refine Go.st (S' := T865.setTop (mkF m 409 A872 [(.ref b133)])) (fun t k => XS.goto X865.here hx rfl (pc0 := 405) (pc' := 409) rfl (hb hby at_405) (by decide) (by decide) k) ?_
                          let A951 : Array Slot := #[.val (.int p0), .val (.int p1), .val (.int r5), .val (.int r11), .val (.int r17), .val (.ref r26), .val (.long r32), .second, .val (.ref b35), .val (.ref b46), .val (.ref b79), .val (.ref b91), .val (.ref b104), .val (.ref b118), .val (.ref b133), .val (.ref b149), .val (.ref b828), .val (.int (6 : Int32)), .val (.int v871), .val (.ref b133)]
                          refine Go.st (S' := T865.setTop (mkF m 411 A951 [])) (fun t k => XS.astore X865.here hx rfl (hb hby at_409) rfl rfl (l' := A951) rfl k) ?_
                          refine Go.st (S' := T865.setTop (mkF m 413 A951 [(.ref b35)])) (fun t k => XS.aload X865.here hx rfl (hb hby at_411) rfl rfl k) ?_
                          refine Go.st (S' := T865.setTop (mkF m 415 A951 [(.ref b828), (.ref b35)])) (fun t k => XS.aload X865.here hx rfl (hb hby at_413) rfl rfl k) ?_
                          refine Go.st (S' := T865.setTop (mkF m 417 A951 [(.int v871), (.ref b828), (.ref b35)])) (fun t k => XS.iload X865.here hx rfl (hb hby at_415) rfl k) ?_
                          have hj953 : v871 = (3 : Int32) := by
                            refine Decidable.byContradiction fun hc954 => ?_
                            have rv870 := rng32 v870
                            have wv870 := c_mask p0 (2147483647 : Int32) 31 (by decide) (by decide)
                            rw [← hv870] at wv870
                            have rv871 := rng32 v871
                            have wv871 := c_irem v870 (6 : Int32) 6 (by decide)
                            rw [← hv871] at wv871
                            have rv873 := rng32 v873
                            have wv873 := c_iadd v871 (1 : Int32)
                            rw [← hv873] at wv873
                            have rp0 := rng32 p0
                            have lI1 : (1 : Int32).toInt = 1 := by decide
                            have lI2 : (2 : Int32).toInt = 2 := by decide
                            have lI3 : (3 : Int32).toInt = 3 := by decide
                            have lI4 : (4 : Int32).toInt = 4 := by decide
                            have lI6 : (6 : Int32).toInt = 6 := by decide
                            have lI2147483647 : (2147483647 : Int32).toInt = 2147483647 := by decide
                            simp only [Int32.lt_iff_toInt_lt, Int64.lt_iff_toInt_lt, ← Int32.toInt_inj, ← Int64.toInt_inj] at hc902 hj905 hj915 hj929 hj949 hc954
                            omega
                          obtain ⟨cl952, Ar952, -, S952, N952_, H952, -⟩ := id V865
                          have hin952 : ¬ (v871 < 0 ∨ cl952.slots.size ≤ (v871).toNatClampNeg) := by rw [hj953]; exact inb_of S952 ⟨by decide, by decide⟩
                          have hat952 : cl952.slots[(v871).toNatClampNeg]? = some (.ref b118) := Has.at H952 hin952 (by rw [hj953]; rfl)
                          refine Go.st (S' := T865.setTop (mkF m 418 A951 [(.ref b118), (.ref b35)])) (fun t k => X865.aaload hx (j := v871) (v := (.ref b118)) (own_eh e865 Ar952.1) (State.isArrayOf_alike hZ.alike Ar952.2.1) rfl Ar952.2.2 hin952 hat952 (g := (mkF m 417 A951 [(.int v871), (.ref b828), (.ref b35)])) rfl rfl (hb hby at_417) t k) ?_
                          have f955 := ((((((((((((((f829).ext E828)).wr W840)).wr W845)).wr W850)).wr W855)).wr W860)).wr W865)
                          have f961 := ((((((((((((((((((((((((((((((((((((((((((f130).ext E133)).keep K141_ (ninS (Nat.ne_of_lt lt_b118_b133) nin0))).ext E149)).keep K158_ (ninS (Nat.ne_of_lt lt_b118_b149) nin0))).other W168 (Or.inl (Nat.ne_of_gt lt_b104_b118)))).other W172 (Or.inl (Nat.ne_of_gt lt_b46_b118)))).other W176 (Or.inl (Nat.ne_of_gt lt_b46_b118)))).other W180 (Or.inl (Nat.ne_of_gt lt_b79_b118)))).other W536 (Or.inl (Nat.ne_of_gt lt_b104_b118)))).other W540 (Or.inl (Nat.ne_of_lt lt_b118_b149)))).other W544 (Or.inl (Nat.ne_of_lt lt_b118_b149)))).other W548 (Or.inl (Nat.ne_of_lt lt_b118_b133)))).other W822 (Or.inl (Nat.ne_of_lt lt_b118_b133)))).other W826 (Or.inr (slot_ne (Or.inl (hw _ (List.mem_of_getElem? (i := 41) rfl))) (Or.inl (hw _ (List.mem_of_getElem? (i := 38) rfl))) (by decide) (t := (.object "com/example/dwellgate/dwellgate/book/PriceTree$Node")) (t' := (.object "com/example/dwellgate/dwellgate/book/PriceTree$Node")) (by decide) (by decide))))).ext E828)).other W840 (Or.inl (Nat.ne_of_lt lt_b118_b828)))).other W845 (Or.inl (Nat.ne_of_lt lt_b118_b828)))).other W850 (Or.inl (Nat.ne_of_lt lt_b118_b828)))).other W855 (Or.inl (Nat.ne_of_lt lt_b118_b828)))).other W860 (Or.inl (Nat.ne_of_lt lt_b118_b828)))).other W865 (Or.inl (Nat.ne_of_lt lt_b118_b828)))
                          have f962 := ((((((((((((((Fw826).ext E828)).other W840 (Or.inl (Nat.ne_of_lt lt_b118_b828)))).other W845 (Or.inl (Nat.ne_of_lt lt_b118_b828)))).other W850 (Or.inl (Nat.ne_of_lt lt_b118_b828)))).other W855 (Or.inl (Nat.ne_of_lt lt_b118_b828)))).other W860 (Or.inl (Nat.ne_of_lt lt_b118_b828)))).other W865 (Or.inl (Nat.ne_of_lt lt_b118_b828)))
                          have f963 := ((((((((((((((((((((((((((((((((((((((f146).ext E149)).keep K158_ (ninS (Nat.ne_of_lt lt_b133_b149) nin0))).other W168 (Or.inl (Nat.ne_of_gt lt_b104_b133)))).other W172 (Or.inl (Nat.ne_of_gt lt_b46_b133)))).other W176 (Or.inl (Nat.ne_of_gt lt_b46_b133)))).other W180 (Or.inl (Nat.ne_of_gt lt_b79_b133)))).other W536 (Or.inl (Nat.ne_of_gt lt_b104_b133)))).other W540 (Or.inl (Nat.ne_of_lt lt_b133_b149)))).other W544 (Or.inl (Nat.ne_of_lt lt_b133_b149)))).other W548 (Or.inr (slot_ne (Or.inl (hw _ (List.mem_of_getElem? (i := 41) rfl))) (Or.inl (hw _ (List.mem_of_getElem? (i := 38) rfl))) (by decide) (t := (.object "com/example/dwellgate/dwellgate/book/PriceTree$Node")) (t' := (.object "com/example/dwellgate/dwellgate/book/PriceTree$Node")) (by decide) (by decide))))).other W822 (Or.inr (slot_ne (Or.inl (hw _ (List.mem_of_getElem? (i := 41) rfl))) (Or.inl (hw _ (List.mem_of_getElem? (i := 35) rfl))) (by decide) (t := (.object "com/example/dwellgate/dwellgate/book/PriceTree$Node")) (t' := (.object "com/example/dwellgate/dwellgate/book/PriceTree$Node")) (by decide) (by decide))))).other W826 (Or.inl (Nat.ne_of_gt lt_b118_b133)))).ext E828)).other W840 (Or.inl (Nat.ne_of_lt lt_b133_b828)))).other W845 (Or.inl (Nat.ne_of_lt lt_b133_b828)))).other W850 (Or.inl (Nat.ne_of_lt lt_b133_b828)))).other W855 (Or.inl (Nat.ne_of_lt lt_b133_b828)))).other W860 (Or.inl (Nat.ne_of_lt lt_b133_b828)))).other W865 (Or.inl (Nat.ne_of_lt lt_b133_b828)))
                          obtain ⟨r964, T964, L964, X964, hQ964, st964⟩ := own_callV (W := 0) (a := b35) (C := "com/example/dwellgate/dwellgate/book/PriceTree") X865 hx hZ e865 hown (y := (⟨"com/example/dwellgate/dwellgate/book/PriceTree", "next", "(Lcom/example/dwellgate/dwellgate/book/PriceTree$Node;)Lcom/example/dwellgate/dwellgate/book/PriceTree$Node;"⟩ : MethodName)) (z := (⟨"com/example/dwellgate/dwellgate/book/PriceTree", "next", "(Lcom/example/dwellgate/dwellgate/book/PriceTree$Node;)Lcom/example/dwellgate/dwellgate/book/PriceTree$Node;"⟩ : MethodName)) (hw _ (List.mem_of_getElem? (i := 45) rfl)) (hw _ (List.mem_of_getElem? (i := 46) rfl)) (notFace_of_selects (args := #[]) (mvT hZ (hw _ (List.mem_of_getElem? (i := 48) rfl)))) (hw _ (List.mem_of_getElem? (i := 48) rfl)) (hw _ (List.mem_of_getElem? (i := 47) rfl)) (hw _ (List.mem_of_getElem? (i := 5) rfl)) (hw _ (List.mem_of_getElem? (i := 49) rfl)) (by decide) (f955) (rm8 l Z a0 hw [] b35 b118 b133 h865 n0 Z867 (f961) (f962) (f963)) (by decide) (by decide) (by decide) (by decide) (g := (mkF m 418 A951 [(.ref b118), (.ref b35)])) rfl (by rw [hml]; rfl) (argsL := [(.ref b118)]) (rest := []) rfl (lenOf pd_2 rfl) rfl (by show 2 * 0 + _ ≤ _; exact Nat.le_of_eq rfl) (hb hby at_418)
                          obtain ⟨rfl, N964, e964⟩ := hQ964
                          have N964_ := Fr.app N865 N964
                          refine Go.st (S' := T964.setTop (mkF m 421 A951 [(.ref b133)])) st964 ?_
                          refine Go.st (S' := T964.setTop (mkF m 423 A951 [(.ref b133), (.ref b133)])) (fun t k => XS.aload X964.here hx rfl (hb hby at_421) rfl rfl k) ?_
                          refine Go.st (S' := T964.setTop (mkF m 426 A951 [])) (fun t k => acmp X964 hx rfl rfl rfl (pc0 := 423) (pc' := 426) (same := true) rfl (hb hby at_423) rfl (by simp) (by decide) (by decide) k) ?_
                          refine Go.st (S' := T964.setTop (mkF m 427 A951 [(.int (1 : Int32))])) (fun t k => XS.iconst X964.here hx rfl (hb hby at_426) k) ?_
                          refine Go.st (S' := T964.setTop (mkF m 431 A951 [(.int (1 : Int32))])) (fun t k => XS.goto X964.here hx rfl (pc0 := 427) (pc' := 431) rfl (hb hby at_427) (by decide) (by decide) k) ?_
                          exact Go.ret X964 (v := some (.int (1 : Int32))) (fun h => by rw [Bd.returns] at h; cases h) Bd.notSynchronized (fun fs hr => retN X964 hx (t := .boolean) Bd.returns (by simp) (hb hby at_431) hr) (by decide) (by decide) ⟨rfl, N964_⟩
                        · have hj965 : v873 = (5 : Int32) := by
                            refine Decidable.byContradiction fun hc966 => ?_
                            have rv870 := rng32 v870
                            have wv870 := c_mask p0 (2147483647 : Int32) 31 (by decide) (by decide)
                            rw [← hv870] at wv870
                            have rv871 := rng32 v871
                            have wv871 := c_irem v870 (6 : Int32) 6 (by decide)
                            rw [← hv871] at wv871
                            have rv873 := rng32 v873
                            have wv873 := c_iadd v871 (1 : Int32)
                            rw [← hv873] at wv873
                            have rp0 := rng32 p0
                            have lI1 : (1 : Int32).toInt = 1 := by decide
                            have lI2 : (2 : Int32).toInt = 2 := by decide
                            have lI3 : (3 : Int32).toInt = 3 := by decide
                            have lI4 : (4 : Int32).toInt = 4 := by decide
                            have lI5 : (5 : Int32).toInt = 5 := by decide
                            have lI6 : (6 : Int32).toInt = 6 := by decide
                            have lI2147483647 : (2147483647 : Int32).toInt = 2147483647 := by decide
                            simp only [Int32.lt_iff_toInt_lt, Int64.lt_iff_toInt_lt, ← Int32.toInt_inj, ← Int64.toInt_inj] at hc902 hj905 hj915 hj929 hj949 hc966
                            omega
                          obtain ⟨cl967, Ar967, -, S967, N967_, H967, -⟩ := id V865
                          have hin967 : ¬ (v873 < 0 ∨ cl967.slots.size ≤ (v873).toNatClampNeg) := by rw [hj965]; exact inb_of S967 ⟨by decide, by decide⟩
                          have hat967 : cl967.slots[(v873).toNatClampNeg]? = some (.ref b149) := Has.at H967 hin967 (by rw [hj965]; rfl)
                          refine Go.st (S' := T865.setTop (mkF m 405 A872 [(.ref b149)])) (fun t k => X865.aaload hx (j := v873) (v := (.ref b149)) (own_eh e865 Ar967.1) (State.isArrayOf_alike hZ.alike Ar967.2.1) rfl Ar967.2.2 hin967 hat967 (g := (mkF m 404 A872 [(.int v873), (.ref b828)])) rfl rfl (hb hby at_404) t k) ?_
                          refine Go.st (S' := T865.setTop (mkF m 409 A872 [(.ref b149)])) (fun t k => XS.goto X865.here hx rfl (pc0 := 405) (pc' := 409) rfl (hb hby at_405) (by decide) (by decide) k) ?_
                          let A968 : Array Slot := #[.val (.int p0), .val (.int p1), .val (.int r5), .val (.int r11), .val (.int r17), .val (.ref r26), .val (.long r32), .second, .val (.ref b35), .val (.ref b46), .val (.ref b79), .val (.ref b91), .val (.ref b104), .val (.ref b118), .val (.ref b133), .val (.ref b149), .val (.ref b828), .val (.int (6 : Int32)), .val (.int v871), .val (.ref b149)]
                          refine Go.st (S' := T865.setTop (mkF m 411 A968 [])) (fun t k => XS.astore X865.here hx rfl (hb hby at_409) rfl rfl (l' := A968) rfl k) ?_
                          refine Go.st (S' := T865.setTop (mkF m 413 A968 [(.ref b35)])) (fun t k => XS.aload X865.here hx rfl (hb hby at_411) rfl rfl k) ?_
                          refine Go.st (S' := T865.setTop (mkF m 415 A968 [(.ref b828), (.ref b35)])) (fun t k => XS.aload X865.here hx rfl (hb hby at_413) rfl rfl k) ?_
                          refine Go.st (S' := T865.setTop (mkF m 417 A968 [(.int v871), (.ref b828), (.ref b35)])) (fun t k => XS.iload X865.here hx rfl (hb hby at_415) rfl k) ?_
                          have hj970 : v871 = (4 : Int32) := by
                            refine Decidable.byContradiction fun hc971 => ?_
                            have rv870 := rng32 v870
                            have wv870 := c_mask p0 (2147483647 : Int32) 31 (by decide) (by decide)
                            rw [← hv870] at wv870
                            have rv871 := rng32 v871
                            have wv871 := c_irem v870 (6 : Int32) 6 (by decide)
                            rw [← hv871] at wv871
                            have rv873 := rng32 v873
                            have wv873 := c_iadd v871 (1 : Int32)
                            rw [← hv873] at wv873
                            have rp0 := rng32 p0
                            have lI1 : (1 : Int32).toInt = 1 := by decide
                            have lI2 : (2 : Int32).toInt = 2 := by decide
                            have lI3 : (3 : Int32).toInt = 3 := by decide
                            have lI4 : (4 : Int32).toInt = 4 := by decide
                            have lI5 : (5 : Int32).toInt = 5 := by decide
                            have lI6 : (6 : Int32).toInt = 6 := by decide
                            have lI2147483647 : (2147483647 : Int32).toInt = 2147483647 := by decide
                            simp only [Int32.lt_iff_toInt_lt, Int64.lt_iff_toInt_lt, ← Int32.toInt_inj, ← Int64.toInt_inj] at hc902 hj905 hj915 hj929 hj949 hj965 hc971
                            omega
                          obtain ⟨cl969, Ar969, -, S969, N969_, H969, -⟩ := id V865
                          have hin969 : ¬ (v871 < 0 ∨ cl969.slots.size ≤ (v871).toNatClampNeg) := by rw [hj970]; exact inb_of S969 ⟨by decide, by decide⟩
                          have hat969 : cl969.slots[(v871).toNatClampNeg]? = some (.ref b133) := Has.at H969 hin969 (by rw [hj970]; rfl)
                          refine Go.st (S' := T865.setTop (mkF m 418 A968 [(.ref b133), (.ref b35)])) (fun t k => X865.aaload hx (j := v871) (v := (.ref b133)) (own_eh e865 Ar969.1) (State.isArrayOf_alike hZ.alike Ar969.2.1) rfl Ar969.2.2 hin969 hat969 (g := (mkF m 417 A968 [(.int v871), (.ref b828), (.ref b35)])) rfl rfl (hb hby at_417) t k) ?_
                          have f972 := ((((((((((((((f829).ext E828)).wr W840)).wr W845)).wr W850)).wr W855)).wr W860)).wr W865)
                          have f978 := ((((((((((((((((((((((((((((((((((((((f146).ext E149)).keep K158_ (ninS (Nat.ne_of_lt lt_b133_b149) nin0))).other W168 (Or.inl (Nat.ne_of_gt lt_b104_b133)))).other W172 (Or.inl (Nat.ne_of_gt lt_b46_b133)))).other W176 (Or.inl (Nat.ne_of_gt lt_b46_b133)))).other W180 (Or.inl (Nat.ne_of_gt lt_b79_b133)))).other W536 (Or.inl (Nat.ne_of_gt lt_b104_b133)))).other W540 (Or.inl (Nat.ne_of_lt lt_b133_b149)))).other W544 (Or.inl (Nat.ne_of_lt lt_b133_b149)))).other W548 (Or.inr (slot_ne (Or.inl (hw _ (List.mem_of_getElem? (i := 41) rfl))) (Or.inl (hw _ (List.mem_of_getElem? (i := 38) rfl))) (by decide) (t := (.object "com/example/dwellgate/dwellgate/book/PriceTree$Node")) (t' := (.object "com/example/dwellgate/dwellgate/book/PriceTree$Node")) (by decide) (by decide))))).other W822 (Or.inr (slot_ne (Or.inl (hw _ (List.mem_of_getElem? (i := 41) rfl))) (Or.inl (hw _ (List.mem_of_getElem? (i := 35) rfl))) (by decide) (t := (.object "com/example/dwellgate/dwellgate/book/PriceTree$Node")) (t' := (.object "com/example/dwellgate/dwellgate/book/PriceTree$Node")) (by decide) (by decide))))).other W826 (Or.inl (Nat.ne_of_gt lt_b118_b133)))).ext E828)).other W840 (Or.inl (Nat.ne_of_lt lt_b133_b828)))).other W845 (Or.inl (Nat.ne_of_lt lt_b133_b828)))).other W850 (Or.inl (Nat.ne_of_lt lt_b133_b828)))).other W855 (Or.inl (Nat.ne_of_lt lt_b133_b828)))).other W860 (Or.inl (Nat.ne_of_lt lt_b133_b828)))).other W865 (Or.inl (Nat.ne_of_lt lt_b133_b828)))
                          have f979 := ((((((((((((((((((Fw548).other W822 (Or.inr (slot_ne (Or.inl (hw _ (List.mem_of_getElem? (i := 38) rfl))) (Or.inl (hw _ (List.mem_of_getElem? (i := 35) rfl))) (by decide) (t := (.object "com/example/dwellgate/dwellgate/book/PriceTree$Node")) (t' := (.object "com/example/dwellgate/dwellgate/book/PriceTree$Node")) (by decide) (by decide))))).other W826 (Or.inl (Nat.ne_of_gt lt_b118_b133)))).ext E828)).other W840 (Or.inl (Nat.ne_of_lt lt_b133_b828)))).other W845 (Or.inl (Nat.ne_of_lt lt_b133_b828)))).other W850 (Or.inl (Nat.ne_of_lt lt_b133_b828)))).other W855 (Or.inl (Nat.ne_of_lt lt_b133_b828)))).other W860 (Or.inl (Nat.ne_of_lt lt_b133_b828)))).other W865 (Or.inl (Nat.ne_of_lt lt_b133_b828)))
                          have f980 := ((((((((((((((((((((((((((((((((((f163).other W168 (Or.inl (Nat.ne_of_gt lt_b104_b149)))).other W172 (Or.inl (Nat.ne_of_gt lt_b46_b149)))).other W176 (Or.inl (Nat.ne_of_gt lt_b46_b149)))).other W180 (Or.inl (Nat.ne_of_gt lt_b79_b149)))).other W536 (Or.inl (Nat.ne_of_gt lt_b104_b149)))).other W540 (Or.inr (slot_ne (Or.inl (hw _ (List.mem_of_getElem? (i := 41) rfl))) (Or.inl (hw _ (List.mem_of_getElem? (i := 38) rfl))) (by decide) (t := (.object "com/example/dwellgate/dwellgate/book/PriceTree$Node")) (t' := (.object "com/example/dwellgate/dwellgate/book/PriceTree$Node")) (by decide) (by decide))))).other W544 (Or.inr (slot_ne (Or.inl (hw _ (List.mem_of_getElem? (i := 41) rfl))) (Or.inl (hw _ (List.mem_of_getElem? (i := 35) rfl))) (by decide) (t := (.object "com/example/dwellgate/dwellgate/book/PriceTree$Node")) (t' := (.object "com/example/dwellgate/dwellgate/book/PriceTree$Node")) (by decide) (by decide))))).other W548 (Or.inl (Nat.ne_of_gt lt_b133_b149)))).other W822 (Or.inl (Nat.ne_of_gt lt_b133_b149)))).other W826 (Or.inl (Nat.ne_of_gt lt_b118_b149)))).ext E828)).other W840 (Or.inl (Nat.ne_of_lt lt_b149_b828)))).other W845 (Or.inl (Nat.ne_of_lt lt_b149_b828)))).other W850 (Or.inl (Nat.ne_of_lt lt_b149_b828)))).other W855 (Or.inl (Nat.ne_of_lt lt_b149_b828)))).other W860 (Or.inl (Nat.ne_of_lt lt_b149_b828)))).other W865 (Or.inl (Nat.ne_of_lt lt_b149_b828)))
                          obtain ⟨r981, T981, L981, X981, hQ981, st981⟩ := own_callV (W := 0) (a := b35) (C := "com/example/dwellgate/dwellgate/book/PriceTree") X865 hx hZ e865 hown (y := (⟨"com/example/dwellgate/dwellgate/book/PriceTree", "next", "(Lcom/example/dwellgate/dwellgate/book/PriceTree$Node;)Lcom/example/dwellgate/dwellgate/book/PriceTree$Node;"⟩ : MethodName)) (z := (⟨"com/example/dwellgate/dwellgate/book/PriceTree", "next", "(Lcom/example/dwellgate/dwellgate/book/PriceTree$Node;)Lcom/example/dwellgate/dwellgate/book/PriceTree$Node;"⟩ : MethodName)) (hw _ (List.mem_of_getElem? (i := 45) rfl)) (hw _ (List.mem_of_getElem? (i := 46) rfl)) (notFace_of_selects (args := #[]) (mvT hZ (hw _ (List.mem_of_getElem? (i := 48) rfl)))) (hw _ (List.mem_of_getElem? (i := 48) rfl)) (hw _ (List.mem_of_getElem? (i := 47) rfl)) (hw _ (List.mem_of_getElem? (i := 5) rfl)) (hw _ (List.mem_of_getElem? (i := 49) rfl)) (by decide) (f972) (rm8 l Z a0 hw [] b35 b133 b149 h865 n0 Z867 (f978) (f979) (f980)) (by decide) (by decide) (by decide) (by decide) (g := (mkF m 418 A968 [(.ref b133), (.ref b35)])) rfl (by rw [hml]; rfl) (argsL := [(.ref b133)]) (rest := []) rfl (lenOf pd_2 rfl) rfl (by show 2 * 0 + _ ≤ _; exact Nat.le_of_eq rfl) (hb hby at_418)
                          obtain ⟨rfl, N981, e981⟩ := hQ981
                          have N981_ := Fr.app N865 N981
                          refine Go.st (S' := T981.setTop (mkF m 421 A968 [(.ref b149)])) st981 ?_
                          refine Go.st (S' := T981.setTop (mkF m 423 A968 [(.ref b149), (.ref b149)])) (fun t k => XS.aload X981.here hx rfl (hb hby at_421) rfl rfl k) ?_
                          refine Go.st (S' := T981.setTop (mkF m 426 A968 [])) (fun t k => acmp X981 hx rfl rfl rfl (pc0 := 423) (pc' := 426) (same := true) rfl (hb hby at_423) rfl (by simp) (by decide) (by decide) k) ?_
                          refine Go.st (S' := T981.setTop (mkF m 427 A968 [(.int (1 : Int32))])) (fun t k => XS.iconst X981.here hx rfl (hb hby at_426) k) ?_
                          refine Go.st (S' := T981.setTop (mkF m 431 A968 [(.int (1 : Int32))])) (fun t k => XS.goto X981.here hx rfl (pc0 := 427) (pc' := 431) rfl (hb hby at_427) (by decide) (by decide) k) ?_
                          exact Go.ret X981 (v := some (.int (1 : Int32))) (fun h => by rw [Bd.returns] at h; cases h) Bd.notSynchronized (fun fs hr => retN X981 hx (t := .boolean) Bd.returns (by simp) (hb hby at_431) hr) (by decide) (by decide) ⟨rfl, N981_⟩
                · refine Go.st (S' := T865.setTop (mkF m 408 A872 [])) (fun t k => XS.icmpYes X865.here hx rfl (pc0 := 395) (pc' := 408) rfl (hb hby at_395) rfl (flt hc902).2.1 (by decide) (by decide) k) ?_
                  refine Go.st (S' := T865.setTop (mkF m 409 A872 [.null])) (fun t k => XS.aconstNull X865.here hx rfl (hb hby at_408) k) ?_
                  let A982 : Array Slot := #[.val (.int p0), .val (.int p1), .val (.int r5), .val (.int r11), .val (.int r17), .val (.ref r26), .val (.long r32), .second, .val (.ref b35), .val (.ref b46), .val (.ref b79), .val (.ref b91), .val (.ref b104), .val (.ref b118), .val (.ref b133), .val (.ref b149), .val (.ref b828), .val (.int (6 : Int32)), .val (.int v871), .val .null]
                  refine Go.st (S' := T865.setTop (mkF m 411 A982 [])) (fun t k => XS.astore X865.here hx rfl (hb hby at_409) rfl rfl (l' := A982) rfl k) ?_
                  refine Go.st (S' := T865.setTop (mkF m 413 A982 [(.ref b35)])) (fun t k => XS.aload X865.here hx rfl (hb hby at_411) rfl rfl k) ?_
                  refine Go.st (S' := T865.setTop (mkF m 415 A982 [(.ref b828), (.ref b35)])) (fun t k => XS.aload X865.here hx rfl (hb hby at_413) rfl rfl k) ?_
                  refine Go.st (S' := T865.setTop (mkF m 417 A982 [(.int v871), (.ref b828), (.ref b35)])) (fun t k => XS.iload X865.here hx rfl (hb hby at_415) rfl k) ?_
                  have hj984 : v871 = (5 : Int32) := by
                    refine Decidable.byContradiction fun hc985 => ?_
                    have rv870 := rng32 v870
                    have wv870 := c_mask p0 (2147483647 : Int32) 31 (by decide) (by decide)
                    rw [← hv870] at wv870
                    have rv871 := rng32 v871
                    have wv871 := c_irem v870 (6 : Int32) 6 (by decide)
                    rw [← hv871] at wv871
                    have rv873 := rng32 v873
                    have wv873 := c_iadd v871 (1 : Int32)
                    rw [← hv873] at wv873
                    have rp0 := rng32 p0
                    have lI1 : (1 : Int32).toInt = 1 := by decide
                    have lI5 : (5 : Int32).toInt = 5 := by decide
                    have lI6 : (6 : Int32).toInt = 6 := by decide
                    have lI2147483647 : (2147483647 : Int32).toInt = 2147483647 := by decide
                    simp only [Int32.lt_iff_toInt_lt, Int64.lt_iff_toInt_lt, ← Int32.toInt_inj, ← Int64.toInt_inj] at hc902 hc985
                    omega
                  obtain ⟨cl983, Ar983, -, S983, N983_, H983, -⟩ := id V865
                  have hin983 : ¬ (v871 < 0 ∨ cl983.slots.size ≤ (v871).toNatClampNeg) := by rw [hj984]; exact inb_of S983 ⟨by decide, by decide⟩
                  have hat983 : cl983.slots[(v871).toNatClampNeg]? = some (.ref b149) := Has.at H983 hin983 (by rw [hj984]; rfl)
                  refine Go.st (S' := T865.setTop (mkF m 418 A982 [(.ref b149), (.ref b35)])) (fun t k => X865.aaload hx (j := v871) (v := (.ref b149)) (own_eh e865 Ar983.1) (State.isArrayOf_alike hZ.alike Ar983.2.1) rfl Ar983.2.2 hin983 hat983 (g := (mkF m 417 A982 [(.int v871), (.ref b828), (.ref b35)])) rfl rfl (hb hby at_417) t k) ?_
                  have f986 := ((((((((((((((f829).ext E828)).wr W840)).wr W845)).wr W850)).wr W855)).wr W860)).wr W865)
                  have f996 := ((((((((((((((((((((((((((((((((((f163).other W168 (Or.inl (Nat.ne_of_gt lt_b104_b149)))).other W172 (Or.inl (Nat.ne_of_gt lt_b46_b149)))).other W176 (Or.inl (Nat.ne_of_gt lt_b46_b149)))).other W180 (Or.inl (Nat.ne_of_gt lt_b79_b149)))).other W536 (Or.inl (Nat.ne_of_gt lt_b104_b149)))).other W540 (Or.inr (slot_ne (Or.inl (hw _ (List.mem_of_getElem? (i := 41) rfl))) (Or.inl (hw _ (List.mem_of_getElem? (i := 38) rfl))) (by decide) (t := (.object "com/example/dwellgate/dwellgate/book/PriceTree$Node")) (t' := (.object "com/example/dwellgate/dwellgate/book/PriceTree$Node")) (by decide) (by decide))))).other W544 (Or.inr (slot_ne (Or.inl (hw _ (List.mem_of_getElem? (i := 41) rfl))) (Or.inl (hw _ (List.mem_of_getElem? (i := 35) rfl))) (by decide) (t := (.object "com/example/dwellgate/dwellgate/book/PriceTree$Node")) (t' := (.object "com/example/dwellgate/dwellgate/book/PriceTree$Node")) (by decide) (by decide))))).other W548 (Or.inl (Nat.ne_of_gt lt_b133_b149)))).other W822 (Or.inl (Nat.ne_of_gt lt_b133_b149)))).other W826 (Or.inl (Nat.ne_of_gt lt_b118_b149)))).ext E828)).other W840 (Or.inl (Nat.ne_of_lt lt_b149_b828)))).other W845 (Or.inl (Nat.ne_of_lt lt_b149_b828)))).other W850 (Or.inl (Nat.ne_of_lt lt_b149_b828)))).other W855 (Or.inl (Nat.ne_of_lt lt_b149_b828)))).other W860 (Or.inl (Nat.ne_of_lt lt_b149_b828)))).other W865 (Or.inl (Nat.ne_of_lt lt_b149_b828)))
                  have f997 := ((((((((((((((((((((((Fw540).other W544 (Or.inr (slot_ne (Or.inl (hw _ (List.mem_of_getElem? (i := 38) rfl))) (Or.inl (hw _ (List.mem_of_getElem? (i := 35) rfl))) (by decide) (t := (.object "com/example/dwellgate/dwellgate/book/PriceTree$Node")) (t' := (.object "com/example/dwellgate/dwellgate/book/PriceTree$Node")) (by decide) (by decide))))).other W548 (Or.inl (Nat.ne_of_gt lt_b133_b149)))).other W822 (Or.inl (Nat.ne_of_gt lt_b133_b149)))).other W826 (Or.inl (Nat.ne_of_gt lt_b118_b149)))).ext E828)).other W840 (Or.inl (Nat.ne_of_lt lt_b149_b828)))).other W845 (Or.inl (Nat.ne_of_lt lt_b149_b828)))).other W850 (Or.inl (Nat.ne_of_lt lt_b149_b828)))).other W855 (Or.inl (Nat.ne_of_lt lt_b149_b828)))).other W860 (Or.inl (Nat.ne_of_lt lt_b149_b828)))).other W865 (Or.inl (Nat.ne_of_lt lt_b149_b828)))
                  have f998 := ((((((((((((((((((((((((Fw536).other W540 (Or.inl (Nat.ne_of_lt lt_b104_b149)))).other W544 (Or.inl (Nat.ne_of_lt lt_b104_b149)))).other W548 (Or.inl (Nat.ne_of_lt lt_b104_b133)))).other W822 (Or.inl (Nat.ne_of_lt lt_b104_b133)))).other W826 (Or.inl (Nat.ne_of_lt lt_b104_b118)))).ext E828)).other W840 (Or.inl (Nat.ne_of_lt lt_b104_b828)))).other W845 (Or.inl (Nat.ne_of_lt lt_b104_b828)))).other W850 (Or.inl (Nat.ne_of_lt lt_b104_b828)))).other W855 (Or.inl (Nat.ne_of_lt lt_b104_b828)))).other W860 (Or.inl (Nat.ne_of_lt lt_b104_b828)))).other W865 (Or.inl (Nat.ne_of_lt lt_b104_b828)))
                  have f999 := ((((((((((((((((((((((((((((((((((((((((((((((f114).ext E118)).keep K125_ (ninS (Nat.ne_of_lt lt_b104_b118) nin0))).ext E133)).keep K141_ (ninS (Nat.ne_of_lt lt_b104_b133) nin0))).ext E149)).keep K158_ (ninS (Nat.ne_of_lt lt_b104_b149) nin0))).other W168 (Or.inr (slot_ne (Or.inl (hw _ (List.mem_of_getElem? (i := 38) rfl))) (Or.inl (hw _ (List.mem_of_getElem? (i := 35) rfl))) (by decide) (t := (.object "com/example/dwellgate/dwellgate/book/PriceTree$Node")) (t' := (.object "com/example/dwellgate/dwellgate/book/PriceTree$Node")) (by decide) (by decide))))).other W172 (Or.inl (Nat.ne_of_gt lt_b46_b104)))).other W176 (Or.inl (Nat.ne_of_gt lt_b46_b104)))).other W180 (Or.inl (Nat.ne_of_gt lt_b79_b104)))).other W536 (Or.inr (slot_ne (Or.inl (hw _ (List.mem_of_getElem? (i := 38) rfl))) (Or.inl (hw _ (List.mem_of_getElem? (i := 41) rfl))) (by decide) (t := (.object "com/example/dwellgate/dwellgate/book/PriceTree$Node")) (t' := (.object "com/example/dwellgate/dwellgate/book/PriceTree$Node")) (by decide) (by decide))))).other W540 (Or.inl (Nat.ne_of_lt lt_b104_b149)))).other W544 (Or.inl (Nat.ne_of_lt lt_b104_b149)))).other W548 (Or.inl (Nat.ne_of_lt lt_b104_b133)))).other W822 (Or.inl (Nat.ne_of_lt lt_b104_b133)))).other W826 (Or.inl (Nat.ne_of_lt lt_b104_b118)))).ext E828)).other W840 (Or.inl (Nat.ne_of_lt lt_b104_b828)))).other W845 (Or.inl (Nat.ne_of_lt lt_b104_b828)))).other W850 (Or.inl (Nat.ne_of_lt lt_b104_b828)))).other W855 (Or.inl (Nat.ne_of_lt lt_b104_b828)))).other W860 (Or.inl (Nat.ne_of_lt lt_b104_b828)))).other W865 (Or.inl (Nat.ne_of_lt lt_b104_b828)))
                  obtain ⟨r1000, T1000, L1000, X1000, hQ1000, st1000⟩ := own_callV (W := 0) (a := b35) (C := "com/example/dwellgate/dwellgate/book/PriceTree") X865 hx hZ e865 hown (y := (⟨"com/example/dwellgate/dwellgate/book/PriceTree", "next", "(Lcom/example/dwellgate/dwellgate/book/PriceTree$Node;)Lcom/example/dwellgate/dwellgate/book/PriceTree$Node;"⟩ : MethodName)) (z := (⟨"com/example/dwellgate/dwellgate/book/PriceTree", "next", "(Lcom/example/dwellgate/dwellgate/book/PriceTree$Node;)Lcom/example/dwellgate/dwellgate/book/PriceTree$Node;"⟩ : MethodName)) (hw _ (List.mem_of_getElem? (i := 45) rfl)) (hw _ (List.mem_of_getElem? (i := 46) rfl)) (notFace_of_selects (args := #[]) (mvT hZ (hw _ (List.mem_of_getElem? (i := 48) rfl)))) (hw _ (List.mem_of_getElem? (i := 48) rfl)) (hw _ (List.mem_of_getElem? (i := 47) rfl)) (hw _ (List.mem_of_getElem? (i := 5) rfl)) (hw _ (List.mem_of_getElem? (i := 49) rfl)) (by decide) (f986) (rm9 l Z a0 hw [] b35 b149 b104 h865 n0 Z867 (f996) (f997) (f998) (f999)) (by decide) (by decide) (by decide) (by decide) (g := (mkF m 418 A982 [(.ref b149), (.ref b35)])) rfl (by rw [hml]; rfl) (argsL := [(.ref b149)]) (rest := []) rfl (lenOf pd_2 rfl) rfl (by show 2 * 0 + _ ≤ _; exact Nat.le_of_eq rfl) (hb hby at_418)
                  obtain ⟨rfl, N1000, e1000⟩ := hQ1000
                  have N1000_ := Fr.app N865 N1000
                  refine Go.st (S' := T1000.setTop (mkF m 421 A982 [.null])) st1000 ?_
                  refine Go.st (S' := T1000.setTop (mkF m 423 A982 [.null, .null])) (fun t k => XS.aload X1000.here hx rfl (hb hby at_421) rfl rfl k) ?_
                  refine Go.st (S' := T1000.setTop (mkF m 426 A982 [])) (fun t k => acmp X1000 hx rfl rfl rfl (pc0 := 423) (pc' := 426) (same := true) rfl (hb hby at_423) rfl (by simp) (by decide) (by decide) k) ?_
                  refine Go.st (S' := T1000.setTop (mkF m 427 A982 [(.int (1 : Int32))])) (fun t k => XS.iconst X1000.here hx rfl (hb hby at_426) k) ?_
                  refine Go.st (S' := T1000.setTop (mkF m 431 A982 [(.int (1 : Int32))])) (fun t k => XS.goto X1000.here hx rfl (pc0 := 427) (pc' := 431) rfl (hb hby at_427) (by decide) (by decide) k) ?_
                  exact Go.ret X1000 (v := some (.int (1 : Int32))) (fun h => by rw [Bd.returns] at h; cases h) Bd.notSynchronized (fun fs hr => retN X1000 hx (t := .boolean) Bd.returns (by simp) (hb hby at_431) hr) (by decide) (by decide) ⟨rfl, N1000_⟩
            · refine Go.st (S' := T180.setTop (mkF m 211 A165 [])) (fun t k => XS.ifNo X180.here hx rfl (hb hby at_208) rfl ((if0 _ _).trans (feq hc533).1) k) ?_
              refine Go.st (S' := T180.setTop (mkF m 213 A165 [(.ref b79)])) (fun t k => XS.aload X180.here hx rfl (hb hby at_211) rfl rfl k) ?_
              refine Go.st (S' := T180.setTop (mkF m 215 A165 [(.ref b91), (.ref b79)])) (fun t k => XS.aload X180.here hx rfl (hb hby at_213) rfl rfl k) ?_
              have f1001 := ((f178).wr W180)
              have f1002 := ((((((((((((((((((((((((((((f88).ext E91)).keep K96_ (ninS (Nat.ne_of_lt lt_b79_b91) nin0))).ext E104)).keep K110_ (ninS (Nat.ne_of_lt lt_b79_b104) nin0))).ext E118)).keep K125_ (ninS (Nat.ne_of_lt lt_b79_b118) nin0))).ext E133)).keep K141_ (ninS (Nat.ne_of_lt lt_b79_b133) nin0))).ext E149)).keep K158_ (ninS (Nat.ne_of_lt lt_b79_b149) nin0))).other W168 (Or.inl (Nat.ne_of_lt lt_b79_b104)))).other W172 (Or.inl (Nat.ne_of_gt lt_b46_b79)))).other W176 (Or.inl (Nat.ne_of_gt lt_b46_b79)))).other W180 (Or.inr (slot_ne (Or.inl (hw _ (List.mem_of_getElem? (i := 41) rfl))) (Or.inl (hw _ (List.mem_of_getElem? (i := 38) rfl))) (by decide) (t := (.object "com/example/dwellgate/dwellgate/book/PriceTree$Node")) (t' := (.object "com/example/dwellgate/dwellgate/book/PriceTree$Node")) (by decide) (by decide))))
              obtain ⟨T1003, h1003, X1003, e1003, W1003, st1003⟩ := putF X180 hx hZ hown (host := "") (Or.inl (hw _ (List.mem_of_getElem? (i := 39) rfl))) (Via.of (hw _ (List.mem_of_getElem? (i := 40) rfl))) e180 f1002 f1001 (Or.inl (hw _ (List.mem_of_getElem? (i := 41) rfl))) (hw _ (List.mem_of_getElem? (i := 15) rfl)) (ty := (.object "com/example/dwellgate/dwellgate/book/PriceTree$Node")) (by decide) rfl rfl (g := (mkF m 215 A165 [(.ref b91), (.ref b79)])) rfl rfl (hb hby at_215)
              have Fw1003 := (f1002).same W1003
              have N1003 := Fr.snoc X1003 N180 g_b79
              have Z1004 : n0 ≤ h1003.size := Nat.le_trans Z181 (Keep.of_wr W1003).1
              have K1004 : Keep h0 h1003 [] := K181.wr W1003 (Or.inr sz_b79)
              refine Go.st (S' := T1003.setTop (mkF m 218 A165 [])) st1003 ?_
              refine Go.st (S' := T1003.setTop (mkF m 220 A165 [(.ref b91)])) (fun t k => XS.aload X1003.here hx rfl (hb hby at_218) rfl rfl k) ?_
              refine Go.st (S' := T1003.setTop (mkF m 222 A165 [(.ref b79), (.ref b91)])) (fun t k => XS.aload X1003.here hx rfl (hb hby at_220) rfl rfl k) ?_
              have f1005 := ((((((((((((((f153).ext E149)).keep K158_)).wr W168)).wr W172)).wr W176)).wr W180)).wr W1003)
              have f1006 := ((((((((((((((((((((((((((f100).ext E104)).keep K110_ (ninS (Nat.ne_of_lt lt_b91_b104) nin0))).ext E118)).keep K125_ (ninS (Nat.ne_of_lt lt_b91_b118) nin0))).ext E133)).keep K141_ (ninS (Nat.ne_of_lt lt_b91_b133) nin0))).ext E149)).keep K158_ (ninS (Nat.ne_of_lt lt_b91_b149) nin0))).other W168 (Or.inl (Nat.ne_of_lt lt_b91_b104)))).other W172 (Or.inl (Nat.ne_of_gt lt_b46_b91)))).other W176 (Or.inl (Nat.ne_of_gt lt_b46_b91)))).other W180 (Or.inl (Nat.ne_of_gt lt_b79_b91)))).other W1003 (Or.inl (Nat.ne_of_gt lt_b79_b91)))
              obtain ⟨T1007, h1007, X1007, e1007, W1007, st1007⟩ := putF X1003 hx hZ hown (host := "") (Or.inl (hw _ (List.mem_of_getElem? (i := 36) rfl))) (Via.of (hw _ (List.mem_of_getElem? (i := 37) rfl))) e1003 f1006 f1005 (Or.inl (hw _ (List.mem_of_getElem? (i := 38) rfl))) (hw _ (List.mem_of_getElem? (i := 15) rfl)) (ty := (.object "com/example/dwellgate/dwellgate/book/PriceTree$Node")) (by decide) rfl rfl (g := (mkF m 222 A165 [(.ref b79), (.ref b91)])) rfl rfl (hb hby at_222)
              have Fw1007 := (f1006).same W1007
              have N1007 := Fr.snoc X1007 N1003 g_b91
              have Z1008 : n0 ≤ h1007.size := Nat.le_trans Z1004 (Keep.of_wr W1007).1
              have K1008 : Keep h0 h1007 [] := K1004.wr W1007 (Or.inr sz_b91)
              refine Go.st (S' := T1007.setTop (mkF m 225 A165 [])) st1007 ?_
              refine Go.st (S' := T1007.setTop (mkF m 227 A165 [(.ref b104)])) (fun t k => XS.aload X1007.here hx rfl (hb hby at_225) rfl rfl k) ?_
              refine Go.st (S' := T1007.setTop (mkF m 229 A165 [(.ref b149), (.ref b104)])) (fun t k => XS.aload X1007.here hx rfl (hb hby at_227) rfl rfl k) ?_
              have f1009 := ((((((((((((f166).wr W168)).wr W172)).wr W176)).wr W180)).wr W1003)).wr W1007)
              have f1010 := ((((((((((((((((((((((((f115).ext E118)).keep K125_ (ninS (Nat.ne_of_lt lt_b104_b118) nin0))).ext E133)).keep K141_ (ninS (Nat.ne_of_lt lt_b104_b133) nin0))).ext E149)).keep K158_ (ninS (Nat.ne_of_lt lt_b104_b149) nin0))).other W168 (Or.inr (slot_ne (Or.inl (hw _ (List.mem_of_getElem? (i := 41) rfl))) (Or.inl (hw _ (List.mem_of_getElem? (i := 35) rfl))) (by decide) (t := (.object "com/example/dwellgate/dwellgate/book/PriceTree$Node")) (t' := (.object "com/example/dwellgate/dwellgate/book/PriceTree$Node")) (by decide) (by decide))))).other W172 (Or.inl (Nat.ne_of_gt lt_b46_b104)))).other W176 (Or.inl (Nat.ne_of_gt lt_b46_b104)))).other W180 (Or.inl (Nat.ne_of_gt lt_b79_b104)))).other W1003 (Or.inl (Nat.ne_of_gt lt_b79_b104)))).other W1007 (Or.inl (Nat.ne_of_gt lt_b91_b104)))
              obtain ⟨T1011, h1011, X1011, e1011, W1011, st1011⟩ := putF X1007 hx hZ hown (host := "") (Or.inl (hw _ (List.mem_of_getElem? (i := 39) rfl))) (Via.of (hw _ (List.mem_of_getElem? (i := 40) rfl))) e1007 f1010 f1009 (Or.inl (hw _ (List.mem_of_getElem? (i := 41) rfl))) (hw _ (List.mem_of_getElem? (i := 15) rfl)) (ty := (.object "com/example/dwellgate/dwellgate/book/PriceTree$Node")) (by decide) rfl rfl (g := (mkF m 229 A165 [(.ref b149), (.ref b104)])) rfl rfl (hb hby at_229)
              have Fw1011 := (f1010).same W1011
              have N1011 := Fr.snoc X1011 N1007 g_b104
              have Z1012 : n0 ≤ h1011.size := Nat.le_trans Z1008 (Keep.of_wr W1011).1
              have K1012 : Keep h0 h1011 [] := K1008.wr W1011 (Or.inr sz_b104)
              refine Go.st (S' := T1011.setTop (mkF m 232 A165 [])) st1011 ?_
              refine Go.st (S' := T1011.setTop (mkF m 234 A165 [(.ref b149)])) (fun t k => XS.aload X1011.here hx rfl (hb hby at_232) rfl rfl k) ?_
              refine Go.st (S' := T1011.setTop (mkF m 236 A165 [(.ref b104), (.ref b149)])) (fun t k => XS.aload X1011.here hx rfl (hb hby at_234) rfl rfl k) ?_
              have f1013 := ((((((((((((((f159).wr W168)).wr W172)).wr W176)).wr W180)).wr W1003)).wr W1007)).wr W1011)
              have f1014 := ((((((((((((((f162).other W168 (Or.inl (Nat.ne_of_gt lt_b104_b149)))).other W172 (Or.inl (Nat.ne_of_gt lt_b46_b149)))).other W176 (Or.inl (Nat.ne_of_gt lt_b46_b149)))).other W180 (Or.inl (Nat.ne_of_gt lt_b79_b149)))).other W1003 (Or.inl (Nat.ne_of_gt lt_b79_b149)))).other W1007 (Or.inl (Nat.ne_of_gt lt_b91_b149)))).other W1011 (Or.inl (Nat.ne_of_gt lt_b104_b149)))
              obtain ⟨T1015, h1015, X1015, e1015, W1015, st1015⟩ := putF X1011 hx hZ hown (host := "") (Or.inl (hw _ (List.mem_of_getElem? (i := 36) rfl))) (Via.of (hw _ (List.mem_of_getElem? (i := 37) rfl))) e1011 f1014 f1013 (Or.inl (hw _ (List.mem_of_getElem? (i := 38) rfl))) (hw _ (List.mem_of_getElem? (i := 15) rfl)) (ty := (.object "com/example/dwellgate/dwellgate/book/PriceTree$Node")) (by decide) rfl rfl (g := (mkF m 236 A165 [(.ref b104), (.ref b149)])) rfl rfl (hb hby at_236)
              have Fw1015 := (f1014).same W1015
              have N1015 := Fr.snoc X1015 N1011 g_b149
              have Z1016 : n0 ≤ h1015.size := Nat.le_trans Z1012 (Keep.of_wr W1015).1
              have K1016 : Keep h0 h1015 [] := K1012.wr W1015 (Or.inr sz_b149)
              refine Go.st (S' := T1015.setTop (mkF m 239 A165 [])) st1015 ?_
              refine Go.st (S' := T1015.setTop (mkF m 241 A165 [(.ref b149)])) (fun t k => XS.aload X1015.here hx rfl (hb hby at_239) rfl rfl k) ?_
              refine Go.st (S' := T1015.setTop (mkF m 243 A165 [(.ref b133), (.ref b149)])) (fun t k => XS.aload X1015.here hx rfl (hb hby at_241) rfl rfl k) ?_
              have f1017 := ((f1013).wr W1015)
              have f1018 := ((((((((((((((((f161).other W168 (Or.inl (Nat.ne_of_gt lt_b104_b149)))).other W172 (Or.inl (Nat.ne_of_gt lt_b46_b149)))).other W176 (Or.inl (Nat.ne_of_gt lt_b46_b149)))).other W180 (Or.inl (Nat.ne_of_gt lt_b79_b149)))).other W1003 (Or.inl (Nat.ne_of_gt lt_b79_b149)))).other W1007 (Or.inl (Nat.ne_of_gt lt_b91_b149)))).other W1011 (Or.inl (Nat.ne_of_gt lt_b104_b149)))).other W1015 (Or.inr (slot_ne (Or.inl (hw _ (List.mem_of_getElem? (i := 35) rfl))) (Or.inl (hw _ (List.mem_of_getElem? (i := 38) rfl))) (by decide) (t := (.object "com/example/dwellgate/dwellgate/book/PriceTree$Node")) (t' := (.object "com/example/dwellgate/dwellgate/book/PriceTree$Node")) (by decide) (by decide))))
              obtain ⟨T1019, h1019, X1019, e1019, W1019, st1019⟩ := putF X1015 hx hZ hown (host := "") (Or.inl (hw _ (List.mem_of_getElem? (i := 33) rfl))) (Via.of (hw _ (List.mem_of_getElem? (i := 34) rfl))) e1015 f1018 f1017 (Or.inl (hw _ (List.mem_of_getElem? (i := 35) rfl))) (hw _ (List.mem_of_getElem? (i := 15) rfl)) (ty := (.object "com/example/dwellgate/dwellgate/book/PriceTree$Node")) (by decide) rfl rfl (g := (mkF m 243 A165 [(.ref b133), (.ref b149)])) rfl rfl (hb hby at_243)
              have Fw1019 := (f1018).same W1019
              have N1019 := Fr.snoc X1019 N1015 g_b149
              have Z1020 : n0 ≤ h1019.size := Nat.le_trans Z1016 (Keep.of_wr W1019).1
              have K1020 : Keep h0 h1019 [] := K1016.wr W1019 (Or.inr sz_b149)
              refine Go.st (S' := T1019.setTop (mkF m 246 A165 [])) st1019 ?_
              refine Go.st (S' := T1019.setTop (mkF m 248 A165 [(.ref b133)])) (fun t k => XS.aload X1019.here hx rfl (hb hby at_246) rfl rfl k) ?_
              refine Go.st (S' := T1019.setTop (mkF m 250 A165 [(.ref b149), (.ref b133)])) (fun t k => XS.aload X1019.here hx rfl (hb hby at_248) rfl rfl k) ?_
              have f1021 := ((((((((((((((((((((((f142).ext E149)).keep K158_)).wr W168)).wr W172)).wr W176)).wr W180)).wr W1003)).wr W1007)).wr W1011)).wr W1015)).wr W1019)
              have f1022 := ((((((((((((((((((((((f145).ext E149)).keep K158_ (ninS (Nat.ne_of_lt lt_b133_b149) nin0))).other W168 (Or.inl (Nat.ne_of_gt lt_b104_b133)))).other W172 (Or.inl (Nat.ne_of_gt lt_b46_b133)))).other W176 (Or.inl (Nat.ne_of_gt lt_b46_b133)))).other W180 (Or.inl (Nat.ne_of_gt lt_b79_b133)))).other W1003 (Or.inl (Nat.ne_of_gt lt_b79_b133)))).other W1007 (Or.inl (Nat.ne_of_gt lt_b91_b133)))).other W1011 (Or.inl (Nat.ne_of_gt lt_b104_b133)))).other W1015 (Or.inl (Nat.ne_of_lt lt_b133_b149)))).other W1019 (Or.inl (Nat.ne_of_lt lt_b133_b149)))
              obtain ⟨T1023, h1023, X1023, e1023, W1023, st1023⟩ := putF X1019 hx hZ hown (host := "") (Or.inl (hw _ (List.mem_of_getElem? (i := 36) rfl))) (Via.of (hw _ (List.mem_of_getElem? (i := 37) rfl))) e1019 f1022 f1021 (Or.inl (hw _ (List.mem_of_getElem? (i := 38) rfl))) (hw _ (List.mem_of_getElem? (i := 15) rfl)) (ty := (.object "com/example/dwellgate/dwellgate/book/PriceTree$Node")) (by decide) rfl rfl (g := (mkF m 250 A165 [(.ref b149), (.ref b133)])) rfl rfl (hb hby at_250)
              have Fw1023 := (f1022).same W1023
              have N1023 := Fr.snoc X1023 N1019 g_b133
              have Z1024 : n0 ≤ h1023.size := Nat.le_trans Z1020 (Keep.of_wr W1023).1
              have K1024 : Keep h0 h1023 [] := K1020.wr W1023 (Or.inr sz_b133)
              refine Go.st (S' := T1023.setTop (mkF m 253 A165 [])) st1023 ?_
              refine Go.st (S' := T1023.setTop (mkF m 254 A165 [(.int r5)])) (fun t k => XS.iloadN X1023.here hx rfl (hb hby at_253) rfl k) ?_
              by_cases hc1202 : (r5 = (0 : Int32))
              · refine Go.st (S' := T1023.setTop (mkF m 271 A165 [])) (fun t k => XS.ifYes X1023.here hx rfl (pc0 := 254) (pc' := 271) rfl (hb hby at_254) rfl ((if0 _ _).trans (teq hc1202).1) (by decide) (by decide) k) ?_
                refine Go.st (S' := T1023.setTop (mkF m 273 A165 [(.int (7 : Int32))])) (fun t k => XS.bipush X1023.here hx rfl (hb hby at_271) k) ?_
                obtain ⟨T1203, h1203, k1203, X1203, e1203, E1203, A1203, B1203, O1203, st1203⟩ := newRE X1023 hx hZ hown (hw _ (List.mem_of_getElem? (i := 14) rfl)) (hw _ (List.mem_of_getElem? (i := 42) rfl)) e1023 (g := (mkF m 273 A165 [(.int (7 : Int32))])) rfl (hb hby at_273) rfl (by decide) (cap := 7) (by decide) (by decide) (by decide) (by decide) (ad := "[Lcom/example/dwellgate/dwellgate/book/PriceTreeNextPinLaw;") (by decide)
                obtain ⟨b1203, gg1203⟩ : ∃ z, z = h1023.size := ⟨_, rfl⟩
                rw [← gg1203] at A1203 B1203 st1203
                have g_b1203 : n0 ≤ b1203 := Nat.le_trans Z1024 (Nat.le_of_eq gg1203.symm)
                have sz_b1203 : h0.size ≤ b1203 := Nat.le_trans K1024.1 (Nat.le_of_eq gg1203.symm)
                have f1204 := ((((((((((((((((((((((((f150).ext E149)).keep K158_)).wr W168)).wr W172)).wr W176)).wr W180)).wr W1003)).wr W1007)).wr W1011)).wr W1015)).wr W1019)).wr W1023)
                have lt_b35_b1203 : b35 < b1203 := Nat.lt_of_lt_of_le (f1204).lt (Nat.le_of_eq gg1203.symm)
                have f1205 := ((((((((((((((((f174).wr W176)).wr W180)).wr W1003)).wr W1007)).wr W1011)).wr W1015)).wr W1019)).wr W1023)
                have lt_b46_b1203 : b46 < b1203 := Nat.lt_of_lt_of_le (f1205).lt (Nat.le_of_eq gg1203.symm)
                have f1206 := ((((((((((((f1001).wr W1003)).wr W1007)).wr W1011)).wr W1015)).wr W1019)).wr W1023)
                have lt_b79_b1203 : b79 < b1203 := Nat.lt_of_lt_of_le (f1206).lt (Nat.le_of_eq gg1203.symm)
                have f1207 := ((((((((((f1005).wr W1007)).wr W1011)).wr W1015)).wr W1019)).wr W1023)
                have lt_b91_b1203 : b91 < b1203 := Nat.lt_of_lt_of_le (f1207).lt (Nat.le_of_eq gg1203.symm)
                have f1208 := ((((((((f1009).wr W1011)).wr W1015)).wr W1019)).wr W1023)
                have lt_b104_b1203 : b104 < b1203 := Nat.lt_of_lt_of_le (f1208).lt (Nat.le_of_eq gg1203.symm)
                have f1209 := ((((((((((((((((((((((((f155).ext E149)).keep K158_)).wr W168)).wr W172)).wr W176)).wr W180)).wr W1003)).wr W1007)).wr W1011)).wr W1015)).wr W1019)).wr W1023)
                have lt_b118_b1203 : b118 < b1203 := Nat.lt_of_lt_of_le (f1209).lt (Nat.le_of_eq gg1203.symm)
                have f1210 := ((f1021).wr W1023)
                have lt_b133_b1203 : b133 < b1203 := Nat.lt_of_lt_of_le (f1210).lt (Nat.le_of_eq gg1203.symm)
                have f1211 := ((((f1017).wr W1019)).wr W1023)
                have lt_b149_b1203 : b149 < b1203 := Nat.lt_of_lt_of_le (f1211).lt (Nat.le_of_eq gg1203.symm)
                have Z1212 : n0 ≤ h1203.size := Nat.le_trans Z1024 E1203.1
                have K1212 : Keep h0 h1203 [] := K1024.ext E1203
                have V1203 : Arv Z h1203 b1203 k1203 (.object "com/example/dwellgate/dwellgate/book/PriceTreeNextPinLaw") (7 : Int32) [.null, .null, .null, .null, .null, .null, .null] .null := (Arv.new A1203 (by decide)).pad (pad_rep [] .null 7)
                refine Go.st (S' := T1203.setTop (mkF m 276 A165 [(.ref b1203)])) st1203 ?_
                let A1213 : Array Slot := #[.val (.int p0), .val (.int p1), .val (.int r5), .val (.int r11), .val (.int r17), .val (.ref r26), .val (.long r32), .second, .val (.ref b35), .val (.ref b46), .val (.ref b79), .val (.ref b91), .val (.ref b104), .val (.ref b118), .val (.ref b133), .val (.ref b149), .val (.ref b1203), .unset, .unset, .unset]
                refine Go.st (S' := T1203.setTop (mkF m 278 A1213 [])) (fun t k => XS.astore X1203.here hx rfl (hb hby at_276) rfl rfl (l' := A1213) rfl k) ?_
                refine Go.st (S' := T1203.setTop (mkF m 279 A1213 [(.int (0 : Int32))])) (fun t k => XS.iconst X1203.here hx rfl (hb hby at_278) k) ?_
                let A1214 : Array Slot := #[.val (.int p0), .val (.int p1), .val (.int r5), .val (.int r11), .val (.int r17), .val (.ref r26), .val (.long r32), .second, .val (.ref b35), .val (.ref b46), .val (.ref b79), .val (.ref b91), .val (.ref b104), .val (.ref b118), .val (.ref b133), .val (.ref b149), .val (.ref b1203), .val (.int (0 : Int32)), .unset, .unset]
                refine Go.st (S' := T1203.setTop (mkF m 281 A1214 [])) (fun t k => XS.istore X1203.here hx rfl (hb hby at_279) rfl (l' := A1214) rfl k) ?_
                refine Go.st (S' := T1203.setTop (mkF m 283 A1214 [(.ref b1203)])) (fun t k => XS.aload X1203.here hx rfl (hb hby at_281) rfl rfl k) ?_
                refine Go.st (S' := T1203.setTop (mkF m 285 A1214 [(.int (0 : Int32)), (.ref b1203)])) (fun t k => XS.iload X1203.here hx rfl (hb hby at_283) rfl k) ?_
                refine Go.st (S' := T1203.setTop (mkF m 287 A1214 [(.ref b46), (.int (0 : Int32)), (.ref b1203)])) (fun t k => XS.aload X1203.here hx rfl (hb hby at_285) rfl rfl k) ?_
                obtain ⟨cl1215, Ar1215, q1215, S1215, N1215_, H1215, G1215⟩ := id V1203
                have hin1215 : ¬ ((0 : Int32) < 0 ∨ cl1215.slots.size ≤ ((0 : Int32)).toNatClampNeg) := inb_of S1215 ⟨by decide, by decide⟩
                have f1216 := ((f1205).ext E1203)
                obtain ⟨T1215, h1215, X1215, e1215, W1215, st1215⟩ := stR X1203 hx hZ e1203 Ar1215 (j := (0 : Int32)) hin1215 rfl (Sto.ofV Ar1215 q1215 O1203 (Ins.self f1216)) (g := (mkF m 287 A1214 [(.ref b46), (.int (0 : Int32)), (.ref b1203)])) rfl rfl (hb hby at_287)
                have V1215 : Arv Z h1215 b1203 k1203 (.object "com/example/dwellgate/dwellgate/book/PriceTreeNextPinLaw") (7 : Int32) [(.ref b46), .null, .null, .null, .null, .null, .null] .null := Arv.set Ar1215 q1215 S1215 N1215_ H1215 G1215 rfl W1215 0 rfl (Nat.le_of_ble_eq_true rfl)
                have N1215 := Fr.snoc X1215 N1023 g_b1203
                have Z1217 : n0 ≤ h1215.size := Nat.le_trans Z1212 (Keep.of_wr W1215).1
                have K1217 : Keep h0 h1215 [] := K1212.wr W1215 (Or.inr sz_b1203)
                refine Go.st (S' := T1215.setTop (mkF m 288 A1214 [])) st1215 ?_
                refine Go.st (S' := T1215.setTop (mkF m 290 A1214 [(.int (0 : Int32))])) (fun t k => XS.iload X1215.here hx rfl (hb hby at_288) rfl k) ?_
                refine Go.st (S' := T1215.setTop (mkF m 291 A1214 [(.int (1 : Int32)), (.int (0 : Int32))])) (fun t k => XS.iconst X1215.here hx rfl (hb hby at_290) k) ?_
                refine Go.op (F := fun z => T1215.setTop (mkF m 292 A1214 [(.int z)])) (x := ((0 : Int32) + (1 : Int32))) (fun t k => XS.iadd X1215.here hx rfl (hb hby at_291) rfl k) ?_
                intro v1218 hv1218
                obtain rfl : (1 : Int32) = v1218 := (hv1218.trans (by decide)).symm
                let A1219 : Array Slot := #[.val (.int p0), .val (.int p1), .val (.int r5), .val (.int r11), .val (.int r17), .val (.ref r26), .val (.long r32), .second, .val (.ref b35), .val (.ref b46), .val (.ref b79), .val (.ref b91), .val (.ref b104), .val (.ref b118), .val (.ref b133), .val (.ref b149), .val (.ref b1203), .val (.int (1 : Int32)), .unset, .unset]
                refine Go.st (S' := T1215.setTop (mkF m 294 A1219 [])) (fun t k => XS.istore X1215.here hx rfl (hb hby at_292) rfl (l' := A1219) rfl k) ?_
                refine Go.st (S' := T1215.setTop (mkF m 296 A1219 [(.ref b1203)])) (fun t k => XS.aload X1215.here hx rfl (hb hby at_294) rfl rfl k) ?_
                refine Go.st (S' := T1215.setTop (mkF m 298 A1219 [(.int (1 : Int32)), (.ref b1203)])) (fun t k => XS.iload X1215.here hx rfl (hb hby at_296) rfl k) ?_
                refine Go.st (S' := T1215.setTop (mkF m 300 A1219 [(.ref b79), (.int (1 : Int32)), (.ref b1203)])) (fun t k => XS.aload X1215.here hx rfl (hb hby at_298) rfl rfl k) ?_
                obtain ⟨cl1220, Ar1220, q1220, S1220, N1220_, H1220, G1220⟩ := id V1215
                have hin1220 : ¬ ((1 : Int32) < 0 ∨ cl1220.slots.size ≤ ((1 : Int32)).toNatClampNeg) := inb_of S1220 ⟨by decide, by decide⟩
                have f1221 := ((((f1206).ext E1203)).wr W1215)
                obtain ⟨T1220, h1220, X1220, e1220, W1220, st1220⟩ := stR X1215 hx hZ e1215 Ar1220 (j := (1 : Int32)) hin1220 rfl (Sto.ofV Ar1220 q1220 O1203 (Ins.self f1221)) (g := (mkF m 300 A1219 [(.ref b79), (.int (1 : Int32)), (.ref b1203)])) rfl rfl (hb hby at_300)
                have V1220 : Arv Z h1220 b1203 k1203 (.object "com/example/dwellgate/dwellgate/book/PriceTreeNextPinLaw") (7 : Int32) [(.ref b46), (.ref b79), .null, .null, .null, .null, .null] .null := Arv.set Ar1220 q1220 S1220 N1220_ H1220 G1220 rfl W1220 1 rfl (Nat.le_of_ble_eq_true rfl)
                have N1220 := Fr.snoc X1220 N1215 g_b1203
                have Z1222 : n0 ≤ h1220.size := Nat.le_trans Z1217 (Keep.of_wr W1220).1
                have K1222 : Keep h0 h1220 [] := K1217.wr W1220 (Or.inr sz_b1203)
                refine Go.st (S' := T1220.setTop (mkF m 301 A1219 [])) st1220 ?_
                refine Go.st (S' := T1220.setTop (mkF m 303 A1219 [(.int (1 : Int32))])) (fun t k => XS.iload X1220.here hx rfl (hb hby at_301) rfl k) ?_
                refine Go.st (S' := T1220.setTop (mkF m 304 A1219 [(.int (1 : Int32)), (.int (1 : Int32))])) (fun t k => XS.iconst X1220.here hx rfl (hb hby at_303) k) ?_
                refine Go.op (F := fun z => T1220.setTop (mkF m 305 A1219 [(.int z)])) (x := ((1 : Int32) + (1 : Int32))) (fun t k => XS.iadd X1220.here hx rfl (hb hby at_304) rfl k) ?_
                intro v1223 hv1223
                obtain rfl : (2 : Int32) = v1223 := (hv1223.trans (by decide)).symm
                let A1224 : Array Slot := #[.val (.int p0), .val (.int p1), .val (.int r5), .val (.int r11), .val (.int r17), .val (.ref r26), .val (.long r32), .second, .val (.ref b35), .val (.ref b46), .val (.ref b79), .val (.ref b91), .val (.ref b104), .val (.ref b118), .val (.ref b133), .val (.ref b149), .val (.ref b1203), .val (.int (2 : Int32)), .unset, .unset]
                refine Go.st (S' := T1220.setTop (mkF m 307 A1224 [])) (fun t k => XS.istore X1220.here hx rfl (hb hby at_305) rfl (l' := A1224) rfl k) ?_
                refine Go.st (S' := T1220.setTop (mkF m 308 A1224 [(.int r11)])) (fun t k => XS.iloadN X1220.here hx rfl (hb hby at_307) rfl k) ?_
                refine Go.st (S' := T1220.setTop (mkF m 311 A1224 [])) (fun t k => XS.ifNo X1220.here hx rfl (hb hby at_308) rfl ((if0 _ _).trans (feq hc533).1) k) ?_
                refine Go.st (S' := T1220.setTop (mkF m 313 A1224 [(.ref b1203)])) (fun t k => XS.aload X1220.here hx rfl (hb hby at_311) rfl rfl k) ?_
                refine Go.st (S' := T1220.setTop (mkF m 315 A1224 [(.int (2 : Int32)), (.ref b1203)])) (fun t k => XS.iload X1220.here hx rfl (hb hby at_313) rfl k) ?_
                refine Go.st (S' := T1220.setTop (mkF m 317 A1224 [(.ref b91), (.int (2 : Int32)), (.ref b1203)])) (fun t k => XS.aload X1220.here hx rfl (hb hby at_315) rfl rfl k) ?_
                obtain ⟨cl1225, Ar1225, q1225, S1225, N1225_, H1225, G1225⟩ := id V1220
                have hin1225 : ¬ ((2 : Int32) < 0 ∨ cl1225.slots.size ≤ ((2 : Int32)).toNatClampNeg) := inb_of S1225 ⟨by decide, by decide⟩
                have f1226 := ((((((f1207).ext E1203)).wr W1215)).wr W1220)
                obtain ⟨T1225, h1225, X1225, e1225, W1225, st1225⟩ := stR X1220 hx hZ e1220 Ar1225 (j := (2 : Int32)) hin1225 rfl (Sto.ofV Ar1225 q1225 O1203 (Ins.self f1226)) (g := (mkF m 317 A1224 [(.ref b91), (.int (2 : Int32)), (.ref b1203)])) rfl rfl (hb hby at_317)
                have V1225 : Arv Z h1225 b1203 k1203 (.object "com/example/dwellgate/dwellgate/book/PriceTreeNextPinLaw") (7 : Int32) [(.ref b46), (.ref b79), (.ref b91), .null, .null, .null, .null] .null := Arv.set Ar1225 q1225 S1225 N1225_ H1225 G1225 rfl W1225 2 rfl (Nat.le_of_ble_eq_true rfl)
                have N1225 := Fr.snoc X1225 N1220 g_b1203
                have Z1227 : n0 ≤ h1225.size := Nat.le_trans Z1222 (Keep.of_wr W1225).1
                have K1227 : Keep h0 h1225 [] := K1222.wr W1225 (Or.inr sz_b1203)
                refine Go.st (S' := T1225.setTop (mkF m 318 A1224 [])) st1225 ?_
                refine Go.st (S' := T1225.setTop (mkF m 320 A1224 [(.int (2 : Int32))])) (fun t k => XS.iload X1225.here hx rfl (hb hby at_318) rfl k) ?_
                refine Go.st (S' := T1225.setTop (mkF m 321 A1224 [(.int (1 : Int32)), (.int (2 : Int32))])) (fun t k => XS.iconst X1225.here hx rfl (hb hby at_320) k) ?_
                refine Go.op (F := fun z => T1225.setTop (mkF m 322 A1224 [(.int z)])) (x := ((2 : Int32) + (1 : Int32))) (fun t k => XS.iadd X1225.here hx rfl (hb hby at_321) rfl k) ?_
                intro v1228 hv1228
                obtain rfl : (3 : Int32) = v1228 := (hv1228.trans (by decide)).symm
                let A1229 : Array Slot := #[.val (.int p0), .val (.int p1), .val (.int r5), .val (.int r11), .val (.int r17), .val (.ref r26), .val (.long r32), .second, .val (.ref b35), .val (.ref b46), .val (.ref b79), .val (.ref b91), .val (.ref b104), .val (.ref b118), .val (.ref b133), .val (.ref b149), .val (.ref b1203), .val (.int (3 : Int32)), .unset, .unset]
                refine Go.st (S' := T1225.setTop (mkF m 324 A1229 [])) (fun t k => XS.istore X1225.here hx rfl (hb hby at_322) rfl (l' := A1229) rfl k) ?_
                refine Go.st (S' := T1225.setTop (mkF m 326 A1229 [(.ref b1203)])) (fun t k => XS.aload X1225.here hx rfl (hb hby at_324) rfl rfl k) ?_
                refine Go.st (S' := T1225.setTop (mkF m 328 A1229 [(.int (3 : Int32)), (.ref b1203)])) (fun t k => XS.iload X1225.here hx rfl (hb hby at_326) rfl k) ?_
                refine Go.st (S' := T1225.setTop (mkF m 330 A1229 [(.ref b104), (.int (3 : Int32)), (.ref b1203)])) (fun t k => XS.aload X1225.here hx rfl (hb hby at_328) rfl rfl k) ?_
                obtain ⟨cl1230, Ar1230, q1230, S1230, N1230_, H1230, G1230⟩ := id V1225
                have hin1230 : ¬ ((3 : Int32) < 0 ∨ cl1230.slots.size ≤ ((3 : Int32)).toNatClampNeg) := inb_of S1230 ⟨by decide, by decide⟩
                have f1231 := ((((((((f1208).ext E1203)).wr W1215)).wr W1220)).wr W1225)
                obtain ⟨T1230, h1230, X1230, e1230, W1230, st1230⟩ := stR X1225 hx hZ e1225 Ar1230 (j := (3 : Int32)) hin1230 rfl (Sto.ofV Ar1230 q1230 O1203 (Ins.self f1231)) (g := (mkF m 330 A1229 [(.ref b104), (.int (3 : Int32)), (.ref b1203)])) rfl rfl (hb hby at_330)
                have V1230 : Arv Z h1230 b1203 k1203 (.object "com/example/dwellgate/dwellgate/book/PriceTreeNextPinLaw") (7 : Int32) [(.ref b46), (.ref b79), (.ref b91), (.ref b104), .null, .null, .null] .null := Arv.set Ar1230 q1230 S1230 N1230_ H1230 G1230 rfl W1230 3 rfl (Nat.le_of_ble_eq_true rfl)
                have N1230 := Fr.snoc X1230 N1225 g_b1203
                have Z1232 : n0 ≤ h1230.size := Nat.le_trans Z1227 (Keep.of_wr W1230).1
                have K1232 : Keep h0 h1230 [] := K1227.wr W1230 (Or.inr sz_b1203)
                refine Go.st (S' := T1230.setTop (mkF m 331 A1229 [])) st1230 ?_
                refine Go.st (S' := T1230.setTop (mkF m 333 A1229 [(.int (3 : Int32))])) (fun t k => XS.iload X1230.here hx rfl (hb hby at_331) rfl k) ?_
                refine Go.st (S' := T1230.setTop (mkF m 334 A1229 [(.int (1 : Int32)), (.int (3 : Int32))])) (fun t k => XS.iconst X1230.here hx rfl (hb hby at_333) k) ?_
                refine Go.op (F := fun z => T1230.setTop (mkF m 335 A1229 [(.int z)])) (x := ((3 : Int32) + (1 : Int32))) (fun t k => XS.iadd X1230.here hx rfl (hb hby at_334) rfl k) ?_
                intro v1233 hv1233
                obtain rfl : (4 : Int32) = v1233 := (hv1233.trans (by decide)).symm
                let A1234 : Array Slot := #[.val (.int p0), .val (.int p1), .val (.int r5), .val (.int r11), .val (.int r17), .val (.ref r26), .val (.long r32), .second, .val (.ref b35), .val (.ref b46), .val (.ref b79), .val (.ref b91), .val (.ref b104), .val (.ref b118), .val (.ref b133), .val (.ref b149), .val (.ref b1203), .val (.int (4 : Int32)), .unset, .unset]
                refine Go.st (S' := T1230.setTop (mkF m 337 A1234 [])) (fun t k => XS.istore X1230.here hx rfl (hb hby at_335) rfl (l' := A1234) rfl k) ?_
                refine Go.st (S' := T1230.setTop (mkF m 338 A1234 [(.int r5)])) (fun t k => XS.iloadN X1230.here hx rfl (hb hby at_337) rfl k) ?_
                refine Go.st (S' := T1230.setTop (mkF m 354 A1234 [])) (fun t k => XS.ifYes X1230.here hx rfl (pc0 := 338) (pc' := 354) rfl (hb hby at_338) rfl ((if0 _ _).trans (teq hc1202).1) (by decide) (by decide) k) ?_
                refine Go.st (S' := T1230.setTop (mkF m 356 A1234 [(.ref b1203)])) (fun t k => XS.aload X1230.here hx rfl (hb hby at_354) rfl rfl k) ?_
                refine Go.st (S' := T1230.setTop (mkF m 358 A1234 [(.int (4 : Int32)), (.ref b1203)])) (fun t k => XS.iload X1230.here hx rfl (hb hby at_356) rfl k) ?_
                refine Go.st (S' := T1230.setTop (mkF m 360 A1234 [(.ref b133), (.int (4 : Int32)), (.ref b1203)])) (fun t k => XS.aload X1230.here hx rfl (hb hby at_358) rfl rfl k) ?_
                obtain ⟨cl1235, Ar1235, q1235, S1235, N1235_, H1235, G1235⟩ := id V1230
                have hin1235 : ¬ ((4 : Int32) < 0 ∨ cl1235.slots.size ≤ ((4 : Int32)).toNatClampNeg) := inb_of S1235 ⟨by decide, by decide⟩
                have f1236 := ((((((((((f1210).ext E1203)).wr W1215)).wr W1220)).wr W1225)).wr W1230)
                obtain ⟨T1235, h1235, X1235, e1235, W1235, st1235⟩ := stR X1230 hx hZ e1230 Ar1235 (j := (4 : Int32)) hin1235 rfl (Sto.ofV Ar1235 q1235 O1203 (Ins.self f1236)) (g := (mkF m 360 A1234 [(.ref b133), (.int (4 : Int32)), (.ref b1203)])) rfl rfl (hb hby at_360)
                have V1235 : Arv Z h1235 b1203 k1203 (.object "com/example/dwellgate/dwellgate/book/PriceTreeNextPinLaw") (7 : Int32) [(.ref b46), (.ref b79), (.ref b91), (.ref b104), (.ref b133), .null, .null] .null := Arv.set Ar1235 q1235 S1235 N1235_ H1235 G1235 rfl W1235 4 rfl (Nat.le_of_ble_eq_true rfl)
                have N1235 := Fr.snoc X1235 N1230 g_b1203
                have Z1237 : n0 ≤ h1235.size := Nat.le_trans Z1232 (Keep.of_wr W1235).1
                have K1237 : Keep h0 h1235 [] := K1232.wr W1235 (Or.inr sz_b1203)
                refine Go.st (S' := T1235.setTop (mkF m 361 A1234 [])) st1235 ?_
                refine Go.st (S' := T1235.setTop (mkF m 363 A1234 [(.int (4 : Int32))])) (fun t k => XS.iload X1235.here hx rfl (hb hby at_361) rfl k) ?_
                refine Go.st (S' := T1235.setTop (mkF m 364 A1234 [(.int (1 : Int32)), (.int (4 : Int32))])) (fun t k => XS.iconst X1235.here hx rfl (hb hby at_363) k) ?_
                refine Go.op (F := fun z => T1235.setTop (mkF m 365 A1234 [(.int z)])) (x := ((4 : Int32) + (1 : Int32))) (fun t k => XS.iadd X1235.here hx rfl (hb hby at_364) rfl k) ?_
                intro v1238 hv1238
                obtain rfl : (5 : Int32) = v1238 := (hv1238.trans (by decide)).symm
                let A1239 : Array Slot := #[.val (.int p0), .val (.int p1), .val (.int r5), .val (.int r11), .val (.int r17), .val (.ref r26), .val (.long r32), .second, .val (.ref b35), .val (.ref b46), .val (.ref b79), .val (.ref b91), .val (.ref b104), .val (.ref b118), .val (.ref b133), .val (.ref b149), .val (.ref b1203), .val (.int (5 : Int32)), .unset, .unset]
                refine Go.st (S' := T1235.setTop (mkF m 367 A1239 [])) (fun t k => XS.istore X1235.here hx rfl (hb hby at_365) rfl (l' := A1239) rfl k) ?_
                refine Go.st (S' := T1235.setTop (mkF m 369 A1239 [(.ref b1203)])) (fun t k => XS.aload X1235.here hx rfl (hb hby at_367) rfl rfl k) ?_
                refine Go.st (S' := T1235.setTop (mkF m 371 A1239 [(.int (5 : Int32)), (.ref b1203)])) (fun t k => XS.iload X1235.here hx rfl (hb hby at_369) rfl k) ?_
                refine Go.st (S' := T1235.setTop (mkF m 373 A1239 [(.ref b149), (.int (5 : Int32)), (.ref b1203)])) (fun t k => XS.aload X1235.here hx rfl (hb hby at_371) rfl rfl k) ?_
                obtain ⟨cl1240, Ar1240, q1240, S1240, N1240_, H1240, G1240⟩ := id V1235
                have hin1240 : ¬ ((5 : Int32) < 0 ∨ cl1240.slots.size ≤ ((5 : Int32)).toNatClampNeg) := inb_of S1240 ⟨by decide, by decide⟩
                have f1241 := ((((((((((((f1211).ext E1203)).wr W1215)).wr W1220)).wr W1225)).wr W1230)).wr W1235)
                obtain ⟨T1240, h1240, X1240, e1240, W1240, st1240⟩ := stR X1235 hx hZ e1235 Ar1240 (j := (5 : Int32)) hin1240 rfl (Sto.ofV Ar1240 q1240 O1203 (Ins.self f1241)) (g := (mkF m 373 A1239 [(.ref b149), (.int (5 : Int32)), (.ref b1203)])) rfl rfl (hb hby at_373)
                have V1240 : Arv Z h1240 b1203 k1203 (.object "com/example/dwellgate/dwellgate/book/PriceTreeNextPinLaw") (7 : Int32) [(.ref b46), (.ref b79), (.ref b91), (.ref b104), (.ref b133), (.ref b149), .null] .null := Arv.set Ar1240 q1240 S1240 N1240_ H1240 G1240 rfl W1240 5 rfl (Nat.le_of_ble_eq_true rfl)
                have N1240 := Fr.snoc X1240 N1235 g_b1203
                have Z1242 : n0 ≤ h1240.size := Nat.le_trans Z1237 (Keep.of_wr W1240).1
                have K1242 : Keep h0 h1240 [] := K1237.wr W1240 (Or.inr sz_b1203)
                refine Go.st (S' := T1240.setTop (mkF m 374 A1239 [])) st1240 ?_
                refine Go.st (S' := T1240.setTop (mkF m 376 A1239 [(.int (5 : Int32))])) (fun t k => XS.iload X1240.here hx rfl (hb hby at_374) rfl k) ?_
                refine Go.st (S' := T1240.setTop (mkF m 377 A1239 [(.int (1 : Int32)), (.int (5 : Int32))])) (fun t k => XS.iconst X1240.here hx rfl (hb hby at_376) k) ?_
                refine Go.op (F := fun z => T1240.setTop (mkF m 378 A1239 [(.int z)])) (x := ((5 : Int32) + (1 : Int32))) (fun t k => XS.iadd X1240.here hx rfl (hb hby at_377) rfl k) ?_
                intro v1243 hv1243
                obtain rfl : (6 : Int32) = v1243 := (hv1243.trans (by decide)).symm
                let A1244 : Array Slot := #[.val (.int p0), .val (.int p1), .val (.int r5), .val (.int r11), .val (.int r17), .val (.ref r26), .val (.long r32), .second, .val (.ref b35), .val (.ref b46), .val (.ref b79), .val (.ref b91), .val (.ref b104), .val (.ref b118), .val (.ref b133), .val (.ref b149), .val (.ref b1203), .val (.int (6 : Int32)), .unset, .unset]
                refine Go.st (S' := T1240.setTop (mkF m 380 A1244 [])) (fun t k => XS.istore X1240.here hx rfl (hb hby at_378) rfl (l' := A1244) rfl k) ?_
                refine Go.st (S' := T1240.setTop (mkF m 381 A1244 [(.int p0)])) (fun t k => XS.iloadN X1240.here hx rfl (hb hby at_380) rfl k) ?_
                refine Go.st (S' := T1240.setTop (mkF m 383 A1244 [(.int (2147483647 : Int32)), (.int p0)])) (fun t k => X1240.ldcInt hx hown (mvT hZ (hw _ (List.mem_of_getElem? (i := 44) rfl))) (g := (mkF m 381 A1244 [(.int p0)])) rfl (hb hby at_381) t k) ?_
                refine Go.op (F := fun z => T1240.setTop (mkF m 384 A1244 [(.int z)])) (x := (p0 &&& (2147483647 : Int32))) (fun t k => XS.iand X1240.here hx rfl (hb hby at_383) rfl k) ?_
                intro v1245 hv1245
                refine Go.st (S' := T1240.setTop (mkF m 386 A1244 [(.int (6 : Int32)), (.int v1245)])) (fun t k => XS.iload X1240.here hx rfl (hb hby at_384) rfl k) ?_
                refine Go.op (F := fun z => T1240.setTop (mkF m 387 A1244 [(.int z)])) (x := (v1245 % (6 : Int32))) (fun t k => iremM X1240 hx rfl (hb hby at_386) rfl (by decide) k) ?_
                intro v1246 hv1246
                let A1247 : Array Slot := #[.val (.int p0), .val (.int p1), .val (.int r5), .val (.int r11), .val (.int r17), .val (.ref r26), .val (.long r32), .second, .val (.ref b35), .val (.ref b46), .val (.ref b79), .val (.ref b91), .val (.ref b104), .val (.ref b118), .val (.ref b133), .val (.ref b149), .val (.ref b1203), .val (.int (6 : Int32)), .val (.int v1246), .unset]
                refine Go.st (S' := T1240.setTop (mkF m 389 A1247 [])) (fun t k => XS.istore X1240.here hx rfl (hb hby at_387) rfl (l' := A1247) rfl k) ?_
                refine Go.st (S' := T1240.setTop (mkF m 391 A1247 [(.int v1246)])) (fun t k => XS.iload X1240.here hx rfl (hb hby at_389) rfl k) ?_
                refine Go.st (S' := T1240.setTop (mkF m 392 A1247 [(.int (1 : Int32)), (.int v1246)])) (fun t k => XS.iconst X1240.here hx rfl (hb hby at_391) k) ?_
                refine Go.op (F := fun z => T1240.setTop (mkF m 393 A1247 [(.int z)])) (x := (v1246 + (1 : Int32))) (fun t k => XS.iadd X1240.here hx rfl (hb hby at_392) rfl k) ?_
                intro v1248 hv1248
                refine Go.st (S' := T1240.setTop (mkF m 395 A1247 [(.int (6 : Int32)), (.int v1248)])) (fun t k => XS.iload X1240.here hx rfl (hb hby at_393) rfl k) ?_
                by_cases hc1277 : (v1248 < (6 : Int32))
                · refine Go.st (S' := T1240.setTop (mkF m 398 A1247 [])) (fun t k => XS.icmpNo X1240.here hx rfl (hb hby at_395) rfl (tlt hc1277).2.1 k) ?_
                  refine Go.st (S' := T1240.setTop (mkF m 400 A1247 [(.ref b1203)])) (fun t k => XS.aload X1240.here hx rfl (hb hby at_398) rfl rfl k) ?_
                  refine Go.st (S' := T1240.setTop (mkF m 402 A1247 [(.int v1246), (.ref b1203)])) (fun t k => XS.iload X1240.here hx rfl (hb hby at_400) rfl k) ?_
                  refine Go.st (S' := T1240.setTop (mkF m 403 A1247 [(.int (1 : Int32)), (.int v1246), (.ref b1203)])) (fun t k => XS.iconst X1240.here hx rfl (hb hby at_402) k) ?_
                  refine Go.op (F := fun z => T1240.setTop (mkF m 404 A1247 [(.int z), (.ref b1203)])) (x := (v1246 + (1 : Int32))) (fun t k => XS.iadd X1240.here hx rfl (hb hby at_403) rfl k) ?_
                  intro v1278 hv1278
                  obtain rfl : v1248 = v1278 := hv1248.trans hv1278.symm
                  by_cases hj1280 : v1248 = (1 : Int32)
                  · obtain ⟨cl1281, Ar1281, -, S1281, N1281_, H1281, -⟩ := id V1240
                    have hin1281 : ¬ (v1248 < 0 ∨ cl1281.slots.size ≤ (v1248).toNatClampNeg) := by rw [hj1280]; exact inb_of S1281 ⟨by decide, by decide⟩
                    have hat1281 : cl1281.slots[(v1248).toNatClampNeg]? = some (.ref b79) := Has.at H1281 hin1281 (by rw [hj1280]; rfl)
                    refine Go.st (S' := T1240.setTop (mkF m 405 A1247 [(.ref b79)])) (fun t k => X1240.aaload hx (j := v1248) (v := (.ref b79)) (own_eh e1240 Ar1281.1) (State.isArrayOf_alike hZ.alike Ar1281.2.1) rfl Ar1281.2.2 hin1281 hat1281 (g := (mkF m 404 A1247 [(.int v1248), (.ref b1203)])) rfl rfl (hb hby at_404) t k) ?_
                    refine Go.st (S' := T1240.setTop (mkF m 409 A1247 [(.ref b79)])) (fun t k => XS.goto X1240.here hx rfl (pc0 := 405) (pc' := 409) rfl (hb hby at_405) (by decide) (by decide) k) ?_
                    let A1282 : Array Slot := #[.val (.int p0), .val (.int p1), .val (.int r5), .val (.int r11), .val (.int r17), .val (.ref r26), .val (.long r32), .second, .val (.ref b35), .val (.ref b46), .val (.ref b79), .val (.ref b91), .val (.ref b104), .val (.ref b118), .val (.ref b133), .val (.ref b149), .val (.ref b1203), .val (.int (6 : Int32)), .val (.int v1246), .val (.ref b79)]
                    refine Go.st (S' := T1240.setTop (mkF m 411 A1282 [])) (fun t k => XS.astore X1240.here hx rfl (hb hby at_409) rfl rfl (l' := A1282) rfl k) ?_
                    refine Go.st (S' := T1240.setTop (mkF m 413 A1282 [(.ref b35)])) (fun t k => XS.aload X1240.here hx rfl (hb hby at_411) rfl rfl k) ?_
                    refine Go.st (S' := T1240.setTop (mkF m 415 A1282 [(.ref b1203), (.ref b35)])) (fun t k => XS.aload X1240.here hx rfl (hb hby at_413) rfl rfl k) ?_
                    refine Go.st (S' := T1240.setTop (mkF m 417 A1282 [(.int v1246), (.ref b1203), (.ref b35)])) (fun t k => XS.iload X1240.here hx rfl (hb hby at_415) rfl k) ?_
                    have hj1284 : v1246 = (0 : Int32) := by
                      refine Decidable.byContradiction fun hc1285 => ?_
                      have rv1245 := rng32 v1245
                      have wv1245 := c_mask p0 (2147483647 : Int32) 31 (by decide) (by decide)
                      rw [← hv1245] at wv1245
                      have rv1246 := rng32 v1246
                      have wv1246 := c_irem v1245 (6 : Int32) 6 (by decide)
                      rw [← hv1246] at wv1246
                      have rv1248 := rng32 v1248
                      have wv1248 := c_iadd v1246 (1 : Int32)
                      rw [← hv1248] at wv1248
                      have rp0 := rng32 p0
                      have lI0 : (0 : Int32).toInt = 0 := by decide
                      have lI1 : (1 : Int32).toInt = 1 := by decide
                      have lI6 : (6 : Int32).toInt = 6 := by decide
                      have lI2147483647 : (2147483647 : Int32).toInt = 2147483647 := by decide
                      simp only [Int32.lt_iff_toInt_lt, Int64.lt_iff_toInt_lt, ← Int32.toInt_inj, ← Int64.toInt_inj] at hc1277 hj1280 hc1285
                      omega
                    obtain ⟨cl1283, Ar1283, -, S1283, N1283_, H1283, -⟩ := id V1240
                    have hin1283 : ¬ (v1246 < 0 ∨ cl1283.slots.size ≤ (v1246).toNatClampNeg) := by rw [hj1284]; exact inb_of S1283 ⟨by decide, by decide⟩
                    have hat1283 : cl1283.slots[(v1246).toNatClampNeg]? = some (.ref b46) := Has.at H1283 hin1283 (by rw [hj1284]; rfl)
                    refine Go.st (S' := T1240.setTop (mkF m 418 A1282 [(.ref b46), (.ref b35)])) (fun t k => X1240.aaload hx (j := v1246) (v := (.ref b46)) (own_eh e1240 Ar1283.1) (State.isArrayOf_alike hZ.alike Ar1283.2.1) rfl Ar1283.2.2 hin1283 hat1283 (g := (mkF m 417 A1282 [(.int v1246), (.ref b1203), (.ref b35)])) rfl rfl (hb hby at_417) t k) ?_
                    have f1286 := ((((((((((((((f1204).ext E1203)).wr W1215)).wr W1220)).wr W1225)).wr W1230)).wr W1235)).wr W1240)
                    have f1287 := ((((((((((((((((((((((((((((Fw176).other W180 (Or.inl (Nat.ne_of_lt lt_b46_b79)))).other W1003 (Or.inl (Nat.ne_of_lt lt_b46_b79)))).other W1007 (Or.inl (Nat.ne_of_lt lt_b46_b91)))).other W1011 (Or.inl (Nat.ne_of_lt lt_b46_b104)))).other W1015 (Or.inl (Nat.ne_of_lt lt_b46_b149)))).other W1019 (Or.inl (Nat.ne_of_lt lt_b46_b149)))).other W1023 (Or.inl (Nat.ne_of_lt lt_b46_b133)))).ext E1203)).other W1215 (Or.inl (Nat.ne_of_lt lt_b46_b1203)))).other W1220 (Or.inl (Nat.ne_of_lt lt_b46_b1203)))).other W1225 (Or.inl (Nat.ne_of_lt lt_b46_b1203)))).other W1230 (Or.inl (Nat.ne_of_lt lt_b46_b1203)))).other W1235 (Or.inl (Nat.ne_of_lt lt_b46_b1203)))).other W1240 (Or.inl (Nat.ne_of_lt lt_b46_b1203)))
                    have f1288 := ((((((((((((((((((((((((((((((((((((((((((((((((((((((f86).ext E91)).keep K96_ (ninS (Nat.ne_of_lt lt_b79_b91) nin0))).ext E104)).keep K110_ (ninS (Nat.ne_of_lt lt_b79_b104) nin0))).ext E118)).keep K125_ (ninS (Nat.ne_of_lt lt_b79_b118) nin0))).ext E133)).keep K141_ (ninS (Nat.ne_of_lt lt_b79_b133) nin0))).ext E149)).keep K158_ (ninS (Nat.ne_of_lt lt_b79_b149) nin0))).other W168 (Or.inl (Nat.ne_of_lt lt_b79_b104)))).other W172 (Or.inl (Nat.ne_of_gt lt_b46_b79)))).other W176 (Or.inl (Nat.ne_of_gt lt_b46_b79)))).other W180 (Or.inr (slot_ne (Or.inl (hw _ (List.mem_of_getElem? (i := 35) rfl))) (Or.inl (hw _ (List.mem_of_getElem? (i := 38) rfl))) (by decide) (t := (.object "com/example/dwellgate/dwellgate/book/PriceTree$Node")) (t' := (.object "com/example/dwellgate/dwellgate/book/PriceTree$Node")) (by decide) (by decide))))).other W1003 (Or.inr (slot_ne (Or.inl (hw _ (List.mem_of_getElem? (i := 35) rfl))) (Or.inl (hw _ (List.mem_of_getElem? (i := 41) rfl))) (by decide) (t := (.object "com/example/dwellgate/dwellgate/book/PriceTree$Node")) (t' := (.object "com/example/dwellgate/dwellgate/book/PriceTree$Node")) (by decide) (by decide))))).other W1007 (Or.inl (Nat.ne_of_lt lt_b79_b91)))).other W1011 (Or.inl (Nat.ne_of_lt lt_b79_b104)))).other W1015 (Or.inl (Nat.ne_of_lt lt_b79_b149)))).other W1019 (Or.inl (Nat.ne_of_lt lt_b79_b149)))).other W1023 (Or.inl (Nat.ne_of_lt lt_b79_b133)))).ext E1203)).other W1215 (Or.inl (Nat.ne_of_lt lt_b79_b1203)))).other W1220 (Or.inl (Nat.ne_of_lt lt_b79_b1203)))).other W1225 (Or.inl (Nat.ne_of_lt lt_b79_b1203)))).other W1230 (Or.inl (Nat.ne_of_lt lt_b79_b1203)))).other W1235 (Or.inl (Nat.ne_of_lt lt_b79_b1203)))).other W1240 (Or.inl (Nat.ne_of_lt lt_b79_b1203)))
                    obtain ⟨r1289, T1289, L1289, X1289, hQ1289, st1289⟩ := own_callV (W := 0) (a := b35) (C := "com/example/dwellgate/dwellgate/book/PriceTree") X1240 hx hZ e1240 hown (y := (⟨"com/example/dwellgate/dwellgate/book/PriceTree", "next", "(Lcom/example/dwellgate/dwellgate/book/PriceTree$Node;)Lcom/example/dwellgate/dwellgate/book/PriceTree$Node;"⟩ : MethodName)) (z := (⟨"com/example/dwellgate/dwellgate/book/PriceTree", "next", "(Lcom/example/dwellgate/dwellgate/book/PriceTree$Node;)Lcom/example/dwellgate/dwellgate/book/PriceTree$Node;"⟩ : MethodName)) (hw _ (List.mem_of_getElem? (i := 45) rfl)) (hw _ (List.mem_of_getElem? (i := 46) rfl)) (notFace_of_selects (args := #[]) (mvT hZ (hw _ (List.mem_of_getElem? (i := 48) rfl)))) (hw _ (List.mem_of_getElem? (i := 48) rfl)) (hw _ (List.mem_of_getElem? (i := 47) rfl)) (hw _ (List.mem_of_getElem? (i := 5) rfl)) (hw _ (List.mem_of_getElem? (i := 49) rfl)) (by decide) (f1286) (rm5 l Z a0 hw [] b35 b46 b79 h1240 n0 Z1242 (f1287) (f1288)) (by decide) (by decide) (by decide) (by decide) (g := (mkF m 418 A1282 [(.ref b46), (.ref b35)])) rfl (by rw [hml]; rfl) (argsL := [(.ref b46)]) (rest := []) rfl (lenOf pd_2 rfl) rfl (by show 2 * 0 + _ ≤ _; exact Nat.le_of_eq rfl) (hb hby at_418)
                    obtain ⟨rfl, N1289, e1289⟩ := hQ1289
                    have N1289_ := Fr.app N1240 N1289
                    refine Go.st (S' := T1289.setTop (mkF m 421 A1282 [(.ref b79)])) st1289 ?_
                    refine Go.st (S' := T1289.setTop (mkF m 423 A1282 [(.ref b79), (.ref b79)])) (fun t k => XS.aload X1289.here hx rfl (hb hby at_421) rfl rfl k) ?_
                    refine Go.st (S' := T1289.setTop (mkF m 426 A1282 [])) (fun t k => acmp X1289 hx rfl rfl rfl (pc0 := 423) (pc' := 426) (same := true) rfl (hb hby at_423) rfl (by simp) (by decide) (by decide) k) ?_
                    refine Go.st (S' := T1289.setTop (mkF m 427 A1282 [(.int (1 : Int32))])) (fun t k => XS.iconst X1289.here hx rfl (hb hby at_426) k) ?_
                    refine Go.st (S' := T1289.setTop (mkF m 431 A1282 [(.int (1 : Int32))])) (fun t k => XS.goto X1289.here hx rfl (pc0 := 427) (pc' := 431) rfl (hb hby at_427) (by decide) (by decide) k) ?_
                    exact Go.ret X1289 (v := some (.int (1 : Int32))) (fun h => by rw [Bd.returns] at h; cases h) Bd.notSynchronized (fun fs hr => retN X1289 hx (t := .boolean) Bd.returns (by simp) (hb hby at_431) hr) (by decide) (by decide) ⟨rfl, N1289_⟩
                  · by_cases hj1290 : v1248 = (2 : Int32)
                    · obtain ⟨cl1291, Ar1291, -, S1291, N1291_, H1291, -⟩ := id V1240
                      have hin1291 : ¬ (v1248 < 0 ∨ cl1291.slots.size ≤ (v1248).toNatClampNeg) := by rw [hj1290]; exact inb_of S1291 ⟨by decide, by decide⟩
                      have hat1291 : cl1291.slots[(v1248).toNatClampNeg]? = some (.ref b91) := Has.at H1291 hin1291 (by rw [hj1290]; rfl)
                      refine Go.st (S' := T1240.setTop (mkF m 405 A1247 [(.ref b91)])) (fun t k => X1240.aaload hx (j := v1248) (v := (.ref b91)) (own_eh e1240 Ar1291.1) (State.isArrayOf_alike hZ.alike Ar1291.2.1) rfl Ar1291.2.2 hin1291 hat1291 (g := (mkF m 404 A1247 [(.int v1248), (.ref b1203)])) rfl rfl (hb hby at_404) t k) ?_
                      refine Go.st (S' := T1240.setTop (mkF m 409 A1247 [(.ref b91)])) (fun t k => XS.goto X1240.here hx rfl (pc0 := 405) (pc' := 409) rfl (hb hby at_405) (by decide) (by decide) k) ?_
                      let A1292 : Array Slot := #[.val (.int p0), .val (.int p1), .val (.int r5), .val (.int r11), .val (.int r17), .val (.ref r26), .val (.long r32), .second, .val (.ref b35), .val (.ref b46), .val (.ref b79), .val (.ref b91), .val (.ref b104), .val (.ref b118), .val (.ref b133), .val (.ref b149), .val (.ref b1203), .val (.int (6 : Int32)), .val (.int v1246), .val (.ref b91)]
                      refine Go.st (S' := T1240.setTop (mkF m 411 A1292 [])) (fun t k => XS.astore X1240.here hx rfl (hb hby at_409) rfl rfl (l' := A1292) rfl k) ?_
                      refine Go.st (S' := T1240.setTop (mkF m 413 A1292 [(.ref b35)])) (fun t k => XS.aload X1240.here hx rfl (hb hby at_411) rfl rfl k) ?_
                      refine Go.st (S' := T1240.setTop (mkF m 415 A1292 [(.ref b1203), (.ref b35)])) (fun t k => XS.aload X1240.here hx rfl (hb hby at_413) rfl rfl k) ?_
                      refine Go.st (S' := T1240.setTop (mkF m 417 A1292 [(.int v1246), (.ref b1203), (.ref b35)])) (fun t k => XS.iload X1240.here hx rfl (hb hby at_415) rfl k) ?_
                      have hj1294 : v1246 = (1 : Int32) := by
                        refine Decidable.byContradiction fun hc1295 => ?_
                        have rv1245 := rng32 v1245
                        have wv1245 := c_mask p0 (2147483647 : Int32) 31 (by decide) (by decide)
                        rw [← hv1245] at wv1245
                        have rv1246 := rng32 v1246
                        have wv1246 := c_irem v1245 (6 : Int32) 6 (by decide)
                        rw [← hv1246] at wv1246
                        have rv1248 := rng32 v1248
                        have wv1248 := c_iadd v1246 (1 : Int32)
                        rw [← hv1248] at wv1248
                        have rp0 := rng32 p0
                        have lI1 : (1 : Int32).toInt = 1 := by decide
                        have lI2 : (2 : Int32).toInt = 2 := by decide
                        have lI6 : (6 : Int32).toInt = 6 := by decide
                        have lI2147483647 : (2147483647 : Int32).toInt = 2147483647 := by decide
                        simp only [Int32.lt_iff_toInt_lt, Int64.lt_iff_toInt_lt, ← Int32.toInt_inj, ← Int64.toInt_inj] at hc1277 hj1280 hj1290 hc1295
                        omega
                      obtain ⟨cl1293, Ar1293, -, S1293, N1293_, H1293, -⟩ := id V1240
                      have hin1293 : ¬ (v1246 < 0 ∨ cl1293.slots.size ≤ (v1246).toNatClampNeg) := by rw [hj1294]; exact inb_of S1293 ⟨by decide, by decide⟩
                      have hat1293 : cl1293.slots[(v1246).toNatClampNeg]? = some (.ref b79) := Has.at H1293 hin1293 (by rw [hj1294]; rfl)
                      refine Go.st (S' := T1240.setTop (mkF m 418 A1292 [(.ref b79), (.ref b35)])) (fun t k => X1240.aaload hx (j := v1246) (v := (.ref b79)) (own_eh e1240 Ar1293.1) (State.isArrayOf_alike hZ.alike Ar1293.2.1) rfl Ar1293.2.2 hin1293 hat1293 (g := (mkF m 417 A1292 [(.int v1246), (.ref b1203), (.ref b35)])) rfl rfl (hb hby at_417) t k) ?_
                      have f1296 := ((((((((((((((f1204).ext E1203)).wr W1215)).wr W1220)).wr W1225)).wr W1230)).wr W1235)).wr W1240)
                      have f1297 := ((((((((((((((((((((((((Fw1003).other W1007 (Or.inl (Nat.ne_of_lt lt_b79_b91)))).other W1011 (Or.inl (Nat.ne_of_lt lt_b79_b104)))).other W1015 (Or.inl (Nat.ne_of_lt lt_b79_b149)))).other W1019 (Or.inl (Nat.ne_of_lt lt_b79_b149)))).other W1023 (Or.inl (Nat.ne_of_lt lt_b79_b133)))).ext E1203)).other W1215 (Or.inl (Nat.ne_of_lt lt_b79_b1203)))).other W1220 (Or.inl (Nat.ne_of_lt lt_b79_b1203)))).other W1225 (Or.inl (Nat.ne_of_lt lt_b79_b1203)))).other W1230 (Or.inl (Nat.ne_of_lt lt_b79_b1203)))).other W1235 (Or.inl (Nat.ne_of_lt lt_b79_b1203)))).other W1240 (Or.inl (Nat.ne_of_lt lt_b79_b1203)))
                      have f1298 := ((((((((((((((((((((((((((((((((((((((((((((((((((f99).ext E104)).keep K110_ (ninS (Nat.ne_of_lt lt_b91_b104) nin0))).ext E118)).keep K125_ (ninS (Nat.ne_of_lt lt_b91_b118) nin0))).ext E133)).keep K141_ (ninS (Nat.ne_of_lt lt_b91_b133) nin0))).ext E149)).keep K158_ (ninS (Nat.ne_of_lt lt_b91_b149) nin0))).other W168 (Or.inl (Nat.ne_of_lt lt_b91_b104)))).other W172 (Or.inl (Nat.ne_of_gt lt_b46_b91)))).other W176 (Or.inl (Nat.ne_of_gt lt_b46_b91)))).other W180 (Or.inl (Nat.ne_of_gt lt_b79_b91)))).other W1003 (Or.inl (Nat.ne_of_gt lt_b79_b91)))).other W1007 (Or.inr (slot_ne (Or.inl (hw _ (List.mem_of_getElem? (i := 35) rfl))) (Or.inl (hw _ (List.mem_of_getElem? (i := 38) rfl))) (by decide) (t := (.object "com/example/dwellgate/dwellgate/book/PriceTree$Node")) (t' := (.object "com/example/dwellgate/dwellgate/book/PriceTree$Node")) (by decide) (by decide))))).other W1011 (Or.inl (Nat.ne_of_lt lt_b91_b104)))).other W1015 (Or.inl (Nat.ne_of_lt lt_b91_b149)))).other W1019 (Or.inl (Nat.ne_of_lt lt_b91_b149)))).other W1023 (Or.inl (Nat.ne_of_lt lt_b91_b133)))).ext E1203)).other W1215 (Or.inl (Nat.ne_of_lt lt_b91_b1203)))).other W1220 (Or.inl (Nat.ne_of_lt lt_b91_b1203)))).other W1225 (Or.inl (Nat.ne_of_lt lt_b91_b1203)))).other W1230 (Or.inl (Nat.ne_of_lt lt_b91_b1203)))).other W1235 (Or.inl (Nat.ne_of_lt lt_b91_b1203)))).other W1240 (Or.inl (Nat.ne_of_lt lt_b91_b1203)))
                      obtain ⟨r1299, T1299, L1299, X1299, hQ1299, st1299⟩ := own_callV (W := 0) (a := b35) (C := "com/example/dwellgate/dwellgate/book/PriceTree") X1240 hx hZ e1240 hown (y := (⟨"com/example/dwellgate/dwellgate/book/PriceTree", "next", "(Lcom/example/dwellgate/dwellgate/book/PriceTree$Node;)Lcom/example/dwellgate/dwellgate/book/PriceTree$Node;"⟩ : MethodName)) (z := (⟨"com/example/dwellgate/dwellgate/book/PriceTree", "next", "(Lcom/example/dwellgate/dwellgate/book/PriceTree$Node;)Lcom/example/dwellgate/dwellgate/book/PriceTree$Node;"⟩ : MethodName)) (hw _ (List.mem_of_getElem? (i := 45) rfl)) (hw _ (List.mem_of_getElem? (i := 46) rfl)) (notFace_of_selects (args := #[]) (mvT hZ (hw _ (List.mem_of_getElem? (i := 48) rfl)))) (hw _ (List.mem_of_getElem? (i := 48) rfl)) (hw _ (List.mem_of_getElem? (i := 47) rfl)) (hw _ (List.mem_of_getElem? (i := 5) rfl)) (hw _ (List.mem_of_getElem? (i := 49) rfl)) (by decide) (f1296) (rm5 l Z a0 hw [] b35 b79 b91 h1240 n0 Z1242 (f1297) (f1298)) (by decide) (by decide) (by decide) (by decide) (g := (mkF m 418 A1292 [(.ref b79), (.ref b35)])) rfl (by rw [hml]; rfl) (argsL := [(.ref b79)]) (rest := []) rfl (lenOf pd_2 rfl) rfl (by show 2 * 0 + _ ≤ _; exact Nat.le_of_eq rfl) (hb hby at_418)
                      obtain ⟨rfl, N1299, e1299⟩ := hQ1299
                      have N1299_ := Fr.app N1240 N1299
                      refine Go.st (S' := T1299.setTop (mkF m 421 A1292 [(.ref b91)])) st1299 ?_
                      refine Go.st (S' := T1299.setTop (mkF m 423 A1292 [(.ref b91), (.ref b91)])) (fun t k => XS.aload X1299.here hx rfl (hb hby at_421) rfl rfl k) ?_
                      refine Go.st (S' := T1299.setTop (mkF m 426 A1292 [])) (fun t k => acmp X1299 hx rfl rfl rfl (pc0 := 423) (pc' := 426) (same := true) rfl (hb hby at_423) rfl (by simp) (by decide) (by decide) k) ?_
                      refine Go.st (S' := T1299.setTop (mkF m 427 A1292 [(.int (1 : Int32))])) (fun t k => XS.iconst X1299.here hx rfl (hb hby at_426) k) ?_
                      refine Go.st (S' := T1299.setTop (mkF m 431 A1292 [(.int (1 : Int32))])) (fun t k => XS.goto X1299.here hx rfl (pc0 := 427) (pc' := 431) rfl (hb hby at_427) (by decide) (by decide) k) ?_
                      exact Go.ret X1299 (v := some (.int (1 : Int32))) (fun h => by rw [Bd.returns] at h; cases h) Bd.notSynchronized (fun fs hr => retN X1299 hx (t := .boolean) Bd.returns (by simp) (hb hby at_431) hr) (by decide) (by decide) ⟨rfl, N1299_⟩
                    · by_cases hj1300 : v1248 = (3 : Int32)
                      · obtain ⟨cl1301, Ar1301, -, S1301, N1301_, H1301, -⟩ := id V1240
                        have hin1301 : ¬ (v1248 < 0 ∨ cl1301.slots.size ≤ (v1248).toNatClampNeg) := by rw [hj1300]; exact inb_of S1301 ⟨by decide, by decide⟩
                        have hat1301 : cl1301.slots[(v1248).toNatClampNeg]? = some (.ref b104) := Has.at H1301 hin1301 (by rw [hj1300]; rfl)
                        refine Go.st (S' := T1240.setTop (mkF m 405 A1247 [(.ref b104)])) (fun t k => X1240.aaload hx (j := v1248) (v := (.ref b104)) (own_eh e1240 Ar1301.1) (State.isArrayOf_alike hZ.alike Ar1301.2.1) rfl Ar1301.2.2 hin1301 hat1301 (g := (mkF m 404 A1247 [(.int v1248), (.ref b1203)])) rfl rfl (hb hby at_404) t k) ?_
                        refine Go.st (S' := T1240.setTop (mkF m 409 A1247 [(.ref b104)])) (fun t k => XS.goto X1240.here hx rfl (pc0 := 405) (pc' := 409) rfl (hb hby at_405) (by decide) (by decide) k) ?_
                        let A1302 : Array Slot := #[.val (.int p0), .val (.int p1), .val (.int r5), .val (.int r11), .val (.int r17), .val (.ref r26), .val (.long r32), .second, .val (.ref b35), .val (.ref b46), .val (.ref b79), .val (.ref b91), .val (.ref b104), .val (.ref b118), .val (.ref b133), .val (.ref b149), .val (.ref b1203), .val (.int (6 : Int32)), .val (.int v1246), .val (.ref b104)]
                        refine Go.st (S' := T1240.setTop (mkF m 411 A1302 [])) (fun t k => XS.astore X1240.here hx rfl (hb hby at_409) rfl rfl (l' := A1302) rfl k) ?_
                        refine Go.st (S' := T1240.setTop (mkF m 413 A1302 [(.ref b35)])) (fun t k => XS.aload X1240.here hx rfl (hb hby at_411) rfl rfl k) ?_
                        refine Go.st (S' := T1240.setTop (mkF m 415 A1302 [(.ref b1203), (.ref b35)])) (fun t k => XS.aload X1240.here hx rfl (hb hby at_413) rfl rfl k) ?_
                        refine Go.st (S' := T1240.setTop (mkF m 417 A1302 [(.int v1246), (.ref b1203), (.ref b35)])) (fun t k => XS.iload X1240.here hx rfl (hb hby at_415) rfl k) ?_
                        have hj1304 : v1246 = (2 : Int32) := by
                          refine Decidable.byContradiction fun hc1305 => ?_
                          have rv1245 := rng32 v1245
                          have wv1245 := c_mask p0 (2147483647 : Int32) 31 (by decide) (by decide)
                          rw [← hv1245] at wv1245
                          have rv1246 := rng32 v1246
                          have wv1246 := c_irem v1245 (6 : Int32) 6 (by decide)
                          rw [← hv1246] at wv1246
                          have rv1248 := rng32 v1248
                          have wv1248 := c_iadd v1246 (1 : Int32)
                          rw [← hv1248] at wv1248
                          have rp0 := rng32 p0
                          have lI1 : (1 : Int32).toInt = 1 := by decide
                          have lI2 : (2 : Int32).toInt = 2 := by decide
                          have lI3 : (3 : Int32).toInt = 3 := by decide
                          have lI6 : (6 : Int32).toInt = 6 := by decide
                          have lI2147483647 : (2147483647 : Int32).toInt = 2147483647 := by decide
                          simp only [Int32.lt_iff_toInt_lt, Int64.lt_iff_toInt_lt, ← Int32.toInt_inj, ← Int64.toInt_inj] at hc1277 hj1280 hj1290 hj1300 hc1305
                          omega
                        obtain ⟨cl1303, Ar1303, -, S1303, N1303_, H1303, -⟩ := id V1240
                        have hin1303 : ¬ (v1246 < 0 ∨ cl1303.slots.size ≤ (v1246).toNatClampNeg) := by rw [hj1304]; exact inb_of S1303 ⟨by decide, by decide⟩
                        have hat1303 : cl1303.slots[(v1246).toNatClampNeg]? = some (.ref b91) := Has.at H1303 hin1303 (by rw [hj1304]; rfl)
                        refine Go.st (S' := T1240.setTop (mkF m 418 A1302 [(.ref b91), (.ref b35)])) (fun t k => X1240.aaload hx (j := v1246) (v := (.ref b91)) (own_eh e1240 Ar1303.1) (State.isArrayOf_alike hZ.alike Ar1303.2.1) rfl Ar1303.2.2 hin1303 hat1303 (g := (mkF m 417 A1302 [(.int v1246), (.ref b1203), (.ref b35)])) rfl rfl (hb hby at_417) t k) ?_
                        have f1306 := ((((((((((((((f1204).ext E1203)).wr W1215)).wr W1220)).wr W1225)).wr W1230)).wr W1235)).wr W1240)
                        have f1322 := ((((((((((((((((((((((((((((((((((((((((((((((((((f101).ext E104)).keep K110_ (ninS (Nat.ne_of_lt lt_b91_b104) nin0))).ext E118)).keep K125_ (ninS (Nat.ne_of_lt lt_b91_b118) nin0))).ext E133)).keep K141_ (ninS (Nat.ne_of_lt lt_b91_b133) nin0))).ext E149)).keep K158_ (ninS (Nat.ne_of_lt lt_b91_b149) nin0))).other W168 (Or.inl (Nat.ne_of_lt lt_b91_b104)))).other W172 (Or.inl (Nat.ne_of_gt lt_b46_b91)))).other W176 (Or.inl (Nat.ne_of_gt lt_b46_b91)))).other W180 (Or.inl (Nat.ne_of_gt lt_b79_b91)))).other W1003 (Or.inl (Nat.ne_of_gt lt_b79_b91)))).other W1007 (Or.inr (slot_ne (Or.inl (hw _ (List.mem_of_getElem? (i := 41) rfl))) (Or.inl (hw _ (List.mem_of_getElem? (i := 38) rfl))) (by decide) (t := (.object "com/example/dwellgate/dwellgate/book/PriceTree$Node")) (t' := (.object "com/example/dwellgate/dwellgate/book/PriceTree$Node")) (by decide) (by decide))))).other W1011 (Or.inl (Nat.ne_of_lt lt_b91_b104)))).other W1015 (Or.inl (Nat.ne_of_lt lt_b91_b149)))).other W1019 (Or.inl (Nat.ne_of_lt lt_b91_b149)))).other W1023 (Or.inl (Nat.ne_of_lt lt_b91_b133)))).ext E1203)).other W1215 (Or.inl (Nat.ne_of_lt lt_b91_b1203)))).other W1220 (Or.inl (Nat.ne_of_lt lt_b91_b1203)))).other W1225 (Or.inl (Nat.ne_of_lt lt_b91_b1203)))).other W1230 (Or.inl (Nat.ne_of_lt lt_b91_b1203)))).other W1235 (Or.inl (Nat.ne_of_lt lt_b91_b1203)))).other W1240 (Or.inl (Nat.ne_of_lt lt_b91_b1203)))
                        have f1323 := ((((((((((((((((((((((Fw1007).other W1011 (Or.inl (Nat.ne_of_lt lt_b91_b104)))).other W1015 (Or.inl (Nat.ne_of_lt lt_b91_b149)))).other W1019 (Or.inl (Nat.ne_of_lt lt_b91_b149)))).other W1023 (Or.inl (Nat.ne_of_lt lt_b91_b133)))).ext E1203)).other W1215 (Or.inl (Nat.ne_of_lt lt_b91_b1203)))).other W1220 (Or.inl (Nat.ne_of_lt lt_b91_b1203)))).other W1225 (Or.inl (Nat.ne_of_lt lt_b91_b1203)))).other W1230 (Or.inl (Nat.ne_of_lt lt_b91_b1203)))).other W1235 (Or.inl (Nat.ne_of_lt lt_b91_b1203)))).other W1240 (Or.inl (Nat.ne_of_lt lt_b91_b1203)))
                        have f1324 := ((((((((((((((((((((((((Fw1003).other W1007 (Or.inl (Nat.ne_of_lt lt_b79_b91)))).other W1011 (Or.inl (Nat.ne_of_lt lt_b79_b104)))).other W1015 (Or.inl (Nat.ne_of_lt lt_b79_b149)))).other W1019 (Or.inl (Nat.ne_of_lt lt_b79_b149)))).other W1023 (Or.inl (Nat.ne_of_lt lt_b79_b133)))).ext E1203)).other W1215 (Or.inl (Nat.ne_of_lt lt_b79_b1203)))).other W1220 (Or.inl (Nat.ne_of_lt lt_b79_b1203)))).other W1225 (Or.inl (Nat.ne_of_lt lt_b79_b1203)))).other W1230 (Or.inl (Nat.ne_of_lt lt_b79_b1203)))).other W1235 (Or.inl (Nat.ne_of_lt lt_b79_b1203)))).other W1240 (Or.inl (Nat.ne_of_lt lt_b79_b1203)))
                        have f1325 := ((((((((((((((((((((((((((Fw180).other W1003 (Or.inr (slot_ne (Or.inl (hw _ (List.mem_of_getElem? (i := 38) rfl))) (Or.inl (hw _ (List.mem_of_getElem? (i := 41) rfl))) (by decide) (t := (.object "com/example/dwellgate/dwellgate/book/PriceTree$Node")) (t' := (.object "com/example/dwellgate/dwellgate/book/PriceTree$Node")) (by decide) (by decide))))).other W1007 (Or.inl (Nat.ne_of_lt lt_b79_b91)))).other W1011 (Or.inl (Nat.ne_of_lt lt_b79_b104)))).other W1015 (Or.inl (Nat.ne_of_lt lt_b79_b149)))).other W1019 (Or.inl (Nat.ne_of_lt lt_b79_b149)))).other W1023 (Or.inl (Nat.ne_of_lt lt_b79_b133)))).ext E1203)).other W1215 (Or.inl (Nat.ne_of_lt lt_b79_b1203)))).other W1220 (Or.inl (Nat.ne_of_lt lt_b79_b1203)))).other W1225 (Or.inl (Nat.ne_of_lt lt_b79_b1203)))).other W1230 (Or.inl (Nat.ne_of_lt lt_b79_b1203)))).other W1235 (Or.inl (Nat.ne_of_lt lt_b79_b1203)))).other W1240 (Or.inl (Nat.ne_of_lt lt_b79_b1203)))
                        have f1326 := ((((((((((((((((((((((((((((Fw176).other W180 (Or.inl (Nat.ne_of_lt lt_b46_b79)))).other W1003 (Or.inl (Nat.ne_of_lt lt_b46_b79)))).other W1007 (Or.inl (Nat.ne_of_lt lt_b46_b91)))).other W1011 (Or.inl (Nat.ne_of_lt lt_b46_b104)))).other W1015 (Or.inl (Nat.ne_of_lt lt_b46_b149)))).other W1019 (Or.inl (Nat.ne_of_lt lt_b46_b149)))).other W1023 (Or.inl (Nat.ne_of_lt lt_b46_b133)))).ext E1203)).other W1215 (Or.inl (Nat.ne_of_lt lt_b46_b1203)))).other W1220 (Or.inl (Nat.ne_of_lt lt_b46_b1203)))).other W1225 (Or.inl (Nat.ne_of_lt lt_b46_b1203)))).other W1230 (Or.inl (Nat.ne_of_lt lt_b46_b1203)))).other W1235 (Or.inl (Nat.ne_of_lt lt_b46_b1203)))).other W1240 (Or.inl (Nat.ne_of_lt lt_b46_b1203)))
                        have f1327 := ((((((((((((((((((((((((((((((Fw172).other W176 (Or.inr (slot_ne (Or.inl (hw _ (List.mem_of_getElem? (i := 38) rfl))) (Or.inl (hw _ (List.mem_of_getElem? (i := 41) rfl))) (by decide) (t := (.object "com/example/dwellgate/dwellgate/book/PriceTree$Node")) (t' := (.object "com/example/dwellgate/dwellgate/book/PriceTree$Node")) (by decide) (by decide))))).other W180 (Or.inl (Nat.ne_of_lt lt_b46_b79)))).other W1003 (Or.inl (Nat.ne_of_lt lt_b46_b79)))).other W1007 (Or.inl (Nat.ne_of_lt lt_b46_b91)))).other W1011 (Or.inl (Nat.ne_of_lt lt_b46_b104)))).other W1015 (Or.inl (Nat.ne_of_lt lt_b46_b149)))).other W1019 (Or.inl (Nat.ne_of_lt lt_b46_b149)))).other W1023 (Or.inl (Nat.ne_of_lt lt_b46_b133)))).ext E1203)).other W1215 (Or.inl (Nat.ne_of_lt lt_b46_b1203)))).other W1220 (Or.inl (Nat.ne_of_lt lt_b46_b1203)))).other W1225 (Or.inl (Nat.ne_of_lt lt_b46_b1203)))).other W1230 (Or.inl (Nat.ne_of_lt lt_b46_b1203)))).other W1235 (Or.inl (Nat.ne_of_lt lt_b46_b1203)))).other W1240 (Or.inl (Nat.ne_of_lt lt_b46_b1203)))
                        have f1328 := ((((((((((((((((((((Fw1011).other W1015 (Or.inl (Nat.ne_of_lt lt_b104_b149)))).other W1019 (Or.inl (Nat.ne_of_lt lt_b104_b149)))).other W1023 (Or.inl (Nat.ne_of_lt lt_b104_b133)))).ext E1203)).other W1215 (Or.inl (Nat.ne_of_lt lt_b104_b1203)))).other W1220 (Or.inl (Nat.ne_of_lt lt_b104_b1203)))).other W1225 (Or.inl (Nat.ne_of_lt lt_b104_b1203)))).other W1230 (Or.inl (Nat.ne_of_lt lt_b104_b1203)))).other W1235 (Or.inl (Nat.ne_of_lt lt_b104_b1203)))).other W1240 (Or.inl (Nat.ne_of_lt lt_b104_b1203)))
                        obtain ⟨r1329, T1329, L1329, X1329, hQ1329, st1329⟩ := own_callV (W := 0) (a := b35) (C := "com/example/dwellgate/dwellgate/book/PriceTree") X1240 hx hZ e1240 hown (y := (⟨"com/example/dwellgate/dwellgate/book/PriceTree", "next", "(Lcom/example/dwellgate/dwellgate/book/PriceTree$Node;)Lcom/example/dwellgate/dwellgate/book/PriceTree$Node;"⟩ : MethodName)) (z := (⟨"com/example/dwellgate/dwellgate/book/PriceTree", "next", "(Lcom/example/dwellgate/dwellgate/book/PriceTree$Node;)Lcom/example/dwellgate/dwellgate/book/PriceTree$Node;"⟩ : MethodName)) (hw _ (List.mem_of_getElem? (i := 45) rfl)) (hw _ (List.mem_of_getElem? (i := 46) rfl)) (notFace_of_selects (args := #[]) (mvT hZ (hw _ (List.mem_of_getElem? (i := 48) rfl)))) (hw _ (List.mem_of_getElem? (i := 48) rfl)) (hw _ (List.mem_of_getElem? (i := 47) rfl)) (hw _ (List.mem_of_getElem? (i := 5) rfl)) (hw _ (List.mem_of_getElem? (i := 49) rfl)) (by decide) (f1306) (rm11 l Z a0 hw [] b35 b91 b79 b46 b104 b149 h1240 n0 Z1242 (f1322) (f1323) (f1324) (f1325) (f1326) (f1327) (f1328) ((Nat.ne_of_lt lt_b46_b149))) (by decide) (by decide) (by decide) (by decide) (g := (mkF m 418 A1302 [(.ref b91), (.ref b35)])) rfl (by rw [hml]; rfl) (argsL := [(.ref b91)]) (rest := []) rfl (lenOf pd_2 rfl) rfl (by show 2 * 0 + _ ≤ _; exact Nat.le_of_eq rfl) (hb hby at_418)
                        obtain ⟨rfl, N1329, e1329⟩ := hQ1329
                        have N1329_ := Fr.app N1240 N1329
                        refine Go.st (S' := T1329.setTop (mkF m 421 A1302 [(.ref b104)])) st1329 ?_
                        refine Go.st (S' := T1329.setTop (mkF m 423 A1302 [(.ref b104), (.ref b104)])) (fun t k => XS.aload X1329.here hx rfl (hb hby at_421) rfl rfl k) ?_
                        refine Go.st (S' := T1329.setTop (mkF m 426 A1302 [])) (fun t k => acmp X1329 hx rfl rfl rfl (pc0 := 423) (pc' := 426) (same := true) rfl (hb hby at_423) rfl (by simp) (by decide) (by decide) k) ?_
                        refine Go.st (S' := T1329.setTop (mkF m 427 A1302 [(.int (1 : Int32))])) (fun t k => XS.iconst X1329.here hx rfl (hb hby at_426) k) ?_
                        refine Go.st (S' := T1329.setTop (mkF m 431 A1302 [(.int (1 : Int32))])) (fun t k => XS.goto X1329.here hx rfl (pc0 := 427) (pc' := 431) rfl (hb hby at_427) (by decide) (by decide) k) ?_
                        exact Go.ret X1329 (v := some (.int (1 : Int32))) (fun h => by rw [Bd.returns] at h; cases h) Bd.notSynchronized (fun fs hr => retN X1329 hx (t := .boolean) Bd.returns (by simp) (hb hby at_431) hr) (by decide) (by decide) ⟨rfl, N1329_⟩
                      · by_cases hj1330 : v1248 = (4 : Int32)
                        · obtain ⟨cl1331, Ar1331, -, S1331, N1331_, H1331, -⟩ := id V1240
                          have hin1331 : ¬ (v1248 < 0 ∨ cl1331.slots.size ≤ (v1248).toNatClampNeg) := by rw [hj1330]; exact inb_of S1331 ⟨by decide, by decide⟩
                          have hat1331 : cl1331.slots[(v1248).toNatClampNeg]? = some (.ref b133) := Has.at H1331 hin1331 (by rw [hj1330]; rfl)
                          refine Go.st (S' := T1240.setTop (mkF m 405 A1247 [(.ref b133)])) (fun t k => X1240.aaload hx (j := v1248) (v := (.ref b133)) (own_eh e1240 Ar1331.1) (State.isArrayOf_alike hZ.alike Ar1331.2.1) rfl Ar1331.2.2 hin1331 hat1331 (g := (mkF m 404 A1247 [(.int v1248), (.ref b1203)])) rfl rfl (hb hby at_404) t k) ?_
                          refine Go.st (S' := T1240.setTop (mkF m 409 A1247 [(.ref b133)])) (fun t k => XS.goto X1240.here hx rfl (pc0 := 405) (pc' := 409) rfl (hb hby at_405) (by decide) (by decide) k) ?_
                          let A1332 : Array Slot := #[.val (.int p0), .val (.int p1), .val (.int r5), .val (.int r11), .val (.int r17), .val (.ref r26), .val (.long r32), .second, .val (.ref b35), .val (.ref b46), .val (.ref b79), .val (.ref b91), .val (.ref b104), .val (.ref b118), .val (.ref b133), .val (.ref b149), .val (.ref b1203), .val (.int (6 : Int32)), .val (.int v1246), .val (.ref b133)]
                          refine Go.st (S' := T1240.setTop (mkF m 411 A1332 [])) (fun t k => XS.astore X1240.here hx rfl (hb hby at_409) rfl rfl (l' := A1332) rfl k) ?_
                          refine Go.st (S' := T1240.setTop (mkF m 413 A1332 [(.ref b35)])) (fun t k => XS.aload X1240.here hx rfl (hb hby at_411) rfl rfl k) ?_
                          refine Go.st (S' := T1240.setTop (mkF m 415 A1332 [(.ref b1203), (.ref b35)])) (fun t k => XS.aload X1240.here hx rfl (hb hby at_413) rfl rfl k) ?_
                          refine Go.st (S' := T1240.setTop (mkF m 417 A1332 [(.int v1246), (.ref b1203), (.ref b35)])) (fun t k => XS.iload X1240.here hx rfl (hb hby at_415) rfl k) ?_
                          have hj1334 : v1246 = (3 : Int32) := by
                            refine Decidable.byContradiction fun hc1335 => ?_
                            have rv1245 := rng32 v1245
                            have wv1245 := c_mask p0 (2147483647 : Int32) 31 (by decide) (by decide)
                            rw [← hv1245] at wv1245
                            have rv1246 := rng32 v1246
                            have wv1246 := c_irem v1245 (6 : Int32) 6 (by decide)
                            rw [← hv1246] at wv1246
                            have rv1248 := rng32 v1248
                            have wv1248 := c_iadd v1246 (1 : Int32)
                            rw [← hv1248] at wv1248
                            have rp0 := rng32 p0
                            have lI1 : (1 : Int32).toInt = 1 := by decide
                            have lI2 : (2 : Int32).toInt = 2 := by decide
                            have lI3 : (3 : Int32).toInt = 3 := by decide
                            have lI4 : (4 : Int32).toInt = 4 := by decide
                            have lI6 : (6 : Int32).toInt = 6 := by decide
                            have lI2147483647 : (2147483647 : Int32).toInt = 2147483647 := by decide
                            simp only [Int32.lt_iff_toInt_lt, Int64.lt_iff_toInt_lt, ← Int32.toInt_inj, ← Int64.toInt_inj] at hc1277 hj1280 hj1290 hj1300 hj1330 hc1335
                            omega
                          obtain ⟨cl1333, Ar1333, -, S1333, N1333_, H1333, -⟩ := id V1240
                          have hin1333 : ¬ (v1246 < 0 ∨ cl1333.slots.size ≤ (v1246).toNatClampNeg) := by rw [hj1334]; exact inb_of S1333 ⟨by decide, by decide⟩
                          have hat1333 : cl1333.slots[(v1246).toNatClampNeg]? = some (.ref b104) := Has.at H1333 hin1333 (by rw [hj1334]; rfl)
                          refine Go.st (S' := T1240.setTop (mkF m 418 A1332 [(.ref b104), (.ref b35)])) (fun t k => X1240.aaload hx (j := v1246) (v := (.ref b104)) (own_eh e1240 Ar1333.1) (State.isArrayOf_alike hZ.alike Ar1333.2.1) rfl Ar1333.2.2 hin1333 hat1333 (g := (mkF m 417 A1332 [(.int v1246), (.ref b1203), (.ref b35)])) rfl rfl (hb hby at_417) t k) ?_
                          have f1336 := ((((((((((((((f1204).ext E1203)).wr W1215)).wr W1220)).wr W1225)).wr W1230)).wr W1235)).wr W1240)
                          have f1340 := ((((((((((((((((((((Fw1011).other W1015 (Or.inl (Nat.ne_of_lt lt_b104_b149)))).other W1019 (Or.inl (Nat.ne_of_lt lt_b104_b149)))).other W1023 (Or.inl (Nat.ne_of_lt lt_b104_b133)))).ext E1203)).other W1215 (Or.inl (Nat.ne_of_lt lt_b104_b1203)))).other W1220 (Or.inl (Nat.ne_of_lt lt_b104_b1203)))).other W1225 (Or.inl (Nat.ne_of_lt lt_b104_b1203)))).other W1230 (Or.inl (Nat.ne_of_lt lt_b104_b1203)))).other W1235 (Or.inl (Nat.ne_of_lt lt_b104_b1203)))).other W1240 (Or.inl (Nat.ne_of_lt lt_b104_b1203)))
                          have f1341 := ((((((((((((((((Fw1019).other W1023 (Or.inl (Nat.ne_of_gt lt_b133_b149)))).ext E1203)).other W1215 (Or.inl (Nat.ne_of_lt lt_b149_b1203)))).other W1220 (Or.inl (Nat.ne_of_lt lt_b149_b1203)))).other W1225 (Or.inl (Nat.ne_of_lt lt_b149_b1203)))).other W1230 (Or.inl (Nat.ne_of_lt lt_b149_b1203)))).other W1235 (Or.inl (Nat.ne_of_lt lt_b149_b1203)))).other W1240 (Or.inl (Nat.ne_of_lt lt_b149_b1203)))
                          have f1342 := ((((((((((((((((((((((((((((((((((((((f144).ext E149)).keep K158_ (ninS (Nat.ne_of_lt lt_b133_b149) nin0))).other W168 (Or.inl (Nat.ne_of_gt lt_b104_b133)))).other W172 (Or.inl (Nat.ne_of_gt lt_b46_b133)))).other W176 (Or.inl (Nat.ne_of_gt lt_b46_b133)))).other W180 (Or.inl (Nat.ne_of_gt lt_b79_b133)))).other W1003 (Or.inl (Nat.ne_of_gt lt_b79_b133)))).other W1007 (Or.inl (Nat.ne_of_gt lt_b91_b133)))).other W1011 (Or.inl (Nat.ne_of_gt lt_b104_b133)))).other W1015 (Or.inl (Nat.ne_of_lt lt_b133_b149)))).other W1019 (Or.inl (Nat.ne_of_lt lt_b133_b149)))).other W1023 (Or.inr (slot_ne (Or.inl (hw _ (List.mem_of_getElem? (i := 35) rfl))) (Or.inl (hw _ (List.mem_of_getElem? (i := 38) rfl))) (by decide) (t := (.object "com/example/dwellgate/dwellgate/book/PriceTree$Node")) (t' := (.object "com/example/dwellgate/dwellgate/book/PriceTree$Node")) (by decide) (by decide))))).ext E1203)).other W1215 (Or.inl (Nat.ne_of_lt lt_b133_b1203)))).other W1220 (Or.inl (Nat.ne_of_lt lt_b133_b1203)))).other W1225 (Or.inl (Nat.ne_of_lt lt_b133_b1203)))).other W1230 (Or.inl (Nat.ne_of_lt lt_b133_b1203)))).other W1235 (Or.inl (Nat.ne_of_lt lt_b133_b1203)))).other W1240 (Or.inl (Nat.ne_of_lt lt_b133_b1203)))
                          obtain ⟨r1343, T1343, L1343, X1343, hQ1343, st1343⟩ := own_callV (W := 0) (a := b35) (C := "com/example/dwellgate/dwellgate/book/PriceTree") X1240 hx hZ e1240 hown (y := (⟨"com/example/dwellgate/dwellgate/book/PriceTree", "next", "(Lcom/example/dwellgate/dwellgate/book/PriceTree$Node;)Lcom/example/dwellgate/dwellgate/book/PriceTree$Node;"⟩ : MethodName)) (z := (⟨"com/example/dwellgate/dwellgate/book/PriceTree", "next", "(Lcom/example/dwellgate/dwellgate/book/PriceTree$Node;)Lcom/example/dwellgate/dwellgate/book/PriceTree$Node;"⟩ : MethodName)) (hw _ (List.mem_of_getElem? (i := 45) rfl)) (hw _ (List.mem_of_getElem? (i := 46) rfl)) (notFace_of_selects (args := #[]) (mvT hZ (hw _ (List.mem_of_getElem? (i := 48) rfl)))) (hw _ (List.mem_of_getElem? (i := 48) rfl)) (hw _ (List.mem_of_getElem? (i := 47) rfl)) (hw _ (List.mem_of_getElem? (i := 5) rfl)) (hw _ (List.mem_of_getElem? (i := 49) rfl)) (by decide) (f1336) (rm7 l Z a0 hw [] b35 b104 b149 b133 h1240 n0 Z1242 (f1340) (f1341) (f1342)) (by decide) (by decide) (by decide) (by decide) (g := (mkF m 418 A1332 [(.ref b104), (.ref b35)])) rfl (by rw [hml]; rfl) (argsL := [(.ref b104)]) (rest := []) rfl (lenOf pd_2 rfl) rfl (by show 2 * 0 + _ ≤ _; exact Nat.le_of_eq rfl) (hb hby at_418)
                          obtain ⟨rfl, N1343, e1343⟩ := hQ1343
                          have N1343_ := Fr.app N1240 N1343
                          refine Go.st (S' := T1343.setTop (mkF m 421 A1332 [(.ref b133)])) st1343 ?_
                          refine Go.st (S' := T1343.setTop (mkF m 423 A1332 [(.ref b133), (.ref b133)])) (fun t k => XS.aload X1343.here hx rfl (hb hby at_421) rfl rfl k) ?_
                          refine Go.st (S' := T1343.setTop (mkF m 426 A1332 [])) (fun t k => acmp X1343 hx rfl rfl rfl (pc0 := 423) (pc' := 426) (same := true) rfl (hb hby at_423) rfl (by simp) (by decide) (by decide) k) ?_
                          refine Go.st (S' := T1343.setTop (mkF m 427 A1332 [(.int (1 : Int32))])) (fun t k => XS.iconst X1343.here hx rfl (hb hby at_426) k) ?_
                          refine Go.st (S' := T1343.setTop (mkF m 431 A1332 [(.int (1 : Int32))])) (fun t k => XS.goto X1343.here hx rfl (pc0 := 427) (pc' := 431) rfl (hb hby at_427) (by decide) (by decide) k) ?_
                          exact Go.ret X1343 (v := some (.int (1 : Int32))) (fun h => by rw [Bd.returns] at h; cases h) Bd.notSynchronized (fun fs hr => retN X1343 hx (t := .boolean) Bd.returns (by simp) (hb hby at_431) hr) (by decide) (by decide) ⟨rfl, N1343_⟩
                        · have hj1344 : v1248 = (5 : Int32) := by
                            refine Decidable.byContradiction fun hc1345 => ?_
                            have rv1245 := rng32 v1245
                            have wv1245 := c_mask p0 (2147483647 : Int32) 31 (by decide) (by decide)
                            rw [← hv1245] at wv1245
                            have rv1246 := rng32 v1246
                            have wv1246 := c_irem v1245 (6 : Int32) 6 (by decide)
                            rw [← hv1246] at wv1246
                            have rv1248 := rng32 v1248
                            have wv1248 := c_iadd v1246 (1 : Int32)
                            rw [← hv1248] at wv1248
                            have rp0 := rng32 p0
                            have lI1 : (1 : Int32).toInt = 1 := by decide
                            have lI2 : (2 : Int32).toInt = 2 := by decide
                            have lI3 : (3 : Int32).toInt = 3 := by decide
                            have lI4 : (4 : Int32).toInt = 4 := by decide
                            have lI5 : (5 : Int32).toInt = 5 := by decide
                            have lI6 : (6 : Int32).toInt = 6 := by decide
                            have lI2147483647 : (2147483647 : Int32).toInt = 2147483647 := by decide
                            simp only [Int32.lt_iff_toInt_lt, Int64.lt_iff_toInt_lt, ← Int32.toInt_inj, ← Int64.toInt_inj] at hc1277 hj1280 hj1290 hj1300 hj1330 hc1345
                            omega
                          obtain ⟨cl1346, Ar1346, -, S1346, N1346_, H1346, -⟩ := id V1240
                          have hin1346 : ¬ (v1248 < 0 ∨ cl1346.slots.size ≤ (v1248).toNatClampNeg) := by rw [hj1344]; exact inb_of S1346 ⟨by decide, by decide⟩
                          have hat1346 : cl1346.slots[(v1248).toNatClampNeg]? = some (.ref b149) := Has.at H1346 hin1346 (by rw [hj1344]; rfl)
                          refine Go.st (S' := T1240.setTop (mkF m 405 A1247 [(.ref b149)])) (fun t k => X1240.aaload hx (j := v1248) (v := (.ref b149)) (own_eh e1240 Ar1346.1) (State.isArrayOf_alike hZ.alike Ar1346.2.1) rfl Ar1346.2.2 hin1346 hat1346 (g := (mkF m 404 A1247 [(.int v1248), (.ref b1203)])) rfl rfl (hb hby at_404) t k) ?_
                          refine Go.st (S' := T1240.setTop (mkF m 409 A1247 [(.ref b149)])) (fun t k => XS.goto X1240.here hx rfl (pc0 := 405) (pc' := 409) rfl (hb hby at_405) (by decide) (by decide) k) ?_
                          let A1347 : Array Slot := #[.val (.int p0), .val (.int p1), .val (.int r5), .val (.int r11), .val (.int r17), .val (.ref r26), .val (.long r32), .second, .val (.ref b35), .val (.ref b46), .val (.ref b79), .val (.ref b91), .val (.ref b104), .val (.ref b118), .val (.ref b133), .val (.ref b149), .val (.ref b1203), .val (.int (6 : Int32)), .val (.int v1246), .val (.ref b149)]
                          refine Go.st (S' := T1240.setTop (mkF m 411 A1347 [])) (fun t k => XS.astore X1240.here hx rfl (hb hby at_409) rfl rfl (l' := A1347) rfl k) ?_
                          refine Go.st (S' := T1240.setTop (mkF m 413 A1347 [(.ref b35)])) (fun t k => XS.aload X1240.here hx rfl (hb hby at_411) rfl rfl k) ?_
                          refine Go.st (S' := T1240.setTop (mkF m 415 A1347 [(.ref b1203), (.ref b35)])) (fun t k => XS.aload X1240.here hx rfl (hb hby at_413) rfl rfl k) ?_
                          refine Go.st (S' := T1240.setTop (mkF m 417 A1347 [(.int v1246), (.ref b1203), (.ref b35)])) (fun t k => XS.iload X1240.here hx rfl (hb hby at_415) rfl k) ?_
                          have hj1349 : v1246 = (4 : Int32) := by
                            refine Decidable.byContradiction fun hc1350 => ?_
                            have rv1245 := rng32 v1245
                            have wv1245 := c_mask p0 (2147483647 : Int32) 31 (by decide) (by decide)
                            rw [← hv1245] at wv1245
                            have rv1246 := rng32 v1246
                            have wv1246 := c_irem v1245 (6 : Int32) 6 (by decide)
                            rw [← hv1246] at wv1246
                            have rv1248 := rng32 v1248
                            have wv1248 := c_iadd v1246 (1 : Int32)
                            rw [← hv1248] at wv1248
                            have rp0 := rng32 p0
                            have lI1 : (1 : Int32).toInt = 1 := by decide
                            have lI2 : (2 : Int32).toInt = 2 := by decide
                            have lI3 : (3 : Int32).toInt = 3 := by decide
                            have lI4 : (4 : Int32).toInt = 4 := by decide
                            have lI5 : (5 : Int32).toInt = 5 := by decide
                            have lI6 : (6 : Int32).toInt = 6 := by decide
                            have lI2147483647 : (2147483647 : Int32).toInt = 2147483647 := by decide
                            simp only [Int32.lt_iff_toInt_lt, Int64.lt_iff_toInt_lt, ← Int32.toInt_inj, ← Int64.toInt_inj] at hc1277 hj1280 hj1290 hj1300 hj1330 hj1344 hc1350
                            omega
                          obtain ⟨cl1348, Ar1348, -, S1348, N1348_, H1348, -⟩ := id V1240
                          have hin1348 : ¬ (v1246 < 0 ∨ cl1348.slots.size ≤ (v1246).toNatClampNeg) := by rw [hj1349]; exact inb_of S1348 ⟨by decide, by decide⟩
                          have hat1348 : cl1348.slots[(v1246).toNatClampNeg]? = some (.ref b133) := Has.at H1348 hin1348 (by rw [hj1349]; rfl)
                          refine Go.st (S' := T1240.setTop (mkF m 418 A1347 [(.ref b133), (.ref b35)])) (fun t k => X1240.aaload hx (j := v1246) (v := (.ref b133)) (own_eh e1240 Ar1348.1) (State.isArrayOf_alike hZ.alike Ar1348.2.1) rfl Ar1348.2.2 hin1348 hat1348 (g := (mkF m 417 A1347 [(.int v1246), (.ref b1203), (.ref b35)])) rfl rfl (hb hby at_417) t k) ?_
                          have f1351 := ((((((((((((((f1204).ext E1203)).wr W1215)).wr W1220)).wr W1225)).wr W1230)).wr W1235)).wr W1240)
                          have f1357 := ((((((((((((((((((((((((((((((((((((((f146).ext E149)).keep K158_ (ninS (Nat.ne_of_lt lt_b133_b149) nin0))).other W168 (Or.inl (Nat.ne_of_gt lt_b104_b133)))).other W172 (Or.inl (Nat.ne_of_gt lt_b46_b133)))).other W176 (Or.inl (Nat.ne_of_gt lt_b46_b133)))).other W180 (Or.inl (Nat.ne_of_gt lt_b79_b133)))).other W1003 (Or.inl (Nat.ne_of_gt lt_b79_b133)))).other W1007 (Or.inl (Nat.ne_of_gt lt_b91_b133)))).other W1011 (Or.inl (Nat.ne_of_gt lt_b104_b133)))).other W1015 (Or.inl (Nat.ne_of_lt lt_b133_b149)))).other W1019 (Or.inl (Nat.ne_of_lt lt_b133_b149)))).other W1023 (Or.inr (slot_ne (Or.inl (hw _ (List.mem_of_getElem? (i := 41) rfl))) (Or.inl (hw _ (List.mem_of_getElem? (i := 38) rfl))) (by decide) (t := (.object "com/example/dwellgate/dwellgate/book/PriceTree$Node")) (t' := (.object "com/example/dwellgate/dwellgate/book/PriceTree$Node")) (by decide) (by decide))))).ext E1203)).other W1215 (Or.inl (Nat.ne_of_lt lt_b133_b1203)))).other W1220 (Or.inl (Nat.ne_of_lt lt_b133_b1203)))).other W1225 (Or.inl (Nat.ne_of_lt lt_b133_b1203)))).other W1230 (Or.inl (Nat.ne_of_lt lt_b133_b1203)))).other W1235 (Or.inl (Nat.ne_of_lt lt_b133_b1203)))).other W1240 (Or.inl (Nat.ne_of_lt lt_b133_b1203)))
                          have f1358 := ((((((((((((((Fw1023).ext E1203)).other W1215 (Or.inl (Nat.ne_of_lt lt_b133_b1203)))).other W1220 (Or.inl (Nat.ne_of_lt lt_b133_b1203)))).other W1225 (Or.inl (Nat.ne_of_lt lt_b133_b1203)))).other W1230 (Or.inl (Nat.ne_of_lt lt_b133_b1203)))).other W1235 (Or.inl (Nat.ne_of_lt lt_b133_b1203)))).other W1240 (Or.inl (Nat.ne_of_lt lt_b133_b1203)))
                          have f1359 := ((((((((((((((((((((((((((((((((((f163).other W168 (Or.inl (Nat.ne_of_gt lt_b104_b149)))).other W172 (Or.inl (Nat.ne_of_gt lt_b46_b149)))).other W176 (Or.inl (Nat.ne_of_gt lt_b46_b149)))).other W180 (Or.inl (Nat.ne_of_gt lt_b79_b149)))).other W1003 (Or.inl (Nat.ne_of_gt lt_b79_b149)))).other W1007 (Or.inl (Nat.ne_of_gt lt_b91_b149)))).other W1011 (Or.inl (Nat.ne_of_gt lt_b104_b149)))).other W1015 (Or.inr (slot_ne (Or.inl (hw _ (List.mem_of_getElem? (i := 41) rfl))) (Or.inl (hw _ (List.mem_of_getElem? (i := 38) rfl))) (by decide) (t := (.object "com/example/dwellgate/dwellgate/book/PriceTree$Node")) (t' := (.object "com/example/dwellgate/dwellgate/book/PriceTree$Node")) (by decide) (by decide))))).other W1019 (Or.inr (slot_ne (Or.inl (hw _ (List.mem_of_getElem? (i := 41) rfl))) (Or.inl (hw _ (List.mem_of_getElem? (i := 35) rfl))) (by decide) (t := (.object "com/example/dwellgate/dwellgate/book/PriceTree$Node")) (t' := (.object "com/example/dwellgate/dwellgate/book/PriceTree$Node")) (by decide) (by decide))))).other W1023 (Or.inl (Nat.ne_of_gt lt_b133_b149)))).ext E1203)).other W1215 (Or.inl (Nat.ne_of_lt lt_b149_b1203)))).other W1220 (Or.inl (Nat.ne_of_lt lt_b149_b1203)))).other W1225 (Or.inl (Nat.ne_of_lt lt_b149_b1203)))).other W1230 (Or.inl (Nat.ne_of_lt lt_b149_b1203)))).other W1235 (Or.inl (Nat.ne_of_lt lt_b149_b1203)))).other W1240 (Or.inl (Nat.ne_of_lt lt_b149_b1203)))
                          obtain ⟨r1360, T1360, L1360, X1360, hQ1360, st1360⟩ := own_callV (W := 0) (a := b35) (C := "com/example/dwellgate/dwellgate/book/PriceTree") X1240 hx hZ e1240 hown (y := (⟨"com/example/dwellgate/dwellgate/book/PriceTree", "next", "(Lcom/example/dwellgate/dwellgate/book/PriceTree$Node;)Lcom/example/dwellgate/dwellgate/book/PriceTree$Node;"⟩ : MethodName)) (z := (⟨"com/example/dwellgate/dwellgate/book/PriceTree", "next", "(Lcom/example/dwellgate/dwellgate/book/PriceTree$Node;)Lcom/example/dwellgate/dwellgate/book/PriceTree$Node;"⟩ : MethodName)) (hw _ (List.mem_of_getElem? (i := 45) rfl)) (hw _ (List.mem_of_getElem? (i := 46) rfl)) (notFace_of_selects (args := #[]) (mvT hZ (hw _ (List.mem_of_getElem? (i := 48) rfl)))) (hw _ (List.mem_of_getElem? (i := 48) rfl)) (hw _ (List.mem_of_getElem? (i := 47) rfl)) (hw _ (List.mem_of_getElem? (i := 5) rfl)) (hw _ (List.mem_of_getElem? (i := 49) rfl)) (by decide) (f1351) (rm8 l Z a0 hw [] b35 b133 b149 h1240 n0 Z1242 (f1357) (f1358) (f1359)) (by decide) (by decide) (by decide) (by decide) (g := (mkF m 418 A1347 [(.ref b133), (.ref b35)])) rfl (by rw [hml]; rfl) (argsL := [(.ref b133)]) (rest := []) rfl (lenOf pd_2 rfl) rfl (by show 2 * 0 + _ ≤ _; exact Nat.le_of_eq rfl) (hb hby at_418)
                          obtain ⟨rfl, N1360, e1360⟩ := hQ1360
                          have N1360_ := Fr.app N1240 N1360
                          refine Go.st (S' := T1360.setTop (mkF m 421 A1347 [(.ref b149)])) st1360 ?_
                          refine Go.st (S' := T1360.setTop (mkF m 423 A1347 [(.ref b149), (.ref b149)])) (fun t k => XS.aload X1360.here hx rfl (hb hby at_421) rfl rfl k) ?_
                          refine Go.st (S' := T1360.setTop (mkF m 426 A1347 [])) (fun t k => acmp X1360 hx rfl rfl rfl (pc0 := 423) (pc' := 426) (same := true) rfl (hb hby at_423) rfl (by simp) (by decide) (by decide) k) ?_
                          refine Go.st (S' := T1360.setTop (mkF m 427 A1347 [(.int (1 : Int32))])) (fun t k => XS.iconst X1360.here hx rfl (hb hby at_426) k) ?_
                          refine Go.st (S' := T1360.setTop (mkF m 431 A1347 [(.int (1 : Int32))])) (fun t k => XS.goto X1360.here hx rfl (pc0 := 427) (pc' := 431) rfl (hb hby at_427) (by decide) (by decide) k) ?_
                          exact Go.ret X1360 (v := some (.int (1 : Int32))) (fun h => by rw [Bd.returns] at h; cases h) Bd.notSynchronized (fun fs hr => retN X1360 hx (t := .boolean) Bd.returns (by simp) (hb hby at_431) hr) (by decide) (by decide) ⟨rfl, N1360_⟩
                · refine Go.st (S' := T1240.setTop (mkF m 408 A1247 [])) (fun t k => XS.icmpYes X1240.here hx rfl (pc0 := 395) (pc' := 408) rfl (hb hby at_395) rfl (flt hc1277).2.1 (by decide) (by decide) k) ?_
                  refine Go.st (S' := T1240.setTop (mkF m 409 A1247 [.null])) (fun t k => XS.aconstNull X1240.here hx rfl (hb hby at_408) k) ?_
                  let A1361 : Array Slot := #[.val (.int p0), .val (.int p1), .val (.int r5), .val (.int r11), .val (.int r17), .val (.ref r26), .val (.long r32), .second, .val (.ref b35), .val (.ref b46), .val (.ref b79), .val (.ref b91), .val (.ref b104), .val (.ref b118), .val (.ref b133), .val (.ref b149), .val (.ref b1203), .val (.int (6 : Int32)), .val (.int v1246), .val .null]
                  refine Go.st (S' := T1240.setTop (mkF m 411 A1361 [])) (fun t k => XS.astore X1240.here hx rfl (hb hby at_409) rfl rfl (l' := A1361) rfl k) ?_
                  refine Go.st (S' := T1240.setTop (mkF m 413 A1361 [(.ref b35)])) (fun t k => XS.aload X1240.here hx rfl (hb hby at_411) rfl rfl k) ?_
                  refine Go.st (S' := T1240.setTop (mkF m 415 A1361 [(.ref b1203), (.ref b35)])) (fun t k => XS.aload X1240.here hx rfl (hb hby at_413) rfl rfl k) ?_
                  refine Go.st (S' := T1240.setTop (mkF m 417 A1361 [(.int v1246), (.ref b1203), (.ref b35)])) (fun t k => XS.iload X1240.here hx rfl (hb hby at_415) rfl k) ?_
                  have hj1363 : v1246 = (5 : Int32) := by
                    refine Decidable.byContradiction fun hc1364 => ?_
                    have rv1245 := rng32 v1245
                    have wv1245 := c_mask p0 (2147483647 : Int32) 31 (by decide) (by decide)
                    rw [← hv1245] at wv1245
                    have rv1246 := rng32 v1246
                    have wv1246 := c_irem v1245 (6 : Int32) 6 (by decide)
                    rw [← hv1246] at wv1246
                    have rv1248 := rng32 v1248
                    have wv1248 := c_iadd v1246 (1 : Int32)
                    rw [← hv1248] at wv1248
                    have rp0 := rng32 p0
                    have lI1 : (1 : Int32).toInt = 1 := by decide
                    have lI5 : (5 : Int32).toInt = 5 := by decide
                    have lI6 : (6 : Int32).toInt = 6 := by decide
                    have lI2147483647 : (2147483647 : Int32).toInt = 2147483647 := by decide
                    simp only [Int32.lt_iff_toInt_lt, Int64.lt_iff_toInt_lt, ← Int32.toInt_inj, ← Int64.toInt_inj] at hc1277 hc1364
                    omega
                  obtain ⟨cl1362, Ar1362, -, S1362, N1362_, H1362, -⟩ := id V1240
                  have hin1362 : ¬ (v1246 < 0 ∨ cl1362.slots.size ≤ (v1246).toNatClampNeg) := by rw [hj1363]; exact inb_of S1362 ⟨by decide, by decide⟩
                  have hat1362 : cl1362.slots[(v1246).toNatClampNeg]? = some (.ref b149) := Has.at H1362 hin1362 (by rw [hj1363]; rfl)
                  refine Go.st (S' := T1240.setTop (mkF m 418 A1361 [(.ref b149), (.ref b35)])) (fun t k => X1240.aaload hx (j := v1246) (v := (.ref b149)) (own_eh e1240 Ar1362.1) (State.isArrayOf_alike hZ.alike Ar1362.2.1) rfl Ar1362.2.2 hin1362 hat1362 (g := (mkF m 417 A1361 [(.int v1246), (.ref b1203), (.ref b35)])) rfl rfl (hb hby at_417) t k) ?_
                  have f1365 := ((((((((((((((f1204).ext E1203)).wr W1215)).wr W1220)).wr W1225)).wr W1230)).wr W1235)).wr W1240)
                  have f1375 := ((((((((((((((((((((((((((((((((((f163).other W168 (Or.inl (Nat.ne_of_gt lt_b104_b149)))).other W172 (Or.inl (Nat.ne_of_gt lt_b46_b149)))).other W176 (Or.inl (Nat.ne_of_gt lt_b46_b149)))).other W180 (Or.inl (Nat.ne_of_gt lt_b79_b149)))).other W1003 (Or.inl (Nat.ne_of_gt lt_b79_b149)))).other W1007 (Or.inl (Nat.ne_of_gt lt_b91_b149)))).other W1011 (Or.inl (Nat.ne_of_gt lt_b104_b149)))).other W1015 (Or.inr (slot_ne (Or.inl (hw _ (List.mem_of_getElem? (i := 41) rfl))) (Or.inl (hw _ (List.mem_of_getElem? (i := 38) rfl))) (by decide) (t := (.object "com/example/dwellgate/dwellgate/book/PriceTree$Node")) (t' := (.object "com/example/dwellgate/dwellgate/book/PriceTree$Node")) (by decide) (by decide))))).other W1019 (Or.inr (slot_ne (Or.inl (hw _ (List.mem_of_getElem? (i := 41) rfl))) (Or.inl (hw _ (List.mem_of_getElem? (i := 35) rfl))) (by decide) (t := (.object "com/example/dwellgate/dwellgate/book/PriceTree$Node")) (t' := (.object "com/example/dwellgate/dwellgate/book/PriceTree$Node")) (by decide) (by decide))))).other W1023 (Or.inl (Nat.ne_of_gt lt_b133_b149)))).ext E1203)).other W1215 (Or.inl (Nat.ne_of_lt lt_b149_b1203)))).other W1220 (Or.inl (Nat.ne_of_lt lt_b149_b1203)))).other W1225 (Or.inl (Nat.ne_of_lt lt_b149_b1203)))).other W1230 (Or.inl (Nat.ne_of_lt lt_b149_b1203)))).other W1235 (Or.inl (Nat.ne_of_lt lt_b149_b1203)))).other W1240 (Or.inl (Nat.ne_of_lt lt_b149_b1203)))
                  have f1376 := ((((((((((((((((((Fw1015).other W1019 (Or.inr (slot_ne (Or.inl (hw _ (List.mem_of_getElem? (i := 38) rfl))) (Or.inl (hw _ (List.mem_of_getElem? (i := 35) rfl))) (by decide) (t := (.object "com/example/dwellgate/dwellgate/book/PriceTree$Node")) (t' := (.object "com/example/dwellgate/dwellgate/book/PriceTree$Node")) (by decide) (by decide))))).other W1023 (Or.inl (Nat.ne_of_gt lt_b133_b149)))).ext E1203)).other W1215 (Or.inl (Nat.ne_of_lt lt_b149_b1203)))).other W1220 (Or.inl (Nat.ne_of_lt lt_b149_b1203)))).other W1225 (Or.inl (Nat.ne_of_lt lt_b149_b1203)))).other W1230 (Or.inl (Nat.ne_of_lt lt_b149_b1203)))).other W1235 (Or.inl (Nat.ne_of_lt lt_b149_b1203)))).other W1240 (Or.inl (Nat.ne_of_lt lt_b149_b1203)))
                  have f1377 := ((((((((((((((((((((Fw1011).other W1015 (Or.inl (Nat.ne_of_lt lt_b104_b149)))).other W1019 (Or.inl (Nat.ne_of_lt lt_b104_b149)))).other W1023 (Or.inl (Nat.ne_of_lt lt_b104_b133)))).ext E1203)).other W1215 (Or.inl (Nat.ne_of_lt lt_b104_b1203)))).other W1220 (Or.inl (Nat.ne_of_lt lt_b104_b1203)))).other W1225 (Or.inl (Nat.ne_of_lt lt_b104_b1203)))).other W1230 (Or.inl (Nat.ne_of_lt lt_b104_b1203)))).other W1235 (Or.inl (Nat.ne_of_lt lt_b104_b1203)))).other W1240 (Or.inl (Nat.ne_of_lt lt_b104_b1203)))
                  have f1378 := ((((((((((((((((((((((((((((((((((((((((((((((f114).ext E118)).keep K125_ (ninS (Nat.ne_of_lt lt_b104_b118) nin0))).ext E133)).keep K141_ (ninS (Nat.ne_of_lt lt_b104_b133) nin0))).ext E149)).keep K158_ (ninS (Nat.ne_of_lt lt_b104_b149) nin0))).other W168 (Or.inr (slot_ne (Or.inl (hw _ (List.mem_of_getElem? (i := 38) rfl))) (Or.inl (hw _ (List.mem_of_getElem? (i := 35) rfl))) (by decide) (t := (.object "com/example/dwellgate/dwellgate/book/PriceTree$Node")) (t' := (.object "com/example/dwellgate/dwellgate/book/PriceTree$Node")) (by decide) (by decide))))).other W172 (Or.inl (Nat.ne_of_gt lt_b46_b104)))).other W176 (Or.inl (Nat.ne_of_gt lt_b46_b104)))).other W180 (Or.inl (Nat.ne_of_gt lt_b79_b104)))).other W1003 (Or.inl (Nat.ne_of_gt lt_b79_b104)))).other W1007 (Or.inl (Nat.ne_of_gt lt_b91_b104)))).other W1011 (Or.inr (slot_ne (Or.inl (hw _ (List.mem_of_getElem? (i := 38) rfl))) (Or.inl (hw _ (List.mem_of_getElem? (i := 41) rfl))) (by decide) (t := (.object "com/example/dwellgate/dwellgate/book/PriceTree$Node")) (t' := (.object "com/example/dwellgate/dwellgate/book/PriceTree$Node")) (by decide) (by decide))))).other W1015 (Or.inl (Nat.ne_of_lt lt_b104_b149)))).other W1019 (Or.inl (Nat.ne_of_lt lt_b104_b149)))).other W1023 (Or.inl (Nat.ne_of_lt lt_b104_b133)))).ext E1203)).other W1215 (Or.inl (Nat.ne_of_lt lt_b104_b1203)))).other W1220 (Or.inl (Nat.ne_of_lt lt_b104_b1203)))).other W1225 (Or.inl (Nat.ne_of_lt lt_b104_b1203)))).other W1230 (Or.inl (Nat.ne_of_lt lt_b104_b1203)))).other W1235 (Or.inl (Nat.ne_of_lt lt_b104_b1203)))).other W1240 (Or.inl (Nat.ne_of_lt lt_b104_b1203)))
                  obtain ⟨r1379, T1379, L1379, X1379, hQ1379, st1379⟩ := own_callV (W := 0) (a := b35) (C := "com/example/dwellgate/dwellgate/book/PriceTree") X1240 hx hZ e1240 hown (y := (⟨"com/example/dwellgate/dwellgate/book/PriceTree", "next", "(Lcom/example/dwellgate/dwellgate/book/PriceTree$Node;)Lcom/example/dwellgate/dwellgate/book/PriceTree$Node;"⟩ : MethodName)) (z := (⟨"com/example/dwellgate/dwellgate/book/PriceTree", "next", "(Lcom/example/dwellgate/dwellgate/book/PriceTree$Node;)Lcom/example/dwellgate/dwellgate/book/PriceTree$Node;"⟩ : MethodName)) (hw _ (List.mem_of_getElem? (i := 45) rfl)) (hw _ (List.mem_of_getElem? (i := 46) rfl)) (notFace_of_selects (args := #[]) (mvT hZ (hw _ (List.mem_of_getElem? (i := 48) rfl)))) (hw _ (List.mem_of_getElem? (i := 48) rfl)) (hw _ (List.mem_of_getElem? (i := 47) rfl)) (hw _ (List.mem_of_getElem? (i := 5) rfl)) (hw _ (List.mem_of_getElem? (i := 49) rfl)) (by decide) (f1365) (rm9 l Z a0 hw [] b35 b149 b104 h1240 n0 Z1242 (f1375) (f1376) (f1377) (f1378)) (by decide) (by decide) (by decide) (by decide) (g := (mkF m 418 A1361 [(.ref b149), (.ref b35)])) rfl (by rw [hml]; rfl) (argsL := [(.ref b149)]) (rest := []) rfl (lenOf pd_2 rfl) rfl (by show 2 * 0 + _ ≤ _; exact Nat.le_of_eq rfl) (hb hby at_418)
                  obtain ⟨rfl, N1379, e1379⟩ := hQ1379
                  have N1379_ := Fr.app N1240 N1379
                  refine Go.st (S' := T1379.setTop (mkF m 421 A1361 [.null])) st1379 ?_
                  refine Go.st (S' := T1379.setTop (mkF m 423 A1361 [.null, .null])) (fun t k => XS.aload X1379.here hx rfl (hb hby at_421) rfl rfl k) ?_
                  refine Go.st (S' := T1379.setTop (mkF m 426 A1361 [])) (fun t k => acmp X1379 hx rfl rfl rfl (pc0 := 423) (pc' := 426) (same := true) rfl (hb hby at_423) rfl (by simp) (by decide) (by decide) k) ?_
                  refine Go.st (S' := T1379.setTop (mkF m 427 A1361 [(.int (1 : Int32))])) (fun t k => XS.iconst X1379.here hx rfl (hb hby at_426) k) ?_
                  refine Go.st (S' := T1379.setTop (mkF m 431 A1361 [(.int (1 : Int32))])) (fun t k => XS.goto X1379.here hx rfl (pc0 := 427) (pc' := 431) rfl (hb hby at_427) (by decide) (by decide) k) ?_
                  exact Go.ret X1379 (v := some (.int (1 : Int32))) (fun h => by rw [Bd.returns] at h; cases h) Bd.notSynchronized (fun fs hr => retN X1379 hx (t := .boolean) Bd.returns (by simp) (hb hby at_431) hr) (by decide) (by decide) ⟨rfl, N1379_⟩
              · refine Go.st (S' := T1023.setTop (mkF m 257 A165 [])) (fun t k => XS.ifNo X1023.here hx rfl (hb hby at_254) rfl ((if0 _ _).trans (feq hc1202).1) k) ?_
                refine Go.st (S' := T1023.setTop (mkF m 259 A165 [(.ref b133)])) (fun t k => XS.aload X1023.here hx rfl (hb hby at_257) rfl rfl k) ?_
                refine Go.st (S' := T1023.setTop (mkF m 261 A165 [(.ref b118), (.ref b133)])) (fun t k => XS.aload X1023.here hx rfl (hb hby at_259) rfl rfl k) ?_
                have f1380 := ((f1021).wr W1023)
                have f1381 := ((((((((((((((((((((((((f144).ext E149)).keep K158_ (ninS (Nat.ne_of_lt lt_b133_b149) nin0))).other W168 (Or.inl (Nat.ne_of_gt lt_b104_b133)))).other W172 (Or.inl (Nat.ne_of_gt lt_b46_b133)))).other W176 (Or.inl (Nat.ne_of_gt lt_b46_b133)))).other W180 (Or.inl (Nat.ne_of_gt lt_b79_b133)))).other W1003 (Or.inl (Nat.ne_of_gt lt_b79_b133)))).other W1007 (Or.inl (Nat.ne_of_gt lt_b91_b133)))).other W1011 (Or.inl (Nat.ne_of_gt lt_b104_b133)))).other W1015 (Or.inl (Nat.ne_of_lt lt_b133_b149)))).other W1019 (Or.inl (Nat.ne_of_lt lt_b133_b149)))).other W1023 (Or.inr (slot_ne (Or.inl (hw _ (List.mem_of_getElem? (i := 35) rfl))) (Or.inl (hw _ (List.mem_of_getElem? (i := 38) rfl))) (by decide) (t := (.object "com/example/dwellgate/dwellgate/book/PriceTree$Node")) (t' := (.object "com/example/dwellgate/dwellgate/book/PriceTree$Node")) (by decide) (by decide))))
                obtain ⟨T1382, h1382, X1382, e1382, W1382, st1382⟩ := putF X1023 hx hZ hown (host := "") (Or.inl (hw _ (List.mem_of_getElem? (i := 33) rfl))) (Via.of (hw _ (List.mem_of_getElem? (i := 34) rfl))) e1023 f1381 f1380 (Or.inl (hw _ (List.mem_of_getElem? (i := 35) rfl))) (hw _ (List.mem_of_getElem? (i := 15) rfl)) (ty := (.object "com/example/dwellgate/dwellgate/book/PriceTree$Node")) (by decide) rfl rfl (g := (mkF m 261 A165 [(.ref b118), (.ref b133)])) rfl rfl (hb hby at_261)
                have Fw1382 := (f1381).same W1382
                have N1382 := Fr.snoc X1382 N1023 g_b133
                have Z1383 : n0 ≤ h1382.size := Nat.le_trans Z1024 (Keep.of_wr W1382).1
                have K1383 : Keep h0 h1382 [] := K1024.wr W1382 (Or.inr sz_b133)
                refine Go.st (S' := T1382.setTop (mkF m 264 A165 [])) st1382 ?_
                refine Go.st (S' := T1382.setTop (mkF m 266 A165 [(.ref b118)])) (fun t k => XS.aload X1382.here hx rfl (hb hby at_264) rfl rfl k) ?_
                refine Go.st (S' := T1382.setTop (mkF m 268 A165 [(.ref b133), (.ref b118)])) (fun t k => XS.aload X1382.here hx rfl (hb hby at_266) rfl rfl k) ?_
                have f1384 := ((((((((((((((((((((((((((f155).ext E149)).keep K158_)).wr W168)).wr W172)).wr W176)).wr W180)).wr W1003)).wr W1007)).wr W1011)).wr W1015)).wr W1019)).wr W1023)).wr W1382)
                have f1385 := ((((((((((((((((((((((((((((((f129).ext E133)).keep K141_ (ninS (Nat.ne_of_lt lt_b118_b133) nin0))).ext E149)).keep K158_ (ninS (Nat.ne_of_lt lt_b118_b149) nin0))).other W168 (Or.inl (Nat.ne_of_gt lt_b104_b118)))).other W172 (Or.inl (Nat.ne_of_gt lt_b46_b118)))).other W176 (Or.inl (Nat.ne_of_gt lt_b46_b118)))).other W180 (Or.inl (Nat.ne_of_gt lt_b79_b118)))).other W1003 (Or.inl (Nat.ne_of_gt lt_b79_b118)))).other W1007 (Or.inl (Nat.ne_of_gt lt_b91_b118)))).other W1011 (Or.inl (Nat.ne_of_gt lt_b104_b118)))).other W1015 (Or.inl (Nat.ne_of_lt lt_b118_b149)))).other W1019 (Or.inl (Nat.ne_of_lt lt_b118_b149)))).other W1023 (Or.inl (Nat.ne_of_lt lt_b118_b133)))).other W1382 (Or.inl (Nat.ne_of_lt lt_b118_b133)))
                obtain ⟨T1386, h1386, X1386, e1386, W1386, st1386⟩ := putF X1382 hx hZ hown (host := "") (Or.inl (hw _ (List.mem_of_getElem? (i := 36) rfl))) (Via.of (hw _ (List.mem_of_getElem? (i := 37) rfl))) e1382 f1385 f1384 (Or.inl (hw _ (List.mem_of_getElem? (i := 38) rfl))) (hw _ (List.mem_of_getElem? (i := 15) rfl)) (ty := (.object "com/example/dwellgate/dwellgate/book/PriceTree$Node")) (by decide) rfl rfl (g := (mkF m 268 A165 [(.ref b133), (.ref b118)])) rfl rfl (hb hby at_268)
                have Fw1386 := (f1385).same W1386
                have N1386 := Fr.snoc X1386 N1382 g_b118
                have Z1387 : n0 ≤ h1386.size := Nat.le_trans Z1383 (Keep.of_wr W1386).1
                have K1387 : Keep h0 h1386 [] := K1383.wr W1386 (Or.inr sz_b118)
                refine Go.st (S' := T1386.setTop (mkF m 271 A165 [])) st1386 ?_
                refine Go.st (S' := T1386.setTop (mkF m 273 A165 [(.int (7 : Int32))])) (fun t k => XS.bipush X1386.here hx rfl (hb hby at_271) k) ?_
                obtain ⟨T1388, h1388, k1388, X1388, e1388, E1388, A1388, B1388, O1388, st1388⟩ := newRE X1386 hx hZ hown (hw _ (List.mem_of_getElem? (i := 14) rfl)) (hw _ (List.mem_of_getElem? (i := 42) rfl)) e1386 (g := (mkF m 273 A165 [(.int (7 : Int32))])) rfl (hb hby at_273) rfl (by decide) (cap := 7) (by decide) (by decide) (by decide) (by decide) (ad := "[Lcom/example/dwellgate/dwellgate/book/PriceTreeNextPinLaw;") (by decide)
                obtain ⟨b1388, gg1388⟩ : ∃ z, z = h1386.size := ⟨_, rfl⟩
                rw [← gg1388] at A1388 B1388 st1388
                have g_b1388 : n0 ≤ b1388 := Nat.le_trans Z1387 (Nat.le_of_eq gg1388.symm)
                have sz_b1388 : h0.size ≤ b1388 := Nat.le_trans K1387.1 (Nat.le_of_eq gg1388.symm)
                have f1389 := ((((((((((((((((((((((((((((f150).ext E149)).keep K158_)).wr W168)).wr W172)).wr W176)).wr W180)).wr W1003)).wr W1007)).wr W1011)).wr W1015)).wr W1019)).wr W1023)).wr W1382)).wr W1386)
                have lt_b35_b1388 : b35 < b1388 := Nat.lt_of_lt_of_le (f1389).lt (Nat.le_of_eq gg1388.symm)
                have f1390 := ((((((((((((((((((((f174).wr W176)).wr W180)).wr W1003)).wr W1007)).wr W1011)).wr W1015)).wr W1019)).wr W1023)).wr W1382)).wr W1386)
                have lt_b46_b1388 : b46 < b1388 := Nat.lt_of_lt_of_le (f1390).lt (Nat.le_of_eq gg1388.symm)
                have f1391 := ((((((((((((((((f1001).wr W1003)).wr W1007)).wr W1011)).wr W1015)).wr W1019)).wr W1023)).wr W1382)).wr W1386)
                have lt_b79_b1388 : b79 < b1388 := Nat.lt_of_lt_of_le (f1391).lt (Nat.le_of_eq gg1388.symm)
                have f1392 := ((((((((((((((f1005).wr W1007)).wr W1011)).wr W1015)).wr W1019)).wr W1023)).wr W1382)).wr W1386)
                have lt_b91_b1388 : b91 < b1388 := Nat.lt_of_lt_of_le (f1392).lt (Nat.le_of_eq gg1388.symm)
                have f1393 := ((((((((((((f1009).wr W1011)).wr W1015)).wr W1019)).wr W1023)).wr W1382)).wr W1386)
                have lt_b104_b1388 : b104 < b1388 := Nat.lt_of_lt_of_le (f1393).lt (Nat.le_of_eq gg1388.symm)
                have f1394 := ((f1384).wr W1386)
                have lt_b118_b1388 : b118 < b1388 := Nat.lt_of_lt_of_le (f1394).lt (Nat.le_of_eq gg1388.symm)
                have f1395 := ((((f1380).wr W1382)).wr W1386)
                have lt_b133_b1388 : b133 < b1388 := Nat.lt_of_lt_of_le (f1395).lt (Nat.le_of_eq gg1388.symm)
                have f1396 := ((((((((f1017).wr W1019)).wr W1023)).wr W1382)).wr W1386)
                have lt_b149_b1388 : b149 < b1388 := Nat.lt_of_lt_of_le (f1396).lt (Nat.le_of_eq gg1388.symm)
                have Z1397 : n0 ≤ h1388.size := Nat.le_trans Z1387 E1388.1
                have K1397 : Keep h0 h1388 [] := K1387.ext E1388
                have V1388 : Arv Z h1388 b1388 k1388 (.object "com/example/dwellgate/dwellgate/book/PriceTreeNextPinLaw") (7 : Int32) [.null, .null, .null, .null, .null, .null, .null] .null := (Arv.new A1388 (by decide)).pad (pad_rep [] .null 7)
                refine Go.st (S' := T1388.setTop (mkF m 276 A165 [(.ref b1388)])) st1388 ?_
                let A1398 : Array Slot := #[.val (.int p0), .val (.int p1), .val (.int r5), .val (.int r11), .val (.int r17), .val (.ref r26), .val (.long r32), .second, .val (.ref b35), .val (.ref b46), .val (.ref b79), .val (.ref b91), .val (.ref b104), .val (.ref b118), .val (.ref b133), .val (.ref b149), .val (.ref b1388), .unset, .unset, .unset]
                refine Go.st (S' := T1388.setTop (mkF m 278 A1398 [])) (fun t k => XS.astore X1388.here hx rfl (hb hby at_276) rfl rfl (l' := A1398) rfl k) ?_
                refine Go.st (S' := T1388.setTop (mkF m 279 A1398 [(.int (0 : Int32))])) (fun t k => XS.iconst X1388.here hx rfl (hb hby at_278) k) ?_
                let A1399 : Array Slot := #[.val (.int p0), .val (.int p1), .val (.int r5), .val (.int r11), .val (.int r17), .val (.ref r26), .val (.long r32), .second, .val (.ref b35), .val (.ref b46), .val (.ref b79), .val (.ref b91), .val (.ref b104), .val (.ref b118), .val (.ref b133), .val (.ref b149), .val (.ref b1388), .val (.int (0 : Int32)), .unset, .unset]
                refine Go.st (S' := T1388.setTop (mkF m 281 A1399 [])) (fun t k => XS.istore X1388.here hx rfl (hb hby at_279) rfl (l' := A1399) rfl k) ?_
                refine Go.st (S' := T1388.setTop (mkF m 283 A1399 [(.ref b1388)])) (fun t k => XS.aload X1388.here hx rfl (hb hby at_281) rfl rfl k) ?_
                refine Go.st (S' := T1388.setTop (mkF m 285 A1399 [(.int (0 : Int32)), (.ref b1388)])) (fun t k => XS.iload X1388.here hx rfl (hb hby at_283) rfl k) ?_
                refine Go.st (S' := T1388.setTop (mkF m 287 A1399 [(.ref b46), (.int (0 : Int32)), (.ref b1388)])) (fun t k => XS.aload X1388.here hx rfl (hb hby at_285) rfl rfl k) ?_
                obtain ⟨cl1400, Ar1400, q1400, S1400, N1400_, H1400, G1400⟩ := id V1388
                have hin1400 : ¬ ((0 : Int32) < 0 ∨ cl1400.slots.size ≤ ((0 : Int32)).toNatClampNeg) := inb_of S1400 ⟨by decide, by decide⟩
                have f1401 := ((f1390).ext E1388)
                obtain ⟨T1400, h1400, X1400, e1400, W1400, st1400⟩ := stR X1388 hx hZ e1388 Ar1400 (j := (0 : Int32)) hin1400 rfl (Sto.ofV Ar1400 q1400 O1388 (Ins.self f1401)) (g := (mkF m 287 A1399 [(.ref b46), (.int (0 : Int32)), (.ref b1388)])) rfl rfl (hb hby at_287)
                have V1400 : Arv Z h1400 b1388 k1388 (.object "com/example/dwellgate/dwellgate/book/PriceTreeNextPinLaw") (7 : Int32) [(.ref b46), .null, .null, .null, .null, .null, .null] .null := Arv.set Ar1400 q1400 S1400 N1400_ H1400 G1400 rfl W1400 0 rfl (Nat.le_of_ble_eq_true rfl)
                have N1400 := Fr.snoc X1400 N1386 g_b1388
                have Z1402 : n0 ≤ h1400.size := Nat.le_trans Z1397 (Keep.of_wr W1400).1
                have K1402 : Keep h0 h1400 [] := K1397.wr W1400 (Or.inr sz_b1388)
                refine Go.st (S' := T1400.setTop (mkF m 288 A1399 [])) st1400 ?_
                refine Go.st (S' := T1400.setTop (mkF m 290 A1399 [(.int (0 : Int32))])) (fun t k => XS.iload X1400.here hx rfl (hb hby at_288) rfl k) ?_
                refine Go.st (S' := T1400.setTop (mkF m 291 A1399 [(.int (1 : Int32)), (.int (0 : Int32))])) (fun t k => XS.iconst X1400.here hx rfl (hb hby at_290) k) ?_
                refine Go.op (F := fun z => T1400.setTop (mkF m 292 A1399 [(.int z)])) (x := ((0 : Int32) + (1 : Int32))) (fun t k => XS.iadd X1400.here hx rfl (hb hby at_291) rfl k) ?_
                intro v1403 hv1403
                obtain rfl : (1 : Int32) = v1403 := (hv1403.trans (by decide)).symm
                let A1404 : Array Slot := #[.val (.int p0), .val (.int p1), .val (.int r5), .val (.int r11), .val (.int r17), .val (.ref r26), .val (.long r32), .second, .val (.ref b35), .val (.ref b46), .val (.ref b79), .val (.ref b91), .val (.ref b104), .val (.ref b118), .val (.ref b133), .val (.ref b149), .val (.ref b1388), .val (.int (1 : Int32)), .unset, .unset]
                refine Go.st (S' := T1400.setTop (mkF m 294 A1404 [])) (fun t k => XS.istore X1400.here hx rfl (hb hby at_292) rfl (l' := A1404) rfl k) ?_
                refine Go.st (S' := T1400.setTop (mkF m 296 A1404 [(.ref b1388)])) (fun t k => XS.aload X1400.here hx rfl (hb hby at_294) rfl rfl k) ?_
                refine Go.st (S' := T1400.setTop (mkF m 298 A1404 [(.int (1 : Int32)), (.ref b1388)])) (fun t k => XS.iload X1400.here hx rfl (hb hby at_296) rfl k) ?_
                refine Go.st (S' := T1400.setTop (mkF m 300 A1404 [(.ref b79), (.int (1 : Int32)), (.ref b1388)])) (fun t k => XS.aload X1400.here hx rfl (hb hby at_298) rfl rfl k) ?_
                obtain ⟨cl1405, Ar1405, q1405, S1405, N1405_, H1405, G1405⟩ := id V1400
                have hin1405 : ¬ ((1 : Int32) < 0 ∨ cl1405.slots.size ≤ ((1 : Int32)).toNatClampNeg) := inb_of S1405 ⟨by decide, by decide⟩
                have f1406 := ((((f1391).ext E1388)).wr W1400)
                obtain ⟨T1405, h1405, X1405, e1405, W1405, st1405⟩ := stR X1400 hx hZ e1400 Ar1405 (j := (1 : Int32)) hin1405 rfl (Sto.ofV Ar1405 q1405 O1388 (Ins.self f1406)) (g := (mkF m 300 A1404 [(.ref b79), (.int (1 : Int32)), (.ref b1388)])) rfl rfl (hb hby at_300)
                have V1405 : Arv Z h1405 b1388 k1388 (.object "com/example/dwellgate/dwellgate/book/PriceTreeNextPinLaw") (7 : Int32) [(.ref b46), (.ref b79), .null, .null, .null, .null, .null] .null := Arv.set Ar1405 q1405 S1405 N1405_ H1405 G1405 rfl W1405 1 rfl (Nat.le_of_ble_eq_true rfl)
                have N1405 := Fr.snoc X1405 N1400 g_b1388
                have Z1407 : n0 ≤ h1405.size := Nat.le_trans Z1402 (Keep.of_wr W1405).1
                have K1407 : Keep h0 h1405 [] := K1402.wr W1405 (Or.inr sz_b1388)
                refine Go.st (S' := T1405.setTop (mkF m 301 A1404 [])) st1405 ?_
                refine Go.st (S' := T1405.setTop (mkF m 303 A1404 [(.int (1 : Int32))])) (fun t k => XS.iload X1405.here hx rfl (hb hby at_301) rfl k) ?_
                refine Go.st (S' := T1405.setTop (mkF m 304 A1404 [(.int (1 : Int32)), (.int (1 : Int32))])) (fun t k => XS.iconst X1405.here hx rfl (hb hby at_303) k) ?_
                refine Go.op (F := fun z => T1405.setTop (mkF m 305 A1404 [(.int z)])) (x := ((1 : Int32) + (1 : Int32))) (fun t k => XS.iadd X1405.here hx rfl (hb hby at_304) rfl k) ?_
                intro v1408 hv1408
                obtain rfl : (2 : Int32) = v1408 := (hv1408.trans (by decide)).symm
                let A1409 : Array Slot := #[.val (.int p0), .val (.int p1), .val (.int r5), .val (.int r11), .val (.int r17), .val (.ref r26), .val (.long r32), .second, .val (.ref b35), .val (.ref b46), .val (.ref b79), .val (.ref b91), .val (.ref b104), .val (.ref b118), .val (.ref b133), .val (.ref b149), .val (.ref b1388), .val (.int (2 : Int32)), .unset, .unset]
                refine Go.st (S' := T1405.setTop (mkF m 307 A1409 [])) (fun t k => XS.istore X1405.here hx rfl (hb hby at_305) rfl (l' := A1409) rfl k) ?_
                refine Go.st (S' := T1405.setTop (mkF m 308 A1409 [(.int r11)])) (fun t k => XS.iloadN X1405.here hx rfl (hb hby at_307) rfl k) ?_
                refine Go.st (S' := T1405.setTop (mkF m 311 A1409 [])) (fun t k => XS.ifNo X1405.here hx rfl (hb hby at_308) rfl ((if0 _ _).trans (feq hc533).1) k) ?_
                refine Go.st (S' := T1405.setTop (mkF m 313 A1409 [(.ref b1388)])) (fun t k => XS.aload X1405.here hx rfl (hb hby at_311) rfl rfl k) ?_
                refine Go.st (S' := T1405.setTop (mkF m 315 A1409 [(.int (2 : Int32)), (.ref b1388)])) (fun t k => XS.iload X1405.here hx rfl (hb hby at_313) rfl k) ?_
                refine Go.st (S' := T1405.setTop (mkF m 317 A1409 [(.ref b91), (.int (2 : Int32)), (.ref b1388)])) (fun t k => XS.aload X1405.here hx rfl (hb hby at_315) rfl rfl k) ?_
                obtain ⟨cl1410, Ar1410, q1410, S1410, N1410_, H1410, G1410⟩ := id V1405
                have hin1410 : ¬ ((2 : Int32) < 0 ∨ cl1410.slots.size ≤ ((2 : Int32)).toNatClampNeg) := inb_of S1410 ⟨by decide, by decide⟩
                have f1411 := ((((((f1392).ext E1388)).wr W1400)).wr W1405)
                obtain ⟨T1410, h1410, X1410, e1410, W1410, st1410⟩ := stR X1405 hx hZ e1405 Ar1410 (j := (2 : Int32)) hin1410 rfl (Sto.ofV Ar1410 q1410 O1388 (Ins.self f1411)) (g := (mkF m 317 A1409 [(.ref b91), (.int (2 : Int32)), (.ref b1388)])) rfl rfl (hb hby at_317)
                have V1410 : Arv Z h1410 b1388 k1388 (.object "com/example/dwellgate/dwellgate/book/PriceTreeNextPinLaw") (7 : Int32) [(.ref b46), (.ref b79), (.ref b91), .null, .null, .null, .null] .null := Arv.set Ar1410 q1410 S1410 N1410_ H1410 G1410 rfl W1410 2 rfl (Nat.le_of_ble_eq_true rfl)
                have N1410 := Fr.snoc X1410 N1405 g_b1388
                have Z1412 : n0 ≤ h1410.size := Nat.le_trans Z1407 (Keep.of_wr W1410).1
                have K1412 : Keep h0 h1410 [] := K1407.wr W1410 (Or.inr sz_b1388)
                refine Go.st (S' := T1410.setTop (mkF m 318 A1409 [])) st1410 ?_
                refine Go.st (S' := T1410.setTop (mkF m 320 A1409 [(.int (2 : Int32))])) (fun t k => XS.iload X1410.here hx rfl (hb hby at_318) rfl k) ?_
                refine Go.st (S' := T1410.setTop (mkF m 321 A1409 [(.int (1 : Int32)), (.int (2 : Int32))])) (fun t k => XS.iconst X1410.here hx rfl (hb hby at_320) k) ?_
                refine Go.op (F := fun z => T1410.setTop (mkF m 322 A1409 [(.int z)])) (x := ((2 : Int32) + (1 : Int32))) (fun t k => XS.iadd X1410.here hx rfl (hb hby at_321) rfl k) ?_
                intro v1413 hv1413
                obtain rfl : (3 : Int32) = v1413 := (hv1413.trans (by decide)).symm
                let A1414 : Array Slot := #[.val (.int p0), .val (.int p1), .val (.int r5), .val (.int r11), .val (.int r17), .val (.ref r26), .val (.long r32), .second, .val (.ref b35), .val (.ref b46), .val (.ref b79), .val (.ref b91), .val (.ref b104), .val (.ref b118), .val (.ref b133), .val (.ref b149), .val (.ref b1388), .val (.int (3 : Int32)), .unset, .unset]
                refine Go.st (S' := T1410.setTop (mkF m 324 A1414 [])) (fun t k => XS.istore X1410.here hx rfl (hb hby at_322) rfl (l' := A1414) rfl k) ?_
                refine Go.st (S' := T1410.setTop (mkF m 326 A1414 [(.ref b1388)])) (fun t k => XS.aload X1410.here hx rfl (hb hby at_324) rfl rfl k) ?_
                refine Go.st (S' := T1410.setTop (mkF m 328 A1414 [(.int (3 : Int32)), (.ref b1388)])) (fun t k => XS.iload X1410.here hx rfl (hb hby at_326) rfl k) ?_
                refine Go.st (S' := T1410.setTop (mkF m 330 A1414 [(.ref b104), (.int (3 : Int32)), (.ref b1388)])) (fun t k => XS.aload X1410.here hx rfl (hb hby at_328) rfl rfl k) ?_
                obtain ⟨cl1415, Ar1415, q1415, S1415, N1415_, H1415, G1415⟩ := id V1410
                have hin1415 : ¬ ((3 : Int32) < 0 ∨ cl1415.slots.size ≤ ((3 : Int32)).toNatClampNeg) := inb_of S1415 ⟨by decide, by decide⟩
                have f1416 := ((((((((f1393).ext E1388)).wr W1400)).wr W1405)).wr W1410)
                obtain ⟨T1415, h1415, X1415, e1415, W1415, st1415⟩ := stR X1410 hx hZ e1410 Ar1415 (j := (3 : Int32)) hin1415 rfl (Sto.ofV Ar1415 q1415 O1388 (Ins.self f1416)) (g := (mkF m 330 A1414 [(.ref b104), (.int (3 : Int32)), (.ref b1388)])) rfl rfl (hb hby at_330)
                have V1415 : Arv Z h1415 b1388 k1388 (.object "com/example/dwellgate/dwellgate/book/PriceTreeNextPinLaw") (7 : Int32) [(.ref b46), (.ref b79), (.ref b91), (.ref b104), .null, .null, .null] .null := Arv.set Ar1415 q1415 S1415 N1415_ H1415 G1415 rfl W1415 3 rfl (Nat.le_of_ble_eq_true rfl)
                have N1415 := Fr.snoc X1415 N1410 g_b1388
                have Z1417 : n0 ≤ h1415.size := Nat.le_trans Z1412 (Keep.of_wr W1415).1
                have K1417 : Keep h0 h1415 [] := K1412.wr W1415 (Or.inr sz_b1388)
                refine Go.st (S' := T1415.setTop (mkF m 331 A1414 [])) st1415 ?_
                refine Go.st (S' := T1415.setTop (mkF m 333 A1414 [(.int (3 : Int32))])) (fun t k => XS.iload X1415.here hx rfl (hb hby at_331) rfl k) ?_
                refine Go.st (S' := T1415.setTop (mkF m 334 A1414 [(.int (1 : Int32)), (.int (3 : Int32))])) (fun t k => XS.iconst X1415.here hx rfl (hb hby at_333) k) ?_
                refine Go.op (F := fun z => T1415.setTop (mkF m 335 A1414 [(.int z)])) (x := ((3 : Int32) + (1 : Int32))) (fun t k => XS.iadd X1415.here hx rfl (hb hby at_334) rfl k) ?_
                intro v1418 hv1418
                obtain rfl : (4 : Int32) = v1418 := (hv1418.trans (by decide)).symm
                let A1419 : Array Slot := #[.val (.int p0), .val (.int p1), .val (.int r5), .val (.int r11), .val (.int r17), .val (.ref r26), .val (.long r32), .second, .val (.ref b35), .val (.ref b46), .val (.ref b79), .val (.ref b91), .val (.ref b104), .val (.ref b118), .val (.ref b133), .val (.ref b149), .val (.ref b1388), .val (.int (4 : Int32)), .unset, .unset]
                refine Go.st (S' := T1415.setTop (mkF m 337 A1419 [])) (fun t k => XS.istore X1415.here hx rfl (hb hby at_335) rfl (l' := A1419) rfl k) ?_
                refine Go.st (S' := T1415.setTop (mkF m 338 A1419 [(.int r5)])) (fun t k => XS.iloadN X1415.here hx rfl (hb hby at_337) rfl k) ?_
                refine Go.st (S' := T1415.setTop (mkF m 341 A1419 [])) (fun t k => XS.ifNo X1415.here hx rfl (hb hby at_338) rfl ((if0 _ _).trans (feq hc1202).1) k) ?_
                refine Go.st (S' := T1415.setTop (mkF m 343 A1419 [(.ref b1388)])) (fun t k => XS.aload X1415.here hx rfl (hb hby at_341) rfl rfl k) ?_
                refine Go.st (S' := T1415.setTop (mkF m 345 A1419 [(.int (4 : Int32)), (.ref b1388)])) (fun t k => XS.iload X1415.here hx rfl (hb hby at_343) rfl k) ?_
                refine Go.st (S' := T1415.setTop (mkF m 347 A1419 [(.ref b118), (.int (4 : Int32)), (.ref b1388)])) (fun t k => XS.aload X1415.here hx rfl (hb hby at_345) rfl rfl k) ?_
                obtain ⟨cl1420, Ar1420, q1420, S1420, N1420_, H1420, G1420⟩ := id V1415
                have hin1420 : ¬ ((4 : Int32) < 0 ∨ cl1420.slots.size ≤ ((4 : Int32)).toNatClampNeg) := inb_of S1420 ⟨by decide, by decide⟩
                have f1421 := ((((((((((f1394).ext E1388)).wr W1400)).wr W1405)).wr W1410)).wr W1415)
                obtain ⟨T1420, h1420, X1420, e1420, W1420, st1420⟩ := stR X1415 hx hZ e1415 Ar1420 (j := (4 : Int32)) hin1420 rfl (Sto.ofV Ar1420 q1420 O1388 (Ins.self f1421)) (g := (mkF m 347 A1419 [(.ref b118), (.int (4 : Int32)), (.ref b1388)])) rfl rfl (hb hby at_347)
                have V1420 : Arv Z h1420 b1388 k1388 (.object "com/example/dwellgate/dwellgate/book/PriceTreeNextPinLaw") (7 : Int32) [(.ref b46), (.ref b79), (.ref b91), (.ref b104), (.ref b118), .null, .null] .null := Arv.set Ar1420 q1420 S1420 N1420_ H1420 G1420 rfl W1420 4 rfl (Nat.le_of_ble_eq_true rfl)
                have N1420 := Fr.snoc X1420 N1415 g_b1388
                have Z1422 : n0 ≤ h1420.size := Nat.le_trans Z1417 (Keep.of_wr W1420).1
                have K1422 : Keep h0 h1420 [] := K1417.wr W1420 (Or.inr sz_b1388)
                refine Go.st (S' := T1420.setTop (mkF m 348 A1419 [])) st1420 ?_
                refine Go.st (S' := T1420.setTop (mkF m 350 A1419 [(.int (4 : Int32))])) (fun t k => XS.iload X1420.here hx rfl (hb hby at_348) rfl k) ?_
                refine Go.st (S' := T1420.setTop (mkF m 351 A1419 [(.int (1 : Int32)), (.int (4 : Int32))])) (fun t k => XS.iconst X1420.here hx rfl (hb hby at_350) k) ?_
                refine Go.op (F := fun z => T1420.setTop (mkF m 352 A1419 [(.int z)])) (x := ((4 : Int32) + (1 : Int32))) (fun t k => XS.iadd X1420.here hx rfl (hb hby at_351) rfl k) ?_
                intro v1423 hv1423
                obtain rfl : (5 : Int32) = v1423 := (hv1423.trans (by decide)).symm
                let A1424 : Array Slot := #[.val (.int p0), .val (.int p1), .val (.int r5), .val (.int r11), .val (.int r17), .val (.ref r26), .val (.long r32), .second, .val (.ref b35), .val (.ref b46), .val (.ref b79), .val (.ref b91), .val (.ref b104), .val (.ref b118), .val (.ref b133), .val (.ref b149), .val (.ref b1388), .val (.int (5 : Int32)), .unset, .unset]
                refine Go.st (S' := T1420.setTop (mkF m 354 A1424 [])) (fun t k => XS.istore X1420.here hx rfl (hb hby at_352) rfl (l' := A1424) rfl k) ?_
                refine Go.st (S' := T1420.setTop (mkF m 356 A1424 [(.ref b1388)])) (fun t k => XS.aload X1420.here hx rfl (hb hby at_354) rfl rfl k) ?_
                refine Go.st (S' := T1420.setTop (mkF m 358 A1424 [(.int (5 : Int32)), (.ref b1388)])) (fun t k => XS.iload X1420.here hx rfl (hb hby at_356) rfl k) ?_
                refine Go.st (S' := T1420.setTop (mkF m 360 A1424 [(.ref b133), (.int (5 : Int32)), (.ref b1388)])) (fun t k => XS.aload X1420.here hx rfl (hb hby at_358) rfl rfl k) ?_
                obtain ⟨cl1425, Ar1425, q1425, S1425, N1425_, H1425, G1425⟩ := id V1420
                have hin1425 : ¬ ((5 : Int32) < 0 ∨ cl1425.slots.size ≤ ((5 : Int32)).toNatClampNeg) := inb_of S1425 ⟨by decide, by decide⟩
                have f1426 := ((((((((((((f1395).ext E1388)).wr W1400)).wr W1405)).wr W1410)).wr W1415)).wr W1420)
                obtain ⟨T1425, h1425, X1425, e1425, W1425, st1425⟩ := stR X1420 hx hZ e1420 Ar1425 (j := (5 : Int32)) hin1425 rfl (Sto.ofV Ar1425 q1425 O1388 (Ins.self f1426)) (g := (mkF m 360 A1424 [(.ref b133), (.int (5 : Int32)), (.ref b1388)])) rfl rfl (hb hby at_360)
                have V1425 : Arv Z h1425 b1388 k1388 (.object "com/example/dwellgate/dwellgate/book/PriceTreeNextPinLaw") (7 : Int32) [(.ref b46), (.ref b79), (.ref b91), (.ref b104), (.ref b118), (.ref b133), .null] .null := Arv.set Ar1425 q1425 S1425 N1425_ H1425 G1425 rfl W1425 5 rfl (Nat.le_of_ble_eq_true rfl)
                have N1425 := Fr.snoc X1425 N1420 g_b1388
                have Z1427 : n0 ≤ h1425.size := Nat.le_trans Z1422 (Keep.of_wr W1425).1
                have K1427 : Keep h0 h1425 [] := K1422.wr W1425 (Or.inr sz_b1388)
                refine Go.st (S' := T1425.setTop (mkF m 361 A1424 [])) st1425 ?_
                refine Go.st (S' := T1425.setTop (mkF m 363 A1424 [(.int (5 : Int32))])) (fun t k => XS.iload X1425.here hx rfl (hb hby at_361) rfl k) ?_
                refine Go.st (S' := T1425.setTop (mkF m 364 A1424 [(.int (1 : Int32)), (.int (5 : Int32))])) (fun t k => XS.iconst X1425.here hx rfl (hb hby at_363) k) ?_
                refine Go.op (F := fun z => T1425.setTop (mkF m 365 A1424 [(.int z)])) (x := ((5 : Int32) + (1 : Int32))) (fun t k => XS.iadd X1425.here hx rfl (hb hby at_364) rfl k) ?_
                intro v1428 hv1428
                obtain rfl : (6 : Int32) = v1428 := (hv1428.trans (by decide)).symm
                let A1429 : Array Slot := #[.val (.int p0), .val (.int p1), .val (.int r5), .val (.int r11), .val (.int r17), .val (.ref r26), .val (.long r32), .second, .val (.ref b35), .val (.ref b46), .val (.ref b79), .val (.ref b91), .val (.ref b104), .val (.ref b118), .val (.ref b133), .val (.ref b149), .val (.ref b1388), .val (.int (6 : Int32)), .unset, .unset]
                refine Go.st (S' := T1425.setTop (mkF m 367 A1429 [])) (fun t k => XS.istore X1425.here hx rfl (hb hby at_365) rfl (l' := A1429) rfl k) ?_
                refine Go.st (S' := T1425.setTop (mkF m 369 A1429 [(.ref b1388)])) (fun t k => XS.aload X1425.here hx rfl (hb hby at_367) rfl rfl k) ?_
                refine Go.st (S' := T1425.setTop (mkF m 371 A1429 [(.int (6 : Int32)), (.ref b1388)])) (fun t k => XS.iload X1425.here hx rfl (hb hby at_369) rfl k) ?_
                refine Go.st (S' := T1425.setTop (mkF m 373 A1429 [(.ref b149), (.int (6 : Int32)), (.ref b1388)])) (fun t k => XS.aload X1425.here hx rfl (hb hby at_371) rfl rfl k) ?_
                obtain ⟨cl1430, Ar1430, q1430, S1430, N1430_, H1430, G1430⟩ := id V1425
                have hin1430 : ¬ ((6 : Int32) < 0 ∨ cl1430.slots.size ≤ ((6 : Int32)).toNatClampNeg) := inb_of S1430 ⟨by decide, by decide⟩
                have f1431 := ((((((((((((((f1396).ext E1388)).wr W1400)).wr W1405)).wr W1410)).wr W1415)).wr W1420)).wr W1425)
                obtain ⟨T1430, h1430, X1430, e1430, W1430, st1430⟩ := stR X1425 hx hZ e1425 Ar1430 (j := (6 : Int32)) hin1430 rfl (Sto.ofV Ar1430 q1430 O1388 (Ins.self f1431)) (g := (mkF m 373 A1429 [(.ref b149), (.int (6 : Int32)), (.ref b1388)])) rfl rfl (hb hby at_373)
                have V1430 : Arv Z h1430 b1388 k1388 (.object "com/example/dwellgate/dwellgate/book/PriceTreeNextPinLaw") (7 : Int32) [(.ref b46), (.ref b79), (.ref b91), (.ref b104), (.ref b118), (.ref b133), (.ref b149)] .null := Arv.set Ar1430 q1430 S1430 N1430_ H1430 G1430 rfl W1430 6 rfl (Nat.le_of_ble_eq_true rfl)
                have N1430 := Fr.snoc X1430 N1425 g_b1388
                have Z1432 : n0 ≤ h1430.size := Nat.le_trans Z1427 (Keep.of_wr W1430).1
                have K1432 : Keep h0 h1430 [] := K1427.wr W1430 (Or.inr sz_b1388)
                refine Go.st (S' := T1430.setTop (mkF m 374 A1429 [])) st1430 ?_
                refine Go.st (S' := T1430.setTop (mkF m 376 A1429 [(.int (6 : Int32))])) (fun t k => XS.iload X1430.here hx rfl (hb hby at_374) rfl k) ?_
                refine Go.st (S' := T1430.setTop (mkF m 377 A1429 [(.int (1 : Int32)), (.int (6 : Int32))])) (fun t k => XS.iconst X1430.here hx rfl (hb hby at_376) k) ?_
                refine Go.op (F := fun z => T1430.setTop (mkF m 378 A1429 [(.int z)])) (x := ((6 : Int32) + (1 : Int32))) (fun t k => XS.iadd X1430.here hx rfl (hb hby at_377) rfl k) ?_
                intro v1433 hv1433
                obtain rfl : (7 : Int32) = v1433 := (hv1433.trans (by decide)).symm
                let A1434 : Array Slot := #[.val (.int p0), .val (.int p1), .val (.int r5), .val (.int r11), .val (.int r17), .val (.ref r26), .val (.long r32), .second, .val (.ref b35), .val (.ref b46), .val (.ref b79), .val (.ref b91), .val (.ref b104), .val (.ref b118), .val (.ref b133), .val (.ref b149), .val (.ref b1388), .val (.int (7 : Int32)), .unset, .unset]
                refine Go.st (S' := T1430.setTop (mkF m 380 A1434 [])) (fun t k => XS.istore X1430.here hx rfl (hb hby at_378) rfl (l' := A1434) rfl k) ?_
                refine Go.st (S' := T1430.setTop (mkF m 381 A1434 [(.int p0)])) (fun t k => XS.iloadN X1430.here hx rfl (hb hby at_380) rfl k) ?_
                refine Go.st (S' := T1430.setTop (mkF m 383 A1434 [(.int (2147483647 : Int32)), (.int p0)])) (fun t k => X1430.ldcInt hx hown (mvT hZ (hw _ (List.mem_of_getElem? (i := 44) rfl))) (g := (mkF m 381 A1434 [(.int p0)])) rfl (hb hby at_381) t k) ?_
                refine Go.op (F := fun z => T1430.setTop (mkF m 384 A1434 [(.int z)])) (x := (p0 &&& (2147483647 : Int32))) (fun t k => XS.iand X1430.here hx rfl (hb hby at_383) rfl k) ?_
                intro v1435 hv1435
                refine Go.st (S' := T1430.setTop (mkF m 386 A1434 [(.int (7 : Int32)), (.int v1435)])) (fun t k => XS.iload X1430.here hx rfl (hb hby at_384) rfl k) ?_
                refine Go.op (F := fun z => T1430.setTop (mkF m 387 A1434 [(.int z)])) (x := (v1435 % (7 : Int32))) (fun t k => iremM X1430 hx rfl (hb hby at_386) rfl (by decide) k) ?_
                intro v1436 hv1436
                let A1437 : Array Slot := #[.val (.int p0), .val (.int p1), .val (.int r5), .val (.int r11), .val (.int r17), .val (.ref r26), .val (.long r32), .second, .val (.ref b35), .val (.ref b46), .val (.ref b79), .val (.ref b91), .val (.ref b104), .val (.ref b118), .val (.ref b133), .val (.ref b149), .val (.ref b1388), .val (.int (7 : Int32)), .val (.int v1436), .unset]
                refine Go.st (S' := T1430.setTop (mkF m 389 A1437 [])) (fun t k => XS.istore X1430.here hx rfl (hb hby at_387) rfl (l' := A1437) rfl k) ?_
                refine Go.st (S' := T1430.setTop (mkF m 391 A1437 [(.int v1436)])) (fun t k => XS.iload X1430.here hx rfl (hb hby at_389) rfl k) ?_
                refine Go.st (S' := T1430.setTop (mkF m 392 A1437 [(.int (1 : Int32)), (.int v1436)])) (fun t k => XS.iconst X1430.here hx rfl (hb hby at_391) k) ?_
                refine Go.op (F := fun z => T1430.setTop (mkF m 393 A1437 [(.int z)])) (x := (v1436 + (1 : Int32))) (fun t k => XS.iadd X1430.here hx rfl (hb hby at_392) rfl k) ?_
                intro v1438 hv1438
                refine Go.st (S' := T1430.setTop (mkF m 395 A1437 [(.int (7 : Int32)), (.int v1438)])) (fun t k => XS.iload X1430.here hx rfl (hb hby at_393) rfl k) ?_
                by_cases hc1471 : (v1438 < (7 : Int32))
                · refine Go.st (S' := T1430.setTop (mkF m 398 A1437 [])) (fun t k => XS.icmpNo X1430.here hx rfl (hb hby at_395) rfl (tlt hc1471).2.1 k) ?_
                  refine Go.st (S' := T1430.setTop (mkF m 400 A1437 [(.ref b1388)])) (fun t k => XS.aload X1430.here hx rfl (hb hby at_398) rfl rfl k) ?_
                  refine Go.st (S' := T1430.setTop (mkF m 402 A1437 [(.int v1436), (.ref b1388)])) (fun t k => XS.iload X1430.here hx rfl (hb hby at_400) rfl k) ?_
                  refine Go.st (S' := T1430.setTop (mkF m 403 A1437 [(.int (1 : Int32)), (.int v1436), (.ref b1388)])) (fun t k => XS.iconst X1430.here hx rfl (hb hby at_402) k) ?_
                  refine Go.op (F := fun z => T1430.setTop (mkF m 404 A1437 [(.int z), (.ref b1388)])) (x := (v1436 + (1 : Int32))) (fun t k => XS.iadd X1430.here hx rfl (hb hby at_403) rfl k) ?_
                  intro v1472 hv1472
                  obtain rfl : v1438 = v1472 := hv1438.trans hv1472.symm
                  by_cases hj1474 : v1438 = (1 : Int32)
                  · obtain ⟨cl1475, Ar1475, -, S1475, N1475_, H1475, -⟩ := id V1430
                    have hin1475 : ¬ (v1438 < 0 ∨ cl1475.slots.size ≤ (v1438).toNatClampNeg) := by rw [hj1474]; exact inb_of S1475 ⟨by decide, by decide⟩
                    have hat1475 : cl1475.slots[(v1438).toNatClampNeg]? = some (.ref b79) := Has.at H1475 hin1475 (by rw [hj1474]; rfl)
                    refine Go.st (S' := T1430.setTop (mkF m 405 A1437 [(.ref b79)])) (fun t k => X1430.aaload hx (j := v1438) (v := (.ref b79)) (own_eh e1430 Ar1475.1) (State.isArrayOf_alike hZ.alike Ar1475.2.1) rfl Ar1475.2.2 hin1475 hat1475 (g := (mkF m 404 A1437 [(.int v1438), (.ref b1388)])) rfl rfl (hb hby at_404) t k) ?_
                    refine Go.st (S' := T1430.setTop (mkF m 409 A1437 [(.ref b79)])) (fun t k => XS.goto X1430.here hx rfl (pc0 := 405) (pc' := 409) rfl (hb hby at_405) (by decide) (by decide) k) ?_
                    let A1476 : Array Slot := #[.val (.int p0), .val (.int p1), .val (.int r5), .val (.int r11), .val (.int r17), .val (.ref r26), .val (.long r32), .second, .val (.ref b35), .val (.ref b46), .val (.ref b79), .val (.ref b91), .val (.ref b104), .val (.ref b118), .val (.ref b133), .val (.ref b149), .val (.ref b1388), .val (.int (7 : Int32)), .val (.int v1436), .val (.ref b79)]
                    refine Go.st (S' := T1430.setTop (mkF m 411 A1476 [])) (fun t k => XS.astore X1430.here hx rfl (hb hby at_409) rfl rfl (l' := A1476) rfl k) ?_
                    refine Go.st (S' := T1430.setTop (mkF m 413 A1476 [(.ref b35)])) (fun t k => XS.aload X1430.here hx rfl (hb hby at_411) rfl rfl k) ?_
                    refine Go.st (S' := T1430.setTop (mkF m 415 A1476 [(.ref b1388), (.ref b35)])) (fun t k => XS.aload X1430.here hx rfl (hb hby at_413) rfl rfl k) ?_
                    refine Go.st (S' := T1430.setTop (mkF m 417 A1476 [(.int v1436), (.ref b1388), (.ref b35)])) (fun t k => XS.iload X1430.here hx rfl (hb hby at_415) rfl k) ?_
                    have hj1478 : v1436 = (0 : Int32) := by
                      refine Decidable.byContradiction fun hc1479 => ?_
                      have rv1435 := rng32 v1435
                      have wv1435 := c_mask p0 (2147483647 : Int32) 31 (by decide) (by decide)
                      rw [← hv1435] at wv1435
                      have rv1436 := rng32 v1436
                      have wv1436 := c_irem v1435 (7 : Int32) 7 (by decide)
                      rw [← hv1436] at wv1436
                      have rv1438 := rng32 v1438
                      have wv1438 := c_iadd v1436 (1 : Int32)
                      rw [← hv1438] at wv1438
                      have rp0 := rng32 p0
                      have lI0 : (0 : Int32).toInt = 0 := by decide
                      have lI1 : (1 : Int32).toInt = 1 := by decide
                      have lI7 : (7 : Int32).toInt = 7 := by decide
                      have lI2147483647 : (2147483647 : Int32).toInt = 2147483647 := by decide
                      simp only [Int32.lt_iff_toInt_lt, Int64.lt_iff_toInt_lt, ← Int32.toInt_inj, ← Int64.toInt_inj] at hc1471 hj1474 hc1479
                      omega
                    obtain ⟨cl1477, Ar1477, -, S1477, N1477_, H1477, -⟩ := id V1430
                    have hin1477 : ¬ (v1436 < 0 ∨ cl1477.slots.size ≤ (v1436).toNatClampNeg) := by rw [hj1478]; exact inb_of S1477 ⟨by decide, by decide⟩
                    have hat1477 : cl1477.slots[(v1436).toNatClampNeg]? = some (.ref b46) := Has.at H1477 hin1477 (by rw [hj1478]; rfl)
                    refine Go.st (S' := T1430.setTop (mkF m 418 A1476 [(.ref b46), (.ref b35)])) (fun t k => X1430.aaload hx (j := v1436) (v := (.ref b46)) (own_eh e1430 Ar1477.1) (State.isArrayOf_alike hZ.alike Ar1477.2.1) rfl Ar1477.2.2 hin1477 hat1477 (g := (mkF m 417 A1476 [(.int v1436), (.ref b1388), (.ref b35)])) rfl rfl (hb hby at_417) t k) ?_
                    have f1480 := ((((((((((((((((f1389).ext E1388)).wr W1400)).wr W1405)).wr W1410)).wr W1415)).wr W1420)).wr W1425)).wr W1430)
                    have f1481 := ((((((((((((((((((((((((((((((((((Fw176).other W180 (Or.inl (Nat.ne_of_lt lt_b46_b79)))).other W1003 (Or.inl (Nat.ne_of_lt lt_b46_b79)))).other W1007 (Or.inl (Nat.ne_of_lt lt_b46_b91)))).other W1011 (Or.inl (Nat.ne_of_lt lt_b46_b104)))).other W1015 (Or.inl (Nat.ne_of_lt lt_b46_b149)))).other W1019 (Or.inl (Nat.ne_of_lt lt_b46_b149)))).other W1023 (Or.inl (Nat.ne_of_lt lt_b46_b133)))).other W1382 (Or.inl (Nat.ne_of_lt lt_b46_b133)))).other W1386 (Or.inl (Nat.ne_of_lt lt_b46_b118)))).ext E1388)).other W1400 (Or.inl (Nat.ne_of_lt lt_b46_b1388)))).other W1405 (Or.inl (Nat.ne_of_lt lt_b46_b1388)))).other W1410 (Or.inl (Nat.ne_of_lt lt_b46_b1388)))).other W1415 (Or.inl (Nat.ne_of_lt lt_b46_b1388)))).other W1420 (Or.inl (Nat.ne_of_lt lt_b46_b1388)))).other W1425 (Or.inl (Nat.ne_of_lt lt_b46_b1388)))).other W1430 (Or.inl (Nat.ne_of_lt lt_b46_b1388)))
                    have f1482 := ((((((((((((((((((((((((((((((((((((((((((((((((((((((((((((f86).ext E91)).keep K96_ (ninS (Nat.ne_of_lt lt_b79_b91) nin0))).ext E104)).keep K110_ (ninS (Nat.ne_of_lt lt_b79_b104) nin0))).ext E118)).keep K125_ (ninS (Nat.ne_of_lt lt_b79_b118) nin0))).ext E133)).keep K141_ (ninS (Nat.ne_of_lt lt_b79_b133) nin0))).ext E149)).keep K158_ (ninS (Nat.ne_of_lt lt_b79_b149) nin0))).other W168 (Or.inl (Nat.ne_of_lt lt_b79_b104)))).other W172 (Or.inl (Nat.ne_of_gt lt_b46_b79)))).other W176 (Or.inl (Nat.ne_of_gt lt_b46_b79)))).other W180 (Or.inr (slot_ne (Or.inl (hw _ (List.mem_of_getElem? (i := 35) rfl))) (Or.inl (hw _ (List.mem_of_getElem? (i := 38) rfl))) (by decide) (t := (.object "com/example/dwellgate/dwellgate/book/PriceTree$Node")) (t' := (.object "com/example/dwellgate/dwellgate/book/PriceTree$Node")) (by decide) (by decide))))).other W1003 (Or.inr (slot_ne (Or.inl (hw _ (List.mem_of_getElem? (i := 35) rfl))) (Or.inl (hw _ (List.mem_of_getElem? (i := 41) rfl))) (by decide) (t := (.object "com/example/dwellgate/dwellgate/book/PriceTree$Node")) (t' := (.object "com/example/dwellgate/dwellgate/book/PriceTree$Node")) (by decide) (by decide))))).other W1007 (Or.inl (Nat.ne_of_lt lt_b79_b91)))).other W1011 (Or.inl (Nat.ne_of_lt lt_b79_b104)))).other W1015 (Or.inl (Nat.ne_of_lt lt_b79_b149)))).other W1019 (Or.inl (Nat.ne_of_lt lt_b79_b149)))).other W1023 (Or.inl (Nat.ne_of_lt lt_b79_b133)))).other W1382 (Or.inl (Nat.ne_of_lt lt_b79_b133)))).other W1386 (Or.inl (Nat.ne_of_lt lt_b79_b118)))).ext E1388)).other W1400 (Or.inl (Nat.ne_of_lt lt_b79_b1388)))).other W1405 (Or.inl (Nat.ne_of_lt lt_b79_b1388)))).other W1410 (Or.inl (Nat.ne_of_lt lt_b79_b1388)))).other W1415 (Or.inl (Nat.ne_of_lt lt_b79_b1388)))).other W1420 (Or.inl (Nat.ne_of_lt lt_b79_b1388)))).other W1425 (Or.inl (Nat.ne_of_lt lt_b79_b1388)))).other W1430 (Or.inl (Nat.ne_of_lt lt_b79_b1388)))
                    obtain ⟨r1483, T1483, L1483, X1483, hQ1483, st1483⟩ := own_callV (W := 0) (a := b35) (C := "com/example/dwellgate/dwellgate/book/PriceTree") X1430 hx hZ e1430 hown (y := (⟨"com/example/dwellgate/dwellgate/book/PriceTree", "next", "(Lcom/example/dwellgate/dwellgate/book/PriceTree$Node;)Lcom/example/dwellgate/dwellgate/book/PriceTree$Node;"⟩ : MethodName)) (z := (⟨"com/example/dwellgate/dwellgate/book/PriceTree", "next", "(Lcom/example/dwellgate/dwellgate/book/PriceTree$Node;)Lcom/example/dwellgate/dwellgate/book/PriceTree$Node;"⟩ : MethodName)) (hw _ (List.mem_of_getElem? (i := 45) rfl)) (hw _ (List.mem_of_getElem? (i := 46) rfl)) (notFace_of_selects (args := #[]) (mvT hZ (hw _ (List.mem_of_getElem? (i := 48) rfl)))) (hw _ (List.mem_of_getElem? (i := 48) rfl)) (hw _ (List.mem_of_getElem? (i := 47) rfl)) (hw _ (List.mem_of_getElem? (i := 5) rfl)) (hw _ (List.mem_of_getElem? (i := 49) rfl)) (by decide) (f1480) (rm5 l Z a0 hw [] b35 b46 b79 h1430 n0 Z1432 (f1481) (f1482)) (by decide) (by decide) (by decide) (by decide) (g := (mkF m 418 A1476 [(.ref b46), (.ref b35)])) rfl (by rw [hml]; rfl) (argsL := [(.ref b46)]) (rest := []) rfl (lenOf pd_2 rfl) rfl (by show 2 * 0 + _ ≤ _; exact Nat.le_of_eq rfl) (hb hby at_418)
                    obtain ⟨rfl, N1483, e1483⟩ := hQ1483
                    have N1483_ := Fr.app N1430 N1483
                    refine Go.st (S' := T1483.setTop (mkF m 421 A1476 [(.ref b79)])) st1483 ?_
                    refine Go.st (S' := T1483.setTop (mkF m 423 A1476 [(.ref b79), (.ref b79)])) (fun t k => XS.aload X1483.here hx rfl (hb hby at_421) rfl rfl k) ?_
                    refine Go.st (S' := T1483.setTop (mkF m 426 A1476 [])) (fun t k => acmp X1483 hx rfl rfl rfl (pc0 := 423) (pc' := 426) (same := true) rfl (hb hby at_423) rfl (by simp) (by decide) (by decide) k) ?_
                    refine Go.st (S' := T1483.setTop (mkF m 427 A1476 [(.int (1 : Int32))])) (fun t k => XS.iconst X1483.here hx rfl (hb hby at_426) k) ?_
                    refine Go.st (S' := T1483.setTop (mkF m 431 A1476 [(.int (1 : Int32))])) (fun t k => XS.goto X1483.here hx rfl (pc0 := 427) (pc' := 431) rfl (hb hby at_427) (by decide) (by decide) k) ?_
                    exact Go.ret X1483 (v := some (.int (1 : Int32))) (fun h => by rw [Bd.returns] at h; cases h) Bd.notSynchronized (fun fs hr => retN X1483 hx (t := .boolean) Bd.returns (by simp) (hb hby at_431) hr) (by decide) (by decide) ⟨rfl, N1483_⟩
                  · by_cases hj1484 : v1438 = (2 : Int32)
                    · obtain ⟨cl1485, Ar1485, -, S1485, N1485_, H1485, -⟩ := id V1430
                      have hin1485 : ¬ (v1438 < 0 ∨ cl1485.slots.size ≤ (v1438).toNatClampNeg) := by rw [hj1484]; exact inb_of S1485 ⟨by decide, by decide⟩
                      have hat1485 : cl1485.slots[(v1438).toNatClampNeg]? = some (.ref b91) := Has.at H1485 hin1485 (by rw [hj1484]; rfl)
                      refine Go.st (S' := T1430.setTop (mkF m 405 A1437 [(.ref b91)])) (fun t k => X1430.aaload hx (j := v1438) (v := (.ref b91)) (own_eh e1430 Ar1485.1) (State.isArrayOf_alike hZ.alike Ar1485.2.1) rfl Ar1485.2.2 hin1485 hat1485 (g := (mkF m 404 A1437 [(.int v1438), (.ref b1388)])) rfl rfl (hb hby at_404) t k) ?_
                      refine Go.st (S' := T1430.setTop (mkF m 409 A1437 [(.ref b91)])) (fun t k => XS.goto X1430.here hx rfl (pc0 := 405) (pc' := 409) rfl (hb hby at_405) (by decide) (by decide) k) ?_
                      let A1486 : Array Slot := #[.val (.int p0), .val (.int p1), .val (.int r5), .val (.int r11), .val (.int r17), .val (.ref r26), .val (.long r32), .second, .val (.ref b35), .val (.ref b46), .val (.ref b79), .val (.ref b91), .val (.ref b104), .val (.ref b118), .val (.ref b133), .val (.ref b149), .val (.ref b1388), .val (.int (7 : Int32)), .val (.int v1436), .val (.ref b91)]
                      refine Go.st (S' := T1430.setTop (mkF m 411 A1486 [])) (fun t k => XS.astore X1430.here hx rfl (hb hby at_409) rfl rfl (l' := A1486) rfl k) ?_
                      refine Go.st (S' := T1430.setTop (mkF m 413 A1486 [(.ref b35)])) (fun t k => XS.aload X1430.here hx rfl (hb hby at_411) rfl rfl k) ?_
                      refine Go.st (S' := T1430.setTop (mkF m 415 A1486 [(.ref b1388), (.ref b35)])) (fun t k => XS.aload X1430.here hx rfl (hb hby at_413) rfl rfl k) ?_
                      refine Go.st (S' := T1430.setTop (mkF m 417 A1486 [(.int v1436), (.ref b1388), (.ref b35)])) (fun t k => XS.iload X1430.here hx rfl (hb hby at_415) rfl k) ?_
                      have hj1488 : v1436 = (1 : Int32) := by
                        refine Decidable.byContradiction fun hc1489 => ?_
                        have rv1435 := rng32 v1435
                        have wv1435 := c_mask p0 (2147483647 : Int32) 31 (by decide) (by decide)
                        rw [← hv1435] at wv1435
                        have rv1436 := rng32 v1436
                        have wv1436 := c_irem v1435 (7 : Int32) 7 (by decide)
                        rw [← hv1436] at wv1436
                        have rv1438 := rng32 v1438
                        have wv1438 := c_iadd v1436 (1 : Int32)
                        rw [← hv1438] at wv1438
                        have rp0 := rng32 p0
                        have lI1 : (1 : Int32).toInt = 1 := by decide
                        have lI2 : (2 : Int32).toInt = 2 := by decide
                        have lI7 : (7 : Int32).toInt = 7 := by decide
                        have lI2147483647 : (2147483647 : Int32).toInt = 2147483647 := by decide
                        simp only [Int32.lt_iff_toInt_lt, Int64.lt_iff_toInt_lt, ← Int32.toInt_inj, ← Int64.toInt_inj] at hc1471 hj1474 hj1484 hc1489
                        omega
                      obtain ⟨cl1487, Ar1487, -, S1487, N1487_, H1487, -⟩ := id V1430
                      have hin1487 : ¬ (v1436 < 0 ∨ cl1487.slots.size ≤ (v1436).toNatClampNeg) := by rw [hj1488]; exact inb_of S1487 ⟨by decide, by decide⟩
                      have hat1487 : cl1487.slots[(v1436).toNatClampNeg]? = some (.ref b79) := Has.at H1487 hin1487 (by rw [hj1488]; rfl)
                      refine Go.st (S' := T1430.setTop (mkF m 418 A1486 [(.ref b79), (.ref b35)])) (fun t k => X1430.aaload hx (j := v1436) (v := (.ref b79)) (own_eh e1430 Ar1487.1) (State.isArrayOf_alike hZ.alike Ar1487.2.1) rfl Ar1487.2.2 hin1487 hat1487 (g := (mkF m 417 A1486 [(.int v1436), (.ref b1388), (.ref b35)])) rfl rfl (hb hby at_417) t k) ?_
                      have f1490 := ((((((((((((((((f1389).ext E1388)).wr W1400)).wr W1405)).wr W1410)).wr W1415)).wr W1420)).wr W1425)).wr W1430)
                      have f1491 := ((((((((((((((((((((((((((((((Fw1003).other W1007 (Or.inl (Nat.ne_of_lt lt_b79_b91)))).other W1011 (Or.inl (Nat.ne_of_lt lt_b79_b104)))).other W1015 (Or.inl (Nat.ne_of_lt lt_b79_b149)))).other W1019 (Or.inl (Nat.ne_of_lt lt_b79_b149)))).other W1023 (Or.inl (Nat.ne_of_lt lt_b79_b133)))).other W1382 (Or.inl (Nat.ne_of_lt lt_b79_b133)))).other W1386 (Or.inl (Nat.ne_of_lt lt_b79_b118)))).ext E1388)).other W1400 (Or.inl (Nat.ne_of_lt lt_b79_b1388)))).other W1405 (Or.inl (Nat.ne_of_lt lt_b79_b1388)))).other W1410 (Or.inl (Nat.ne_of_lt lt_b79_b1388)))).other W1415 (Or.inl (Nat.ne_of_lt lt_b79_b1388)))).other W1420 (Or.inl (Nat.ne_of_lt lt_b79_b1388)))).other W1425 (Or.inl (Nat.ne_of_lt lt_b79_b1388)))).other W1430 (Or.inl (Nat.ne_of_lt lt_b79_b1388)))
                      have f1492 := ((((((((((((((((((((((((((((((((((((((((((((((((((((((((f99).ext E104)).keep K110_ (ninS (Nat.ne_of_lt lt_b91_b104) nin0))).ext E118)).keep K125_ (ninS (Nat.ne_of_lt lt_b91_b118) nin0))).ext E133)).keep K141_ (ninS (Nat.ne_of_lt lt_b91_b133) nin0))).ext E149)).keep K158_ (ninS (Nat.ne_of_lt lt_b91_b149) nin0))).other W168 (Or.inl (Nat.ne_of_lt lt_b91_b104)))).other W172 (Or.inl (Nat.ne_of_gt lt_b46_b91)))).other W176 (Or.inl (Nat.ne_of_gt lt_b46_b91)))).other W180 (Or.inl (Nat.ne_of_gt lt_b79_b91)))).other W1003 (Or.inl (Nat.ne_of_gt lt_b79_b91)))).other W1007 (Or.inr (slot_ne (Or.inl (hw _ (List.mem_of_getElem? (i := 35) rfl))) (Or.inl (hw _ (List.mem_of_getElem? (i := 38) rfl))) (by decide) (t := (.object "com/example/dwellgate/dwellgate/book/PriceTree$Node")) (t' := (.object "com/example/dwellgate/dwellgate/book/PriceTree$Node")) (by decide) (by decide))))).other W1011 (Or.inl (Nat.ne_of_lt lt_b91_b104)))).other W1015 (Or.inl (Nat.ne_of_lt lt_b91_b149)))).other W1019 (Or.inl (Nat.ne_of_lt lt_b91_b149)))).other W1023 (Or.inl (Nat.ne_of_lt lt_b91_b133)))).other W1382 (Or.inl (Nat.ne_of_lt lt_b91_b133)))).other W1386 (Or.inl (Nat.ne_of_lt lt_b91_b118)))).ext E1388)).other W1400 (Or.inl (Nat.ne_of_lt lt_b91_b1388)))).other W1405 (Or.inl (Nat.ne_of_lt lt_b91_b1388)))).other W1410 (Or.inl (Nat.ne_of_lt lt_b91_b1388)))).other W1415 (Or.inl (Nat.ne_of_lt lt_b91_b1388)))).other W1420 (Or.inl (Nat.ne_of_lt lt_b91_b1388)))).other W1425 (Or.inl (Nat.ne_of_lt lt_b91_b1388)))).other W1430 (Or.inl (Nat.ne_of_lt lt_b91_b1388)))
                      obtain ⟨r1493, T1493, L1493, X1493, hQ1493, st1493⟩ := own_callV (W := 0) (a := b35) (C := "com/example/dwellgate/dwellgate/book/PriceTree") X1430 hx hZ e1430 hown (y := (⟨"com/example/dwellgate/dwellgate/book/PriceTree", "next", "(Lcom/example/dwellgate/dwellgate/book/PriceTree$Node;)Lcom/example/dwellgate/dwellgate/book/PriceTree$Node;"⟩ : MethodName)) (z := (⟨"com/example/dwellgate/dwellgate/book/PriceTree", "next", "(Lcom/example/dwellgate/dwellgate/book/PriceTree$Node;)Lcom/example/dwellgate/dwellgate/book/PriceTree$Node;"⟩ : MethodName)) (hw _ (List.mem_of_getElem? (i := 45) rfl)) (hw _ (List.mem_of_getElem? (i := 46) rfl)) (notFace_of_selects (args := #[]) (mvT hZ (hw _ (List.mem_of_getElem? (i := 48) rfl)))) (hw _ (List.mem_of_getElem? (i := 48) rfl)) (hw _ (List.mem_of_getElem? (i := 47) rfl)) (hw _ (List.mem_of_getElem? (i := 5) rfl)) (hw _ (List.mem_of_getElem? (i := 49) rfl)) (by decide) (f1490) (rm5 l Z a0 hw [] b35 b79 b91 h1430 n0 Z1432 (f1491) (f1492)) (by decide) (by decide) (by decide) (by decide) (g := (mkF m 418 A1486 [(.ref b79), (.ref b35)])) rfl (by rw [hml]; rfl) (argsL := [(.ref b79)]) (rest := []) rfl (lenOf pd_2 rfl) rfl (by show 2 * 0 + _ ≤ _; exact Nat.le_of_eq rfl) (hb hby at_418)
                      obtain ⟨rfl, N1493, e1493⟩ := hQ1493
                      have N1493_ := Fr.app N1430 N1493
                      refine Go.st (S' := T1493.setTop (mkF m 421 A1486 [(.ref b91)])) st1493 ?_
                      refine Go.st (S' := T1493.setTop (mkF m 423 A1486 [(.ref b91), (.ref b91)])) (fun t k => XS.aload X1493.here hx rfl (hb hby at_421) rfl rfl k) ?_
                      refine Go.st (S' := T1493.setTop (mkF m 426 A1486 [])) (fun t k => acmp X1493 hx rfl rfl rfl (pc0 := 423) (pc' := 426) (same := true) rfl (hb hby at_423) rfl (by simp) (by decide) (by decide) k) ?_
                      refine Go.st (S' := T1493.setTop (mkF m 427 A1486 [(.int (1 : Int32))])) (fun t k => XS.iconst X1493.here hx rfl (hb hby at_426) k) ?_
                      refine Go.st (S' := T1493.setTop (mkF m 431 A1486 [(.int (1 : Int32))])) (fun t k => XS.goto X1493.here hx rfl (pc0 := 427) (pc' := 431) rfl (hb hby at_427) (by decide) (by decide) k) ?_
                      exact Go.ret X1493 (v := some (.int (1 : Int32))) (fun h => by rw [Bd.returns] at h; cases h) Bd.notSynchronized (fun fs hr => retN X1493 hx (t := .boolean) Bd.returns (by simp) (hb hby at_431) hr) (by decide) (by decide) ⟨rfl, N1493_⟩
                    · by_cases hj1494 : v1438 = (3 : Int32)
                      · obtain ⟨cl1495, Ar1495, -, S1495, N1495_, H1495, -⟩ := id V1430
                        have hin1495 : ¬ (v1438 < 0 ∨ cl1495.slots.size ≤ (v1438).toNatClampNeg) := by rw [hj1494]; exact inb_of S1495 ⟨by decide, by decide⟩
                        have hat1495 : cl1495.slots[(v1438).toNatClampNeg]? = some (.ref b104) := Has.at H1495 hin1495 (by rw [hj1494]; rfl)
                        refine Go.st (S' := T1430.setTop (mkF m 405 A1437 [(.ref b104)])) (fun t k => X1430.aaload hx (j := v1438) (v := (.ref b104)) (own_eh e1430 Ar1495.1) (State.isArrayOf_alike hZ.alike Ar1495.2.1) rfl Ar1495.2.2 hin1495 hat1495 (g := (mkF m 404 A1437 [(.int v1438), (.ref b1388)])) rfl rfl (hb hby at_404) t k) ?_
                        refine Go.st (S' := T1430.setTop (mkF m 409 A1437 [(.ref b104)])) (fun t k => XS.goto X1430.here hx rfl (pc0 := 405) (pc' := 409) rfl (hb hby at_405) (by decide) (by decide) k) ?_
                        let A1496 : Array Slot := #[.val (.int p0), .val (.int p1), .val (.int r5), .val (.int r11), .val (.int r17), .val (.ref r26), .val (.long r32), .second, .val (.ref b35), .val (.ref b46), .val (.ref b79), .val (.ref b91), .val (.ref b104), .val (.ref b118), .val (.ref b133), .val (.ref b149), .val (.ref b1388), .val (.int (7 : Int32)), .val (.int v1436), .val (.ref b104)]
                        refine Go.st (S' := T1430.setTop (mkF m 411 A1496 [])) (fun t k => XS.astore X1430.here hx rfl (hb hby at_409) rfl rfl (l' := A1496) rfl k) ?_
                        refine Go.st (S' := T1430.setTop (mkF m 413 A1496 [(.ref b35)])) (fun t k => XS.aload X1430.here hx rfl (hb hby at_411) rfl rfl k) ?_
                        refine Go.st (S' := T1430.setTop (mkF m 415 A1496 [(.ref b1388), (.ref b35)])) (fun t k => XS.aload X1430.here hx rfl (hb hby at_413) rfl rfl k) ?_
                        refine Go.st (S' := T1430.setTop (mkF m 417 A1496 [(.int v1436), (.ref b1388), (.ref b35)])) (fun t k => XS.iload X1430.here hx rfl (hb hby at_415) rfl k) ?_
                        have hj1498 : v1436 = (2 : Int32) := by
                          refine Decidable.byContradiction fun hc1499 => ?_
                          have rv1435 := rng32 v1435
                          have wv1435 := c_mask p0 (2147483647 : Int32) 31 (by decide) (by decide)
                          rw [← hv1435] at wv1435
                          have rv1436 := rng32 v1436
                          have wv1436 := c_irem v1435 (7 : Int32) 7 (by decide)
                          rw [← hv1436] at wv1436
                          have rv1438 := rng32 v1438
                          have wv1438 := c_iadd v1436 (1 : Int32)
                          rw [← hv1438] at wv1438
                          have rp0 := rng32 p0
                          have lI1 : (1 : Int32).toInt = 1 := by decide
                          have lI2 : (2 : Int32).toInt = 2 := by decide
                          have lI3 : (3 : Int32).toInt = 3 := by decide
                          have lI7 : (7 : Int32).toInt = 7 := by decide
                          have lI2147483647 : (2147483647 : Int32).toInt = 2147483647 := by decide
                          simp only [Int32.lt_iff_toInt_lt, Int64.lt_iff_toInt_lt, ← Int32.toInt_inj, ← Int64.toInt_inj] at hc1471 hj1474 hj1484 hj1494 hc1499
                          omega
                        obtain ⟨cl1497, Ar1497, -, S1497, N1497_, H1497, -⟩ := id V1430
                        have hin1497 : ¬ (v1436 < 0 ∨ cl1497.slots.size ≤ (v1436).toNatClampNeg) := by rw [hj1498]; exact inb_of S1497 ⟨by decide, by decide⟩
                        have hat1497 : cl1497.slots[(v1436).toNatClampNeg]? = some (.ref b91) := Has.at H1497 hin1497 (by rw [hj1498]; rfl)
                        refine Go.st (S' := T1430.setTop (mkF m 418 A1496 [(.ref b91), (.ref b35)])) (fun t k => X1430.aaload hx (j := v1436) (v := (.ref b91)) (own_eh e1430 Ar1497.1) (State.isArrayOf_alike hZ.alike Ar1497.2.1) rfl Ar1497.2.2 hin1497 hat1497 (g := (mkF m 417 A1496 [(.int v1436), (.ref b1388), (.ref b35)])) rfl rfl (hb hby at_417) t k) ?_
                        have f1500 := ((((((((((((((((f1389).ext E1388)).wr W1400)).wr W1405)).wr W1410)).wr W1415)).wr W1420)).wr W1425)).wr W1430)
                        have f1516 := ((((((((((((((((((((((((((((((((((((((((((((((((((((((((f101).ext E104)).keep K110_ (ninS (Nat.ne_of_lt lt_b91_b104) nin0))).ext E118)).keep K125_ (ninS (Nat.ne_of_lt lt_b91_b118) nin0))).ext E133)).keep K141_ (ninS (Nat.ne_of_lt lt_b91_b133) nin0))).ext E149)).keep K158_ (ninS (Nat.ne_of_lt lt_b91_b149) nin0))).other W168 (Or.inl (Nat.ne_of_lt lt_b91_b104)))).other W172 (Or.inl (Nat.ne_of_gt lt_b46_b91)))).other W176 (Or.inl (Nat.ne_of_gt lt_b46_b91)))).other W180 (Or.inl (Nat.ne_of_gt lt_b79_b91)))).other W1003 (Or.inl (Nat.ne_of_gt lt_b79_b91)))).other W1007 (Or.inr (slot_ne (Or.inl (hw _ (List.mem_of_getElem? (i := 41) rfl))) (Or.inl (hw _ (List.mem_of_getElem? (i := 38) rfl))) (by decide) (t := (.object "com/example/dwellgate/dwellgate/book/PriceTree$Node")) (t' := (.object "com/example/dwellgate/dwellgate/book/PriceTree$Node")) (by decide) (by decide))))).other W1011 (Or.inl (Nat.ne_of_lt lt_b91_b104)))).other W1015 (Or.inl (Nat.ne_of_lt lt_b91_b149)))).other W1019 (Or.inl (Nat.ne_of_lt lt_b91_b149)))).other W1023 (Or.inl (Nat.ne_of_lt lt_b91_b133)))).other W1382 (Or.inl (Nat.ne_of_lt lt_b91_b133)))).other W1386 (Or.inl (Nat.ne_of_lt lt_b91_b118)))).ext E1388)).other W1400 (Or.inl (Nat.ne_of_lt lt_b91_b1388)))).other W1405 (Or.inl (Nat.ne_of_lt lt_b91_b1388)))).other W1410 (Or.inl (Nat.ne_of_lt lt_b91_b1388)))).other W1415 (Or.inl (Nat.ne_of_lt lt_b91_b1388)))).other W1420 (Or.inl (Nat.ne_of_lt lt_b91_b1388)))).other W1425 (Or.inl (Nat.ne_of_lt lt_b91_b1388)))).other W1430 (Or.inl (Nat.ne_of_lt lt_b91_b1388)))
                        have f1517 := ((((((((((((((((((((((((((((Fw1007).other W1011 (Or.inl (Nat.ne_of_lt lt_b91_b104)))).other W1015 (Or.inl (Nat.ne_of_lt lt_b91_b149)))).other W1019 (Or.inl (Nat.ne_of_lt lt_b91_b149)))).other W1023 (Or.inl (Nat.ne_of_lt lt_b91_b133)))).other W1382 (Or.inl (Nat.ne_of_lt lt_b91_b133)))).other W1386 (Or.inl (Nat.ne_of_lt lt_b91_b118)))).ext E1388)).other W1400 (Or.inl (Nat.ne_of_lt lt_b91_b1388)))).other W1405 (Or.inl (Nat.ne_of_lt lt_b91_b1388)))).other W1410 (Or.inl (Nat.ne_of_lt lt_b91_b1388)))).other W1415 (Or.inl (Nat.ne_of_lt lt_b91_b1388)))).other W1420 (Or.inl (Nat.ne_of_lt lt_b91_b1388)))).other W1425 (Or.inl (Nat.ne_of_lt lt_b91_b1388)))).other W1430 (Or.inl (Nat.ne_of_lt lt_b91_b1388)))
                        have f1518 := ((((((((((((((((((((((((((((((Fw1003).other W1007 (Or.inl (Nat.ne_of_lt lt_b79_b91)))).other W1011 (Or.inl (Nat.ne_of_lt lt_b79_b104)))).other W1015 (Or.inl (Nat.ne_of_lt lt_b79_b149)))).other W1019 (Or.inl (Nat.ne_of_lt lt_b79_b149)))).other W1023 (Or.inl (Nat.ne_of_lt lt_b79_b133)))).other W1382 (Or.inl (Nat.ne_of_lt lt_b79_b133)))).other W1386 (Or.inl (Nat.ne_of_lt lt_b79_b118)))).ext E1388)).other W1400 (Or.inl (Nat.ne_of_lt lt_b79_b1388)))).other W1405 (Or.inl (Nat.ne_of_lt lt_b79_b1388)))).other W1410 (Or.inl (Nat.ne_of_lt lt_b79_b1388)))).other W1415 (Or.inl (Nat.ne_of_lt lt_b79_b1388)))).other W1420 (Or.inl (Nat.ne_of_lt lt_b79_b1388)))).other W1425 (Or.inl (Nat.ne_of_lt lt_b79_b1388)))).other W1430 (Or.inl (Nat.ne_of_lt lt_b79_b1388)))
                        have f1519 := ((((((((((((((((((((((((((((((((Fw180).other W1003 (Or.inr (slot_ne (Or.inl (hw _ (List.mem_of_getElem? (i := 38) rfl))) (Or.inl (hw _ (List.mem_of_getElem? (i := 41) rfl))) (by decide) (t := (.object "com/example/dwellgate/dwellgate/book/PriceTree$Node")) (t' := (.object "com/example/dwellgate/dwellgate/book/PriceTree$Node")) (by decide) (by decide))))).other W1007 (Or.inl (Nat.ne_of_lt lt_b79_b91)))).other W1011 (Or.inl (Nat.ne_of_lt lt_b79_b104)))).other W1015 (Or.inl (Nat.ne_of_lt lt_b79_b149)))).other W1019 (Or.inl (Nat.ne_of_lt lt_b79_b149)))).other W1023 (Or.inl (Nat.ne_of_lt lt_b79_b133)))).other W1382 (Or.inl (Nat.ne_of_lt lt_b79_b133)))).other W1386 (Or.inl (Nat.ne_of_lt lt_b79_b118)))).ext E1388)).other W1400 (Or.inl (Nat.ne_of_lt lt_b79_b1388)))).other W1405 (Or.inl (Nat.ne_of_lt lt_b79_b1388)))).other W1410 (Or.inl (Nat.ne_of_lt lt_b79_b1388)))).other W1415 (Or.inl (Nat.ne_of_lt lt_b79_b1388)))).other W1420 (Or.inl (Nat.ne_of_lt lt_b79_b1388)))).other W1425 (Or.inl (Nat.ne_of_lt lt_b79_b1388)))).other W1430 (Or.inl (Nat.ne_of_lt lt_b79_b1388)))
                        have f1520 := ((((((((((((((((((((((((((((((((((Fw176).other W180 (Or.inl (Nat.ne_of_lt lt_b46_b79)))).other W1003 (Or.inl (Nat.ne_of_lt lt_b46_b79)))).other W1007 (Or.inl (Nat.ne_of_lt lt_b46_b91)))).other W1011 (Or.inl (Nat.ne_of_lt lt_b46_b104)))).other W1015 (Or.inl (Nat.ne_of_lt lt_b46_b149)))).other W1019 (Or.inl (Nat.ne_of_lt lt_b46_b149)))).other W1023 (Or.inl (Nat.ne_of_lt lt_b46_b133)))).other W1382 (Or.inl (Nat.ne_of_lt lt_b46_b133)))).other W1386 (Or.inl (Nat.ne_of_lt lt_b46_b118)))).ext E1388)).other W1400 (Or.inl (Nat.ne_of_lt lt_b46_b1388)))).other W1405 (Or.inl (Nat.ne_of_lt lt_b46_b1388)))).other W1410 (Or.inl (Nat.ne_of_lt lt_b46_b1388)))).other W1415 (Or.inl (Nat.ne_of_lt lt_b46_b1388)))).other W1420 (Or.inl (Nat.ne_of_lt lt_b46_b1388)))).other W1425 (Or.inl (Nat.ne_of_lt lt_b46_b1388)))).other W1430 (Or.inl (Nat.ne_of_lt lt_b46_b1388)))
                        have f1521 := ((((((((((((((((((((((((((((((((((((Fw172).other W176 (Or.inr (slot_ne (Or.inl (hw _ (List.mem_of_getElem? (i := 38) rfl))) (Or.inl (hw _ (List.mem_of_getElem? (i := 41) rfl))) (by decide) (t := (.object "com/example/dwellgate/dwellgate/book/PriceTree$Node")) (t' := (.object "com/example/dwellgate/dwellgate/book/PriceTree$Node")) (by decide) (by decide))))).other W180 (Or.inl (Nat.ne_of_lt lt_b46_b79)))).other W1003 (Or.inl (Nat.ne_of_lt lt_b46_b79)))).other W1007 (Or.inl (Nat.ne_of_lt lt_b46_b91)))).other W1011 (Or.inl (Nat.ne_of_lt lt_b46_b104)))).other W1015 (Or.inl (Nat.ne_of_lt lt_b46_b149)))).other W1019 (Or.inl (Nat.ne_of_lt lt_b46_b149)))).other W1023 (Or.inl (Nat.ne_of_lt lt_b46_b133)))).other W1382 (Or.inl (Nat.ne_of_lt lt_b46_b133)))).other W1386 (Or.inl (Nat.ne_of_lt lt_b46_b118)))).ext E1388)).other W1400 (Or.inl (Nat.ne_of_lt lt_b46_b1388)))).other W1405 (Or.inl (Nat.ne_of_lt lt_b46_b1388)))).other W1410 (Or.inl (Nat.ne_of_lt lt_b46_b1388)))).other W1415 (Or.inl (Nat.ne_of_lt lt_b46_b1388)))).other W1420 (Or.inl (Nat.ne_of_lt lt_b46_b1388)))).other W1425 (Or.inl (Nat.ne_of_lt lt_b46_b1388)))).other W1430 (Or.inl (Nat.ne_of_lt lt_b46_b1388)))
                        have f1522 := ((((((((((((((((((((((((((Fw1011).other W1015 (Or.inl (Nat.ne_of_lt lt_b104_b149)))).other W1019 (Or.inl (Nat.ne_of_lt lt_b104_b149)))).other W1023 (Or.inl (Nat.ne_of_lt lt_b104_b133)))).other W1382 (Or.inl (Nat.ne_of_lt lt_b104_b133)))).other W1386 (Or.inl (Nat.ne_of_lt lt_b104_b118)))).ext E1388)).other W1400 (Or.inl (Nat.ne_of_lt lt_b104_b1388)))).other W1405 (Or.inl (Nat.ne_of_lt lt_b104_b1388)))).other W1410 (Or.inl (Nat.ne_of_lt lt_b104_b1388)))).other W1415 (Or.inl (Nat.ne_of_lt lt_b104_b1388)))).other W1420 (Or.inl (Nat.ne_of_lt lt_b104_b1388)))).other W1425 (Or.inl (Nat.ne_of_lt lt_b104_b1388)))).other W1430 (Or.inl (Nat.ne_of_lt lt_b104_b1388)))
                        obtain ⟨r1523, T1523, L1523, X1523, hQ1523, st1523⟩ := own_callV (W := 0) (a := b35) (C := "com/example/dwellgate/dwellgate/book/PriceTree") X1430 hx hZ e1430 hown (y := (⟨"com/example/dwellgate/dwellgate/book/PriceTree", "next", "(Lcom/example/dwellgate/dwellgate/book/PriceTree$Node;)Lcom/example/dwellgate/dwellgate/book/PriceTree$Node;"⟩ : MethodName)) (z := (⟨"com/example/dwellgate/dwellgate/book/PriceTree", "next", "(Lcom/example/dwellgate/dwellgate/book/PriceTree$Node;)Lcom/example/dwellgate/dwellgate/book/PriceTree$Node;"⟩ : MethodName)) (hw _ (List.mem_of_getElem? (i := 45) rfl)) (hw _ (List.mem_of_getElem? (i := 46) rfl)) (notFace_of_selects (args := #[]) (mvT hZ (hw _ (List.mem_of_getElem? (i := 48) rfl)))) (hw _ (List.mem_of_getElem? (i := 48) rfl)) (hw _ (List.mem_of_getElem? (i := 47) rfl)) (hw _ (List.mem_of_getElem? (i := 5) rfl)) (hw _ (List.mem_of_getElem? (i := 49) rfl)) (by decide) (f1500) (rm11 l Z a0 hw [] b35 b91 b79 b46 b104 b149 h1430 n0 Z1432 (f1516) (f1517) (f1518) (f1519) (f1520) (f1521) (f1522) ((Nat.ne_of_lt lt_b46_b149))) (by decide) (by decide) (by decide) (by decide) (g := (mkF m 418 A1496 [(.ref b91), (.ref b35)])) rfl (by rw [hml]; rfl) (argsL := [(.ref b91)]) (rest := []) rfl (lenOf pd_2 rfl) rfl (by show 2 * 0 + _ ≤ _; exact Nat.le_of_eq rfl) (hb hby at_418)
                        obtain ⟨rfl, N1523, e1523⟩ := hQ1523
                        have N1523_ := Fr.app N1430 N1523
                        refine Go.st (S' := T1523.setTop (mkF m 421 A1496 [(.ref b104)])) st1523 ?_
                        refine Go.st (S' := T1523.setTop (mkF m 423 A1496 [(.ref b104), (.ref b104)])) (fun t k => XS.aload X1523.here hx rfl (hb hby at_421) rfl rfl k) ?_
                        refine Go.st (S' := T1523.setTop (mkF m 426 A1496 [])) (fun t k => acmp X1523 hx rfl rfl rfl (pc0 := 423) (pc' := 426) (same := true) rfl (hb hby at_423) rfl (by simp) (by decide) (by decide) k) ?_
                        refine Go.st (S' := T1523.setTop (mkF m 427 A1496 [(.int (1 : Int32))])) (fun t k => XS.iconst X1523.here hx rfl (hb hby at_426) k) ?_
                        refine Go.st (S' := T1523.setTop (mkF m 431 A1496 [(.int (1 : Int32))])) (fun t k => XS.goto X1523.here hx rfl (pc0 := 427) (pc' := 431) rfl (hb hby at_427) (by decide) (by decide) k) ?_
                        exact Go.ret X1523 (v := some (.int (1 : Int32))) (fun h => by rw [Bd.returns] at h; cases h) Bd.notSynchronized (fun fs hr => retN X1523 hx (t := .boolean) Bd.returns (by simp) (hb hby at_431) hr) (by decide) (by decide) ⟨rfl, N1523_⟩
                      · by_cases hj1524 : v1438 = (4 : Int32)
                        · obtain ⟨cl1525, Ar1525, -, S1525, N1525_, H1525, -⟩ := id V1430
                          have hin1525 : ¬ (v1438 < 0 ∨ cl1525.slots.size ≤ (v1438).toNatClampNeg) := by rw [hj1524]; exact inb_of S1525 ⟨by decide, by decide⟩
                          have hat1525 : cl1525.slots[(v1438).toNatClampNeg]? = some (.ref b118) := Has.at H1525 hin1525 (by rw [hj1524]; rfl)
                          refine Go.st (S' := T1430.setTop (mkF m 405 A1437 [(.ref b118)])) (fun t k => X1430.aaload hx (j := v1438) (v := (.ref b118)) (own_eh e1430 Ar1525.1) (State.isArrayOf_alike hZ.alike Ar1525.2.1) rfl Ar1525.2.2 hin1525 hat1525 (g := (mkF m 404 A1437 [(.int v1438), (.ref b1388)])) rfl rfl (hb hby at_404) t k) ?_
                          refine Go.st (S' := T1430.setTop (mkF m 409 A1437 [(.ref b118)])) (fun t k => XS.goto X1430.here hx rfl (pc0 := 405) (pc' := 409) rfl (hb hby at_405) (by decide) (by decide) k) ?_
                          let A1526 : Array Slot := #[.val (.int p0), .val (.int p1), .val (.int r5), .val (.int r11), .val (.int r17), .val (.ref r26), .val (.long r32), .second, .val (.ref b35), .val (.ref b46), .val (.ref b79), .val (.ref b91), .val (.ref b104), .val (.ref b118), .val (.ref b133), .val (.ref b149), .val (.ref b1388), .val (.int (7 : Int32)), .val (.int v1436), .val (.ref b118)]
                          refine Go.st (S' := T1430.setTop (mkF m 411 A1526 [])) (fun t k => XS.astore X1430.here hx rfl (hb hby at_409) rfl rfl (l' := A1526) rfl k) ?_
                          refine Go.st (S' := T1430.setTop (mkF m 413 A1526 [(.ref b35)])) (fun t k => XS.aload X1430.here hx rfl (hb hby at_411) rfl rfl k) ?_
                          refine Go.st (S' := T1430.setTop (mkF m 415 A1526 [(.ref b1388), (.ref b35)])) (fun t k => XS.aload X1430.here hx rfl (hb hby at_413) rfl rfl k) ?_
                          refine Go.st (S' := T1430.setTop (mkF m 417 A1526 [(.int v1436), (.ref b1388), (.ref b35)])) (fun t k => XS.iload X1430.here hx rfl (hb hby at_415) rfl k) ?_
                          have hj1528 : v1436 = (3 : Int32) := by
                            refine Decidable.byContradiction fun hc1529 => ?_
                            have rv1435 := rng32 v1435
                            have wv1435 := c_mask p0 (2147483647 : Int32) 31 (by decide) (by decide)
                            rw [← hv1435] at wv1435
                            have rv1436 := rng32 v1436
                            have wv1436 := c_irem v1435 (7 : Int32) 7 (by decide)
                            rw [← hv1436] at wv1436
                            have rv1438 := rng32 v1438
                            have wv1438 := c_iadd v1436 (1 : Int32)
                            rw [← hv1438] at wv1438
                            have rp0 := rng32 p0
                            have lI1 : (1 : Int32).toInt = 1 := by decide
                            have lI2 : (2 : Int32).toInt = 2 := by decide
                            have lI3 : (3 : Int32).toInt = 3 := by decide
                            have lI4 : (4 : Int32).toInt = 4 := by decide
                            have lI7 : (7 : Int32).toInt = 7 := by decide
                            have lI2147483647 : (2147483647 : Int32).toInt = 2147483647 := by decide
                            simp only [Int32.lt_iff_toInt_lt, Int64.lt_iff_toInt_lt, ← Int32.toInt_inj, ← Int64.toInt_inj] at hc1471 hj1474 hj1484 hj1494 hj1524 hc1529
                            omega
                          obtain ⟨cl1527, Ar1527, -, S1527, N1527_, H1527, -⟩ := id V1430
                          have hin1527 : ¬ (v1436 < 0 ∨ cl1527.slots.size ≤ (v1436).toNatClampNeg) := by rw [hj1528]; exact inb_of S1527 ⟨by decide, by decide⟩
                          have hat1527 : cl1527.slots[(v1436).toNatClampNeg]? = some (.ref b104) := Has.at H1527 hin1527 (by rw [hj1528]; rfl)
                          refine Go.st (S' := T1430.setTop (mkF m 418 A1526 [(.ref b104), (.ref b35)])) (fun t k => X1430.aaload hx (j := v1436) (v := (.ref b104)) (own_eh e1430 Ar1527.1) (State.isArrayOf_alike hZ.alike Ar1527.2.1) rfl Ar1527.2.2 hin1527 hat1527 (g := (mkF m 417 A1526 [(.int v1436), (.ref b1388), (.ref b35)])) rfl rfl (hb hby at_417) t k) ?_
                          have f1530 := ((((((((((((((((f1389).ext E1388)).wr W1400)).wr W1405)).wr W1410)).wr W1415)).wr W1420)).wr W1425)).wr W1430)
                          have f1539 := ((((((((((((((((((((((((((Fw1011).other W1015 (Or.inl (Nat.ne_of_lt lt_b104_b149)))).other W1019 (Or.inl (Nat.ne_of_lt lt_b104_b149)))).other W1023 (Or.inl (Nat.ne_of_lt lt_b104_b133)))).other W1382 (Or.inl (Nat.ne_of_lt lt_b104_b133)))).other W1386 (Or.inl (Nat.ne_of_lt lt_b104_b118)))).ext E1388)).other W1400 (Or.inl (Nat.ne_of_lt lt_b104_b1388)))).other W1405 (Or.inl (Nat.ne_of_lt lt_b104_b1388)))).other W1410 (Or.inl (Nat.ne_of_lt lt_b104_b1388)))).other W1415 (Or.inl (Nat.ne_of_lt lt_b104_b1388)))).other W1420 (Or.inl (Nat.ne_of_lt lt_b104_b1388)))).other W1425 (Or.inl (Nat.ne_of_lt lt_b104_b1388)))).other W1430 (Or.inl (Nat.ne_of_lt lt_b104_b1388)))
                          have f1540 := ((((((((((((((((((((((Fw1019).other W1023 (Or.inl (Nat.ne_of_gt lt_b133_b149)))).other W1382 (Or.inl (Nat.ne_of_gt lt_b133_b149)))).other W1386 (Or.inl (Nat.ne_of_gt lt_b118_b149)))).ext E1388)).other W1400 (Or.inl (Nat.ne_of_lt lt_b149_b1388)))).other W1405 (Or.inl (Nat.ne_of_lt lt_b149_b1388)))).other W1410 (Or.inl (Nat.ne_of_lt lt_b149_b1388)))).other W1415 (Or.inl (Nat.ne_of_lt lt_b149_b1388)))).other W1420 (Or.inl (Nat.ne_of_lt lt_b149_b1388)))).other W1425 (Or.inl (Nat.ne_of_lt lt_b149_b1388)))).other W1430 (Or.inl (Nat.ne_of_lt lt_b149_b1388)))
                          have f1541 := ((((((((((((((((((Fw1382).other W1386 (Or.inl (Nat.ne_of_gt lt_b118_b133)))).ext E1388)).other W1400 (Or.inl (Nat.ne_of_lt lt_b133_b1388)))).other W1405 (Or.inl (Nat.ne_of_lt lt_b133_b1388)))).other W1410 (Or.inl (Nat.ne_of_lt lt_b133_b1388)))).other W1415 (Or.inl (Nat.ne_of_lt lt_b133_b1388)))).other W1420 (Or.inl (Nat.ne_of_lt lt_b133_b1388)))).other W1425 (Or.inl (Nat.ne_of_lt lt_b133_b1388)))).other W1430 (Or.inl (Nat.ne_of_lt lt_b133_b1388)))
                          have f1542 := ((((((((((((((((((((((((((((((((((((((((((((((((f128).ext E133)).keep K141_ (ninS (Nat.ne_of_lt lt_b118_b133) nin0))).ext E149)).keep K158_ (ninS (Nat.ne_of_lt lt_b118_b149) nin0))).other W168 (Or.inl (Nat.ne_of_gt lt_b104_b118)))).other W172 (Or.inl (Nat.ne_of_gt lt_b46_b118)))).other W176 (Or.inl (Nat.ne_of_gt lt_b46_b118)))).other W180 (Or.inl (Nat.ne_of_gt lt_b79_b118)))).other W1003 (Or.inl (Nat.ne_of_gt lt_b79_b118)))).other W1007 (Or.inl (Nat.ne_of_gt lt_b91_b118)))).other W1011 (Or.inl (Nat.ne_of_gt lt_b104_b118)))).other W1015 (Or.inl (Nat.ne_of_lt lt_b118_b149)))).other W1019 (Or.inl (Nat.ne_of_lt lt_b118_b149)))).other W1023 (Or.inl (Nat.ne_of_lt lt_b118_b133)))).other W1382 (Or.inl (Nat.ne_of_lt lt_b118_b133)))).other W1386 (Or.inr (slot_ne (Or.inl (hw _ (List.mem_of_getElem? (i := 35) rfl))) (Or.inl (hw _ (List.mem_of_getElem? (i := 38) rfl))) (by decide) (t := (.object "com/example/dwellgate/dwellgate/book/PriceTree$Node")) (t' := (.object "com/example/dwellgate/dwellgate/book/PriceTree$Node")) (by decide) (by decide))))).ext E1388)).other W1400 (Or.inl (Nat.ne_of_lt lt_b118_b1388)))).other W1405 (Or.inl (Nat.ne_of_lt lt_b118_b1388)))).other W1410 (Or.inl (Nat.ne_of_lt lt_b118_b1388)))).other W1415 (Or.inl (Nat.ne_of_lt lt_b118_b1388)))).other W1420 (Or.inl (Nat.ne_of_lt lt_b118_b1388)))).other W1425 (Or.inl (Nat.ne_of_lt lt_b118_b1388)))).other W1430 (Or.inl (Nat.ne_of_lt lt_b118_b1388)))
                          obtain ⟨r1543, T1543, L1543, X1543, hQ1543, st1543⟩ := own_callV (W := 0) (a := b35) (C := "com/example/dwellgate/dwellgate/book/PriceTree") X1430 hx hZ e1430 hown (y := (⟨"com/example/dwellgate/dwellgate/book/PriceTree", "next", "(Lcom/example/dwellgate/dwellgate/book/PriceTree$Node;)Lcom/example/dwellgate/dwellgate/book/PriceTree$Node;"⟩ : MethodName)) (z := (⟨"com/example/dwellgate/dwellgate/book/PriceTree", "next", "(Lcom/example/dwellgate/dwellgate/book/PriceTree$Node;)Lcom/example/dwellgate/dwellgate/book/PriceTree$Node;"⟩ : MethodName)) (hw _ (List.mem_of_getElem? (i := 45) rfl)) (hw _ (List.mem_of_getElem? (i := 46) rfl)) (notFace_of_selects (args := #[]) (mvT hZ (hw _ (List.mem_of_getElem? (i := 48) rfl)))) (hw _ (List.mem_of_getElem? (i := 48) rfl)) (hw _ (List.mem_of_getElem? (i := 47) rfl)) (hw _ (List.mem_of_getElem? (i := 5) rfl)) (hw _ (List.mem_of_getElem? (i := 49) rfl)) (by decide) (f1530) (rm10 l Z a0 hw [] b35 b104 b149 b133 b118 h1430 n0 Z1432 (f1539) (f1540) (f1541) (f1542)) (by decide) (by decide) (by decide) (by decide) (g := (mkF m 418 A1526 [(.ref b104), (.ref b35)])) rfl (by rw [hml]; rfl) (argsL := [(.ref b104)]) (rest := []) rfl (lenOf pd_2 rfl) rfl (by show 2 * 0 + _ ≤ _; exact Nat.le_of_eq rfl) (hb hby at_418)
                          obtain ⟨rfl, N1543, e1543⟩ := hQ1543
                          have N1543_ := Fr.app N1430 N1543
                          refine Go.st (S' := T1543.setTop (mkF m 421 A1526 [(.ref b118)])) st1543 ?_
                          refine Go.st (S' := T1543.setTop (mkF m 423 A1526 [(.ref b118), (.ref b118)])) (fun t k => XS.aload X1543.here hx rfl (hb hby at_421) rfl rfl k) ?_
                          refine Go.st (S' := T1543.setTop (mkF m 426 A1526 [])) (fun t k => acmp X1543 hx rfl rfl rfl (pc0 := 423) (pc' := 426) (same := true) rfl (hb hby at_423) rfl (by simp) (by decide) (by decide) k) ?_
                          refine Go.st (S' := T1543.setTop (mkF m 427 A1526 [(.int (1 : Int32))])) (fun t k => XS.iconst X1543.here hx rfl (hb hby at_426) k) ?_
                          refine Go.st (S' := T1543.setTop (mkF m 431 A1526 [(.int (1 : Int32))])) (fun t k => XS.goto X1543.here hx rfl (pc0 := 427) (pc' := 431) rfl (hb hby at_427) (by decide) (by decide) k) ?_
                          exact Go.ret X1543 (v := some (.int (1 : Int32))) (fun h => by rw [Bd.returns] at h; cases h) Bd.notSynchronized (fun fs hr => retN X1543 hx (t := .boolean) Bd.returns (by simp) (hb hby at_431) hr) (by decide) (by decide) ⟨rfl, N1543_⟩
                        · by_cases hj1544 : v1438 = (5 : Int32)
                          · obtain ⟨cl1545, Ar1545, -, S1545, N1545_, H1545, -⟩ := id V1430
                            have hin1545 : ¬ (v1438 < 0 ∨ cl1545.slots.size ≤ (v1438).toNatClampNeg) := by rw [hj1544]; exact inb_of S1545 ⟨by decide, by decide⟩
                            have hat1545 : cl1545.slots[(v1438).toNatClampNeg]? = some (.ref b133) := Has.at H1545 hin1545 (by rw [hj1544]; rfl)
                            refine Go.st (S' := T1430.setTop (mkF m 405 A1437 [(.ref b133)])) (fun t k => X1430.aaload hx (j := v1438) (v := (.ref b133)) (own_eh e1430 Ar1545.1) (State.isArrayOf_alike hZ.alike Ar1545.2.1) rfl Ar1545.2.2 hin1545 hat1545 (g := (mkF m 404 A1437 [(.int v1438), (.ref b1388)])) rfl rfl (hb hby at_404) t k) ?_
                            refine Go.st (S' := T1430.setTop (mkF m 409 A1437 [(.ref b133)])) (fun t k => XS.goto X1430.here hx rfl (pc0 := 405) (pc' := 409) rfl (hb hby at_405) (by decide) (by decide) k) ?_
                            let A1546 : Array Slot := #[.val (.int p0), .val (.int p1), .val (.int r5), .val (.int r11), .val (.int r17), .val (.ref r26), .val (.long r32), .second, .val (.ref b35), .val (.ref b46), .val (.ref b79), .val (.ref b91), .val (.ref b104), .val (.ref b118), .val (.ref b133), .val (.ref b149), .val (.ref b1388), .val (.int (7 : Int32)), .val (.int v1436), .val (.ref b133)]
                            refine Go.st (S' := T1430.setTop (mkF m 411 A1546 [])) (fun t k => XS.astore X1430.here hx rfl (hb hby at_409) rfl rfl (l' := A1546) rfl k) ?_
                            refine Go.st (S' := T1430.setTop (mkF m 413 A1546 [(.ref b35)])) (fun t k => XS.aload X1430.here hx rfl (hb hby at_411) rfl rfl k) ?_
                            refine Go.st (S' := T1430.setTop (mkF m 415 A1546 [(.ref b1388), (.ref b35)])) (fun t k => XS.aload X1430.here hx rfl (hb hby at_413) rfl rfl k) ?_
                            refine Go.st (S' := T1430.setTop (mkF m 417 A1546 [(.int v1436), (.ref b1388), (.ref b35)])) (fun t k => XS.iload X1430.here hx rfl (hb hby at_415) rfl k) ?_
                            have hj1548 : v1436 = (4 : Int32) := by
                              refine Decidable.byContradiction fun hc1549 => ?_
                              have rv1435 := rng32 v1435
                              have wv1435 := c_mask p0 (2147483647 : Int32) 31 (by decide) (by decide)
                              rw [← hv1435] at wv1435
                              have rv1436 := rng32 v1436
                              have wv1436 := c_irem v1435 (7 : Int32) 7 (by decide)
                              rw [← hv1436] at wv1436
                              have rv1438 := rng32 v1438
                              have wv1438 := c_iadd v1436 (1 : Int32)
                              rw [← hv1438] at wv1438
                              have rp0 := rng32 p0
                              have lI1 : (1 : Int32).toInt = 1 := by decide
                              have lI2 : (2 : Int32).toInt = 2 := by decide
                              have lI3 : (3 : Int32).toInt = 3 := by decide
                              have lI4 : (4 : Int32).toInt = 4 := by decide
                              have lI5 : (5 : Int32).toInt = 5 := by decide
                              have lI7 : (7 : Int32).toInt = 7 := by decide
                              have lI2147483647 : (2147483647 : Int32).toInt = 2147483647 := by decide
                              simp only [Int32.lt_iff_toInt_lt, Int64.lt_iff_toInt_lt, ← Int32.toInt_inj, ← Int64.toInt_inj] at hc1471 hj1474 hj1484 hj1494 hj1524 hj1544 hc1549
                              omega
                            obtain ⟨cl1547, Ar1547, -, S1547, N1547_, H1547, -⟩ := id V1430
                            have hin1547 : ¬ (v1436 < 0 ∨ cl1547.slots.size ≤ (v1436).toNatClampNeg) := by rw [hj1548]; exact inb_of S1547 ⟨by decide, by decide⟩
                            have hat1547 : cl1547.slots[(v1436).toNatClampNeg]? = some (.ref b118) := Has.at H1547 hin1547 (by rw [hj1548]; rfl)
                            refine Go.st (S' := T1430.setTop (mkF m 418 A1546 [(.ref b118), (.ref b35)])) (fun t k => X1430.aaload hx (j := v1436) (v := (.ref b118)) (own_eh e1430 Ar1547.1) (State.isArrayOf_alike hZ.alike Ar1547.2.1) rfl Ar1547.2.2 hin1547 hat1547 (g := (mkF m 417 A1546 [(.int v1436), (.ref b1388), (.ref b35)])) rfl rfl (hb hby at_417) t k) ?_
                            have f1550 := ((((((((((((((((f1389).ext E1388)).wr W1400)).wr W1405)).wr W1410)).wr W1415)).wr W1420)).wr W1425)).wr W1430)
                            have f1556 := ((((((((((((((((((((((((((((((((((((((((((((((((f130).ext E133)).keep K141_ (ninS (Nat.ne_of_lt lt_b118_b133) nin0))).ext E149)).keep K158_ (ninS (Nat.ne_of_lt lt_b118_b149) nin0))).other W168 (Or.inl (Nat.ne_of_gt lt_b104_b118)))).other W172 (Or.inl (Nat.ne_of_gt lt_b46_b118)))).other W176 (Or.inl (Nat.ne_of_gt lt_b46_b118)))).other W180 (Or.inl (Nat.ne_of_gt lt_b79_b118)))).other W1003 (Or.inl (Nat.ne_of_gt lt_b79_b118)))).other W1007 (Or.inl (Nat.ne_of_gt lt_b91_b118)))).other W1011 (Or.inl (Nat.ne_of_gt lt_b104_b118)))).other W1015 (Or.inl (Nat.ne_of_lt lt_b118_b149)))).other W1019 (Or.inl (Nat.ne_of_lt lt_b118_b149)))).other W1023 (Or.inl (Nat.ne_of_lt lt_b118_b133)))).other W1382 (Or.inl (Nat.ne_of_lt lt_b118_b133)))).other W1386 (Or.inr (slot_ne (Or.inl (hw _ (List.mem_of_getElem? (i := 41) rfl))) (Or.inl (hw _ (List.mem_of_getElem? (i := 38) rfl))) (by decide) (t := (.object "com/example/dwellgate/dwellgate/book/PriceTree$Node")) (t' := (.object "com/example/dwellgate/dwellgate/book/PriceTree$Node")) (by decide) (by decide))))).ext E1388)).other W1400 (Or.inl (Nat.ne_of_lt lt_b118_b1388)))).other W1405 (Or.inl (Nat.ne_of_lt lt_b118_b1388)))).other W1410 (Or.inl (Nat.ne_of_lt lt_b118_b1388)))).other W1415 (Or.inl (Nat.ne_of_lt lt_b118_b1388)))).other W1420 (Or.inl (Nat.ne_of_lt lt_b118_b1388)))).other W1425 (Or.inl (Nat.ne_of_lt lt_b118_b1388)))).other W1430 (Or.inl (Nat.ne_of_lt lt_b118_b1388)))
                            have f1557 := ((((((((((((((((Fw1386).ext E1388)).other W1400 (Or.inl (Nat.ne_of_lt lt_b118_b1388)))).other W1405 (Or.inl (Nat.ne_of_lt lt_b118_b1388)))).other W1410 (Or.inl (Nat.ne_of_lt lt_b118_b1388)))).other W1415 (Or.inl (Nat.ne_of_lt lt_b118_b1388)))).other W1420 (Or.inl (Nat.ne_of_lt lt_b118_b1388)))).other W1425 (Or.inl (Nat.ne_of_lt lt_b118_b1388)))).other W1430 (Or.inl (Nat.ne_of_lt lt_b118_b1388)))
                            have f1558 := ((((((((((((((((((((((((((((((((((((((((((((f146).ext E149)).keep K158_ (ninS (Nat.ne_of_lt lt_b133_b149) nin0))).other W168 (Or.inl (Nat.ne_of_gt lt_b104_b133)))).other W172 (Or.inl (Nat.ne_of_gt lt_b46_b133)))).other W176 (Or.inl (Nat.ne_of_gt lt_b46_b133)))).other W180 (Or.inl (Nat.ne_of_gt lt_b79_b133)))).other W1003 (Or.inl (Nat.ne_of_gt lt_b79_b133)))).other W1007 (Or.inl (Nat.ne_of_gt lt_b91_b133)))).other W1011 (Or.inl (Nat.ne_of_gt lt_b104_b133)))).other W1015 (Or.inl (Nat.ne_of_lt lt_b133_b149)))).other W1019 (Or.inl (Nat.ne_of_lt lt_b133_b149)))).other W1023 (Or.inr (slot_ne (Or.inl (hw _ (List.mem_of_getElem? (i := 41) rfl))) (Or.inl (hw _ (List.mem_of_getElem? (i := 38) rfl))) (by decide) (t := (.object "com/example/dwellgate/dwellgate/book/PriceTree$Node")) (t' := (.object "com/example/dwellgate/dwellgate/book/PriceTree$Node")) (by decide) (by decide))))).other W1382 (Or.inr (slot_ne (Or.inl (hw _ (List.mem_of_getElem? (i := 41) rfl))) (Or.inl (hw _ (List.mem_of_getElem? (i := 35) rfl))) (by decide) (t := (.object "com/example/dwellgate/dwellgate/book/PriceTree$Node")) (t' := (.object "com/example/dwellgate/dwellgate/book/PriceTree$Node")) (by decide) (by decide))))).other W1386 (Or.inl (Nat.ne_of_gt lt_b118_b133)))).ext E1388)).other W1400 (Or.inl (Nat.ne_of_lt lt_b133_b1388)))).other W1405 (Or.inl (Nat.ne_of_lt lt_b133_b1388)))).other W1410 (Or.inl (Nat.ne_of_lt lt_b133_b1388)))).other W1415 (Or.inl (Nat.ne_of_lt lt_b133_b1388)))).other W1420 (Or.inl (Nat.ne_of_lt lt_b133_b1388)))).other W1425 (Or.inl (Nat.ne_of_lt lt_b133_b1388)))).other W1430 (Or.inl (Nat.ne_of_lt lt_b133_b1388)))
                            obtain ⟨r1559, T1559, L1559, X1559, hQ1559, st1559⟩ := own_callV (W := 0) (a := b35) (C := "com/example/dwellgate/dwellgate/book/PriceTree") X1430 hx hZ e1430 hown (y := (⟨"com/example/dwellgate/dwellgate/book/PriceTree", "next", "(Lcom/example/dwellgate/dwellgate/book/PriceTree$Node;)Lcom/example/dwellgate/dwellgate/book/PriceTree$Node;"⟩ : MethodName)) (z := (⟨"com/example/dwellgate/dwellgate/book/PriceTree", "next", "(Lcom/example/dwellgate/dwellgate/book/PriceTree$Node;)Lcom/example/dwellgate/dwellgate/book/PriceTree$Node;"⟩ : MethodName)) (hw _ (List.mem_of_getElem? (i := 45) rfl)) (hw _ (List.mem_of_getElem? (i := 46) rfl)) (notFace_of_selects (args := #[]) (mvT hZ (hw _ (List.mem_of_getElem? (i := 48) rfl)))) (hw _ (List.mem_of_getElem? (i := 48) rfl)) (hw _ (List.mem_of_getElem? (i := 47) rfl)) (hw _ (List.mem_of_getElem? (i := 5) rfl)) (hw _ (List.mem_of_getElem? (i := 49) rfl)) (by decide) (f1550) (rm8 l Z a0 hw [] b35 b118 b133 h1430 n0 Z1432 (f1556) (f1557) (f1558)) (by decide) (by decide) (by decide) (by decide) (g := (mkF m 418 A1546 [(.ref b118), (.ref b35)])) rfl (by rw [hml]; rfl) (argsL := [(.ref b118)]) (rest := []) rfl (lenOf pd_2 rfl) rfl (by show 2 * 0 + _ ≤ _; exact Nat.le_of_eq rfl) (hb hby at_418)
                            obtain ⟨rfl, N1559, e1559⟩ := hQ1559
                            have N1559_ := Fr.app N1430 N1559
                            refine Go.st (S' := T1559.setTop (mkF m 421 A1546 [(.ref b133)])) st1559 ?_
                            refine Go.st (S' := T1559.setTop (mkF m 423 A1546 [(.ref b133), (.ref b133)])) (fun t k => XS.aload X1559.here hx rfl (hb hby at_421) rfl rfl k) ?_
                            refine Go.st (S' := T1559.setTop (mkF m 426 A1546 [])) (fun t k => acmp X1559 hx rfl rfl rfl (pc0 := 423) (pc' := 426) (same := true) rfl (hb hby at_423) rfl (by simp) (by decide) (by decide) k) ?_
                            refine Go.st (S' := T1559.setTop (mkF m 427 A1546 [(.int (1 : Int32))])) (fun t k => XS.iconst X1559.here hx rfl (hb hby at_426) k) ?_
                            refine Go.st (S' := T1559.setTop (mkF m 431 A1546 [(.int (1 : Int32))])) (fun t k => XS.goto X1559.here hx rfl (pc0 := 427) (pc' := 431) rfl (hb hby at_427) (by decide) (by decide) k) ?_
                            exact Go.ret X1559 (v := some (.int (1 : Int32))) (fun h => by rw [Bd.returns] at h; cases h) Bd.notSynchronized (fun fs hr => retN X1559 hx (t := .boolean) Bd.returns (by simp) (hb hby at_431) hr) (by decide) (by decide) ⟨rfl, N1559_⟩
                          · have hj1560 : v1438 = (6 : Int32) := by
                              refine Decidable.byContradiction fun hc1561 => ?_
                              have rv1435 := rng32 v1435
                              have wv1435 := c_mask p0 (2147483647 : Int32) 31 (by decide) (by decide)
                              rw [← hv1435] at wv1435
                              have rv1436 := rng32 v1436
                              have wv1436 := c_irem v1435 (7 : Int32) 7 (by decide)
                              rw [← hv1436] at wv1436
                              have rv1438 := rng32 v1438
                              have wv1438 := c_iadd v1436 (1 : Int32)
                              rw [← hv1438] at wv1438
                              have rp0 := rng32 p0
                              have lI1 : (1 : Int32).toInt = 1 := by decide
                              have lI2 : (2 : Int32).toInt = 2 := by decide
                              have lI3 : (3 : Int32).toInt = 3 := by decide
                              have lI4 : (4 : Int32).toInt = 4 := by decide
                              have lI5 : (5 : Int32).toInt = 5 := by decide
                              have lI6 : (6 : Int32).toInt = 6 := by decide
                              have lI7 : (7 : Int32).toInt = 7 := by decide
                              have lI2147483647 : (2147483647 : Int32).toInt = 2147483647 := by decide
                              simp only [Int32.lt_iff_toInt_lt, Int64.lt_iff_toInt_lt, ← Int32.toInt_inj, ← Int64.toInt_inj] at hc1471 hj1474 hj1484 hj1494 hj1524 hj1544 hc1561
                              omega
                            obtain ⟨cl1562, Ar1562, -, S1562, N1562_, H1562, -⟩ := id V1430
                            have hin1562 : ¬ (v1438 < 0 ∨ cl1562.slots.size ≤ (v1438).toNatClampNeg) := by rw [hj1560]; exact inb_of S1562 ⟨by decide, by decide⟩
                            have hat1562 : cl1562.slots[(v1438).toNatClampNeg]? = some (.ref b149) := Has.at H1562 hin1562 (by rw [hj1560]; rfl)
                            refine Go.st (S' := T1430.setTop (mkF m 405 A1437 [(.ref b149)])) (fun t k => X1430.aaload hx (j := v1438) (v := (.ref b149)) (own_eh e1430 Ar1562.1) (State.isArrayOf_alike hZ.alike Ar1562.2.1) rfl Ar1562.2.2 hin1562 hat1562 (g := (mkF m 404 A1437 [(.int v1438), (.ref b1388)])) rfl rfl (hb hby at_404) t k) ?_
                            refine Go.st (S' := T1430.setTop (mkF m 409 A1437 [(.ref b149)])) (fun t k => XS.goto X1430.here hx rfl (pc0 := 405) (pc' := 409) rfl (hb hby at_405) (by decide) (by decide) k) ?_
                            let A1563 : Array Slot := #[.val (.int p0), .val (.int p1), .val (.int r5), .val (.int r11), .val (.int r17), .val (.ref r26), .val (.long r32), .second, .val (.ref b35), .val (.ref b46), .val (.ref b79), .val (.ref b91), .val (.ref b104), .val (.ref b118), .val (.ref b133), .val (.ref b149), .val (.ref b1388), .val (.int (7 : Int32)), .val (.int v1436), .val (.ref b149)]
                            refine Go.st (S' := T1430.setTop (mkF m 411 A1563 [])) (fun t k => XS.astore X1430.here hx rfl (hb hby at_409) rfl rfl (l' := A1563) rfl k) ?_
                            refine Go.st (S' := T1430.setTop (mkF m 413 A1563 [(.ref b35)])) (fun t k => XS.aload X1430.here hx rfl (hb hby at_411) rfl rfl k) ?_
                            refine Go.st (S' := T1430.setTop (mkF m 415 A1563 [(.ref b1388), (.ref b35)])) (fun t k => XS.aload X1430.here hx rfl (hb hby at_413) rfl rfl k) ?_
                            refine Go.st (S' := T1430.setTop (mkF m 417 A1563 [(.int v1436), (.ref b1388), (.ref b35)])) (fun t k => XS.iload X1430.here hx rfl (hb hby at_415) rfl k) ?_
                            have hj1565 : v1436 = (5 : Int32) := by
                              refine Decidable.byContradiction fun hc1566 => ?_
                              have rv1435 := rng32 v1435
                              have wv1435 := c_mask p0 (2147483647 : Int32) 31 (by decide) (by decide)
                              rw [← hv1435] at wv1435
                              have rv1436 := rng32 v1436
                              have wv1436 := c_irem v1435 (7 : Int32) 7 (by decide)
                              rw [← hv1436] at wv1436
                              have rv1438 := rng32 v1438
                              have wv1438 := c_iadd v1436 (1 : Int32)
                              rw [← hv1438] at wv1438
                              have rp0 := rng32 p0
                              have lI1 : (1 : Int32).toInt = 1 := by decide
                              have lI2 : (2 : Int32).toInt = 2 := by decide
                              have lI3 : (3 : Int32).toInt = 3 := by decide
                              have lI4 : (4 : Int32).toInt = 4 := by decide
                              have lI5 : (5 : Int32).toInt = 5 := by decide
                              have lI6 : (6 : Int32).toInt = 6 := by decide
                              have lI7 : (7 : Int32).toInt = 7 := by decide
                              have lI2147483647 : (2147483647 : Int32).toInt = 2147483647 := by decide
                              simp only [Int32.lt_iff_toInt_lt, Int64.lt_iff_toInt_lt, ← Int32.toInt_inj, ← Int64.toInt_inj] at hc1471 hj1474 hj1484 hj1494 hj1524 hj1544 hj1560 hc1566
                              omega
                            obtain ⟨cl1564, Ar1564, -, S1564, N1564_, H1564, -⟩ := id V1430
                            have hin1564 : ¬ (v1436 < 0 ∨ cl1564.slots.size ≤ (v1436).toNatClampNeg) := by rw [hj1565]; exact inb_of S1564 ⟨by decide, by decide⟩
                            have hat1564 : cl1564.slots[(v1436).toNatClampNeg]? = some (.ref b133) := Has.at H1564 hin1564 (by rw [hj1565]; rfl)
                            refine Go.st (S' := T1430.setTop (mkF m 418 A1563 [(.ref b133), (.ref b35)])) (fun t k => X1430.aaload hx (j := v1436) (v := (.ref b133)) (own_eh e1430 Ar1564.1) (State.isArrayOf_alike hZ.alike Ar1564.2.1) rfl Ar1564.2.2 hin1564 hat1564 (g := (mkF m 417 A1563 [(.int v1436), (.ref b1388), (.ref b35)])) rfl rfl (hb hby at_417) t k) ?_
                            have f1567 := ((((((((((((((((f1389).ext E1388)).wr W1400)).wr W1405)).wr W1410)).wr W1415)).wr W1420)).wr W1425)).wr W1430)
                            have f1573 := ((((((((((((((((((((((((((((((((((((((((((((f146).ext E149)).keep K158_ (ninS (Nat.ne_of_lt lt_b133_b149) nin0))).other W168 (Or.inl (Nat.ne_of_gt lt_b104_b133)))).other W172 (Or.inl (Nat.ne_of_gt lt_b46_b133)))).other W176 (Or.inl (Nat.ne_of_gt lt_b46_b133)))).other W180 (Or.inl (Nat.ne_of_gt lt_b79_b133)))).other W1003 (Or.inl (Nat.ne_of_gt lt_b79_b133)))).other W1007 (Or.inl (Nat.ne_of_gt lt_b91_b133)))).other W1011 (Or.inl (Nat.ne_of_gt lt_b104_b133)))).other W1015 (Or.inl (Nat.ne_of_lt lt_b133_b149)))).other W1019 (Or.inl (Nat.ne_of_lt lt_b133_b149)))).other W1023 (Or.inr (slot_ne (Or.inl (hw _ (List.mem_of_getElem? (i := 41) rfl))) (Or.inl (hw _ (List.mem_of_getElem? (i := 38) rfl))) (by decide) (t := (.object "com/example/dwellgate/dwellgate/book/PriceTree$Node")) (t' := (.object "com/example/dwellgate/dwellgate/book/PriceTree$Node")) (by decide) (by decide))))).other W1382 (Or.inr (slot_ne (Or.inl (hw _ (List.mem_of_getElem? (i := 41) rfl))) (Or.inl (hw _ (List.mem_of_getElem? (i := 35) rfl))) (by decide) (t := (.object "com/example/dwellgate/dwellgate/book/PriceTree$Node")) (t' := (.object "com/example/dwellgate/dwellgate/book/PriceTree$Node")) (by decide) (by decide))))).other W1386 (Or.inl (Nat.ne_of_gt lt_b118_b133)))).ext E1388)).other W1400 (Or.inl (Nat.ne_of_lt lt_b133_b1388)))).other W1405 (Or.inl (Nat.ne_of_lt lt_b133_b1388)))).other W1410 (Or.inl (Nat.ne_of_lt lt_b133_b1388)))).other W1415 (Or.inl (Nat.ne_of_lt lt_b133_b1388)))).other W1420 (Or.inl (Nat.ne_of_lt lt_b133_b1388)))).other W1425 (Or.inl (Nat.ne_of_lt lt_b133_b1388)))).other W1430 (Or.inl (Nat.ne_of_lt lt_b133_b1388)))
                            have f1574 := ((((((((((((((((((((Fw1023).other W1382 (Or.inr (slot_ne (Or.inl (hw _ (List.mem_of_getElem? (i := 38) rfl))) (Or.inl (hw _ (List.mem_of_getElem? (i := 35) rfl))) (by decide) (t := (.object "com/example/dwellgate/dwellgate/book/PriceTree$Node")) (t' := (.object "com/example/dwellgate/dwellgate/book/PriceTree$Node")) (by decide) (by decide))))).other W1386 (Or.inl (Nat.ne_of_gt lt_b118_b133)))).ext E1388)).other W1400 (Or.inl (Nat.ne_of_lt lt_b133_b1388)))).other W1405 (Or.inl (Nat.ne_of_lt lt_b133_b1388)))).other W1410 (Or.inl (Nat.ne_of_lt lt_b133_b1388)))).other W1415 (Or.inl (Nat.ne_of_lt lt_b133_b1388)))).other W1420 (Or.inl (Nat.ne_of_lt lt_b133_b1388)))).other W1425 (Or.inl (Nat.ne_of_lt lt_b133_b1388)))).other W1430 (Or.inl (Nat.ne_of_lt lt_b133_b1388)))
                            have f1575 := ((((((((((((((((((((((((((((((((((((((((f163).other W168 (Or.inl (Nat.ne_of_gt lt_b104_b149)))).other W172 (Or.inl (Nat.ne_of_gt lt_b46_b149)))).other W176 (Or.inl (Nat.ne_of_gt lt_b46_b149)))).other W180 (Or.inl (Nat.ne_of_gt lt_b79_b149)))).other W1003 (Or.inl (Nat.ne_of_gt lt_b79_b149)))).other W1007 (Or.inl (Nat.ne_of_gt lt_b91_b149)))).other W1011 (Or.inl (Nat.ne_of_gt lt_b104_b149)))).other W1015 (Or.inr (slot_ne (Or.inl (hw _ (List.mem_of_getElem? (i := 41) rfl))) (Or.inl (hw _ (List.mem_of_getElem? (i := 38) rfl))) (by decide) (t := (.object "com/example/dwellgate/dwellgate/book/PriceTree$Node")) (t' := (.object "com/example/dwellgate/dwellgate/book/PriceTree$Node")) (by decide) (by decide))))).other W1019 (Or.inr (slot_ne (Or.inl (hw _ (List.mem_of_getElem? (i := 41) rfl))) (Or.inl (hw _ (List.mem_of_getElem? (i := 35) rfl))) (by decide) (t := (.object "com/example/dwellgate/dwellgate/book/PriceTree$Node")) (t' := (.object "com/example/dwellgate/dwellgate/book/PriceTree$Node")) (by decide) (by decide))))).other W1023 (Or.inl (Nat.ne_of_gt lt_b133_b149)))).other W1382 (Or.inl (Nat.ne_of_gt lt_b133_b149)))).other W1386 (Or.inl (Nat.ne_of_gt lt_b118_b149)))).ext E1388)).other W1400 (Or.inl (Nat.ne_of_lt lt_b149_b1388)))).other W1405 (Or.inl (Nat.ne_of_lt lt_b149_b1388)))).other W1410 (Or.inl (Nat.ne_of_lt lt_b149_b1388)))).other W1415 (Or.inl (Nat.ne_of_lt lt_b149_b1388)))).other W1420 (Or.inl (Nat.ne_of_lt lt_b149_b1388)))).other W1425 (Or.inl (Nat.ne_of_lt lt_b149_b1388)))).other W1430 (Or.inl (Nat.ne_of_lt lt_b149_b1388)))
                            obtain ⟨r1576, T1576, L1576, X1576, hQ1576, st1576⟩ := own_callV (W := 0) (a := b35) (C := "com/example/dwellgate/dwellgate/book/PriceTree") X1430 hx hZ e1430 hown (y := (⟨"com/example/dwellgate/dwellgate/book/PriceTree", "next", "(Lcom/example/dwellgate/dwellgate/book/PriceTree$Node;)Lcom/example/dwellgate/dwellgate/book/PriceTree$Node;"⟩ : MethodName)) (z := (⟨"com/example/dwellgate/dwellgate/book/PriceTree", "next", "(Lcom/example/dwellgate/dwellgate/book/PriceTree$Node;)Lcom/example/dwellgate/dwellgate/book/PriceTree$Node;"⟩ : MethodName)) (hw _ (List.mem_of_getElem? (i := 45) rfl)) (hw _ (List.mem_of_getElem? (i := 46) rfl)) (notFace_of_selects (args := #[]) (mvT hZ (hw _ (List.mem_of_getElem? (i := 48) rfl)))) (hw _ (List.mem_of_getElem? (i := 48) rfl)) (hw _ (List.mem_of_getElem? (i := 47) rfl)) (hw _ (List.mem_of_getElem? (i := 5) rfl)) (hw _ (List.mem_of_getElem? (i := 49) rfl)) (by decide) (f1567) (rm8 l Z a0 hw [] b35 b133 b149 h1430 n0 Z1432 (f1573) (f1574) (f1575)) (by decide) (by decide) (by decide) (by decide) (g := (mkF m 418 A1563 [(.ref b133), (.ref b35)])) rfl (by rw [hml]; rfl) (argsL := [(.ref b133)]) (rest := []) rfl (lenOf pd_2 rfl) rfl (by show 2 * 0 + _ ≤ _; exact Nat.le_of_eq rfl) (hb hby at_418)
                            obtain ⟨rfl, N1576, e1576⟩ := hQ1576
                            have N1576_ := Fr.app N1430 N1576
                            refine Go.st (S' := T1576.setTop (mkF m 421 A1563 [(.ref b149)])) st1576 ?_
                            refine Go.st (S' := T1576.setTop (mkF m 423 A1563 [(.ref b149), (.ref b149)])) (fun t k => XS.aload X1576.here hx rfl (hb hby at_421) rfl rfl k) ?_
                            refine Go.st (S' := T1576.setTop (mkF m 426 A1563 [])) (fun t k => acmp X1576 hx rfl rfl rfl (pc0 := 423) (pc' := 426) (same := true) rfl (hb hby at_423) rfl (by simp) (by decide) (by decide) k) ?_
                            refine Go.st (S' := T1576.setTop (mkF m 427 A1563 [(.int (1 : Int32))])) (fun t k => XS.iconst X1576.here hx rfl (hb hby at_426) k) ?_
                            refine Go.st (S' := T1576.setTop (mkF m 431 A1563 [(.int (1 : Int32))])) (fun t k => XS.goto X1576.here hx rfl (pc0 := 427) (pc' := 431) rfl (hb hby at_427) (by decide) (by decide) k) ?_
                            exact Go.ret X1576 (v := some (.int (1 : Int32))) (fun h => by rw [Bd.returns] at h; cases h) Bd.notSynchronized (fun fs hr => retN X1576 hx (t := .boolean) Bd.returns (by simp) (hb hby at_431) hr) (by decide) (by decide) ⟨rfl, N1576_⟩
                · refine Go.st (S' := T1430.setTop (mkF m 408 A1437 [])) (fun t k => XS.icmpYes X1430.here hx rfl (pc0 := 395) (pc' := 408) rfl (hb hby at_395) rfl (flt hc1471).2.1 (by decide) (by decide) k) ?_
                  refine Go.st (S' := T1430.setTop (mkF m 409 A1437 [.null])) (fun t k => XS.aconstNull X1430.here hx rfl (hb hby at_408) k) ?_
                  let A1577 : Array Slot := #[.val (.int p0), .val (.int p1), .val (.int r5), .val (.int r11), .val (.int r17), .val (.ref r26), .val (.long r32), .second, .val (.ref b35), .val (.ref b46), .val (.ref b79), .val (.ref b91), .val (.ref b104), .val (.ref b118), .val (.ref b133), .val (.ref b149), .val (.ref b1388), .val (.int (7 : Int32)), .val (.int v1436), .val .null]
                  refine Go.st (S' := T1430.setTop (mkF m 411 A1577 [])) (fun t k => XS.astore X1430.here hx rfl (hb hby at_409) rfl rfl (l' := A1577) rfl k) ?_
                  refine Go.st (S' := T1430.setTop (mkF m 413 A1577 [(.ref b35)])) (fun t k => XS.aload X1430.here hx rfl (hb hby at_411) rfl rfl k) ?_
                  refine Go.st (S' := T1430.setTop (mkF m 415 A1577 [(.ref b1388), (.ref b35)])) (fun t k => XS.aload X1430.here hx rfl (hb hby at_413) rfl rfl k) ?_
                  refine Go.st (S' := T1430.setTop (mkF m 417 A1577 [(.int v1436), (.ref b1388), (.ref b35)])) (fun t k => XS.iload X1430.here hx rfl (hb hby at_415) rfl k) ?_
                  have hj1579 : v1436 = (6 : Int32) := by
                    refine Decidable.byContradiction fun hc1580 => ?_
                    have rv1435 := rng32 v1435
                    have wv1435 := c_mask p0 (2147483647 : Int32) 31 (by decide) (by decide)
                    rw [← hv1435] at wv1435
                    have rv1436 := rng32 v1436
                    have wv1436 := c_irem v1435 (7 : Int32) 7 (by decide)
                    rw [← hv1436] at wv1436
                    have rv1438 := rng32 v1438
                    have wv1438 := c_iadd v1436 (1 : Int32)
                    rw [← hv1438] at wv1438
                    have rp0 := rng32 p0
                    have lI1 : (1 : Int32).toInt = 1 := by decide
                    have lI6 : (6 : Int32).toInt = 6 := by decide
                    have lI7 : (7 : Int32).toInt = 7 := by decide
                    have lI2147483647 : (2147483647 : Int32).toInt = 2147483647 := by decide
                    simp only [Int32.lt_iff_toInt_lt, Int64.lt_iff_toInt_lt, ← Int32.toInt_inj, ← Int64.toInt_inj] at hc1471 hc1580
                    omega
                  obtain ⟨cl1578, Ar1578, -, S1578, N1578_, H1578, -⟩ := id V1430
                  have hin1578 : ¬ (v1436 < 0 ∨ cl1578.slots.size ≤ (v1436).toNatClampNeg) := by rw [hj1579]; exact inb_of S1578 ⟨by decide, by decide⟩
                  have hat1578 : cl1578.slots[(v1436).toNatClampNeg]? = some (.ref b149) := Has.at H1578 hin1578 (by rw [hj1579]; rfl)
                  refine Go.st (S' := T1430.setTop (mkF m 418 A1577 [(.ref b149), (.ref b35)])) (fun t k => X1430.aaload hx (j := v1436) (v := (.ref b149)) (own_eh e1430 Ar1578.1) (State.isArrayOf_alike hZ.alike Ar1578.2.1) rfl Ar1578.2.2 hin1578 hat1578 (g := (mkF m 417 A1577 [(.int v1436), (.ref b1388), (.ref b35)])) rfl rfl (hb hby at_417) t k) ?_
                  have f1581 := ((((((((((((((((f1389).ext E1388)).wr W1400)).wr W1405)).wr W1410)).wr W1415)).wr W1420)).wr W1425)).wr W1430)
                  have f1591 := ((((((((((((((((((((((((((((((((((((((((f163).other W168 (Or.inl (Nat.ne_of_gt lt_b104_b149)))).other W172 (Or.inl (Nat.ne_of_gt lt_b46_b149)))).other W176 (Or.inl (Nat.ne_of_gt lt_b46_b149)))).other W180 (Or.inl (Nat.ne_of_gt lt_b79_b149)))).other W1003 (Or.inl (Nat.ne_of_gt lt_b79_b149)))).other W1007 (Or.inl (Nat.ne_of_gt lt_b91_b149)))).other W1011 (Or.inl (Nat.ne_of_gt lt_b104_b149)))).other W1015 (Or.inr (slot_ne (Or.inl (hw _ (List.mem_of_getElem? (i := 41) rfl))) (Or.inl (hw _ (List.mem_of_getElem? (i := 38) rfl))) (by decide) (t := (.object "com/example/dwellgate/dwellgate/book/PriceTree$Node")) (t' := (.object "com/example/dwellgate/dwellgate/book/PriceTree$Node")) (by decide) (by decide))))).other W1019 (Or.inr (slot_ne (Or.inl (hw _ (List.mem_of_getElem? (i := 41) rfl))) (Or.inl (hw _ (List.mem_of_getElem? (i := 35) rfl))) (by decide) (t := (.object "com/example/dwellgate/dwellgate/book/PriceTree$Node")) (t' := (.object "com/example/dwellgate/dwellgate/book/PriceTree$Node")) (by decide) (by decide))))).other W1023 (Or.inl (Nat.ne_of_gt lt_b133_b149)))).other W1382 (Or.inl (Nat.ne_of_gt lt_b133_b149)))).other W1386 (Or.inl (Nat.ne_of_gt lt_b118_b149)))).ext E1388)).other W1400 (Or.inl (Nat.ne_of_lt lt_b149_b1388)))).other W1405 (Or.inl (Nat.ne_of_lt lt_b149_b1388)))).other W1410 (Or.inl (Nat.ne_of_lt lt_b149_b1388)))).other W1415 (Or.inl (Nat.ne_of_lt lt_b149_b1388)))).other W1420 (Or.inl (Nat.ne_of_lt lt_b149_b1388)))).other W1425 (Or.inl (Nat.ne_of_lt lt_b149_b1388)))).other W1430 (Or.inl (Nat.ne_of_lt lt_b149_b1388)))
                  have f1592 := ((((((((((((((((((((((((Fw1015).other W1019 (Or.inr (slot_ne (Or.inl (hw _ (List.mem_of_getElem? (i := 38) rfl))) (Or.inl (hw _ (List.mem_of_getElem? (i := 35) rfl))) (by decide) (t := (.object "com/example/dwellgate/dwellgate/book/PriceTree$Node")) (t' := (.object "com/example/dwellgate/dwellgate/book/PriceTree$Node")) (by decide) (by decide))))).other W1023 (Or.inl (Nat.ne_of_gt lt_b133_b149)))).other W1382 (Or.inl (Nat.ne_of_gt lt_b133_b149)))).other W1386 (Or.inl (Nat.ne_of_gt lt_b118_b149)))).ext E1388)).other W1400 (Or.inl (Nat.ne_of_lt lt_b149_b1388)))).other W1405 (Or.inl (Nat.ne_of_lt lt_b149_b1388)))).other W1410 (Or.inl (Nat.ne_of_lt lt_b149_b1388)))).other W1415 (Or.inl (Nat.ne_of_lt lt_b149_b1388)))).other W1420 (Or.inl (Nat.ne_of_lt lt_b149_b1388)))).other W1425 (Or.inl (Nat.ne_of_lt lt_b149_b1388)))).other W1430 (Or.inl (Nat.ne_of_lt lt_b149_b1388)))
                  have f1593 := ((((((((((((((((((((((((((Fw1011).other W1015 (Or.inl (Nat.ne_of_lt lt_b104_b149)))).other W1019 (Or.inl (Nat.ne_of_lt lt_b104_b149)))).other W1023 (Or.inl (Nat.ne_of_lt lt_b104_b133)))).other W1382 (Or.inl (Nat.ne_of_lt lt_b104_b133)))).other W1386 (Or.inl (Nat.ne_of_lt lt_b104_b118)))).ext E1388)).other W1400 (Or.inl (Nat.ne_of_lt lt_b104_b1388)))).other W1405 (Or.inl (Nat.ne_of_lt lt_b104_b1388)))).other W1410 (Or.inl (Nat.ne_of_lt lt_b104_b1388)))).other W1415 (Or.inl (Nat.ne_of_lt lt_b104_b1388)))).other W1420 (Or.inl (Nat.ne_of_lt lt_b104_b1388)))).other W1425 (Or.inl (Nat.ne_of_lt lt_b104_b1388)))).other W1430 (Or.inl (Nat.ne_of_lt lt_b104_b1388)))
                  have f1594 := ((((((((((((((((((((((((((((((((((((((((((((((((((((f114).ext E118)).keep K125_ (ninS (Nat.ne_of_lt lt_b104_b118) nin0))).ext E133)).keep K141_ (ninS (Nat.ne_of_lt lt_b104_b133) nin0))).ext E149)).keep K158_ (ninS (Nat.ne_of_lt lt_b104_b149) nin0))).other W168 (Or.inr (slot_ne (Or.inl (hw _ (List.mem_of_getElem? (i := 38) rfl))) (Or.inl (hw _ (List.mem_of_getElem? (i := 35) rfl))) (by decide) (t := (.object "com/example/dwellgate/dwellgate/book/PriceTree$Node")) (t' := (.object "com/example/dwellgate/dwellgate/book/PriceTree$Node")) (by decide) (by decide))))).other W172 (Or.inl (Nat.ne_of_gt lt_b46_b104)))).other W176 (Or.inl (Nat.ne_of_gt lt_b46_b104)))).other W180 (Or.inl (Nat.ne_of_gt lt_b79_b104)))).other W1003 (Or.inl (Nat.ne_of_gt lt_b79_b104)))).other W1007 (Or.inl (Nat.ne_of_gt lt_b91_b104)))).other W1011 (Or.inr (slot_ne (Or.inl (hw _ (List.mem_of_getElem? (i := 38) rfl))) (Or.inl (hw _ (List.mem_of_getElem? (i := 41) rfl))) (by decide) (t := (.object "com/example/dwellgate/dwellgate/book/PriceTree$Node")) (t' := (.object "com/example/dwellgate/dwellgate/book/PriceTree$Node")) (by decide) (by decide))))).other W1015 (Or.inl (Nat.ne_of_lt lt_b104_b149)))).other W1019 (Or.inl (Nat.ne_of_lt lt_b104_b149)))).other W1023 (Or.inl (Nat.ne_of_lt lt_b104_b133)))).other W1382 (Or.inl (Nat.ne_of_lt lt_b104_b133)))).other W1386 (Or.inl (Nat.ne_of_lt lt_b104_b118)))).ext E1388)).other W1400 (Or.inl (Nat.ne_of_lt lt_b104_b1388)))).other W1405 (Or.inl (Nat.ne_of_lt lt_b104_b1388)))).other W1410 (Or.inl (Nat.ne_of_lt lt_b104_b1388)))).other W1415 (Or.inl (Nat.ne_of_lt lt_b104_b1388)))).other W1420 (Or.inl (Nat.ne_of_lt lt_b104_b1388)))).other W1425 (Or.inl (Nat.ne_of_lt lt_b104_b1388)))).other W1430 (Or.inl (Nat.ne_of_lt lt_b104_b1388)))
                  obtain ⟨r1595, T1595, L1595, X1595, hQ1595, st1595⟩ := own_callV (W := 0) (a := b35) (C := "com/example/dwellgate/dwellgate/book/PriceTree") X1430 hx hZ e1430 hown (y := (⟨"com/example/dwellgate/dwellgate/book/PriceTree", "next", "(Lcom/example/dwellgate/dwellgate/book/PriceTree$Node;)Lcom/example/dwellgate/dwellgate/book/PriceTree$Node;"⟩ : MethodName)) (z := (⟨"com/example/dwellgate/dwellgate/book/PriceTree", "next", "(Lcom/example/dwellgate/dwellgate/book/PriceTree$Node;)Lcom/example/dwellgate/dwellgate/book/PriceTree$Node;"⟩ : MethodName)) (hw _ (List.mem_of_getElem? (i := 45) rfl)) (hw _ (List.mem_of_getElem? (i := 46) rfl)) (notFace_of_selects (args := #[]) (mvT hZ (hw _ (List.mem_of_getElem? (i := 48) rfl)))) (hw _ (List.mem_of_getElem? (i := 48) rfl)) (hw _ (List.mem_of_getElem? (i := 47) rfl)) (hw _ (List.mem_of_getElem? (i := 5) rfl)) (hw _ (List.mem_of_getElem? (i := 49) rfl)) (by decide) (f1581) (rm9 l Z a0 hw [] b35 b149 b104 h1430 n0 Z1432 (f1591) (f1592) (f1593) (f1594)) (by decide) (by decide) (by decide) (by decide) (g := (mkF m 418 A1577 [(.ref b149), (.ref b35)])) rfl (by rw [hml]; rfl) (argsL := [(.ref b149)]) (rest := []) rfl (lenOf pd_2 rfl) rfl (by show 2 * 0 + _ ≤ _; exact Nat.le_of_eq rfl) (hb hby at_418)
                  obtain ⟨rfl, N1595, e1595⟩ := hQ1595
                  have N1595_ := Fr.app N1430 N1595
                  refine Go.st (S' := T1595.setTop (mkF m 421 A1577 [.null])) st1595 ?_
                  refine Go.st (S' := T1595.setTop (mkF m 423 A1577 [.null, .null])) (fun t k => XS.aload X1595.here hx rfl (hb hby at_421) rfl rfl k) ?_
                  refine Go.st (S' := T1595.setTop (mkF m 426 A1577 [])) (fun t k => acmp X1595 hx rfl rfl rfl (pc0 := 423) (pc' := 426) (same := true) rfl (hb hby at_423) rfl (by simp) (by decide) (by decide) k) ?_
                  refine Go.st (S' := T1595.setTop (mkF m 427 A1577 [(.int (1 : Int32))])) (fun t k => XS.iconst X1595.here hx rfl (hb hby at_426) k) ?_
                  refine Go.st (S' := T1595.setTop (mkF m 431 A1577 [(.int (1 : Int32))])) (fun t k => XS.goto X1595.here hx rfl (pc0 := 427) (pc' := 431) rfl (hb hby at_427) (by decide) (by decide) k) ?_
                  exact Go.ret X1595 (v := some (.int (1 : Int32))) (fun h => by rw [Bd.returns] at h; cases h) Bd.notSynchronized (fun fs hr => retN X1595 hx (t := .boolean) Bd.returns (by simp) (hb hby at_431) hr) (by decide) (by decide) ⟨rfl, N1595_⟩
          · intro J1596
            by_cases hc1597 : (r17 = (0 : Int32))
            · refine Go.st (S' := T28.setTop (mkF m 64 A29 [])) (fun t k => XS.ifYes X28.here hx rfl (pc0 := 55) (pc' := 64) rfl (hb hby at_55) rfl ((if0 _ _).trans (teq hc1597).1) (by decide) (by decide) k) ?_
              refine Go.st (S' := T28.setTop (mkF m 65 A29 [(.long (1 : Int64))])) (fun t k => XS.lconst X28.here hx rfl (hb hby at_64) k) ?_
              exact J1596 ((1 : Int64)) (Or.inl ⟨hc1597, rfl⟩)
            · refine Go.st (S' := T28.setTop (mkF m 58 A29 [])) (fun t k => XS.ifNo X28.here hx rfl (hb hby at_55) rfl ((if0 _ _).trans (feq hc1597).1) k) ?_
              refine Go.st (S' := T28.setTop (mkF m 61 A29 [(.long (-1 : Int64))])) (fun t k => X28.ldc2Long hx hown (mvT hZ (hw _ (List.mem_of_getElem? (i := 54) rfl))) (g := (mkF m 58 A29 [])) rfl (hb hby at_58) t k) ?_
              refine Go.st (S' := T28.setTop (mkF m 65 A29 [(.long (-1 : Int64))])) (fun t k => XS.goto X28.here hx rfl (pc0 := 61) (pc' := 65) rfl (hb hby at_61) (by decide) (by decide) k) ?_
              exact J1596 ((-1 : Int64)) (Or.inr ⟨hc1597, rfl⟩)
        · intro J1598
          by_cases hc1599 : (r17 = (0 : Int32))
          · refine Go.st (S' := s₁.setTop (mkF m 48 A19 [])) (fun t k => XS.ifYes X0.here hx rfl (pc0 := 39) (pc' := 48) rfl (hb hby at_39) rfl ((if0 _ _).trans (teq hc1599).1) (by decide) (by decide) k) ?_
            obtain ⟨T1600, X1600, e1600, st1600⟩ := getS X0 hx hZ hown (hw _ (List.mem_of_getElem? (i := 0) rfl)) Via.refl e0 S_s_Side_SELL (host := "") (g := (mkF m 48 A19 [])) rfl (hb hby at_48)
            refine Go.st (S' := T1600.setTop (mkF m 51 A19 [(.ref s_Side_SELL)])) st1600 ?_
            exact J1598 _ X1600 e1600 (s_Side_SELL) (Or.inl hc1599)
          · refine Go.st (S' := s₁.setTop (mkF m 42 A19 [])) (fun t k => XS.ifNo X0.here hx rfl (hb hby at_39) rfl ((if0 _ _).trans (feq hc1599).1) k) ?_
            obtain ⟨T1601, X1601, e1601, st1601⟩ := getS X0 hx hZ hown (hw _ (List.mem_of_getElem? (i := 52) rfl)) Via.refl e0 S_s_Side_BUY (host := "") (g := (mkF m 42 A19 [])) rfl (hb hby at_42)
            refine Go.st (S' := T1601.setTop (mkF m 45 A19 [(.ref s_Side_BUY)])) st1601 ?_
            refine Go.st (S' := T1601.setTop (mkF m 51 A19 [(.ref s_Side_BUY)])) (fun t k => XS.goto X1601.here hx rfl (pc0 := 45) (pc' := 51) rfl (hb hby at_45) (by decide) (by decide) k) ?_
            exact J1598 _ X1601 e1601 (s_Side_BUY) (Or.inr hc1599)
      · intro J1602
        by_cases hc1603 : (v14 = (0 : Int32))
        · refine Go.st (S' := s₁.setTop (mkF m 34 A13 [])) (fun t k => XS.ifYes X0.here hx rfl (pc0 := 27) (pc' := 34) rfl (hb hby at_27) rfl ((if0 _ _).trans (teq hc1603).1) (by decide) (by decide) k) ?_
          refine Go.st (S' := s₁.setTop (mkF m 35 A13 [(.int (0 : Int32))])) (fun t k => XS.iconst X0.here hx rfl (hb hby at_34) k) ?_
          exact J1602 ((0 : Int32)) (Or.inl ⟨hc1603, rfl⟩)
        · refine Go.st (S' := s₁.setTop (mkF m 30 A13 [])) (fun t k => XS.ifNo X0.here hx rfl (hb hby at_27) rfl ((if0 _ _).trans (feq hc1603).1) k) ?_
          refine Go.st (S' := s₁.setTop (mkF m 31 A13 [(.int (1 : Int32))])) (fun t k => XS.iconst X0.here hx rfl (hb hby at_30) k) ?_
          refine Go.st (S' := s₁.setTop (mkF m 35 A13 [(.int (1 : Int32))])) (fun t k => XS.goto X0.here hx rfl (pc0 := 31) (pc' := 35) rfl (hb hby at_31) (by decide) (by decide) k) ?_
          exact J1602 ((1 : Int32)) (Or.inr ⟨hc1603, rfl⟩)
    · intro J1604
      by_cases hc1605 : (v8 = (0 : Int32))
      · refine Go.st (S' := s₁.setTop (mkF m 22 A7 [])) (fun t k => XS.ifYes X0.here hx rfl (pc0 := 15) (pc' := 22) rfl (hb hby at_15) rfl ((if0 _ _).trans (teq hc1605).1) (by decide) (by decide) k) ?_
        refine Go.st (S' := s₁.setTop (mkF m 23 A7 [(.int (0 : Int32))])) (fun t k => XS.iconst X0.here hx rfl (hb hby at_22) k) ?_
        exact J1604 ((0 : Int32)) (Or.inl ⟨hc1605, rfl⟩)
      · refine Go.st (S' := s₁.setTop (mkF m 18 A7 [])) (fun t k => XS.ifNo X0.here hx rfl (hb hby at_15) rfl ((if0 _ _).trans (feq hc1605).1) k) ?_
        refine Go.st (S' := s₁.setTop (mkF m 19 A7 [(.int (1 : Int32))])) (fun t k => XS.iconst X0.here hx rfl (hb hby at_18) k) ?_
        refine Go.st (S' := s₁.setTop (mkF m 23 A7 [(.int (1 : Int32))])) (fun t k => XS.goto X0.here hx rfl (pc0 := 19) (pc' := 23) rfl (hb hby at_19) (by decide) (by decide) k) ?_
        exact J1604 ((1 : Int32)) (Or.inr ⟨hc1605, rfl⟩)
  · intro J1606
    by_cases hc1607 : (v2 = (0 : Int32))
    · refine Go.st (S' := s₁.setTop (mkF m 10 A1 [])) (fun t k => XS.ifYes X0.here hx rfl (pc0 := 3) (pc' := 10) rfl (hb hby at_3) rfl ((if0 _ _).trans (teq hc1607).1) (by decide) (by decide) k) ?_
      refine Go.st (S' := s₁.setTop (mkF m 11 A1 [(.int (0 : Int32))])) (fun t k => XS.iconst X0.here hx rfl (hb hby at_10) k) ?_
      exact J1606 ((0 : Int32)) (Or.inl ⟨hc1607, rfl⟩)
    · refine Go.st (S' := s₁.setTop (mkF m 6 A1 [])) (fun t k => XS.ifNo X0.here hx rfl (hb hby at_3) rfl ((if0 _ _).trans (feq hc1607).1) k) ?_
      refine Go.st (S' := s₁.setTop (mkF m 7 A1 [(.int (1 : Int32))])) (fun t k => XS.iconst X0.here hx rfl (hb hby at_6) k) ?_
      refine Go.st (S' := s₁.setTop (mkF m 11 A1 [(.int (1 : Int32))])) (fun t k => XS.goto X0.here hx rfl (pc0 := 7) (pc' := 11) rfl (hb hby at_7) (by decide) (by decide) k) ?_
      exact J1606 ((1 : Int32)) (Or.inr ⟨hc1607, rfl⟩)
set_option maxRecDepth 65536 in
set_option maxHeartbeats 40000000 in
theorem comes_1 {Post : Tables → Env → Array Value → State → Outcome → State → Prop} (hpost : ∀ tb e args s v u, (limb_1_1.after args s (.returned v) u = true ∧ limb_1_2.after args s (.returned v) u = true ∧ True) → FrameEnd s (.returned v) u (Jvm.fieldLocs frame_1_writes args s ++ Jvm.arrayLocs frame_1_arrays args s ++ Jvm.staticLocs frame_1_statics s) 32 192 → Post tb e args s (.returned v) u) :
    ArmFor flags0 classFile x code maxLocals ret World_1 tables_1 room_1 Calls_1 rest_1 Pre_1 Post := by
  intro l hfl _ _ p e ha hc hk s m args below hf hA hF happ hP
  obtain ⟨hcalls, hrest, hpre⟩ := hP
  obtain ⟨-, -, -, hnamed, -, -, -, hat⟩ := (Spec.applies_iff hf).mp happ
  obtain ⟨hg, hn⟩ := and_e (Cond.before_iff.mp (show (Jvm.Cond.and given_1 narrow_1).before args s = true from hpre))
  obtain ⟨h1, h2⟩ := and_e hg
  obtain ⟨w0, w1, rfl⟩ : ∃ w0 w1 : Value, args = #[w0, w1] := by
    have hs : args.size = 2 := by simpa [Cond.value, given_1] using h1
    obtain ⟨L⟩ := args
    match L, hs with
    | [w0, w1], _ => exact ⟨w0, w1, rfl⟩
  have hw := fun d (hd : d ∈ tables_1) => atoms_spec (ws := Jvm.Cond.code x code maxLocals ret :: tables_1) hat d (List.mem_cons_of_mem _ hd)
  have hfit : Fit s := fun {y c} hc i hi => by
    obtain ⟨ha, rfl⟩ := Array.getElem?_eq_some_iff.mp hc
    have q := List.all_eq_true.mp ((Array.all_eq_true_iff_forall_mem.mp hF) _ (Array.getElem_mem ha)) i (List.mem_range.mpr hi)
    simpa [Array.getElem?_eq_getElem hi] using q
  obtain ⟨q0, h2_0⟩ := and_e h2
  obtain ⟨i0, ee0⟩ := is_v q0
  obtain rfl : w0 = (.int i0) := Option.some.inj ee0
  obtain ⟨i1, ee1⟩ := is_v h2_0
  obtain rfl : w1 = (.int i1) := Option.some.inj ee1
  obtain ⟨n0, hn0⟩ := and_e hn
  obtain ⟨s_Side_SELL, ev_s_Side_SELL⟩ := exa_v n0
  obtain ⟨s_Side_BUY, ev_s_Side_BUY⟩ := exa_v hn0
  have E_s_Side_SELL : Exa s s.heap s_Side_SELL "com/example/dwellgate/dwellgate/book/Side" := Exa.start ev_s_Side_SELL n0
  have E_s_Side_BUY : Exa s s.heap s_Side_BUY "com/example/dwellgate/dwellgate/book/Side" := Exa.start ev_s_Side_BUY hn0
  obtain ⟨n, o, h1, h2, h3, _, L, rfl, ⟨rfl, N⟩, hq⟩ := rm12 l s _ hw tables_1 i0 i1 s_Side_SELL s_Side_BUY s.heap s.heap.size (Nat.le_refl _) (Sta.start ev_s_Side_SELL (Or.inr ⟨(hw _ (List.mem_of_getElem? (i := 1) rfl)), (hw _ (List.mem_of_getElem? (i := 2) rfl))⟩)) (Sta.start ev_s_Side_BUY (Or.inr ⟨(hw _ (List.mem_of_getElem? (i := 1) rfl)), (hw _ (List.mem_of_getElem? (i := 53) rfl))⟩)) p e ha hc hk s m _ below hf ((Spec.applies_iff_loose hf).mp happ).1 ⟨rfl, State.Warmed39.refl s, rfl⟩ trivial
  refine ⟨n, _, h1, h2, h3, hpost _ _ _ _ _ _ ⟨Cond.after_iff.mpr rfl, Cond.after_iff.mpr (eq_i res_at (Term.int_eval (1)) rfl), trivial⟩ ⟨hq.1, hq.2.1, (hq.2.2.sift fun y hy => Or.inr (N y hy)).mono (by decide) (by decide)⟩⟩
theorem main_1_1 : Claimed_1_1 := comes_1 fun _ _ _ _ _ _ h hF => ⟨h.1, hF⟩
theorem main_1_2 : Claimed_1_2 := comes_1 fun _ _ _ _ _ _ h hF => ⟨h.2.1, hF⟩
end Jvm.Pilot.@@N@@
namespace Jvm.Pilot.@@N@@
open Jvm Jvm.ClassFile Sem Op Lib Jvm.Free Jvm.Stand Jvm.Pilot.@@N@@.Jvm.D
/-! MADE BY PROGRAM (witnessworld.py) out of the Statement's table words and the real class files: 15 classes; the members and pool entries that the words name. The judged class is class 2, her method 1. -/
namespace start1
open Jvm.ClassFile
def u (s : String) : CpInfo := .utf8 (stringToUtf16 s)
/-- a pool by its gaps: so many unusable entries, then the entry; so many at the end -/
def gap : Nat → List CpInfo → List CpInfo
  | 0, r => r
  | n + 1, r => .unusable :: gap n r
def poolList (es : List (Nat × CpInfo)) (last : Nat) : List CpInfo := es.foldr (fun e r => gap e.1 (e.2 :: r)) (gap last [])
def pool (es : List (Nat × CpInfo)) (last : Nat) : Array CpInfo := ⟨poolList es last⟩
def fileOf (pool : Array CpInfo) (this : Nat) (attrs : Array Attribute := #[]) (ms : Array MethodInfo := #[]) (fl : Nat := 33) (sup : Nat := 0) (ifs : Array Nat := #[]) (fds : Array FieldInfo := #[]) : ClassFile where
  minorVersion := 0
  majorVersion := 65
  constantPool := pool
  accessFlags := fl
  thisClass := this
  superClass := sup
  interfaces := ifs
  fields := fds
  methods := ms
  attributes := attrs
def plain (name : String) (sup : Option ClassId) : Class where
  name := name
  kind := .ordinary
  loader := none
  accessFlags := 33
  super := sup
  interfaces := #[]
  cf := none
  fields := #[]
  methods := #[]
  instanceTypes := #[]
  staticTypes := #[]
  resolved := #[]
  callSites := []
  init := .initialized
  statics := none
  mirror := none

def pool0 : Array CpInfo := pool [(5, u "<init>"), (0, u "()V"), (1, .class_ 10), (1, u "java/lang/Object")] 113

def k0c0 : Code := { maxStack := 0, maxLocals := 1, code := object_method_1_code, exceptionTable := #[], attributes := #[] }
def k0m0 : Method := { name := "<init>", desc := "()V", sig := { parameters := [], returnType := none }, accessFlags := 1, code := some k0c0 }
/-- java/lang/Object -/
def k0 : Class := { plain "java/lang/Object" none with
  accessFlags := 33
  interfaces := #[]
  cf := some (fileOf pool0 8 #[] #[{ accessFlags := 1, nameIndex := 5, descriptorIndex := 6, attributes := #[] }] 33 0 #[] #[])
  fields := #[]
  methods := #[k0m0]
  instanceTypes := #[]
  staticTypes := #[]
  resolved := Array.replicate 124 none
  statics := none }

def pool1 : Array CpInfo := pool [(1, .methodref 2 3), (0, .class_ 4), (0, .nameAndType 5 6), (0, u "java/lang/Object"), (0, u "<init>"), (0, u "()V"), (0, .fieldref 8 9), (0, .class_ 10), (0, .nameAndType 11 12), (0, u "com/example/dwellgate/dwellgate/book/PriceTree$Node"), (0, u "key"), (0, u "J"), (0, u "left"), (0, u "Lcom/example/dwellgate/dwellgate/book/PriceTree$Node;"), (2, u "right"), (0, u "parent"), (0, u "red"), (0, u "Z"), (0, u "(J)V"), (6, .class_ 29), (0, u "com/example/dwellgate/dwellgate/book/PriceTree")] 2

def k1c0 : Code := { maxStack := 3, maxLocals := 3, code := prog_28_method_1_code, exceptionTable := #[], attributes := #[] }
def k1m0 : Method := { name := "<init>", desc := "(J)V", sig := { parameters := [.long], returnType := none }, accessFlags := 0, code := some k1c0 }
/-- com/example/dwellgate/dwellgate/book/PriceTree$Node -/
def k1 : Class := { plain "com/example/dwellgate/dwellgate/book/PriceTree$Node" (some 0) with
  accessFlags := 1056
  interfaces := #[]
  cf := some (fileOf pool1 8 #[.nestHost 28] #[{ accessFlags := 0, nameIndex := 5, descriptorIndex := 21, attributes := #[] }] 1056 2 #[] #[{ accessFlags := 0, nameIndex := 11, descriptorIndex := 12, attributes := #[] }, { accessFlags := 0, nameIndex := 13, descriptorIndex := 14, attributes := #[] }, { accessFlags := 0, nameIndex := 17, descriptorIndex := 14, attributes := #[] }, { accessFlags := 0, nameIndex := 18, descriptorIndex := 14, attributes := #[] }, { accessFlags := 0, nameIndex := 19, descriptorIndex := 20, attributes := #[] }])
  fields := #[{ name := "key", type := .long, accessFlags := 0, slot := 0, constantValue := 0 }, { name := "left", type := (.object "com/example/dwellgate/dwellgate/book/PriceTree$Node"), accessFlags := 0, slot := 1, constantValue := 0 }, { name := "right", type := (.object "com/example/dwellgate/dwellgate/book/PriceTree$Node"), accessFlags := 0, slot := 2, constantValue := 0 }, { name := "parent", type := (.object "com/example/dwellgate/dwellgate/book/PriceTree$Node"), accessFlags := 0, slot := 3, constantValue := 0 }, { name := "red", type := .boolean, accessFlags := 0, slot := 4, constantValue := 0 }]
  methods := #[k1m0]
  instanceTypes := #[.long, (.object "com/example/dwellgate/dwellgate/book/PriceTree$Node"), (.object "com/example/dwellgate/dwellgate/book/PriceTree$Node"), (.object "com/example/dwellgate/dwellgate/book/PriceTree$Node"), .boolean]
  staticTypes := #[]
  resolved := Array.replicate 32 none
  statics := none }

def pool2 : Array CpInfo := pool [(1, .methodref 2 3), (0, .class_ 4), (0, .nameAndType 5 6), (0, u "com/example/dwellgate/dwellgate/book/PriceTree$Node"), (0, u "<init>"), (0, u "(J)V"), (0, .fieldref 8 9), (0, .class_ 10), (0, .nameAndType 11 12), (0, u "com/example/dwellgate/dwellgate/book/Side"), (0, u "BUY"), (0, u "Lcom/example/dwellgate/dwellgate/book/Side;"), (0, .fieldref 8 14), (0, .nameAndType 15 12), (0, u "SELL"), (0, .long 18446744073709551615), (1, .class_ 19), (0, u "com/example/dwellgate/dwellgate/book/PriceTree"), (0, .methodref 18 21), (0, .nameAndType 5 22), (0, u "(Lcom/example/dwellgate/dwellgate/book/Side;)V"), (0, .class_ 24), (0, u "com/example/dwellgate/dwellgate/book/PriceTreeNextPinLaw"), (0, .methodref 23 3), (0, .long 2), (1, .long 3), (1, .long 4), (1, .long 5), (1, .long 6), (1, .fieldref 23 37), (0, .nameAndType 38 39), (0, u "left"), (0, u "Lcom/example/dwellgate/dwellgate/book/PriceTree$Node;"), (0, .fieldref 23 41), (0, .nameAndType 42 39), (0, u "parent"), (0, .fieldref 23 44), (0, .nameAndType 45 39), (0, u "right"), (0, .integer 2147483647), (0, .methodref 18 48), (0, .nameAndType 49 50), (0, u "next"), (0, u "(Lcom/example/dwellgate/dwellgate/book/PriceTree$Node;)Lcom/example/dwellgate/dwellgate/book/PriceTree$Node;"), (2, u "law"), (0, u "(II)Z")] 9

def k2c0 : Code := { maxStack := 3, maxLocals := 3, code := method_1_code, exceptionTable := #[], attributes := #[] }
def k2m0 : Method := { name := "<init>", desc := "(J)V", sig := { parameters := [.long], returnType := none }, accessFlags := 2, code := some k2c0 }
def k2c1 : Code := { maxStack := 6, maxLocals := 20, code := code, exceptionTable := #[], attributes := #[] }
def k2m1 : Method := { name := "law", desc := "(II)Z", sig := { parameters := [.int, .int], returnType := some .boolean }, accessFlags := 9, code := some k2c1 }
/-- com/example/dwellgate/dwellgate/book/PriceTreeNextPinLaw -/
def k2 : Class := { plain "com/example/dwellgate/dwellgate/book/PriceTreeNextPinLaw" (some 1) with
  accessFlags := 49
  interfaces := #[]
  cf := some (fileOf pool2 23 #[] #[{ accessFlags := 2, nameIndex := 5, descriptorIndex := 6, attributes := #[] }, { accessFlags := 9, nameIndex := 53, descriptorIndex := 54, attributes := #[] }] 49 2 #[] #[])
  fields := #[]
  methods := #[k2m0, k2m1]
  instanceTypes := #[.long, (.object "com/example/dwellgate/dwellgate/book/PriceTree$Node"), (.object "com/example/dwellgate/dwellgate/book/PriceTree$Node"), (.object "com/example/dwellgate/dwellgate/book/PriceTree$Node"), .boolean]
  staticTypes := #[]
  resolved := Array.replicate 64 none
  statics := none }

def pool3 : Array CpInfo := pool [(1, .class_ 2), (0, u "java/lang/constant/Constable"), (0, .class_ 4), (0, u "java/lang/Object")] 6

/-- java/lang/constant/Constable -/
def k3 : Class := { plain "java/lang/constant/Constable" (some 0) with
  accessFlags := 1537
  interfaces := #[]
  cf := some (fileOf pool3 1 #[] #[] 1537 3 #[] #[])
  fields := #[]
  methods := #[]
  instanceTypes := #[]
  staticTypes := #[]
  resolved := Array.replicate 11 none
  statics := none }

def pool4 : Array CpInfo := pool [(1, .class_ 2), (0, u "java/lang/Comparable"), (0, .class_ 4), (0, u "java/lang/Object")] 7

/-- java/lang/Comparable -/
def k4 : Class := { plain "java/lang/Comparable" (some 0) with
  accessFlags := 1537
  interfaces := #[]
  cf := some (fileOf pool4 1 #[] #[] 1537 3 #[] #[])
  fields := #[]
  methods := #[]
  instanceTypes := #[]
  staticTypes := #[]
  resolved := Array.replicate 12 none
  statics := none }

def pool5 : Array CpInfo := pool [(1, .class_ 2), (0, u "java/io/Serializable"), (0, .class_ 4), (0, u "java/lang/Object")] 2

/-- java/io/Serializable -/
def k5 : Class := { plain "java/io/Serializable" (some 0) with
  accessFlags := 1537
  interfaces := #[]
  cf := some (fileOf pool5 1 #[] #[] 1537 3 #[] #[])
  fields := #[]
  methods := #[]
  instanceTypes := #[]
  staticTypes := #[]
  resolved := Array.replicate 7 none
  statics := none }

def pool6 : Array CpInfo := pool [(2, .class_ 4), (1, u "java/lang/Enum"), (0, u "name"), (0, u "Ljava/lang/String;"), (2, u "ordinal"), (0, u "I"), (1, .class_ 14), (1, u "java/lang/Object"), (4, u "hash"), (86, .class_ 108), (1, u "java/lang/Enum$EnumDesc"), (2, .class_ 112), (0, u "java/lang/constant/Constable"), (0, .class_ 114), (0, u "java/lang/Comparable"), (0, .class_ 116), (0, u "java/io/Serializable")] 87

/-- java/lang/Enum -/
def k6 : Class := { plain "java/lang/Enum" (some 0) with
  accessFlags := 1057
  interfaces := #[3, 4, 5]
  cf := some (fileOf pool6 2 #[.nestMembers #[106]] #[] 1057 12 #[111, 113, 115] #[{ accessFlags := 18, nameIndex := 5, descriptorIndex := 6, attributes := #[] }, { accessFlags := 18, nameIndex := 9, descriptorIndex := 10, attributes := #[] }, { accessFlags := 2, nameIndex := 19, descriptorIndex := 10, attributes := #[] }])
  fields := #[{ name := "name", type := (.object "java/lang/String"), accessFlags := 18, slot := 0, constantValue := 0 }, { name := "ordinal", type := .int, accessFlags := 18, slot := 1, constantValue := 0 }, { name := "hash", type := .int, accessFlags := 2, slot := 2, constantValue := 0 }]
  methods := #[]
  instanceTypes := #[(.object "java/lang/String"), .int, .int]
  staticTypes := #[]
  resolved := Array.replicate 204 none
  statics := none }

def pool7 : Array CpInfo := pool [(1, .class_ 2), (0, u "com/example/dwellgate/dwellgate/book/Side"), (2, u "BUY"), (0, u "Lcom/example/dwellgate/dwellgate/book/Side;"), (2, u "SELL"), (2, u "$VALUES"), (0, u "[Lcom/example/dwellgate/dwellgate/book/Side;"), (6, .class_ 22), (1, u "java/lang/Enum"), (8, u "word"), (0, u "Ljava/lang/String;")] 32

/-- com/example/dwellgate/dwellgate/book/Side -/
def k7 : Class := { plain "com/example/dwellgate/dwellgate/book/Side" (some 6) with
  accessFlags := 16433
  interfaces := #[]
  cf := some (fileOf pool7 1 #[] #[] 16433 20 #[] #[{ accessFlags := 16409, nameIndex := 5, descriptorIndex := 6, attributes := #[] }, { accessFlags := 16409, nameIndex := 9, descriptorIndex := 6, attributes := #[] }, { accessFlags := 18, nameIndex := 31, descriptorIndex := 32, attributes := #[] }, { accessFlags := 4122, nameIndex := 12, descriptorIndex := 13, attributes := #[] }])
  fields := #[{ name := "BUY", type := (.object "com/example/dwellgate/dwellgate/book/Side"), accessFlags := 16409, slot := 0, constantValue := 0 }, { name := "SELL", type := (.object "com/example/dwellgate/dwellgate/book/Side"), accessFlags := 16409, slot := 1, constantValue := 0 }, { name := "word", type := (.object "java/lang/String"), accessFlags := 18, slot := 3, constantValue := 0 }, { name := "$VALUES", type := (.array (.object "com/example/dwellgate/dwellgate/book/Side")), accessFlags := 4122, slot := 2, constantValue := 0 }]
  methods := #[]
  instanceTypes := #[(.object "java/lang/String"), .int, .int, (.object "java/lang/String")]
  staticTypes := #[(.object "com/example/dwellgate/dwellgate/book/Side"), (.object "com/example/dwellgate/dwellgate/book/Side"), (.array (.object "com/example/dwellgate/dwellgate/book/Side"))]
  resolved := Array.replicate 65 none
  statics := some 0 }

def pool8 : Array CpInfo := pool [(1, .methodref 2 3), (0, .class_ 4), (0, .nameAndType 5 6), (0, u "java/lang/Object"), (0, u "<init>"), (0, u "()V"), (0, .fieldref 8 9), (0, .class_ 10), (0, .nameAndType 11 12), (0, u "com/example/dwellgate/dwellgate/book/PriceTree"), (0, u "side"), (0, u "Lcom/example/dwellgate/dwellgate/book/Side;"), (2, u "best"), (0, u "Lcom/example/dwellgate/dwellgate/book/PriceTree$Node;"), (2, u "root"), (1, .class_ 23), (1, u "com/example/dwellgate/dwellgate/book/PriceTree$Node"), (8, .fieldref 21 33), (0, .nameAndType 34 16), (0, u "left"), (0, .fieldref 21 36), (0, .nameAndType 37 16), (0, u "right"), (6, .fieldref 21 45), (0, .nameAndType 46 16), (0, u "parent"), (10, u "next"), (0, u "(Lcom/example/dwellgate/dwellgate/book/PriceTree$Node;)Lcom/example/dwellgate/dwellgate/book/PriceTree$Node;"), (17, u "(Lcom/example/dwellgate/dwellgate/book/Side;)V")] 23

def k8c0 : Code := { maxStack := 2, maxLocals := 2, code := prog_27_method_1_code, exceptionTable := #[], attributes := #[] }
def k8m0 : Method := { name := "<init>", desc := "(Lcom/example/dwellgate/dwellgate/book/Side;)V", sig := { parameters := [(.object "com/example/dwellgate/dwellgate/book/Side")], returnType := none }, accessFlags := 0, code := some k8c0 }
def k8c1 : Code := { maxStack := 2, maxLocals := 4, code := prog_27_method_5_code, exceptionTable := #[], attributes := #[] }
def k8m1 : Method := { name := "next", desc := "(Lcom/example/dwellgate/dwellgate/book/PriceTree$Node;)Lcom/example/dwellgate/dwellgate/book/PriceTree$Node;", sig := { parameters := [(.object "com/example/dwellgate/dwellgate/book/PriceTree$Node")], returnType := some (.object "com/example/dwellgate/dwellgate/book/PriceTree$Node") }, accessFlags := 0, code := some k8c1 }
/-- com/example/dwellgate/dwellgate/book/PriceTree -/
def k8 : Class := { plain "com/example/dwellgate/dwellgate/book/PriceTree" (some 0) with
  accessFlags := 48
  interfaces := #[]
  cf := some (fileOf pool8 8 #[.nestMembers #[21]] #[{ accessFlags := 0, nameIndex := 5, descriptorIndex := 76, attributes := #[] }, { accessFlags := 0, nameIndex := 57, descriptorIndex := 58, attributes := #[] }] 48 2 #[] #[{ accessFlags := 18, nameIndex := 11, descriptorIndex := 12, attributes := #[] }, { accessFlags := 2, nameIndex := 19, descriptorIndex := 16, attributes := #[] }, { accessFlags := 2, nameIndex := 15, descriptorIndex := 16, attributes := #[] }])
  fields := #[{ name := "side", type := (.object "com/example/dwellgate/dwellgate/book/Side"), accessFlags := 18, slot := 0, constantValue := 0 }, { name := "root", type := (.object "com/example/dwellgate/dwellgate/book/PriceTree$Node"), accessFlags := 2, slot := 1, constantValue := 0 }, { name := "best", type := (.object "com/example/dwellgate/dwellgate/book/PriceTree$Node"), accessFlags := 2, slot := 2, constantValue := 0 }]
  methods := #[k8m0, k8m1]
  instanceTypes := #[(.object "com/example/dwellgate/dwellgate/book/Side"), (.object "com/example/dwellgate/dwellgate/book/PriceTree$Node"), (.object "com/example/dwellgate/dwellgate/book/PriceTree$Node")]
  staticTypes := #[]
  resolved := Array.replicate 100 none
  statics := none }

def pool9 : Array CpInfo := pool [(1, u "java/lang/Cloneable"), (0, .class_ 1), (0, u "java/lang/Object"), (0, .class_ 3)] 3

/-- java/lang/Cloneable -/
def k9 : Class := { plain "java/lang/Cloneable" (some 0) with
  accessFlags := 1537
  interfaces := #[]
  cf := some (fileOf pool9 2 #[] #[] 1537 4 #[] #[])
  fields := #[]
  methods := #[]
  instanceTypes := #[]
  staticTypes := #[]
  resolved := Array.replicate 8 none
  statics := none }

/-- the primitive byte -/
def k10 : Class := { plain "byte" none with kind := .primitive 'B', accessFlags := 0x411 }
/-- [B -/
def k11 : Class := { plain "[B" (some 0) with kind := .array 10 .byte, interfaces := #[9, 5], accessFlags := 1041 }

/-- the primitive int -/
def k12 : Class := { plain "int" none with kind := .primitive 'I', accessFlags := 0x411 }
/-- [I -/
def k13 : Class := { plain "[I" (some 0) with kind := .array 12 .int, interfaces := #[9, 5], accessFlags := 1041 }

/-- [Lcom/example/dwellgate/dwellgate/book/PriceTreeNextPinLaw; -/
def k14 : Class := { plain "[Lcom/example/dwellgate/dwellgate/book/PriceTreeNextPinLaw;" (some 0) with kind := .array 2 (.object "com/example/dwellgate/dwellgate/book/PriceTreeNextPinLaw"), interfaces := #[9, 5], accessFlags := 1041 }

def heap : Heap := #[{ cls := 7, slots := #[.ref 1, .ref 2, .null], vm := .statics 7 },
  { cls := 7, slots := #[.null, .int 0, .int 0, .null], vm := .none },
  { cls := 7, slots := #[.null, .int 1, .int 0, .null], vm := .none }]
def classes : Array Class := #[k0, k1, k2, k3, k4, k5, k6, k7, k8, k9, k10, k11, k12, k13, k14]
def interned : List (Array UInt16 × Addr) := []
def slotsUsed : Nat := 11
def theMethod : MethodId := ⟨2, 1⟩
def args0 : Array Value := #[.int 5, .int 3]
def aboutOver (below : List Frame) : State where
  vm := { classes := classes, interned := interned.toArray }
  heap := heap
  slotsUsed := slotsUsed
  threads := #[{ frames := .invoking theMethod args0 :: below }]
def below0 : List Frame := [.native { method := ⟨0, 0⟩, args := #[] }]
def about1 : State := aboutOver below0
def p0 : Program := .bare "" "" ""
def e0 : Env := launch0.env 0 0 0
theorem w_frames : about1.frames = Frame.invoking theMethod args0 :: below0 := rfl
set_option maxRecDepth 65536 in
theorem w_args : argsFit about1.vm theMethod args0 = true := by decide +kernel
set_option maxRecDepth 65536 in
theorem w_heap : heapFits about1 = true := by decide +kernel
set_option maxRecDepth 65536 in
theorem w_runnable : about1.curStatus? = some .runnable := by decide +kernel
set_option maxRecDepth 65536 in
theorem w_alone : about1.alone = true := by decide +kernel
set_option maxRecDepth 65536 in
theorem w_named : about1.methodNamed? x = some theMethod := by decide +kernel
set_option maxRecDepth 65536 in
theorem w_hears : about1.hears theMethod below0 = true := by decide +kernel
set_option maxRecDepth 65536 in
theorem w_ripe : about1.ripe theMethod args0 below0 = true := by decide +kernel
theorem w_running : about1.status = .running := rfl
set_option maxRecDepth 65536 in
theorem w_room : about1.hasRoom e0.platform room_1 = true :=
  launch0.hasRoom_least _ room_1 (by decide +kernel) (by decide +kernel) (by decide +kernel) (by decide +kernel) (by decide +kernel) (by decide +kernel)
theorem allAtoms_all (ts : List Jvm.Cond) (a : Array Jvm.Value) (st : Jvm.State) : (allAtoms ts).before a st = ts.all (fun c => c.before a st) := by
  induction ts with
  | nil => rfl
  | cons c t ih =>
    show (Jvm.Cond.and c (allAtoms t)).before a st = _
    rw [Jvm.Cond.before_and, ih, List.all_cons]
def words1 : List Jvm.Cond := Jvm.Cond.code x code maxLocals ret :: tables_1
/-- a 'code' word, met by the world's own term for the bytes: nothing is compared byte by byte -/
theorem code_word {y : MethodName} {bytes : ByteArray} {mx : Nat} {rt : Option FieldType} {a : Array Value} {s : State} {m : MethodId} {meth : Method} {c : Code} (h1 : s.methodNamed? y = some m) (h2 : s.vm.method? m = some meth) (h3 : meth.code = some c) (h4 : c.code = bytes)
    (h5 : (c.maxLocals == mx && c.exceptionTable.isEmpty && decide (c.maxStack ≤ mostOperands) && decide (meth.sig.returnType = rt) && !meth.locks && decide (parseMethodDescriptor y.desc = some meth.sig)) = true) : (Jvm.Cond.code y bytes mx rt).before a s = true := by
  simp only [Bool.and_eq_true, beq_iff_eq, Bool.not_eq_true', decide_eq_true_eq] at h5
  obtain ⟨⟨⟨⟨⟨g1, g2⟩, g3⟩, g4⟩, g5⟩, g6⟩ := h5
  simp [Cond.before, Cond.holds, Cond.value, h1, h2, h3, h4, g1, g2, g3, g4, g5, g6]
def isCode : Jvm.Cond → Bool
  | .code _ _ _ _ => true
  | _ => false
theorem all_split {L : List Jvm.Cond} {P : Jvm.Cond → Bool} (h1 : L.all (fun c => isCode c || P c) = true) (h2 : ∀ c ∈ L.filter isCode, P c = true) : L.all P = true := by
  refine List.all_eq_true.mpr fun c hc => ?_
  have h := List.all_eq_true.mp h1 c hc
  rcases Bool.eq_false_or_eq_true (isCode c) with hi | hi
  · exact h2 c (List.mem_filter.mpr ⟨hc, hi⟩)
  · simpa [hi] using h
set_option maxRecDepth 65536 in
theorem w_c0 : (Jvm.Cond.code x code maxLocals ret).before args0 about1 = true := code_word (m := ⟨2, 1⟩) (meth := k2m1) (c := k2c1) (by decide +kernel) rfl rfl rfl (by decide +kernel)
set_option maxRecDepth 65536 in
theorem w_c1 : (Jvm.Cond.code ({ cls := "com/example/dwellgate/dwellgate/book/PriceTree", name := "<init>", desc := "(Lcom/example/dwellgate/dwellgate/book/Side;)V" } : Jvm.MethodName) prog_27_method_1_code (2 : Nat) (Option.none : Option Jvm.ClassFile.FieldType)).before args0 about1 = true := code_word (m := ⟨8, 0⟩) (meth := k8m0) (c := k8c0) (by decide +kernel) rfl rfl rfl (by decide +kernel)
set_option maxRecDepth 65536 in
theorem w_c2 : (Jvm.Cond.code ({ cls := "java/lang/Object", name := "<init>", desc := "()V" } : Jvm.MethodName) object_method_1_code (1 : Nat) (Option.none : Option Jvm.ClassFile.FieldType)).before args0 about1 = true := code_word (m := ⟨0, 0⟩) (meth := k0m0) (c := k0c0) (by decide +kernel) rfl rfl rfl (by decide +kernel)
set_option maxRecDepth 65536 in
theorem w_c3 : (Jvm.Cond.code ({ cls := "com/example/dwellgate/dwellgate/book/PriceTreeNextPinLaw", name := "<init>", desc := "(J)V" } : Jvm.MethodName) method_1_code (3 : Nat) (Option.none : Option Jvm.ClassFile.FieldType)).before args0 about1 = true := code_word (m := ⟨2, 0⟩) (meth := k2m0) (c := k2c0) (by decide +kernel) rfl rfl rfl (by decide +kernel)
set_option maxRecDepth 65536 in
theorem w_c4 : (Jvm.Cond.code ({ cls := "com/example/dwellgate/dwellgate/book/PriceTree$Node", name := "<init>", desc := "(J)V" } : Jvm.MethodName) prog_28_method_1_code (3 : Nat) (Option.none : Option Jvm.ClassFile.FieldType)).before args0 about1 = true := code_word (m := ⟨1, 0⟩) (meth := k1m0) (c := k1c0) (by decide +kernel) rfl rfl rfl (by decide +kernel)
set_option maxRecDepth 65536 in
theorem w_c5 : (Jvm.Cond.code ({ cls := "com/example/dwellgate/dwellgate/book/PriceTree", name := "next", desc := "(Lcom/example/dwellgate/dwellgate/book/PriceTree$Node;)Lcom/example/dwellgate/dwellgate/book/PriceTree$Node;" } : Jvm.MethodName) prog_27_method_5_code (4 : Nat) (Option.some (Jvm.ClassFile.FieldType.object "com/example/dwellgate/dwellgate/book/PriceTree$Node"))).before args0 about1 = true := code_word (m := ⟨8, 1⟩) (meth := k8m1) (c := k8c1) (by decide +kernel) rfl rfl rfl (by decide +kernel)
def codes1 : List Jvm.Cond := [Jvm.Cond.code x code maxLocals ret, Jvm.Cond.code ({ cls := "com/example/dwellgate/dwellgate/book/PriceTree", name := "<init>", desc := "(Lcom/example/dwellgate/dwellgate/book/Side;)V" } : Jvm.MethodName) prog_27_method_1_code (2 : Nat) (Option.none : Option Jvm.ClassFile.FieldType), Jvm.Cond.code ({ cls := "java/lang/Object", name := "<init>", desc := "()V" } : Jvm.MethodName) object_method_1_code (1 : Nat) (Option.none : Option Jvm.ClassFile.FieldType), Jvm.Cond.code ({ cls := "com/example/dwellgate/dwellgate/book/PriceTreeNextPinLaw", name := "<init>", desc := "(J)V" } : Jvm.MethodName) method_1_code (3 : Nat) (Option.none : Option Jvm.ClassFile.FieldType), Jvm.Cond.code ({ cls := "com/example/dwellgate/dwellgate/book/PriceTree$Node", name := "<init>", desc := "(J)V" } : Jvm.MethodName) prog_28_method_1_code (3 : Nat) (Option.none : Option Jvm.ClassFile.FieldType), Jvm.Cond.code ({ cls := "com/example/dwellgate/dwellgate/book/PriceTree", name := "next", desc := "(Lcom/example/dwellgate/dwellgate/book/PriceTree$Node;)Lcom/example/dwellgate/dwellgate/book/PriceTree$Node;" } : Jvm.MethodName) prog_27_method_5_code (4 : Nat) (Option.some (Jvm.ClassFile.FieldType.object "com/example/dwellgate/dwellgate/book/PriceTree$Node"))]
set_option maxRecDepth 65536 in
theorem codes_eq : words1.filter isCode = codes1 := rfl
theorem w_codes : ∀ c ∈ words1.filter isCode, c.before args0 about1 = true := by
  rw [codes_eq]
  intro c hc
  simp only [codes1, List.mem_cons, List.not_mem_nil, or_false] at hc
  rcases hc with rfl | rfl | rfl | rfl | rfl | rfl
  · exact w_c0
  · exact w_c1
  · exact w_c2
  · exact w_c3
  · exact w_c4
  · exact w_c5
set_option maxRecDepth 65536 in
theorem w_t1 : (words1.take 24).all (fun c => isCode c || c.before args0 about1) = true := by decide +kernel
set_option maxRecDepth 65536 in
theorem w_t2 : ((words1.drop 24).take 24).all (fun c => isCode c || c.before args0 about1) = true := by decide +kernel
set_option maxRecDepth 65536 in
theorem w_t3 : ((words1.drop 24).drop 24).all (fun c => isCode c || c.before args0 about1) = true := by decide +kernel
theorem w_tables : (allAtoms (Jvm.Cond.code x code maxLocals ret :: tables_1)).before args0 about1 = true := by
  rw [allAtoms_all]
  show words1.all (fun c => c.before args0 about1) = true
  refine all_split ?_ w_codes
  rw [← List.take_append_drop 24 words1, List.all_append, w_t1, ← List.take_append_drop 24 (words1.drop 24), List.all_append, w_t2, w_t3]
  rfl
set_option maxRecDepth 65536 in
theorem w_case : (Jvm.Cond.and given_1 narrow_1).before args0 about1 = true := by decide +kernel
theorem w_applies : (headSpec (Jvm.Cond.code x code maxLocals ret :: tables_1) room_1).applies x e0.platform about1 = true :=
  (Spec.applies_iff w_frames).mpr ⟨w_running, w_runnable, w_alone, w_named, w_hears, w_ripe, w_room, w_tables⟩
theorem atStart : AtStart classFile x code maxLocals ret World_1 tables_1 room_1 Calls_1 rest_1 Pre_1 launch0 p0 e0 about1 theMethod args0 below0 :=
  ⟨lists_1, trivial, launch0.admits_env _ _ _, launch0.least_env, fairChoices_fair.cas, fairChoices_fair.clock, w_frames, w_args, w_heap, w_applies, trivial, trivial, w_case⟩
end start1
theorem witness_1 : WitnessClaimed_1 := ⟨start1.p0, start1.e0, start1.about1, start1.theMethod, start1.args0, start1.below0, start1.atStart⟩
end Jvm.Pilot.@@N@@
