import JvmDerived
import JvmDerived.Pilot.@@N@@Statement
import JvmDerived.Pilot.@@N@@Code
set_option linter.unusedVariables false
set_option linter.unusedSimpArgs false
namespace Jvm.RoadKit
open Sem ClassFile Op Lib Jvm.Stand Jvm.Free Jvm.LawKit
section New
variable {p : Program} {l : Launch} {e : Env} {R : Room} {s : State} {m : MethodId} {args : Array Value} {below : List Frame} {meth : Method} {c : Code} {T : State} {locs : List Loc} {cells slots : Nat}
theorem retI (X : Stand p l e R s m args below meth c T locs cells slots) (hx : p.tables.exec = Jvm.exec) {pc : Nat} {Ls : Array Slot} {z : Int32} {rest : List Value} (hret : meth.sig.returnType = some .int) (hd : decode c.code pc = .ok (.ireturn, 1)) {fs : List Frame}
    (hl : ∀ (f : JFrame) (acts : List Action), f.method = m → f.locked = none → f.entered = [] → (doReturn e (T.setTop f) acts (some (.int z))).1 = T.setFrames fs) : Steps p.tables e below (T.setTop (mkF m pc Ls (.int z :: rest))) (T.setFrames fs) := retOut X hx hret rfl (Or.inl ⟨rfl, Or.inl rfl, _, rfl⟩) hd hl
end New
end Jvm.RoadKit
namespace Jvm.Pilot.@@N@@
open Jvm Jvm.ClassFile Sem Op Lib Jvm.Free Jvm.Stand Jvm.LawKit Jvm.RoadKit Bundle Jvm.Pilot.@@N@@.Jvm.D
section OwnKit
variable {p : Program} {l : Launch} {e : Env} {R : Room} {s : State} {m : MethodId} {args : Array Value} {below : List Frame} {meth : Method} {c : Code} {T : State} {locs : List Loc} {cells slots : Nat} {Z : State} {a0 : Array Value} {h : Heap}
def Go (p : Program) (e : Env) (below : List Frame) (Q : Outcome → State → Prop) (S : State) : Prop := ∃ s₂ o, Steps p.tables e below S s₂ ∧ s₂.status = .running ∧ Ended s₂ below o ∧ Q o s₂
theorem Go.of {Q : Outcome → State → Prop} {S : State} (k : Go p e below Q S) : ∃ s₂ o, Steps p.tables e below S s₂ ∧ s₂.status = .running ∧ Ended s₂ below o ∧ Q o s₂ := k
theorem Go.st {Q : Outcome → State → Prop} {S S' : State} (h : ∀ t, Steps p.tables e below S' t → Steps p.tables e below S t) (k : Go p e below Q S') : Go p e below Q S := by
  obtain ⟨s2, o, h1, h2⟩ := k; exact ⟨s2, o, h _ h1, h2⟩
theorem Go.op {α : Type} {Q : Outcome → State → Prop} {S : State} {F : α → State} {x : α} (h : ∀ t, Steps p.tables e below (F x) t → Steps p.tables e below S t) (k : ∀ z, z = x → Go p e below Q (F z)) : Go p e below Q S := Go.st h (k x rfl)
theorem Go.join {α : Type} {Q : Outcome → State → Prop} {S : State} (C : α → Prop) (F : α → State) (k : ∀ r, C r → Go p e below Q (F r)) (j : (∀ r, C r → Go p e below Q (F r)) → Go p e below Q S) : Go p e below Q S := j k
theorem Go.joinT {α : Type} {Q : Outcome → State → Prop} {S : State} (X : Stand p l e R s m args below meth c T locs cells slots) (eT : T.heap = h) (C : α → Prop) (F : State → α → State) (k : ∀ T', Stand p l e R s m args below meth c T' locs cells slots → T'.heap = h → ∀ r, C r → Go p e below Q (F T' r)) (j : (∀ T', Stand p l e R s m args below meth c T' locs cells slots → T'.heap = h → ∀ r, C r → Go p e below Q (F T' r)) → Go p e below Q S) : Go p e below Q S := j k
theorem Go.loop {α : Type} {Q : Outcome → State → Prop} (I : Nat → α → Prop) (F : α → State) (k0 : Nat) (x0 : α) (h0 : I k0 x0) (step : ∀ k x, I k x → (∀ k' x', k' < k → I k' x' → Go p e below Q (F x')) → Go p e below Q (F x)) : Go p e below Q (F x0) := by
  have H : ∀ k x, I k x → Go p e below Q (F x) := by
    intro k
    induction k using Nat.strongRecOn with
    | _ k ih => intro x hx; exact step k x hx fun k' x' hk hx' => ih k' hk x' hx'
  exact H k0 x0 h0
theorem Go.ret {Qn : Option Value → Heap → List Loc → Prop} {rc rs : Nat} (X : Stand p l e R s m args below meth c T locs cells slots) {v : Option Value} (hv : meth.sig.returnType = none → v = none) (hlk : meth.locks = false) {f : JFrame}
    (st : ∀ fs, (∀ (f : JFrame) (acts : List Action), f.method = m → f.locked = none → f.entered = [] → (doReturn e (T.setTop f) acts v).1 = T.setFrames fs) → Steps p.tables e below (T.setTop f) (T.setFrames fs))
    (hc : cells ≤ rc) (hs : slots ≤ rs) (hQ : Qn v T.heap locs) : Go p e below (fun o U' => ∃ v L, o = .returned v ∧ Qn v U'.heap L ∧ FrameEnd s o U' L rc rs) (T.setTop f) := by
  obtain ⟨fs, hr, hrun, hended, hW, hsame⟩ := X.leave (v := v) hv hlk
  exact ⟨_, _, st fs hr, hrun, hended, v, locs, rfl, hQ, ⟨_, rfl⟩, hW, hsame.mono hc hs⟩
abbrev Con (l : Launch) (Z : State) (y : MethodName) (bytes : ByteArray) (maxL : Nat) (ret : Option FieldType) (ws : List Jvm.Cond) (rm : Room) (as' : Array Value) (h : Heap) (rc rs : Nat) (Q : Option Value → Heap → List Loc → Prop) : Prop :=
  MetFree l y (head1 (Jvm.Cond.code y bytes maxL ret :: ws) rm) (fun a U => a = as' ∧ Z.Warmed39 U.vm ∧ U.heap = h) (fun _ _ _ _ _ => True) (fun _ U o U' => ∃ v L, o = .returned v ∧ Q v U'.heap L ∧ FrameEnd U o U' L rc rs)
theorem own_eh {a : Addr} {cl : Cell} (eT : T.heap = h) (q : h[a]? = some cl) : T.heap[a]? = some cl := by rw [eT]; exact q
theorem own_callS {own : String} {index : Nat} {y : MethodName} {bytes : ByteArray} {maxL : Nat} {ret : Option FieldType} {rm : Room} {as' : Array Value} {Q : Option Value → Heap → List Loc → Prop} {W : Nat} {g : JFrame} {argsL rest : List Value}
    (X : Stand p l e R s m args below meth c T locs cells slots) (hx : p.tables.exec = Jvm.exec) (hZ : Z.Warmed39 s.vm) (eT : T.heap = h) (hown : s.vm.findClass own = some m.cls)
    (w1 : (Jvm.Cond.methodLink own index y).before a0 Z = true) (w2 : (Jvm.Cond.static y).before a0 Z = true) (w3 : (Jvm.Cond.initialized y.cls).before a0 Z = true) (w4 : (Jvm.Cond.code y bytes maxL ret).before a0 Z = true)
    (hy : y.cls ≠ "java/lang/invoke/MethodHandle" ∧ y.cls ≠ "java/lang/invoke/VarHandle")
    (hM : Con l Z y bytes maxL ret [] rm as' h rm.cells rm.slots Q)
    (hf : rm.frames + 1 ≤ R.frames) (hl : W + (maxL + 11) + rm.locals ≤ R.locals) (hc : cells + rm.cells ≤ R.cells) (hs : slots + rm.slots ≤ R.slots)
    (hg : g.method = m) (hsize : g.locals.size = c.maxLocals) (has : argsL.toArray = as') (hlen : ∀ sig, parseMethodDescriptor y.desc = some sig → argsL.length = sig.parameters.length)
    (hstack : g.stack = argsL.reverse ++ rest) (hW : 2 * g.monitorRoom + (rest.map fun v => v.category).sum ≤ W) (hdg : decode c.code g.pc = .ok (.invokestatic index, 3)) :
    ∃ v T' L, Stand p l e R s m args below meth c T' (locs ++ L) (cells + rm.cells) (slots + rm.slots) ∧ Q v T'.heap L ∧ ∀ target, Steps p.tables e below (T'.setTop { g with pc := g.pc + 3, stack := v.toList ++ rest }) target → Steps p.tables e below (T.setTop g) target := by
  obtain ⟨v, _, ⟨T', L', k', n'⟩, -, X', ⟨L, hQ, l', y', z'⟩, st⟩ := Jvm.LawKit.callS X hx (y := y) hown (mvT hZ w1) (mvT hZ w2) (mvT hZ w3) (mvT hZ w4) hy (backOf (W := W) hM hZ w4 w3 hf hl) (g := g) hg hsize (argsL := argsL) (rest := rest) hlen hstack hW hdg (fun _ _ => ⟨has, eT, hc, hs⟩)
  dsimp only [Pt.U, Pt.locs, Pt.cells, Pt.slots] at X' l' y' z' st hQ
  subst l' y' z'
  exact ⟨v, T', L, X', hQ, st⟩
theorem own_callI {own : String} {index : Nat} {y : MethodName} {bytes : ByteArray} {maxL : Nat} {rm : Room} {as' : Array Value} {Q : Option Value → Heap → List Loc → Prop} {W : Nat} {g : JFrame} {a : Addr} {argsL rest : List Value}
    (X : Stand p l e R s m args below meth c T locs cells slots) (hx : p.tables.exec = Jvm.exec) (hZ : Z.Warmed39 s.vm) (eT : T.heap = h) (hown : s.vm.findClass own = some m.cls) (hyn : y.name = "<init>")
    (w1 : (Jvm.Cond.methodLink own index y).before a0 Z = true) (w2 : (Jvm.Cond.instanceMethod y).before a0 Z = true) (w3 : (Jvm.Cond.initialized y.cls).before a0 Z = true) (w4 : (Jvm.Cond.code y bytes maxL none).before a0 Z = true)
    (hy : y.cls ≠ "java/lang/invoke/MethodHandle" ∧ y.cls ≠ "java/lang/invoke/VarHandle")
    (hM : Con l Z y bytes maxL none [] rm as' h rm.cells rm.slots Q)
    (hf : rm.frames + 1 ≤ R.frames) (hl : W + (maxL + 11) + rm.locals ≤ R.locals) (hc : cells + rm.cells ≤ R.cells) (hs : slots + rm.slots ≤ R.slots)
    (hg : g.method = m) (hsize : g.locals.size = c.maxLocals) (has : (Value.ref a :: argsL).toArray = as') (hlen : ∀ sig, parseMethodDescriptor y.desc = some sig → argsL.length = sig.parameters.length)
    (hstack : g.stack = argsL.reverse ++ .ref a :: rest) (hW : 2 * g.monitorRoom + (rest.map fun v => v.category).sum ≤ W) (hdg : decode c.code g.pc = .ok (.invokespecial index, 3)) :
    ∃ v T' L, Stand p l e R s m args below meth c T' (locs ++ L) (cells + rm.cells) (slots + rm.slots) ∧ Q v T'.heap L ∧ ∀ target, Steps p.tables e below (T'.setTop { g with pc := g.pc + 3, stack := v.toList ++ rest }) target → Steps p.tables e below (T.setTop g) target := by
  obtain ⟨v, _, ⟨T', L', k', n'⟩, -, X', ⟨L, hQ, l', y', z'⟩, st⟩ := X.specialBack hx (y := y) hyn hown (mvT hZ w1) (mvT hZ w2) (mvT hZ w4) hy (backOf (W := W) hM hZ w4 w3 hf hl) (g := g) hg hsize (Steps.refl _) (a := a) (argsL := argsL) (rest := rest) hlen hstack hW hdg (fun _ _ => ⟨has, eT, hc, hs⟩)
  dsimp only [Pt.U, Pt.locs, Pt.cells, Pt.slots] at X' l' y' z' st hQ
  subst l' y' z'
  exact ⟨v, T', L, X', hQ, fun _ k => st.trans k⟩
theorem own_callV {own C : String} {index : Nat} {y z : MethodName} {bytes : ByteArray} {maxL : Nat} {ret : Option FieldType} {rm : Room} {as' : Array Value} {Q : Option Value → Heap → List Loc → Prop} {W : Nat} {g : JFrame} {a : Addr} {argsL rest : List Value}
    (X : Stand p l e R s m args below meth c T locs cells slots) (hx : p.tables.exec = Jvm.exec) (hZ : Z.Warmed39 s.vm) (eT : T.heap = h) (hown : s.vm.findClass own = some m.cls)
    (w1 : (Jvm.Cond.methodLink own index y).before a0 Z = true) (w2 : (Jvm.Cond.declares y).before a0 Z = true) (nf : NotFace s y) (w5 : (Jvm.Cond.selects C y z).before a0 Z = true) (w6 : (Jvm.Cond.instanceMethod z).before a0 Z = true) (w3 : (Jvm.Cond.initialized z.cls).before a0 Z = true) (w4 : (Jvm.Cond.code z bytes maxL ret).before a0 Z = true)
    (hy : y.cls ≠ "java/lang/invoke/MethodHandle" ∧ y.cls ≠ "java/lang/invoke/VarHandle") (E : Exa Z h a C)
    (hM : Con l Z z bytes maxL ret [] rm as' h rm.cells rm.slots Q)
    (hf : rm.frames + 1 ≤ R.frames) (hl : W + (maxL + 11) + rm.locals ≤ R.locals) (hc : cells + rm.cells ≤ R.cells) (hs : slots + rm.slots ≤ R.slots)
    (hg : g.method = m) (hsize : g.locals.size = c.maxLocals) (has : (Value.ref a :: argsL).toArray = as') (hlen : ∀ sig, parseMethodDescriptor y.desc = some sig → argsL.length = sig.parameters.length)
    (hstack : g.stack = argsL.reverse ++ .ref a :: rest) (hW : 2 * g.monitorRoom + (rest.map fun v => v.category).sum ≤ W) (hdg : decode c.code g.pc = .ok (.invokevirtual index, 3)) :
    ∃ v T' L, Stand p l e R s m args below meth c T' (locs ++ L) (cells + rm.cells) (slots + rm.slots) ∧ Q v T'.heap L ∧ ∀ target, Steps p.tables e below (T'.setTop { g with pc := g.pc + 3, stack := v.toList ++ rest }) target → Steps p.tables e below (T.setTop g) target := by
  obtain ⟨cq, kq, qa, qb, qc⟩ := isOf hZ eT E
  obtain ⟨v, _, ⟨T', L', k', n'⟩, -, X', ⟨L, hQ, l', y', z'⟩, st⟩ := X.virtualBack hx (y := y) (z := z) hown (mvT hZ w1) (mvT hZ w2) nf (mvT hZ w5) (mvT hZ w6) hy (backOf (W := W) hM hZ w4 w3 hf hl) qa qc (g := g) hg hsize (Steps.refl _) (argsL := argsL) (rest := rest) hlen hstack hW hdg (fun _ _ => ⟨has, eT, hc, hs⟩)
  dsimp only [Pt.U, Pt.locs, Pt.cells, Pt.slots] at X' l' y' z' st hQ
  subst l' y' z'
  exact ⟨v, T', L, X', hQ, fun _ k => st.trans k⟩
theorem own_sta_keep {C n d : String} {w : Value} {h h' : Heap} {ws : List Addr} (F : Sta Z h C n d w) (K : Keep h h' ws) (q : ∀ x ∈ ws, ∃ cl : Cell, h[x]? = some cl ∧ cl.vm.isStatics = false) : Sta Z h' C n d w := by
  obtain ⟨cf, i, k, f, st, cell, h1, h2, h3, h4, h5, h6, h7⟩ := F
  refine ⟨cf, i, k, f, st, cell, h1, h2, h3, h4, K.2.1 st cell h5 fun z => ?_, h6, h7⟩
  obtain ⟨cl, q1, q2⟩ := q st z
  cases h5.symm.trans q1
  rw [h6] at q2; cases q2
theorem own_exa_plain {a : Addr} {C : String} {h : Heap} (F : Exa Z h a C) : ∃ cl : Cell, h[a]? = some cl ∧ cl.vm.isStatics = false := by
  obtain ⟨cell, k, h1, -, -, h4, -⟩ := F; exact ⟨cell, h1, h4⟩
theorem own_arv_plain {a : Addr} {k : ClassId} {ty : FieldType} {z : Int32} {vs : List Value} {dv : Value} {h : Heap} (F : Arv Z h a k ty z vs dv) : ∃ cl : Cell, h[a]? = some cl ∧ cl.vm.isStatics = false := by
  obtain ⟨cell, A, -⟩ := F; exact ⟨cell, A.1, A.plain⟩
theorem own_getR {own O n d : String} {index : Nat} {a : Addr} {v : Value} {g : JFrame} {rest : List Value} (X : Stand p l e R s m args below meth c T locs cells slots) (hx : p.tables.exec = Jvm.exec) (hZ : Z.Warmed39 s.vm) (hown : s.vm.findClass own = some m.cls)
    (w : (Jvm.Cond.fieldRef own index O n d).before a0 Z = true) (eT : T.heap = h) (F : Fld Z h a O n d v) (hg : g.method = m) (hs : g.stack = .ref a :: rest) (hd : decode c.code g.pc = .ok (.getfield index, 3)) :
    ∀ target, Steps p.tables e below (T.setTop { g with pc := g.pc + 3, stack := v :: rest }) target → Steps p.tables e below (T.setTop g) target := by
  have hU : Z.Warmed39 T.vm := wtrans hZ X.warmed
  have w2 := Cond.fieldRef_warmed39 hU w
  have hc : (Z.setVm T.vm).vm.findClass own = some m.cls := by
    show T.vm.findClass own = some m.cls
    rw [X.warmed.alike.findClass]; exact hown
  obtain ⟨c1, k1, i1, f1, hf1, hr⟩ := Cond.fieldRef_spec hc w2
  obtain ⟨cell, cf, k, i, f, h1, h2, h3, h4, -, -, h7⟩ := F
  obtain ⟨k', hi, -⟩ := State.fieldFound?_setVm (s := Z) hU.alike h2
  cases hi.symm.trans hf1
  intro t kk
  exact (X.getfieldR hx hg hr h3 hs (by rw [eT]; exact h1) h4 h7 hd (Steps.refl _)).trans kk
theorem own_callP {own C : String} {index : Nat} {y : MethodName} {bytes : ByteArray} {maxL : Nat} {ret : Option FieldType} {rm : Room} {as' : Array Value} {Q : Option Value → Heap → List Loc → Prop} {W : Nat} {g : JFrame} {a : Addr} {argsL rest : List Value}
    (X : Stand p l e R s m args below meth c T locs cells slots) (hx : p.tables.exec = Jvm.exec) (hZ : Z.Warmed39 s.vm) (eT : T.heap = h) (hown : s.vm.findClass own = some m.cls)
    (w1 : (Jvm.Cond.methodLink own index y).before a0 Z = true) (w2 : (Jvm.Cond.instanceMethod y).before a0 Z = true) (w5 : (Jvm.Cond.selects y.cls y y).before a0 Z = true) (w6 : (Jvm.Cond.privateMethod y).before a0 Z = true) (w3 : (Jvm.Cond.initialized y.cls).before a0 Z = true) (w4 : (Jvm.Cond.code y bytes maxL ret).before a0 Z = true)
    (hy : y.cls ≠ "java/lang/invoke/MethodHandle" ∧ y.cls ≠ "java/lang/invoke/VarHandle") (E : Exa Z h a C)
    (hM : Con l Z y bytes maxL ret [] rm as' h rm.cells rm.slots Q)
    (hf : rm.frames + 1 ≤ R.frames) (hl : W + (maxL + 11) + rm.locals ≤ R.locals) (hc : cells + rm.cells ≤ R.cells) (hs : slots + rm.slots ≤ R.slots)
    (hg : g.method = m) (hsize : g.locals.size = c.maxLocals) (has : (Value.ref a :: argsL).toArray = as') (hlen : ∀ sig, parseMethodDescriptor y.desc = some sig → argsL.length = sig.parameters.length)
    (hstack : g.stack = argsL.reverse ++ .ref a :: rest) (hW : 2 * g.monitorRoom + (rest.map fun v => v.category).sum ≤ W) (hdg : decode c.code g.pc = .ok (.invokevirtual index, 3)) :
    ∃ v T' L, Stand p l e R s m args below meth c T' (locs ++ L) (cells + rm.cells) (slots + rm.slots) ∧ Q v T'.heap L ∧ ∀ target, Steps p.tables e below (T'.setTop { g with pc := g.pc + 3, stack := v.toList ++ rest }) target → Steps p.tables e below (T.setTop g) target := by
  obtain ⟨cq, q1, q2⟩ := E.cell
  obtain ⟨v, _, ⟨T', L', k', n'⟩, -, X', ⟨L, hQ, l', y', z'⟩, st⟩ := X.privateBack hx (y := y) hown (mvT hZ w1) (mvT hZ w2) (mvT hZ w5) (Cond.privateMethod_at (mvP hZ w6 (args := #[]))) (mvT hZ w4) hy (backOf (W := W) hM hZ w4 w3 hf hl) (g := g) hg hsize (Steps.refl _) (a := a) (by rw [eT]; exact q1) q2 (argsL := argsL) (rest := rest) hlen hstack hW hdg (fun _ _ => ⟨has, eT, hc, hs⟩)
  dsimp only [Pt.U, Pt.locs, Pt.cells, Pt.slots] at X' l' y' z' st hQ
  subst l' y' z'
  exact ⟨v, T', L, X', hQ, fun _ k => st.trans k⟩
theorem own_callF {own C : String} {index count : Nat} {xi y : MethodName} {bytes : ByteArray} {maxL : Nat} {ret : Option FieldType} {rm : Room} {as' : Array Value} {Q : Option Value → Heap → List Loc → Prop} {W : Nat} {g : JFrame} {a : Addr} {argsL rest : List Value}
    (X : Stand p l e R s m args below meth c T locs cells slots) (hx : p.tables.exec = Jvm.exec) (hZ : Z.Warmed39 s.vm) (eT : T.heap = h) (hown : s.vm.findClass own = some m.cls)
    (w1 : (Jvm.Cond.methodLink own index xi).before a0 Z = true) (w2 : (Jvm.Cond.declares xi).before a0 Z = true) (w7 : (Jvm.Cond.interfaceMethod xi.cls xi.cls xi.name xi.desc).before args s = true) (w5 : (Jvm.Cond.selects C xi y).before a0 Z = true) (w6 : (Jvm.Cond.instanceMethod y).before a0 Z = true)
    (w8 : (Jvm.Cond.publicMethod y).before a0 Z = true) (w9 : (Jvm.Cond.unhidden C xi.name xi.desc).before a0 Z = true) (w10 : (Jvm.Cond.castable C xi.cls).before a0 Z = true) (w3 : (Jvm.Cond.initialized y.cls).before a0 Z = true) (w4 : (Jvm.Cond.code y bytes maxL ret).before a0 Z = true)
    (hy : xi.cls ≠ "java/lang/invoke/MethodHandle" ∧ xi.cls ≠ "java/lang/invoke/VarHandle") (E : Exa Z h a C)
    (hM : Con l Z y bytes maxL ret [] rm as' h rm.cells rm.slots Q)
    (hf : rm.frames + 1 ≤ R.frames) (hl : W + (maxL + 11) + rm.locals ≤ R.locals) (hc : cells + rm.cells ≤ R.cells) (hs : slots + rm.slots ≤ R.slots)
    (hg : g.method = m) (hsize : g.locals.size = c.maxLocals) (has : (Value.ref a :: argsL).toArray = as') (hlen : ∀ sig, parseMethodDescriptor xi.desc = some sig → argsL.length = sig.parameters.length)
    (hstack : g.stack = argsL.reverse ++ .ref a :: rest) (hW : 2 * g.monitorRoom + (rest.map fun v => v.category).sum ≤ W) (hdg : decode c.code g.pc = .ok (.invokeinterface index count, 5)) :
    ∃ v T' L, Stand p l e R s m args below meth c T' (locs ++ L) (cells + rm.cells) (slots + rm.slots) ∧ Q v T'.heap L ∧ ∀ target, Steps p.tables e below (T'.setTop { g with pc := g.pc + 5, stack := v.toList ++ rest }) target → Steps p.tables e below (T.setTop g) target := by
  obtain ⟨cq, kq, qa, qb, qc⟩ := isOf hZ eT E
  obtain ⟨v, _, ⟨T', L', k', n'⟩, -, X', ⟨L, hQ, l', y', z'⟩, st⟩ := X.interfaceBack hx (xi := xi) (y := y) hown (mvT hZ w1) (mvT hZ w2) w7 (mvT hZ w5) (mvT hZ w6) (mvT hZ w8) (mvT hZ w9) (mvT hZ w10) hy (backOf (W := W) hM hZ w4 w3 hf hl) qa qb qc (g := g) hg hsize (Steps.refl _) (argsL := argsL) (rest := rest) hlen hstack hW hdg (fun _ _ => ⟨has, eT, hc, hs⟩)
  dsimp only [Pt.U, Pt.locs, Pt.cells, Pt.slots] at X' l' y' z' st hQ
  subst l' y' z'
  exact ⟨v, T', L, X', hQ, fun _ k => st.trans k⟩
theorem own_ns_root {O K : String} {n : Nat} (w : (Jvm.Cond.noSuperclass O).before a0 Z = true) (wk : (Jvm.Cond.instantiable K n).before a0 Z = true) (hn : O ≠ K) : NS Z O K := by
  obtain ⟨c, k, h1, h2, h3, -, -⟩ := Cond.noSuperclass_spec w
  obtain ⟨t, kt, g1, -⟩ := Cond.instantiable_spec wk
  have ne := ids_ne h1 g1 hn
  refine ⟨c, t, h1, g1, fun fuel => ?_⟩
  cases fuel with
  | zero => rfl
  | succ f => simp [Vm.isSubclassAux, ne, h2, h3]
theorem own_ns_no {C S K : String} {n : Nat} (w : (Jvm.Cond.superclass C S).before a0 Z = true) (wk : (Jvm.Cond.instantiable K n).before a0 Z = true) (hN : NS Z C K) (hn : C ≠ K) : ∃ c t, Z.vm.findClass C = some c ∧ Z.vm.findClass K = some t ∧ Z.vm.assignable c t = false := by
  obtain ⟨c, t, h0, g0, n3⟩ := hN
  obtain ⟨p, k, kp, h1, h2, h3, h4, h5, -, h7⟩ := Cond.superclass_spec h0 w
  obtain ⟨t', kt, g1, g2, g3, g4, -⟩ := Cond.instantiable_spec wk
  cases g0.symm.trans g1
  have g7 : kt.isInterface = false := by
    cases hq : kt.isInterface
    · rfl
    · simp [hq] at g4
  have ne := ids_ne h0 g0 hn
  refine ⟨c, t, h0, g0, ?_⟩
  show Z.vm.assignableAux (255 + 1) c t = false
  simp [Vm.assignableAux, ne, h2, g2, h5, g3, g7, Vm.isSubclass, n3]
end OwnKit
def digPost (q0 : Int64) (p1 p2 r : Int32) : Prop := p2.toInt ≤ r.toInt ∧ r.toInt ≤ p1.toInt ∧ q0.toInt % 10 ^ (p1.toInt - r.toInt).toNat = 0 ∧ (r ≠ p2 → q0.toInt % 10 ^ ((p1.toInt - r.toInt).toNat + 1) ≠ 0)
def digI (q0 : Int64) (p1 p2 : Int32) (k : Nat) (d : Int32) (v : Int64) : Prop := ∃ j : Nat, d.toInt + j = p1.toInt ∧ p2.toInt ≤ d.toInt ∧ q0.toInt % 10 ^ j = 0 ∧ v.toInt = q0.toInt / 10 ^ j ∧ k = (d.toInt - p2.toInt).toNat
def digPre (q0 : Int64) (p1 p2 : Int32) : Prop := 0 ≤ q0.toInt ∧ 0 ≤ p2.toInt ∧ p2.toInt ≤ p1.toInt ∧ p1.toInt ≤ 18
theorem dig_init {q0 : Int64} {p1 p2 : Int32} (h : digPre q0 p1 p2) : digI q0 p1 p2 (p1.toInt - p2.toInt).toNat p1 q0 := ⟨0, by simp, h.2.2.1, by simp [Int.emod_one], by simp, rfl⟩
theorem dig_exit1 {q0 v : Int64} {p1 p2 d : Int32} {k : Nat} (h : digI q0 p1 p2 k d v) (hc : ¬ (p2 < d)) : digPost q0 p1 p2 d := by
  obtain ⟨j, h1, h2, h3, h4, h5⟩ := h
  rw [Int32.lt_iff_toInt_lt] at hc
  have e : (p1.toInt - d.toInt).toNat = j := by omega
  refine ⟨h2, by omega, by rw [e]; exact h3, fun hn => absurd (Int32.toInt_inj.mp (by omega)) hn⟩
theorem rem10 {v v1 : Int64} (h0 : 0 ≤ v.toInt) (h1 : v1 = v % 10) : v1.toInt = v.toInt % 10 := by
  rw [h1, Int64.toInt_mod, Int.tmod_eq_emod_of_nonneg h0]; rfl
theorem div10 {v v1 : Int64} (h0 : 0 ≤ v.toInt) (h1 : v1 = v / 10) : v1.toInt = v.toInt / 10 := by
  rw [h1, Int64.toInt_div_of_ne_right _ _ (by decide), Int.tdiv_eq_ediv_of_nonneg h0]; rfl
theorem pow10_pos (j : Nat) : (0 : Int) < 10 ^ j := Int.pow_pos (by decide)
theorem dig_v0 {q0 v : Int64} {p1 p2 d : Int32} {k : Nat} (h : digI q0 p1 p2 k d v) (hp : digPre q0 p1 p2) : 0 ≤ v.toInt := by
  obtain ⟨j, h1, h2, h3, h4, h5⟩ := h
  rw [h4]; exact Int.ediv_nonneg hp.1 (Int.le_of_lt (pow10_pos j))
theorem mod_succ (a : Int) (j : Nat) (h3 : a % 10 ^ j = 0) : a % 10 ^ (j + 1) = 0 ↔ a / 10 ^ j % 10 = 0 := by
  have hp := pow10_pos j
  obtain ⟨b, rfl⟩ := Int.dvd_of_emod_eq_zero h3
  rw [Int.mul_ediv_cancel_left _ (Int.ne_of_gt hp), Int.pow_succ, Int.mul_emod_mul_of_pos _ _ hp]
  constructor
  · intro h; rcases Int.mul_eq_zero.mp h with h | h
    · omega
    · exact h
  · intro h; rw [h, Int.mul_zero]
theorem dig_exit2 {q0 v v1 : Int64} {p1 p2 d : Int32} {k : Nat} (h : digI q0 p1 p2 k d v) (hp : digPre q0 p1 p2) (hc : p2 < d) (e1 : v1 = v % 10) (hn : ¬ (v1 = 0)) : digPost q0 p1 p2 d := by
  have h0 := dig_v0 h hp
  obtain ⟨j, h1, h2, h3, h4, h5⟩ := h
  have e : (p1.toInt - d.toInt).toNat = j := by omega
  refine ⟨h2, by omega, by rw [e]; exact h3, fun _ hz => hn (Int64.toInt_inj.mp ?_)⟩
  rw [e] at hz
  rw [rem10 h0 e1, h4]; exact (mod_succ _ _ h3).mp hz
theorem dig_back {q0 v v1 v2 : Int64} {p1 p2 d d2 : Int32} {k : Nat} (h : digI q0 p1 p2 k d v) (hp : digPre q0 p1 p2) (hc : p2 < d) (e1 : v1 = v % 10) (hn : v1 = 0) (e2 : d2 = d + (-1)) (e3 : v2 = v / 10) : (d2.toInt - p2.toInt).toNat < k ∧ digI q0 p1 p2 (d2.toInt - p2.toInt).toNat d2 v2 := by
  have h0 := dig_v0 h hp
  have hz := rem10 h0 e1
  have hd := div10 h0 e3
  obtain ⟨j, h1, h2, h3, h4, h5⟩ := h
  obtain ⟨g1, g2, g3, g4⟩ := hp
  rw [Int32.lt_iff_toInt_lt] at hc
  have c1 := c_iadd d (-1)
  rw [← e2] at c1
  have l1 : (-1 : Int32).toInt = -1 := by decide
  have r1 := rng32 d; have r2 := rng32 d2
  have ed : d2.toInt = d.toInt - 1 := by omega
  have z1 : v1.toInt = 0 := by rw [hn]; rfl
  refine ⟨by omega, j + 1, by omega, by omega, (mod_succ _ _ h3).mpr (by rw [← h4, ← hz]; exact z1), ?_, rfl⟩
  rw [hd, h4, Int.pow_succ, Int.ediv_ediv_of_nonneg (Int.le_of_lt (pow10_pos j))]
theorem pow_ne {t : Int64} {n : Nat} (h : t.toInt = 10 ^ n) : t ≠ 0 := by
  intro e; have := pow10_pos n; rw [← h, e] at this; exact absurd this (by decide)
theorem lrem_pow {v a t : Int64} {n : Nat} (hv : v = a % t) (ht : t.toInt = 10 ^ n) (h0 : 0 ≤ a.toInt) : v.toInt = a.toInt % 10 ^ n := by
  rw [hv, Int64.toInt_mod, Int.tmod_eq_emod_of_nonneg h0, ht]
theorem dmethod_2_code_0 : decode method_2_code 0 = .ok (.bipush 19, 2) := by decide +kernel
theorem dmethod_2_code_2 : decode method_2_code 2 = .ok (.newarray .long, 2) := by decide +kernel
theorem dmethod_2_code_4 : decode method_2_code 4 = .ok (.dup, 1) := by decide +kernel
theorem dmethod_2_code_5 : decode method_2_code 5 = .ok (.iconst 0, 1) := by decide +kernel
theorem dmethod_2_code_6 : decode method_2_code 6 = .ok (.lconst 1, 1) := by decide +kernel
theorem dmethod_2_code_7 : decode method_2_code 7 = .ok (.lastore, 1) := by decide +kernel
theorem dmethod_2_code_8 : decode method_2_code 8 = .ok (.dup, 1) := by decide +kernel
theorem dmethod_2_code_9 : decode method_2_code 9 = .ok (.iconst 1, 1) := by decide +kernel
theorem dmethod_2_code_10 : decode method_2_code 10 = .ok (.ldc2_w 7, 3) := by decide +kernel
theorem dmethod_2_code_13 : decode method_2_code 13 = .ok (.lastore, 1) := by decide +kernel
theorem dmethod_2_code_14 : decode method_2_code 14 = .ok (.dup, 1) := by decide +kernel
theorem dmethod_2_code_15 : decode method_2_code 15 = .ok (.iconst 2, 1) := by decide +kernel
theorem dmethod_2_code_16 : decode method_2_code 16 = .ok (.ldc2_w 9, 3) := by decide +kernel
theorem dmethod_2_code_19 : decode method_2_code 19 = .ok (.lastore, 1) := by decide +kernel
theorem dmethod_2_code_20 : decode method_2_code 20 = .ok (.dup, 1) := by decide +kernel
theorem dmethod_2_code_21 : decode method_2_code 21 = .ok (.iconst 3, 1) := by decide +kernel
theorem dmethod_2_code_22 : decode method_2_code 22 = .ok (.ldc2_w 11, 3) := by decide +kernel
theorem dmethod_2_code_25 : decode method_2_code 25 = .ok (.lastore, 1) := by decide +kernel
theorem dmethod_2_code_26 : decode method_2_code 26 = .ok (.dup, 1) := by decide +kernel
theorem dmethod_2_code_27 : decode method_2_code 27 = .ok (.iconst 4, 1) := by decide +kernel
theorem dmethod_2_code_28 : decode method_2_code 28 = .ok (.ldc2_w 13, 3) := by decide +kernel
theorem dmethod_2_code_31 : decode method_2_code 31 = .ok (.lastore, 1) := by decide +kernel
theorem dmethod_2_code_32 : decode method_2_code 32 = .ok (.dup, 1) := by decide +kernel
theorem dmethod_2_code_33 : decode method_2_code 33 = .ok (.iconst 5, 1) := by decide +kernel
theorem dmethod_2_code_34 : decode method_2_code 34 = .ok (.ldc2_w 15, 3) := by decide +kernel
theorem dmethod_2_code_37 : decode method_2_code 37 = .ok (.lastore, 1) := by decide +kernel
theorem dmethod_2_code_38 : decode method_2_code 38 = .ok (.dup, 1) := by decide +kernel
theorem dmethod_2_code_39 : decode method_2_code 39 = .ok (.bipush 6, 2) := by decide +kernel
theorem dmethod_2_code_41 : decode method_2_code 41 = .ok (.ldc2_w 17, 3) := by decide +kernel
theorem dmethod_2_code_44 : decode method_2_code 44 = .ok (.lastore, 1) := by decide +kernel
theorem dmethod_2_code_45 : decode method_2_code 45 = .ok (.dup, 1) := by decide +kernel
theorem dmethod_2_code_46 : decode method_2_code 46 = .ok (.bipush 7, 2) := by decide +kernel
theorem dmethod_2_code_48 : decode method_2_code 48 = .ok (.ldc2_w 19, 3) := by decide +kernel
theorem dmethod_2_code_51 : decode method_2_code 51 = .ok (.lastore, 1) := by decide +kernel
theorem dmethod_2_code_52 : decode method_2_code 52 = .ok (.dup, 1) := by decide +kernel
theorem dmethod_2_code_53 : decode method_2_code 53 = .ok (.bipush 8, 2) := by decide +kernel
theorem dmethod_2_code_55 : decode method_2_code 55 = .ok (.ldc2_w 21, 3) := by decide +kernel
theorem dmethod_2_code_58 : decode method_2_code 58 = .ok (.lastore, 1) := by decide +kernel
theorem dmethod_2_code_59 : decode method_2_code 59 = .ok (.dup, 1) := by decide +kernel
theorem dmethod_2_code_60 : decode method_2_code 60 = .ok (.bipush 9, 2) := by decide +kernel
theorem dmethod_2_code_62 : decode method_2_code 62 = .ok (.ldc2_w 23, 3) := by decide +kernel
theorem dmethod_2_code_65 : decode method_2_code 65 = .ok (.lastore, 1) := by decide +kernel
theorem dmethod_2_code_66 : decode method_2_code 66 = .ok (.dup, 1) := by decide +kernel
theorem dmethod_2_code_67 : decode method_2_code 67 = .ok (.bipush 10, 2) := by decide +kernel
theorem dmethod_2_code_69 : decode method_2_code 69 = .ok (.ldc2_w 25, 3) := by decide +kernel
theorem dmethod_2_code_72 : decode method_2_code 72 = .ok (.lastore, 1) := by decide +kernel
theorem dmethod_2_code_73 : decode method_2_code 73 = .ok (.dup, 1) := by decide +kernel
theorem dmethod_2_code_74 : decode method_2_code 74 = .ok (.bipush 11, 2) := by decide +kernel
theorem dmethod_2_code_76 : decode method_2_code 76 = .ok (.ldc2_w 27, 3) := by decide +kernel
theorem dmethod_2_code_79 : decode method_2_code 79 = .ok (.lastore, 1) := by decide +kernel
theorem dmethod_2_code_80 : decode method_2_code 80 = .ok (.dup, 1) := by decide +kernel
theorem dmethod_2_code_81 : decode method_2_code 81 = .ok (.bipush 12, 2) := by decide +kernel
theorem dmethod_2_code_83 : decode method_2_code 83 = .ok (.ldc2_w 29, 3) := by decide +kernel
theorem dmethod_2_code_86 : decode method_2_code 86 = .ok (.lastore, 1) := by decide +kernel
theorem dmethod_2_code_87 : decode method_2_code 87 = .ok (.dup, 1) := by decide +kernel
theorem dmethod_2_code_88 : decode method_2_code 88 = .ok (.bipush 13, 2) := by decide +kernel
theorem dmethod_2_code_90 : decode method_2_code 90 = .ok (.ldc2_w 31, 3) := by decide +kernel
theorem dmethod_2_code_93 : decode method_2_code 93 = .ok (.lastore, 1) := by decide +kernel
theorem dmethod_2_code_94 : decode method_2_code 94 = .ok (.dup, 1) := by decide +kernel
theorem dmethod_2_code_95 : decode method_2_code 95 = .ok (.bipush 14, 2) := by decide +kernel
theorem dmethod_2_code_97 : decode method_2_code 97 = .ok (.ldc2_w 33, 3) := by decide +kernel
theorem dmethod_2_code_100 : decode method_2_code 100 = .ok (.lastore, 1) := by decide +kernel
theorem dmethod_2_code_101 : decode method_2_code 101 = .ok (.dup, 1) := by decide +kernel
theorem dmethod_2_code_102 : decode method_2_code 102 = .ok (.bipush 15, 2) := by decide +kernel
theorem dmethod_2_code_104 : decode method_2_code 104 = .ok (.ldc2_w 35, 3) := by decide +kernel
theorem dmethod_2_code_107 : decode method_2_code 107 = .ok (.lastore, 1) := by decide +kernel
theorem dmethod_2_code_108 : decode method_2_code 108 = .ok (.dup, 1) := by decide +kernel
theorem dmethod_2_code_109 : decode method_2_code 109 = .ok (.bipush 16, 2) := by decide +kernel
theorem dmethod_2_code_111 : decode method_2_code 111 = .ok (.ldc2_w 37, 3) := by decide +kernel
theorem dmethod_2_code_114 : decode method_2_code 114 = .ok (.lastore, 1) := by decide +kernel
theorem dmethod_2_code_115 : decode method_2_code 115 = .ok (.dup, 1) := by decide +kernel
theorem dmethod_2_code_116 : decode method_2_code 116 = .ok (.bipush 17, 2) := by decide +kernel
theorem dmethod_2_code_118 : decode method_2_code 118 = .ok (.ldc2_w 39, 3) := by decide +kernel
theorem dmethod_2_code_121 : decode method_2_code 121 = .ok (.lastore, 1) := by decide +kernel
theorem dmethod_2_code_122 : decode method_2_code 122 = .ok (.dup, 1) := by decide +kernel
theorem dmethod_2_code_123 : decode method_2_code 123 = .ok (.bipush 18, 2) := by decide +kernel
theorem dmethod_2_code_125 : decode method_2_code 125 = .ok (.ldc2_w 41, 3) := by decide +kernel
theorem dmethod_2_code_128 : decode method_2_code 128 = .ok (.lastore, 1) := by decide +kernel
theorem dmethod_2_code_129 : decode method_2_code 129 = .ok (.astore_n 1, 1) := by decide +kernel
theorem dmethod_2_code_130 : decode method_2_code 130 = .ok (.aload_n 1, 1) := by decide +kernel
theorem dmethod_2_code_131 : decode method_2_code 131 = .ok (.iload_n 0, 1) := by decide +kernel
theorem dmethod_2_code_132 : decode method_2_code 132 = .ok (.laload, 1) := by decide +kernel
theorem dmethod_2_code_133 : decode method_2_code 133 = .ok (.lreturn, 1) := by decide +kernel
theorem dprog_54_method_3_code_0 : decode prog_54_method_3_code 0 = .ok (.iload_n 2, 1) := by decide +kernel
theorem dprog_54_method_3_code_1 : decode prog_54_method_3_code 1 = .ok (.istore 4, 2) := by decide +kernel
theorem dprog_54_method_3_code_3 : decode prog_54_method_3_code 3 = .ok (.lload_n 0, 1) := by decide +kernel
theorem dprog_54_method_3_code_4 : decode prog_54_method_3_code 4 = .ok (.lstore 5, 2) := by decide +kernel
theorem dprog_54_method_3_code_6 : decode prog_54_method_3_code 6 = .ok (.iload 4, 2) := by decide +kernel
theorem dprog_54_method_3_code_8 : decode prog_54_method_3_code 8 = .ok (.iload_n 3, 1) := by decide +kernel
theorem dprog_54_method_3_code_9 : decode prog_54_method_3_code 9 = .ok (.if_icmp .le 28, 3) := by decide +kernel
theorem dprog_54_method_3_code_12 : decode prog_54_method_3_code 12 = .ok (.lload 5, 2) := by decide +kernel
theorem dprog_54_method_3_code_14 : decode prog_54_method_3_code 14 = .ok (.ldc2_w 34, 3) := by decide +kernel
theorem dprog_54_method_3_code_17 : decode prog_54_method_3_code 17 = .ok (.lrem, 1) := by decide +kernel
theorem dprog_54_method_3_code_18 : decode prog_54_method_3_code 18 = .ok (.lconst 0, 1) := by decide +kernel
theorem dprog_54_method_3_code_19 : decode prog_54_method_3_code 19 = .ok (.lcmp, 1) := by decide +kernel
theorem dprog_54_method_3_code_20 : decode prog_54_method_3_code 20 = .ok (.ifCond .ne 17, 3) := by decide +kernel
theorem dprog_54_method_3_code_23 : decode prog_54_method_3_code 23 = .ok (.iinc 4 (-1), 3) := by decide +kernel
theorem dprog_54_method_3_code_26 : decode prog_54_method_3_code 26 = .ok (.lload 5, 2) := by decide +kernel
theorem dprog_54_method_3_code_28 : decode prog_54_method_3_code 28 = .ok (.ldc2_w 34, 3) := by decide +kernel
theorem dprog_54_method_3_code_31 : decode prog_54_method_3_code 31 = .ok (.ldiv, 1) := by decide +kernel
theorem dprog_54_method_3_code_32 : decode prog_54_method_3_code 32 = .ok (.lstore 5, 2) := by decide +kernel
theorem dprog_54_method_3_code_34 : decode prog_54_method_3_code 34 = .ok (.goto (-28), 3) := by decide +kernel
theorem dprog_54_method_3_code_37 : decode prog_54_method_3_code 37 = .ok (.iload 4, 2) := by decide +kernel
theorem dprog_54_method_3_code_39 : decode prog_54_method_3_code 39 = .ok (.ireturn, 1) := by decide +kernel
theorem pn_0 : plainName "com/example/dwellgate/dwellgate/scenario/FixedPoint" = true := by first | (simp [plainName, overriddenIn]; done) | decide +kernel
theorem pn_1 : plainName "com/example/dwellgate/dwellgate/scenario/FixedPointDigitsPinLaw" = true := by first | (simp [plainName, overriddenIn]; done) | decide +kernel
theorem pd_0 : parseMethodDescriptor "(JII)I" = some ⟨[.long, .int, .int], some .int⟩ := by decide +kernel
theorem pd_1 : parseMethodDescriptor "(I)J" = some ⟨[.int], some .long⟩ := by decide +kernel
theorem ef_1 (m : MethodId) (q0 : Int64) (p1 : Int32) (p2 : Int32) : entryFrame m #[(.long q0), (.int p1), (.int p2)] 7 = mkF m 0 #[.val (.long q0), .second, .val (.int p1), .val (.int p2), .unset, .unset, .unset] [] := by first | (simp [entryFrame, mkF, argsToLocals, Value.category, maxLocals]; done) | rfl
def Q1 (Z : State) (q0 : Int64) (p1 : Int32) (p2 : Int32) (h0 : Heap) (n0 : Nat) (v : Option Value) (h : Heap) (L : List Loc) : Prop := ∃ r : Int32, (digPost q0 p1 p2 r) ∧ v = some (.int r) ∧ Fr n0 L ∧ h = h0
set_option maxRecDepth 65536 in
set_option maxHeartbeats 40000000 in
theorem rm1 (l : Launch) (Z : State) (a0 : Array Value) (hw : ∀ d ∈ tables_1, d.before a0 Z = true) (ws : List Jvm.Cond) (q0 : Int64) (p1 : Int32) (p2 : Int32) (h0 : Heap) (n0 : Nat) (Z0 : n0 ≤ h0.size) (hpre : digPre q0 p1 p2) :
    Con l Z (⟨"com/example/dwellgate/dwellgate/scenario/FixedPoint", "digits", "(JII)I"⟩ : MethodName) prog_54_method_3_code 7 (some .int) ws ({ frames := 0, cells := 0, slots := 0, locals := 0 } : Room) #[(.long q0), (.int p1), (.int p2)] h0 0 0 (Q1 Z q0 p1 p2 h0 n0) := by
  refine MetFree.of_bodySF (plainFor_of_name pn_0) hisR ?_
  intro p e s m args below meth c s₁ Bd hml0 hP hK
  obtain ⟨rfl, hZ, hh⟩ := hP
  have hx := Bd.exec
  have hby := Bd.bytes
  have hml : c.maxLocals = 7 := hml0
  have hown : s.vm.findClass "com/example/dwellgate/dwellgate/scenario/FixedPoint" = some m.cls := findClass_of_methodNamed Bd.named
  have hnm := (name_of_methodNamed Bd.named Bd.method).1
  have X0 : Stand p l e ({ frames := 0, cells := 0, slots := 0, locals := 0 } : Room) s m #[(.long q0), (.int p1), (.int p2)] below meth c s₁ [] 0 0 := Stand.of_body Bd
  have e0 : s₁.heap = h0 := by rw [← hh, Bd.state]; rfl
  have N0 := Fr.nil n0
  refine Go.of ?_
  refine Go.st (S' := s₁.setTop (mkF m 0 #[.val (.long q0), .second, .val (.int p1), .val (.int p2), .unset, .unset, .unset] [])) (fun t k => castTop (ef_1 m q0 p1 p2) k) ?_
  let A13 : Array Slot := #[.val (.long q0), .second, .val (.int p1), .val (.int p2), .unset, .unset, .unset]
  refine Go.st (S' := s₁.setTop (mkF m 1 A13 [(.int p1)])) (fun t k => XS.iloadN X0.here hx rfl (hb hby dprog_54_method_3_code_0) rfl k) ?_
  let A14 : Array Slot := #[.val (.long q0), .second, .val (.int p1), .val (.int p2), .val (.int p1), .unset, .unset]
  refine Go.st (S' := s₁.setTop (mkF m 3 A14 [])) (fun t k => XS.istore X0.here hx rfl (hb hby dprog_54_method_3_code_1) rfl (l' := A14) rfl k) ?_
  refine Go.st (S' := s₁.setTop (mkF m 4 A14 [(.long q0)])) (fun t k => XS.lloadN X0.here hx rfl (hb hby dprog_54_method_3_code_3) rfl k) ?_
  let A15 : Array Slot := #[.val (.long q0), .second, .val (.int p1), .val (.int p2), .val (.int p1), .val (.long q0), .second]
  refine Go.st (S' := s₁.setTop (mkF m 6 A15 [])) (fun t k => XS.lstore X0.here hx rfl (hb hby dprog_54_method_3_code_4) rfl (l' := A15) rfl k) ?_
  refine Go.loop (α := Int32 × Int64) (fun k r => digI q0 p1 p2 k r.1 r.2) (fun r => s₁.setTop (mkF m 6 #[.val (.long q0), .second, .val (.int p1), .val (.int p2), .val (.int r.1), .val (.long r.2), .second] [])) ((p1.toInt - p2.toInt).toNat) (p1, q0) ?_ ?_
  · exact dig_init hpre
  · rintro k18 ⟨x16, x17⟩ hI19 ih20
    dsimp only at hI19 ih20
    let A21 : Array Slot := #[.val (.long q0), .second, .val (.int p1), .val (.int p2), .val (.int x16), .val (.long x17), .second]
    refine Go.st (S' := s₁.setTop (mkF m 8 A21 [(.int x16)])) (fun t k => XS.iload X0.here hx rfl (hb hby dprog_54_method_3_code_6) rfl k) ?_
    refine Go.st (S' := s₁.setTop (mkF m 9 A21 [(.int p2), (.int x16)])) (fun t k => XS.iloadN X0.here hx rfl (hb hby dprog_54_method_3_code_8) rfl k) ?_
    by_cases hc22 : (p2 < x16)
    · refine Go.st (S' := s₁.setTop (mkF m 12 A21 [])) (fun t k => XS.icmpNo X0.here hx rfl (hb hby dprog_54_method_3_code_9) rfl (tlt hc22).2.2.2 k) ?_
      refine Go.st (S' := s₁.setTop (mkF m 14 A21 [(.long x17)])) (fun t k => XS.lload X0.here hx rfl (hb hby dprog_54_method_3_code_12) rfl k) ?_
      refine Go.st (S' := s₁.setTop (mkF m 17 A21 [(.long (10 : Int64)), (.long x17)])) (fun t k => X0.ldc2Long hx hown (mvT hZ (hw _ (List.mem_of_getElem? (i := 6) rfl))) (g := (mkF m 14 A21 [(.long x17)])) rfl (hb hby dprog_54_method_3_code_14) t k) ?_
      refine Go.op (F := fun z => s₁.setTop (mkF m 18 A21 [(.long z)])) (x := (x17 - (x17 / (10 : Int64)) * (10 : Int64))) (fun t k => XS.lrem X0.here hx rfl (hb hby dprog_54_method_3_code_17) rfl (by decide) k) ?_
      intro v23 hv23
      rw [lrem_mod] at hv23
      refine Go.st (S' := s₁.setTop (mkF m 19 A21 [(.long (0 : Int64)), (.long v23)])) (fun t k => XS.lconst X0.here hx rfl (hb hby dprog_54_method_3_code_18) k) ?_
      refine Go.op (F := fun z => s₁.setTop (mkF m 20 A21 [(.int z)])) (x := (lcmpW v23 (0 : Int64))) (fun t k => XS.lcmp X0.here hx rfl (hb hby dprog_54_method_3_code_19) rfl k) ?_
      intro v24 hv24
      by_cases hc25 : (v23 = (0 : Int64))
      · refine Go.st (S' := s₁.setTop (mkF m 23 A21 [])) (fun t k => XS.ifNo X0.here hx rfl (hb hby dprog_54_method_3_code_20) rfl ((if0 _ _).trans (teq (by rw [hv24]; exact (lw_eq _ _).2 hc25)).2) k) ?_
        refine Go.op (F := fun z => s₁.setTop (mkF m 26 #[.val (.long q0), .second, .val (.int p1), .val (.int p2), .val (.int z), .val (.long x17), .second] [])) (x := (x16 + (-1 : Int32))) (fun t k => XS.iinc X0.here hx rfl (hb hby dprog_54_method_3_code_23) rfl rfl k) ?_
        intro v26 hv26
        let A27 : Array Slot := #[.val (.long q0), .second, .val (.int p1), .val (.int p2), .val (.int v26), .val (.long x17), .second]
        refine Go.st (S' := s₁.setTop (mkF m 28 A27 [(.long x17)])) (fun t k => XS.lload X0.here hx rfl (hb hby dprog_54_method_3_code_26) rfl k) ?_
        refine Go.st (S' := s₁.setTop (mkF m 31 A27 [(.long (10 : Int64)), (.long x17)])) (fun t k => X0.ldc2Long hx hown (mvT hZ (hw _ (List.mem_of_getElem? (i := 6) rfl))) (g := (mkF m 28 A27 [(.long x17)])) rfl (hb hby dprog_54_method_3_code_28) t k) ?_
        refine Go.op (F := fun z => s₁.setTop (mkF m 32 A27 [(.long z)])) (x := (x17 / (10 : Int64))) (fun t k => XS.ldiv X0.here hx rfl (hb hby dprog_54_method_3_code_31) rfl (by decide) k) ?_
        intro v28 hv28
        let A29 : Array Slot := #[.val (.long q0), .second, .val (.int p1), .val (.int p2), .val (.int v26), .val (.long v28), .second]
        refine Go.st (S' := s₁.setTop (mkF m 34 A29 [])) (fun t k => XS.lstore X0.here hx rfl (hb hby dprog_54_method_3_code_32) rfl (l' := A29) rfl k) ?_
        refine Go.st (S' := s₁.setTop (mkF m 6 A29 [])) (fun t k => XS.goto X0.here hx rfl (pc0 := 34) (pc' := 6) rfl (hb hby dprog_54_method_3_code_34) (by decide) (by decide) k) ?_
        have hb30 := dig_back hI19 hpre hc22 hv23 hc25 hv26 hv28
        exact ih20 _ (v26, v28) hb30.1 hb30.2
      · refine Go.st (S' := s₁.setTop (mkF m 37 A21 [])) (fun t k => XS.ifYes X0.here hx rfl (pc0 := 20) (pc' := 37) rfl (hb hby dprog_54_method_3_code_20) rfl ((if0 _ _).trans (feq (by rw [hv24]; exact fun z => hc25 ((lw_eq _ _).1 z))).2) (by decide) (by decide) k) ?_
        refine Go.st (S' := s₁.setTop (mkF m 39 A21 [(.int x16)])) (fun t k => XS.iload X0.here hx rfl (hb hby dprog_54_method_3_code_37) rfl k) ?_
        exact Go.ret X0 (v := some (.int x16)) (fun h => by rw [Bd.returns] at h; cases h) Bd.notSynchronized (fun fs hr => retI X0 hx Bd.returns (hb hby dprog_54_method_3_code_39) hr) (by decide) (by decide) (⟨x16, (dig_exit2 hI19 hpre hc22 hv23 hc25), rfl, N0, e0⟩)
    · refine Go.st (S' := s₁.setTop (mkF m 37 A21 [])) (fun t k => XS.icmpYes X0.here hx rfl (pc0 := 9) (pc' := 37) rfl (hb hby dprog_54_method_3_code_9) rfl (flt hc22).2.2.2 (by decide) (by decide) k) ?_
      refine Go.st (S' := s₁.setTop (mkF m 39 A21 [(.int x16)])) (fun t k => XS.iload X0.here hx rfl (hb hby dprog_54_method_3_code_37) rfl k) ?_
      exact Go.ret X0 (v := some (.int x16)) (fun h => by rw [Bd.returns] at h; cases h) Bd.notSynchronized (fun fs hr => retI X0 hx Bd.returns (hb hby dprog_54_method_3_code_39) hr) (by decide) (by decide) (⟨x16, (dig_exit1 hI19 hc22), rfl, N0, e0⟩)
theorem ef_2 (m : MethodId) (p0 : Int32) : entryFrame m #[(.int p0)] 2 = mkF m 0 #[.val (.int p0), .unset] [] := by first | (simp [entryFrame, mkF, argsToLocals, Value.category, maxLocals]; done) | rfl
def Q2 (Z : State) (p0 : Int32) (h0 : Heap) (n0 : Nat) (v : Option Value) (h : Heap) (L : List Loc) : Prop := ∃ r : Int64, (r.toInt = 10 ^ (p0).toInt.toNat) ∧ v = some (.long r) ∧ Fr n0 L ∧ Keep h0 h []
set_option maxRecDepth 65536 in
set_option maxHeartbeats 40000000 in
theorem rm2 (l : Launch) (Z : State) (a0 : Array Value) (hw : ∀ d ∈ tables_1, d.before a0 Z = true) (ws : List Jvm.Cond) (p0 : Int32) (h0 : Heap) (n0 : Nat) (Z0 : n0 ≤ h0.size) (hpre : 0 ≤ (p0).toInt ∧ (p0).toInt ≤ 18) :
    Con l Z (⟨"com/example/dwellgate/dwellgate/scenario/FixedPointDigitsPinLaw", "pow10", "(I)J"⟩ : MethodName) method_2_code 2 (some .long) ws ({ frames := 0, cells := 1, slots := 19, locals := 0 } : Room) #[(.int p0)] h0 1 19 (Q2 Z p0 h0 n0) := by
  refine MetFree.of_bodySF (plainFor_of_name pn_1) hisR ?_
  intro p e s m args below meth c s₁ Bd hml0 hP hK
  obtain ⟨rfl, hZ, hh⟩ := hP
  have hx := Bd.exec
  have hby := Bd.bytes
  have hml : c.maxLocals = 2 := hml0
  have hown : s.vm.findClass "com/example/dwellgate/dwellgate/scenario/FixedPointDigitsPinLaw" = some m.cls := findClass_of_methodNamed Bd.named
  have hnm := (name_of_methodNamed Bd.named Bd.method).1
  have X0 : Stand p l e ({ frames := 0, cells := 1, slots := 19, locals := 0 } : Room) s m #[(.int p0)] below meth c s₁ [] 0 0 := Stand.of_body Bd
  have e0 : s₁.heap = h0 := by rw [← hh, Bd.state]; rfl
  have N0 := Fr.nil n0
  refine Go.of ?_
  refine Go.st (S' := s₁.setTop (mkF m 0 #[.val (.int p0), .unset] [])) (fun t k => castTop (ef_2 m p0) k) ?_
  refine Go.st (S' := s₁.setTop (mkF m 2 #[.val (.int p0), .unset] [(.int (19 : Int32))])) (fun t k => XS.bipush X0.here hx rfl (hb hby dmethod_2_code_0) k) ?_
  obtain ⟨T39, h39, k39, X39, e39, E39, A39, B39, st39⟩ := newPE X0 hx hZ (hw _ (List.mem_of_getElem? (i := 11) rfl)) e0 (g := (mkF m 2 #[.val (.int p0), .unset] [(.int (19 : Int32))])) rfl (hb hby dmethod_2_code_2) rfl (by decide) (cap := 19) (by decide) (by decide) (by decide) (by decide) (ad := "[J") (by decide)
  obtain ⟨b39, gg39⟩ : ∃ z, z = h0.size := ⟨_, rfl⟩
  rw [← gg39] at A39 B39 st39
  have g_b39 : n0 ≤ b39 := Nat.le_trans Z0 (Nat.le_of_eq gg39.symm)
  have sz_b39 : h0.size ≤ b39 := Nat.le_trans (Keep.refl h0 []).1 (Nat.le_of_eq gg39.symm)
  have Z40 : n0 ≤ h39.size := Nat.le_trans Z0 E39.1
  have K40 : Keep h0 h39 [] := (Keep.refl h0 []).ext E39
  have V39 : Arv Z h39 b39 k39 .long (19 : Int32) [(.long (0 : Int64)), (.long (0 : Int64)), (.long (0 : Int64)), (.long (0 : Int64)), (.long (0 : Int64)), (.long (0 : Int64)), (.long (0 : Int64)), (.long (0 : Int64)), (.long (0 : Int64)), (.long (0 : Int64)), (.long (0 : Int64)), (.long (0 : Int64)), (.long (0 : Int64)), (.long (0 : Int64)), (.long (0 : Int64)), (.long (0 : Int64)), (.long (0 : Int64)), (.long (0 : Int64)), (.long (0 : Int64))] (.long (0 : Int64)) := (Arv.new A39 (by decide)).pad (pad_rep [] (.long (0 : Int64)) 19)
  refine Go.st (S' := T39.setTop (mkF m 4 #[.val (.int p0), .unset] [(.ref b39)])) st39 ?_
  refine Go.st (S' := T39.setTop (mkF m 5 #[.val (.int p0), .unset] [(.ref b39), (.ref b39)])) (fun t k => XS.dup X39.here hx rfl (hb hby dmethod_2_code_4) rfl rfl k) ?_
  refine Go.st (S' := T39.setTop (mkF m 6 #[.val (.int p0), .unset] [(.int (0 : Int32)), (.ref b39), (.ref b39)])) (fun t k => XS.iconst X39.here hx rfl (hb hby dmethod_2_code_5) k) ?_
  refine Go.st (S' := T39.setTop (mkF m 7 #[.val (.int p0), .unset] [(.long (1 : Int64)), (.int (0 : Int32)), (.ref b39), (.ref b39)])) (fun t k => XS.lconst X39.here hx rfl (hb hby dmethod_2_code_6) k) ?_
  obtain ⟨cl41, Ar41, q41, S41, N41_, H41, G41⟩ := id V39
  have hin41 : ¬ ((0 : Int32) < 0 ∨ cl41.slots.size ≤ ((0 : Int32)).toNatClampNeg) := inb_of S41 ⟨by decide, by decide⟩
  obtain ⟨T41, h41, X41, e41, W41, st41⟩ := stJ X39 hx hZ e39 Ar41 (j := (0 : Int32)) hin41 (g := (mkF m 7 #[.val (.int p0), .unset] [(.long (1 : Int64)), (.int (0 : Int32)), (.ref b39), (.ref b39)])) rfl rfl (hb hby dmethod_2_code_7)
  have V41 : Arv Z h41 b39 k39 .long (19 : Int32) [(.long (1 : Int64)), (.long (0 : Int64)), (.long (0 : Int64)), (.long (0 : Int64)), (.long (0 : Int64)), (.long (0 : Int64)), (.long (0 : Int64)), (.long (0 : Int64)), (.long (0 : Int64)), (.long (0 : Int64)), (.long (0 : Int64)), (.long (0 : Int64)), (.long (0 : Int64)), (.long (0 : Int64)), (.long (0 : Int64)), (.long (0 : Int64)), (.long (0 : Int64)), (.long (0 : Int64)), (.long (0 : Int64))] (.long (0 : Int64)) := Arv.set Ar41 q41 S41 N41_ H41 G41 rfl W41 0 rfl (Nat.le_of_ble_eq_true rfl)
  have N41 := Fr.snoc X41 N0 g_b39
  have Z42 : n0 ≤ h41.size := Nat.le_trans Z40 (Keep.of_wr W41).1
  have K42 : Keep h0 h41 [] := K40.wr W41 (Or.inr sz_b39)
  refine Go.st (S' := T41.setTop (mkF m 8 #[.val (.int p0), .unset] [(.ref b39)])) st41 ?_
  refine Go.st (S' := T41.setTop (mkF m 9 #[.val (.int p0), .unset] [(.ref b39), (.ref b39)])) (fun t k => XS.dup X41.here hx rfl (hb hby dmethod_2_code_8) rfl rfl k) ?_
  refine Go.st (S' := T41.setTop (mkF m 10 #[.val (.int p0), .unset] [(.int (1 : Int32)), (.ref b39), (.ref b39)])) (fun t k => XS.iconst X41.here hx rfl (hb hby dmethod_2_code_9) k) ?_
  refine Go.st (S' := T41.setTop (mkF m 13 #[.val (.int p0), .unset] [(.long (10 : Int64)), (.int (1 : Int32)), (.ref b39), (.ref b39)])) (fun t k => X41.ldc2Long hx hown (mvT hZ (hw _ (List.mem_of_getElem? (i := 12) rfl))) (g := (mkF m 10 #[.val (.int p0), .unset] [(.int (1 : Int32)), (.ref b39), (.ref b39)])) rfl (hb hby dmethod_2_code_10) t k) ?_
  obtain ⟨cl43, Ar43, q43, S43, N43_, H43, G43⟩ := id V41
  have hin43 : ¬ ((1 : Int32) < 0 ∨ cl43.slots.size ≤ ((1 : Int32)).toNatClampNeg) := inb_of S43 ⟨by decide, by decide⟩
  obtain ⟨T43, h43, X43, e43, W43, st43⟩ := stJ X41 hx hZ e41 Ar43 (j := (1 : Int32)) hin43 (g := (mkF m 13 #[.val (.int p0), .unset] [(.long (10 : Int64)), (.int (1 : Int32)), (.ref b39), (.ref b39)])) rfl rfl (hb hby dmethod_2_code_13)
  have V43 : Arv Z h43 b39 k39 .long (19 : Int32) [(.long (1 : Int64)), (.long (10 : Int64)), (.long (0 : Int64)), (.long (0 : Int64)), (.long (0 : Int64)), (.long (0 : Int64)), (.long (0 : Int64)), (.long (0 : Int64)), (.long (0 : Int64)), (.long (0 : Int64)), (.long (0 : Int64)), (.long (0 : Int64)), (.long (0 : Int64)), (.long (0 : Int64)), (.long (0 : Int64)), (.long (0 : Int64)), (.long (0 : Int64)), (.long (0 : Int64)), (.long (0 : Int64))] (.long (0 : Int64)) := Arv.set Ar43 q43 S43 N43_ H43 G43 rfl W43 1 rfl (Nat.le_of_ble_eq_true rfl)
  have N43 := Fr.snoc X43 N41 g_b39
  have Z44 : n0 ≤ h43.size := Nat.le_trans Z42 (Keep.of_wr W43).1
  have K44 : Keep h0 h43 [] := K42.wr W43 (Or.inr sz_b39)
  refine Go.st (S' := T43.setTop (mkF m 14 #[.val (.int p0), .unset] [(.ref b39)])) st43 ?_
  refine Go.st (S' := T43.setTop (mkF m 15 #[.val (.int p0), .unset] [(.ref b39), (.ref b39)])) (fun t k => XS.dup X43.here hx rfl (hb hby dmethod_2_code_14) rfl rfl k) ?_
  refine Go.st (S' := T43.setTop (mkF m 16 #[.val (.int p0), .unset] [(.int (2 : Int32)), (.ref b39), (.ref b39)])) (fun t k => XS.iconst X43.here hx rfl (hb hby dmethod_2_code_15) k) ?_
  refine Go.st (S' := T43.setTop (mkF m 19 #[.val (.int p0), .unset] [(.long (100 : Int64)), (.int (2 : Int32)), (.ref b39), (.ref b39)])) (fun t k => X43.ldc2Long hx hown (mvT hZ (hw _ (List.mem_of_getElem? (i := 13) rfl))) (g := (mkF m 16 #[.val (.int p0), .unset] [(.int (2 : Int32)), (.ref b39), (.ref b39)])) rfl (hb hby dmethod_2_code_16) t k) ?_
  obtain ⟨cl45, Ar45, q45, S45, N45_, H45, G45⟩ := id V43
  have hin45 : ¬ ((2 : Int32) < 0 ∨ cl45.slots.size ≤ ((2 : Int32)).toNatClampNeg) := inb_of S45 ⟨by decide, by decide⟩
  obtain ⟨T45, h45, X45, e45, W45, st45⟩ := stJ X43 hx hZ e43 Ar45 (j := (2 : Int32)) hin45 (g := (mkF m 19 #[.val (.int p0), .unset] [(.long (100 : Int64)), (.int (2 : Int32)), (.ref b39), (.ref b39)])) rfl rfl (hb hby dmethod_2_code_19)
  have V45 : Arv Z h45 b39 k39 .long (19 : Int32) [(.long (1 : Int64)), (.long (10 : Int64)), (.long (100 : Int64)), (.long (0 : Int64)), (.long (0 : Int64)), (.long (0 : Int64)), (.long (0 : Int64)), (.long (0 : Int64)), (.long (0 : Int64)), (.long (0 : Int64)), (.long (0 : Int64)), (.long (0 : Int64)), (.long (0 : Int64)), (.long (0 : Int64)), (.long (0 : Int64)), (.long (0 : Int64)), (.long (0 : Int64)), (.long (0 : Int64)), (.long (0 : Int64))] (.long (0 : Int64)) := Arv.set Ar45 q45 S45 N45_ H45 G45 rfl W45 2 rfl (Nat.le_of_ble_eq_true rfl)
  have N45 := Fr.snoc X45 N43 g_b39
  have Z46 : n0 ≤ h45.size := Nat.le_trans Z44 (Keep.of_wr W45).1
  have K46 : Keep h0 h45 [] := K44.wr W45 (Or.inr sz_b39)
  refine Go.st (S' := T45.setTop (mkF m 20 #[.val (.int p0), .unset] [(.ref b39)])) st45 ?_
  refine Go.st (S' := T45.setTop (mkF m 21 #[.val (.int p0), .unset] [(.ref b39), (.ref b39)])) (fun t k => XS.dup X45.here hx rfl (hb hby dmethod_2_code_20) rfl rfl k) ?_
  refine Go.st (S' := T45.setTop (mkF m 22 #[.val (.int p0), .unset] [(.int (3 : Int32)), (.ref b39), (.ref b39)])) (fun t k => XS.iconst X45.here hx rfl (hb hby dmethod_2_code_21) k) ?_
  refine Go.st (S' := T45.setTop (mkF m 25 #[.val (.int p0), .unset] [(.long (1000 : Int64)), (.int (3 : Int32)), (.ref b39), (.ref b39)])) (fun t k => X45.ldc2Long hx hown (mvT hZ (hw _ (List.mem_of_getElem? (i := 14) rfl))) (g := (mkF m 22 #[.val (.int p0), .unset] [(.int (3 : Int32)), (.ref b39), (.ref b39)])) rfl (hb hby dmethod_2_code_22) t k) ?_
  obtain ⟨cl47, Ar47, q47, S47, N47_, H47, G47⟩ := id V45
  have hin47 : ¬ ((3 : Int32) < 0 ∨ cl47.slots.size ≤ ((3 : Int32)).toNatClampNeg) := inb_of S47 ⟨by decide, by decide⟩
  obtain ⟨T47, h47, X47, e47, W47, st47⟩ := stJ X45 hx hZ e45 Ar47 (j := (3 : Int32)) hin47 (g := (mkF m 25 #[.val (.int p0), .unset] [(.long (1000 : Int64)), (.int (3 : Int32)), (.ref b39), (.ref b39)])) rfl rfl (hb hby dmethod_2_code_25)
  have V47 : Arv Z h47 b39 k39 .long (19 : Int32) [(.long (1 : Int64)), (.long (10 : Int64)), (.long (100 : Int64)), (.long (1000 : Int64)), (.long (0 : Int64)), (.long (0 : Int64)), (.long (0 : Int64)), (.long (0 : Int64)), (.long (0 : Int64)), (.long (0 : Int64)), (.long (0 : Int64)), (.long (0 : Int64)), (.long (0 : Int64)), (.long (0 : Int64)), (.long (0 : Int64)), (.long (0 : Int64)), (.long (0 : Int64)), (.long (0 : Int64)), (.long (0 : Int64))] (.long (0 : Int64)) := Arv.set Ar47 q47 S47 N47_ H47 G47 rfl W47 3 rfl (Nat.le_of_ble_eq_true rfl)
  have N47 := Fr.snoc X47 N45 g_b39
  have Z48 : n0 ≤ h47.size := Nat.le_trans Z46 (Keep.of_wr W47).1
  have K48 : Keep h0 h47 [] := K46.wr W47 (Or.inr sz_b39)
  refine Go.st (S' := T47.setTop (mkF m 26 #[.val (.int p0), .unset] [(.ref b39)])) st47 ?_
  refine Go.st (S' := T47.setTop (mkF m 27 #[.val (.int p0), .unset] [(.ref b39), (.ref b39)])) (fun t k => XS.dup X47.here hx rfl (hb hby dmethod_2_code_26) rfl rfl k) ?_
  refine Go.st (S' := T47.setTop (mkF m 28 #[.val (.int p0), .unset] [(.int (4 : Int32)), (.ref b39), (.ref b39)])) (fun t k => XS.iconst X47.here hx rfl (hb hby dmethod_2_code_27) k) ?_
  refine Go.st (S' := T47.setTop (mkF m 31 #[.val (.int p0), .unset] [(.long (10000 : Int64)), (.int (4 : Int32)), (.ref b39), (.ref b39)])) (fun t k => X47.ldc2Long hx hown (mvT hZ (hw _ (List.mem_of_getElem? (i := 15) rfl))) (g := (mkF m 28 #[.val (.int p0), .unset] [(.int (4 : Int32)), (.ref b39), (.ref b39)])) rfl (hb hby dmethod_2_code_28) t k) ?_
  obtain ⟨cl49, Ar49, q49, S49, N49_, H49, G49⟩ := id V47
  have hin49 : ¬ ((4 : Int32) < 0 ∨ cl49.slots.size ≤ ((4 : Int32)).toNatClampNeg) := inb_of S49 ⟨by decide, by decide⟩
  obtain ⟨T49, h49, X49, e49, W49, st49⟩ := stJ X47 hx hZ e47 Ar49 (j := (4 : Int32)) hin49 (g := (mkF m 31 #[.val (.int p0), .unset] [(.long (10000 : Int64)), (.int (4 : Int32)), (.ref b39), (.ref b39)])) rfl rfl (hb hby dmethod_2_code_31)
  have V49 : Arv Z h49 b39 k39 .long (19 : Int32) [(.long (1 : Int64)), (.long (10 : Int64)), (.long (100 : Int64)), (.long (1000 : Int64)), (.long (10000 : Int64)), (.long (0 : Int64)), (.long (0 : Int64)), (.long (0 : Int64)), (.long (0 : Int64)), (.long (0 : Int64)), (.long (0 : Int64)), (.long (0 : Int64)), (.long (0 : Int64)), (.long (0 : Int64)), (.long (0 : Int64)), (.long (0 : Int64)), (.long (0 : Int64)), (.long (0 : Int64)), (.long (0 : Int64))] (.long (0 : Int64)) := Arv.set Ar49 q49 S49 N49_ H49 G49 rfl W49 4 rfl (Nat.le_of_ble_eq_true rfl)
  have N49 := Fr.snoc X49 N47 g_b39
  have Z50 : n0 ≤ h49.size := Nat.le_trans Z48 (Keep.of_wr W49).1
  have K50 : Keep h0 h49 [] := K48.wr W49 (Or.inr sz_b39)
  refine Go.st (S' := T49.setTop (mkF m 32 #[.val (.int p0), .unset] [(.ref b39)])) st49 ?_
  refine Go.st (S' := T49.setTop (mkF m 33 #[.val (.int p0), .unset] [(.ref b39), (.ref b39)])) (fun t k => XS.dup X49.here hx rfl (hb hby dmethod_2_code_32) rfl rfl k) ?_
  refine Go.st (S' := T49.setTop (mkF m 34 #[.val (.int p0), .unset] [(.int (5 : Int32)), (.ref b39), (.ref b39)])) (fun t k => XS.iconst X49.here hx rfl (hb hby dmethod_2_code_33) k) ?_
  refine Go.st (S' := T49.setTop (mkF m 37 #[.val (.int p0), .unset] [(.long (100000 : Int64)), (.int (5 : Int32)), (.ref b39), (.ref b39)])) (fun t k => X49.ldc2Long hx hown (mvT hZ (hw _ (List.mem_of_getElem? (i := 16) rfl))) (g := (mkF m 34 #[.val (.int p0), .unset] [(.int (5 : Int32)), (.ref b39), (.ref b39)])) rfl (hb hby dmethod_2_code_34) t k) ?_
  obtain ⟨cl51, Ar51, q51, S51, N51_, H51, G51⟩ := id V49
  have hin51 : ¬ ((5 : Int32) < 0 ∨ cl51.slots.size ≤ ((5 : Int32)).toNatClampNeg) := inb_of S51 ⟨by decide, by decide⟩
  obtain ⟨T51, h51, X51, e51, W51, st51⟩ := stJ X49 hx hZ e49 Ar51 (j := (5 : Int32)) hin51 (g := (mkF m 37 #[.val (.int p0), .unset] [(.long (100000 : Int64)), (.int (5 : Int32)), (.ref b39), (.ref b39)])) rfl rfl (hb hby dmethod_2_code_37)
  have V51 : Arv Z h51 b39 k39 .long (19 : Int32) [(.long (1 : Int64)), (.long (10 : Int64)), (.long (100 : Int64)), (.long (1000 : Int64)), (.long (10000 : Int64)), (.long (100000 : Int64)), (.long (0 : Int64)), (.long (0 : Int64)), (.long (0 : Int64)), (.long (0 : Int64)), (.long (0 : Int64)), (.long (0 : Int64)), (.long (0 : Int64)), (.long (0 : Int64)), (.long (0 : Int64)), (.long (0 : Int64)), (.long (0 : Int64)), (.long (0 : Int64)), (.long (0 : Int64))] (.long (0 : Int64)) := Arv.set Ar51 q51 S51 N51_ H51 G51 rfl W51 5 rfl (Nat.le_of_ble_eq_true rfl)
  have N51 := Fr.snoc X51 N49 g_b39
  have Z52 : n0 ≤ h51.size := Nat.le_trans Z50 (Keep.of_wr W51).1
  have K52 : Keep h0 h51 [] := K50.wr W51 (Or.inr sz_b39)
  refine Go.st (S' := T51.setTop (mkF m 38 #[.val (.int p0), .unset] [(.ref b39)])) st51 ?_
  refine Go.st (S' := T51.setTop (mkF m 39 #[.val (.int p0), .unset] [(.ref b39), (.ref b39)])) (fun t k => XS.dup X51.here hx rfl (hb hby dmethod_2_code_38) rfl rfl k) ?_
  refine Go.st (S' := T51.setTop (mkF m 41 #[.val (.int p0), .unset] [(.int (6 : Int32)), (.ref b39), (.ref b39)])) (fun t k => XS.bipush X51.here hx rfl (hb hby dmethod_2_code_39) k) ?_
  refine Go.st (S' := T51.setTop (mkF m 44 #[.val (.int p0), .unset] [(.long (1000000 : Int64)), (.int (6 : Int32)), (.ref b39), (.ref b39)])) (fun t k => X51.ldc2Long hx hown (mvT hZ (hw _ (List.mem_of_getElem? (i := 17) rfl))) (g := (mkF m 41 #[.val (.int p0), .unset] [(.int (6 : Int32)), (.ref b39), (.ref b39)])) rfl (hb hby dmethod_2_code_41) t k) ?_
  obtain ⟨cl53, Ar53, q53, S53, N53_, H53, G53⟩ := id V51
  have hin53 : ¬ ((6 : Int32) < 0 ∨ cl53.slots.size ≤ ((6 : Int32)).toNatClampNeg) := inb_of S53 ⟨by decide, by decide⟩
  obtain ⟨T53, h53, X53, e53, W53, st53⟩ := stJ X51 hx hZ e51 Ar53 (j := (6 : Int32)) hin53 (g := (mkF m 44 #[.val (.int p0), .unset] [(.long (1000000 : Int64)), (.int (6 : Int32)), (.ref b39), (.ref b39)])) rfl rfl (hb hby dmethod_2_code_44)
  have V53 : Arv Z h53 b39 k39 .long (19 : Int32) [(.long (1 : Int64)), (.long (10 : Int64)), (.long (100 : Int64)), (.long (1000 : Int64)), (.long (10000 : Int64)), (.long (100000 : Int64)), (.long (1000000 : Int64)), (.long (0 : Int64)), (.long (0 : Int64)), (.long (0 : Int64)), (.long (0 : Int64)), (.long (0 : Int64)), (.long (0 : Int64)), (.long (0 : Int64)), (.long (0 : Int64)), (.long (0 : Int64)), (.long (0 : Int64)), (.long (0 : Int64)), (.long (0 : Int64))] (.long (0 : Int64)) := Arv.set Ar53 q53 S53 N53_ H53 G53 rfl W53 6 rfl (Nat.le_of_ble_eq_true rfl)
  have N53 := Fr.snoc X53 N51 g_b39
  have Z54 : n0 ≤ h53.size := Nat.le_trans Z52 (Keep.of_wr W53).1
  have K54 : Keep h0 h53 [] := K52.wr W53 (Or.inr sz_b39)
  refine Go.st (S' := T53.setTop (mkF m 45 #[.val (.int p0), .unset] [(.ref b39)])) st53 ?_
  refine Go.st (S' := T53.setTop (mkF m 46 #[.val (.int p0), .unset] [(.ref b39), (.ref b39)])) (fun t k => XS.dup X53.here hx rfl (hb hby dmethod_2_code_45) rfl rfl k) ?_
  refine Go.st (S' := T53.setTop (mkF m 48 #[.val (.int p0), .unset] [(.int (7 : Int32)), (.ref b39), (.ref b39)])) (fun t k => XS.bipush X53.here hx rfl (hb hby dmethod_2_code_46) k) ?_
  refine Go.st (S' := T53.setTop (mkF m 51 #[.val (.int p0), .unset] [(.long (10000000 : Int64)), (.int (7 : Int32)), (.ref b39), (.ref b39)])) (fun t k => X53.ldc2Long hx hown (mvT hZ (hw _ (List.mem_of_getElem? (i := 18) rfl))) (g := (mkF m 48 #[.val (.int p0), .unset] [(.int (7 : Int32)), (.ref b39), (.ref b39)])) rfl (hb hby dmethod_2_code_48) t k) ?_
  obtain ⟨cl55, Ar55, q55, S55, N55_, H55, G55⟩ := id V53
  have hin55 : ¬ ((7 : Int32) < 0 ∨ cl55.slots.size ≤ ((7 : Int32)).toNatClampNeg) := inb_of S55 ⟨by decide, by decide⟩
  obtain ⟨T55, h55, X55, e55, W55, st55⟩ := stJ X53 hx hZ e53 Ar55 (j := (7 : Int32)) hin55 (g := (mkF m 51 #[.val (.int p0), .unset] [(.long (10000000 : Int64)), (.int (7 : Int32)), (.ref b39), (.ref b39)])) rfl rfl (hb hby dmethod_2_code_51)
  have V55 : Arv Z h55 b39 k39 .long (19 : Int32) [(.long (1 : Int64)), (.long (10 : Int64)), (.long (100 : Int64)), (.long (1000 : Int64)), (.long (10000 : Int64)), (.long (100000 : Int64)), (.long (1000000 : Int64)), (.long (10000000 : Int64)), (.long (0 : Int64)), (.long (0 : Int64)), (.long (0 : Int64)), (.long (0 : Int64)), (.long (0 : Int64)), (.long (0 : Int64)), (.long (0 : Int64)), (.long (0 : Int64)), (.long (0 : Int64)), (.long (0 : Int64)), (.long (0 : Int64))] (.long (0 : Int64)) := Arv.set Ar55 q55 S55 N55_ H55 G55 rfl W55 7 rfl (Nat.le_of_ble_eq_true rfl)
  have N55 := Fr.snoc X55 N53 g_b39
  have Z56 : n0 ≤ h55.size := Nat.le_trans Z54 (Keep.of_wr W55).1
  have K56 : Keep h0 h55 [] := K54.wr W55 (Or.inr sz_b39)
  refine Go.st (S' := T55.setTop (mkF m 52 #[.val (.int p0), .unset] [(.ref b39)])) st55 ?_
  refine Go.st (S' := T55.setTop (mkF m 53 #[.val (.int p0), .unset] [(.ref b39), (.ref b39)])) (fun t k => XS.dup X55.here hx rfl (hb hby dmethod_2_code_52) rfl rfl k) ?_
  refine Go.st (S' := T55.setTop (mkF m 55 #[.val (.int p0), .unset] [(.int (8 : Int32)), (.ref b39), (.ref b39)])) (fun t k => XS.bipush X55.here hx rfl (hb hby dmethod_2_code_53) k) ?_
  refine Go.st (S' := T55.setTop (mkF m 58 #[.val (.int p0), .unset] [(.long (100000000 : Int64)), (.int (8 : Int32)), (.ref b39), (.ref b39)])) (fun t k => X55.ldc2Long hx hown (mvT hZ (hw _ (List.mem_of_getElem? (i := 19) rfl))) (g := (mkF m 55 #[.val (.int p0), .unset] [(.int (8 : Int32)), (.ref b39), (.ref b39)])) rfl (hb hby dmethod_2_code_55) t k) ?_
  obtain ⟨cl57, Ar57, q57, S57, N57_, H57, G57⟩ := id V55
  have hin57 : ¬ ((8 : Int32) < 0 ∨ cl57.slots.size ≤ ((8 : Int32)).toNatClampNeg) := inb_of S57 ⟨by decide, by decide⟩
  obtain ⟨T57, h57, X57, e57, W57, st57⟩ := stJ X55 hx hZ e55 Ar57 (j := (8 : Int32)) hin57 (g := (mkF m 58 #[.val (.int p0), .unset] [(.long (100000000 : Int64)), (.int (8 : Int32)), (.ref b39), (.ref b39)])) rfl rfl (hb hby dmethod_2_code_58)
  have V57 : Arv Z h57 b39 k39 .long (19 : Int32) [(.long (1 : Int64)), (.long (10 : Int64)), (.long (100 : Int64)), (.long (1000 : Int64)), (.long (10000 : Int64)), (.long (100000 : Int64)), (.long (1000000 : Int64)), (.long (10000000 : Int64)), (.long (100000000 : Int64)), (.long (0 : Int64)), (.long (0 : Int64)), (.long (0 : Int64)), (.long (0 : Int64)), (.long (0 : Int64)), (.long (0 : Int64)), (.long (0 : Int64)), (.long (0 : Int64)), (.long (0 : Int64)), (.long (0 : Int64))] (.long (0 : Int64)) := Arv.set Ar57 q57 S57 N57_ H57 G57 rfl W57 8 rfl (Nat.le_of_ble_eq_true rfl)
  have N57 := Fr.snoc X57 N55 g_b39
  have Z58 : n0 ≤ h57.size := Nat.le_trans Z56 (Keep.of_wr W57).1
  have K58 : Keep h0 h57 [] := K56.wr W57 (Or.inr sz_b39)
  refine Go.st (S' := T57.setTop (mkF m 59 #[.val (.int p0), .unset] [(.ref b39)])) st57 ?_
  refine Go.st (S' := T57.setTop (mkF m 60 #[.val (.int p0), .unset] [(.ref b39), (.ref b39)])) (fun t k => XS.dup X57.here hx rfl (hb hby dmethod_2_code_59) rfl rfl k) ?_
  refine Go.st (S' := T57.setTop (mkF m 62 #[.val (.int p0), .unset] [(.int (9 : Int32)), (.ref b39), (.ref b39)])) (fun t k => XS.bipush X57.here hx rfl (hb hby dmethod_2_code_60) k) ?_
  refine Go.st (S' := T57.setTop (mkF m 65 #[.val (.int p0), .unset] [(.long (1000000000 : Int64)), (.int (9 : Int32)), (.ref b39), (.ref b39)])) (fun t k => X57.ldc2Long hx hown (mvT hZ (hw _ (List.mem_of_getElem? (i := 20) rfl))) (g := (mkF m 62 #[.val (.int p0), .unset] [(.int (9 : Int32)), (.ref b39), (.ref b39)])) rfl (hb hby dmethod_2_code_62) t k) ?_
  obtain ⟨cl59, Ar59, q59, S59, N59_, H59, G59⟩ := id V57
  have hin59 : ¬ ((9 : Int32) < 0 ∨ cl59.slots.size ≤ ((9 : Int32)).toNatClampNeg) := inb_of S59 ⟨by decide, by decide⟩
  obtain ⟨T59, h59, X59, e59, W59, st59⟩ := stJ X57 hx hZ e57 Ar59 (j := (9 : Int32)) hin59 (g := (mkF m 65 #[.val (.int p0), .unset] [(.long (1000000000 : Int64)), (.int (9 : Int32)), (.ref b39), (.ref b39)])) rfl rfl (hb hby dmethod_2_code_65)
  have V59 : Arv Z h59 b39 k39 .long (19 : Int32) [(.long (1 : Int64)), (.long (10 : Int64)), (.long (100 : Int64)), (.long (1000 : Int64)), (.long (10000 : Int64)), (.long (100000 : Int64)), (.long (1000000 : Int64)), (.long (10000000 : Int64)), (.long (100000000 : Int64)), (.long (1000000000 : Int64)), (.long (0 : Int64)), (.long (0 : Int64)), (.long (0 : Int64)), (.long (0 : Int64)), (.long (0 : Int64)), (.long (0 : Int64)), (.long (0 : Int64)), (.long (0 : Int64)), (.long (0 : Int64))] (.long (0 : Int64)) := Arv.set Ar59 q59 S59 N59_ H59 G59 rfl W59 9 rfl (Nat.le_of_ble_eq_true rfl)
  have N59 := Fr.snoc X59 N57 g_b39
  have Z60 : n0 ≤ h59.size := Nat.le_trans Z58 (Keep.of_wr W59).1
  have K60 : Keep h0 h59 [] := K58.wr W59 (Or.inr sz_b39)
  refine Go.st (S' := T59.setTop (mkF m 66 #[.val (.int p0), .unset] [(.ref b39)])) st59 ?_
  refine Go.st (S' := T59.setTop (mkF m 67 #[.val (.int p0), .unset] [(.ref b39), (.ref b39)])) (fun t k => XS.dup X59.here hx rfl (hb hby dmethod_2_code_66) rfl rfl k) ?_
  refine Go.st (S' := T59.setTop (mkF m 69 #[.val (.int p0), .unset] [(.int (10 : Int32)), (.ref b39), (.ref b39)])) (fun t k => XS.bipush X59.here hx rfl (hb hby dmethod_2_code_67) k) ?_
  refine Go.st (S' := T59.setTop (mkF m 72 #[.val (.int p0), .unset] [(.long (10000000000 : Int64)), (.int (10 : Int32)), (.ref b39), (.ref b39)])) (fun t k => X59.ldc2Long hx hown (mvT hZ (hw _ (List.mem_of_getElem? (i := 21) rfl))) (g := (mkF m 69 #[.val (.int p0), .unset] [(.int (10 : Int32)), (.ref b39), (.ref b39)])) rfl (hb hby dmethod_2_code_69) t k) ?_
  obtain ⟨cl61, Ar61, q61, S61, N61_, H61, G61⟩ := id V59
  have hin61 : ¬ ((10 : Int32) < 0 ∨ cl61.slots.size ≤ ((10 : Int32)).toNatClampNeg) := inb_of S61 ⟨by decide, by decide⟩
  obtain ⟨T61, h61, X61, e61, W61, st61⟩ := stJ X59 hx hZ e59 Ar61 (j := (10 : Int32)) hin61 (g := (mkF m 72 #[.val (.int p0), .unset] [(.long (10000000000 : Int64)), (.int (10 : Int32)), (.ref b39), (.ref b39)])) rfl rfl (hb hby dmethod_2_code_72)
  have V61 : Arv Z h61 b39 k39 .long (19 : Int32) [(.long (1 : Int64)), (.long (10 : Int64)), (.long (100 : Int64)), (.long (1000 : Int64)), (.long (10000 : Int64)), (.long (100000 : Int64)), (.long (1000000 : Int64)), (.long (10000000 : Int64)), (.long (100000000 : Int64)), (.long (1000000000 : Int64)), (.long (10000000000 : Int64)), (.long (0 : Int64)), (.long (0 : Int64)), (.long (0 : Int64)), (.long (0 : Int64)), (.long (0 : Int64)), (.long (0 : Int64)), (.long (0 : Int64)), (.long (0 : Int64))] (.long (0 : Int64)) := Arv.set Ar61 q61 S61 N61_ H61 G61 rfl W61 10 rfl (Nat.le_of_ble_eq_true rfl)
  have N61 := Fr.snoc X61 N59 g_b39
  have Z62 : n0 ≤ h61.size := Nat.le_trans Z60 (Keep.of_wr W61).1
  have K62 : Keep h0 h61 [] := K60.wr W61 (Or.inr sz_b39)
  refine Go.st (S' := T61.setTop (mkF m 73 #[.val (.int p0), .unset] [(.ref b39)])) st61 ?_
  refine Go.st (S' := T61.setTop (mkF m 74 #[.val (.int p0), .unset] [(.ref b39), (.ref b39)])) (fun t k => XS.dup X61.here hx rfl (hb hby dmethod_2_code_73) rfl rfl k) ?_
  refine Go.st (S' := T61.setTop (mkF m 76 #[.val (.int p0), .unset] [(.int (11 : Int32)), (.ref b39), (.ref b39)])) (fun t k => XS.bipush X61.here hx rfl (hb hby dmethod_2_code_74) k) ?_
  refine Go.st (S' := T61.setTop (mkF m 79 #[.val (.int p0), .unset] [(.long (100000000000 : Int64)), (.int (11 : Int32)), (.ref b39), (.ref b39)])) (fun t k => X61.ldc2Long hx hown (mvT hZ (hw _ (List.mem_of_getElem? (i := 22) rfl))) (g := (mkF m 76 #[.val (.int p0), .unset] [(.int (11 : Int32)), (.ref b39), (.ref b39)])) rfl (hb hby dmethod_2_code_76) t k) ?_
  obtain ⟨cl63, Ar63, q63, S63, N63_, H63, G63⟩ := id V61
  have hin63 : ¬ ((11 : Int32) < 0 ∨ cl63.slots.size ≤ ((11 : Int32)).toNatClampNeg) := inb_of S63 ⟨by decide, by decide⟩
  obtain ⟨T63, h63, X63, e63, W63, st63⟩ := stJ X61 hx hZ e61 Ar63 (j := (11 : Int32)) hin63 (g := (mkF m 79 #[.val (.int p0), .unset] [(.long (100000000000 : Int64)), (.int (11 : Int32)), (.ref b39), (.ref b39)])) rfl rfl (hb hby dmethod_2_code_79)
  have V63 : Arv Z h63 b39 k39 .long (19 : Int32) [(.long (1 : Int64)), (.long (10 : Int64)), (.long (100 : Int64)), (.long (1000 : Int64)), (.long (10000 : Int64)), (.long (100000 : Int64)), (.long (1000000 : Int64)), (.long (10000000 : Int64)), (.long (100000000 : Int64)), (.long (1000000000 : Int64)), (.long (10000000000 : Int64)), (.long (100000000000 : Int64)), (.long (0 : Int64)), (.long (0 : Int64)), (.long (0 : Int64)), (.long (0 : Int64)), (.long (0 : Int64)), (.long (0 : Int64)), (.long (0 : Int64))] (.long (0 : Int64)) := Arv.set Ar63 q63 S63 N63_ H63 G63 rfl W63 11 rfl (Nat.le_of_ble_eq_true rfl)
  have N63 := Fr.snoc X63 N61 g_b39
  have Z64 : n0 ≤ h63.size := Nat.le_trans Z62 (Keep.of_wr W63).1
  have K64 : Keep h0 h63 [] := K62.wr W63 (Or.inr sz_b39)
  refine Go.st (S' := T63.setTop (mkF m 80 #[.val (.int p0), .unset] [(.ref b39)])) st63 ?_
  refine Go.st (S' := T63.setTop (mkF m 81 #[.val (.int p0), .unset] [(.ref b39), (.ref b39)])) (fun t k => XS.dup X63.here hx rfl (hb hby dmethod_2_code_80) rfl rfl k) ?_
  refine Go.st (S' := T63.setTop (mkF m 83 #[.val (.int p0), .unset] [(.int (12 : Int32)), (.ref b39), (.ref b39)])) (fun t k => XS.bipush X63.here hx rfl (hb hby dmethod_2_code_81) k) ?_
  refine Go.st (S' := T63.setTop (mkF m 86 #[.val (.int p0), .unset] [(.long (1000000000000 : Int64)), (.int (12 : Int32)), (.ref b39), (.ref b39)])) (fun t k => X63.ldc2Long hx hown (mvT hZ (hw _ (List.mem_of_getElem? (i := 23) rfl))) (g := (mkF m 83 #[.val (.int p0), .unset] [(.int (12 : Int32)), (.ref b39), (.ref b39)])) rfl (hb hby dmethod_2_code_83) t k) ?_
  obtain ⟨cl65, Ar65, q65, S65, N65_, H65, G65⟩ := id V63
  have hin65 : ¬ ((12 : Int32) < 0 ∨ cl65.slots.size ≤ ((12 : Int32)).toNatClampNeg) := inb_of S65 ⟨by decide, by decide⟩
  obtain ⟨T65, h65, X65, e65, W65, st65⟩ := stJ X63 hx hZ e63 Ar65 (j := (12 : Int32)) hin65 (g := (mkF m 86 #[.val (.int p0), .unset] [(.long (1000000000000 : Int64)), (.int (12 : Int32)), (.ref b39), (.ref b39)])) rfl rfl (hb hby dmethod_2_code_86)
  have V65 : Arv Z h65 b39 k39 .long (19 : Int32) [(.long (1 : Int64)), (.long (10 : Int64)), (.long (100 : Int64)), (.long (1000 : Int64)), (.long (10000 : Int64)), (.long (100000 : Int64)), (.long (1000000 : Int64)), (.long (10000000 : Int64)), (.long (100000000 : Int64)), (.long (1000000000 : Int64)), (.long (10000000000 : Int64)), (.long (100000000000 : Int64)), (.long (1000000000000 : Int64)), (.long (0 : Int64)), (.long (0 : Int64)), (.long (0 : Int64)), (.long (0 : Int64)), (.long (0 : Int64)), (.long (0 : Int64))] (.long (0 : Int64)) := Arv.set Ar65 q65 S65 N65_ H65 G65 rfl W65 12 rfl (Nat.le_of_ble_eq_true rfl)
  have N65 := Fr.snoc X65 N63 g_b39
  have Z66 : n0 ≤ h65.size := Nat.le_trans Z64 (Keep.of_wr W65).1
  have K66 : Keep h0 h65 [] := K64.wr W65 (Or.inr sz_b39)
  refine Go.st (S' := T65.setTop (mkF m 87 #[.val (.int p0), .unset] [(.ref b39)])) st65 ?_
  refine Go.st (S' := T65.setTop (mkF m 88 #[.val (.int p0), .unset] [(.ref b39), (.ref b39)])) (fun t k => XS.dup X65.here hx rfl (hb hby dmethod_2_code_87) rfl rfl k) ?_
  refine Go.st (S' := T65.setTop (mkF m 90 #[.val (.int p0), .unset] [(.int (13 : Int32)), (.ref b39), (.ref b39)])) (fun t k => XS.bipush X65.here hx rfl (hb hby dmethod_2_code_88) k) ?_
  refine Go.st (S' := T65.setTop (mkF m 93 #[.val (.int p0), .unset] [(.long (10000000000000 : Int64)), (.int (13 : Int32)), (.ref b39), (.ref b39)])) (fun t k => X65.ldc2Long hx hown (mvT hZ (hw _ (List.mem_of_getElem? (i := 24) rfl))) (g := (mkF m 90 #[.val (.int p0), .unset] [(.int (13 : Int32)), (.ref b39), (.ref b39)])) rfl (hb hby dmethod_2_code_90) t k) ?_
  obtain ⟨cl67, Ar67, q67, S67, N67_, H67, G67⟩ := id V65
  have hin67 : ¬ ((13 : Int32) < 0 ∨ cl67.slots.size ≤ ((13 : Int32)).toNatClampNeg) := inb_of S67 ⟨by decide, by decide⟩
  obtain ⟨T67, h67, X67, e67, W67, st67⟩ := stJ X65 hx hZ e65 Ar67 (j := (13 : Int32)) hin67 (g := (mkF m 93 #[.val (.int p0), .unset] [(.long (10000000000000 : Int64)), (.int (13 : Int32)), (.ref b39), (.ref b39)])) rfl rfl (hb hby dmethod_2_code_93)
  have V67 : Arv Z h67 b39 k39 .long (19 : Int32) [(.long (1 : Int64)), (.long (10 : Int64)), (.long (100 : Int64)), (.long (1000 : Int64)), (.long (10000 : Int64)), (.long (100000 : Int64)), (.long (1000000 : Int64)), (.long (10000000 : Int64)), (.long (100000000 : Int64)), (.long (1000000000 : Int64)), (.long (10000000000 : Int64)), (.long (100000000000 : Int64)), (.long (1000000000000 : Int64)), (.long (10000000000000 : Int64)), (.long (0 : Int64)), (.long (0 : Int64)), (.long (0 : Int64)), (.long (0 : Int64)), (.long (0 : Int64))] (.long (0 : Int64)) := Arv.set Ar67 q67 S67 N67_ H67 G67 rfl W67 13 rfl (Nat.le_of_ble_eq_true rfl)
  have N67 := Fr.snoc X67 N65 g_b39
  have Z68 : n0 ≤ h67.size := Nat.le_trans Z66 (Keep.of_wr W67).1
  have K68 : Keep h0 h67 [] := K66.wr W67 (Or.inr sz_b39)
  refine Go.st (S' := T67.setTop (mkF m 94 #[.val (.int p0), .unset] [(.ref b39)])) st67 ?_
  refine Go.st (S' := T67.setTop (mkF m 95 #[.val (.int p0), .unset] [(.ref b39), (.ref b39)])) (fun t k => XS.dup X67.here hx rfl (hb hby dmethod_2_code_94) rfl rfl k) ?_
  refine Go.st (S' := T67.setTop (mkF m 97 #[.val (.int p0), .unset] [(.int (14 : Int32)), (.ref b39), (.ref b39)])) (fun t k => XS.bipush X67.here hx rfl (hb hby dmethod_2_code_95) k) ?_
  refine Go.st (S' := T67.setTop (mkF m 100 #[.val (.int p0), .unset] [(.long (100000000000000 : Int64)), (.int (14 : Int32)), (.ref b39), (.ref b39)])) (fun t k => X67.ldc2Long hx hown (mvT hZ (hw _ (List.mem_of_getElem? (i := 25) rfl))) (g := (mkF m 97 #[.val (.int p0), .unset] [(.int (14 : Int32)), (.ref b39), (.ref b39)])) rfl (hb hby dmethod_2_code_97) t k) ?_
  obtain ⟨cl69, Ar69, q69, S69, N69_, H69, G69⟩ := id V67
  have hin69 : ¬ ((14 : Int32) < 0 ∨ cl69.slots.size ≤ ((14 : Int32)).toNatClampNeg) := inb_of S69 ⟨by decide, by decide⟩
  obtain ⟨T69, h69, X69, e69, W69, st69⟩ := stJ X67 hx hZ e67 Ar69 (j := (14 : Int32)) hin69 (g := (mkF m 100 #[.val (.int p0), .unset] [(.long (100000000000000 : Int64)), (.int (14 : Int32)), (.ref b39), (.ref b39)])) rfl rfl (hb hby dmethod_2_code_100)
  have V69 : Arv Z h69 b39 k39 .long (19 : Int32) [(.long (1 : Int64)), (.long (10 : Int64)), (.long (100 : Int64)), (.long (1000 : Int64)), (.long (10000 : Int64)), (.long (100000 : Int64)), (.long (1000000 : Int64)), (.long (10000000 : Int64)), (.long (100000000 : Int64)), (.long (1000000000 : Int64)), (.long (10000000000 : Int64)), (.long (100000000000 : Int64)), (.long (1000000000000 : Int64)), (.long (10000000000000 : Int64)), (.long (100000000000000 : Int64)), (.long (0 : Int64)), (.long (0 : Int64)), (.long (0 : Int64)), (.long (0 : Int64))] (.long (0 : Int64)) := Arv.set Ar69 q69 S69 N69_ H69 G69 rfl W69 14 rfl (Nat.le_of_ble_eq_true rfl)
  have N69 := Fr.snoc X69 N67 g_b39
  have Z70 : n0 ≤ h69.size := Nat.le_trans Z68 (Keep.of_wr W69).1
  have K70 : Keep h0 h69 [] := K68.wr W69 (Or.inr sz_b39)
  refine Go.st (S' := T69.setTop (mkF m 101 #[.val (.int p0), .unset] [(.ref b39)])) st69 ?_
  refine Go.st (S' := T69.setTop (mkF m 102 #[.val (.int p0), .unset] [(.ref b39), (.ref b39)])) (fun t k => XS.dup X69.here hx rfl (hb hby dmethod_2_code_101) rfl rfl k) ?_
  refine Go.st (S' := T69.setTop (mkF m 104 #[.val (.int p0), .unset] [(.int (15 : Int32)), (.ref b39), (.ref b39)])) (fun t k => XS.bipush X69.here hx rfl (hb hby dmethod_2_code_102) k) ?_
  refine Go.st (S' := T69.setTop (mkF m 107 #[.val (.int p0), .unset] [(.long (1000000000000000 : Int64)), (.int (15 : Int32)), (.ref b39), (.ref b39)])) (fun t k => X69.ldc2Long hx hown (mvT hZ (hw _ (List.mem_of_getElem? (i := 26) rfl))) (g := (mkF m 104 #[.val (.int p0), .unset] [(.int (15 : Int32)), (.ref b39), (.ref b39)])) rfl (hb hby dmethod_2_code_104) t k) ?_
  obtain ⟨cl71, Ar71, q71, S71, N71_, H71, G71⟩ := id V69
  have hin71 : ¬ ((15 : Int32) < 0 ∨ cl71.slots.size ≤ ((15 : Int32)).toNatClampNeg) := inb_of S71 ⟨by decide, by decide⟩
  obtain ⟨T71, h71, X71, e71, W71, st71⟩ := stJ X69 hx hZ e69 Ar71 (j := (15 : Int32)) hin71 (g := (mkF m 107 #[.val (.int p0), .unset] [(.long (1000000000000000 : Int64)), (.int (15 : Int32)), (.ref b39), (.ref b39)])) rfl rfl (hb hby dmethod_2_code_107)
  have V71 : Arv Z h71 b39 k39 .long (19 : Int32) [(.long (1 : Int64)), (.long (10 : Int64)), (.long (100 : Int64)), (.long (1000 : Int64)), (.long (10000 : Int64)), (.long (100000 : Int64)), (.long (1000000 : Int64)), (.long (10000000 : Int64)), (.long (100000000 : Int64)), (.long (1000000000 : Int64)), (.long (10000000000 : Int64)), (.long (100000000000 : Int64)), (.long (1000000000000 : Int64)), (.long (10000000000000 : Int64)), (.long (100000000000000 : Int64)), (.long (1000000000000000 : Int64)), (.long (0 : Int64)), (.long (0 : Int64)), (.long (0 : Int64))] (.long (0 : Int64)) := Arv.set Ar71 q71 S71 N71_ H71 G71 rfl W71 15 rfl (Nat.le_of_ble_eq_true rfl)
  have N71 := Fr.snoc X71 N69 g_b39
  have Z72 : n0 ≤ h71.size := Nat.le_trans Z70 (Keep.of_wr W71).1
  have K72 : Keep h0 h71 [] := K70.wr W71 (Or.inr sz_b39)
  refine Go.st (S' := T71.setTop (mkF m 108 #[.val (.int p0), .unset] [(.ref b39)])) st71 ?_
  refine Go.st (S' := T71.setTop (mkF m 109 #[.val (.int p0), .unset] [(.ref b39), (.ref b39)])) (fun t k => XS.dup X71.here hx rfl (hb hby dmethod_2_code_108) rfl rfl k) ?_
  refine Go.st (S' := T71.setTop (mkF m 111 #[.val (.int p0), .unset] [(.int (16 : Int32)), (.ref b39), (.ref b39)])) (fun t k => XS.bipush X71.here hx rfl (hb hby dmethod_2_code_109) k) ?_
  refine Go.st (S' := T71.setTop (mkF m 114 #[.val (.int p0), .unset] [(.long (10000000000000000 : Int64)), (.int (16 : Int32)), (.ref b39), (.ref b39)])) (fun t k => X71.ldc2Long hx hown (mvT hZ (hw _ (List.mem_of_getElem? (i := 27) rfl))) (g := (mkF m 111 #[.val (.int p0), .unset] [(.int (16 : Int32)), (.ref b39), (.ref b39)])) rfl (hb hby dmethod_2_code_111) t k) ?_
  obtain ⟨cl73, Ar73, q73, S73, N73_, H73, G73⟩ := id V71
  have hin73 : ¬ ((16 : Int32) < 0 ∨ cl73.slots.size ≤ ((16 : Int32)).toNatClampNeg) := inb_of S73 ⟨by decide, by decide⟩
  obtain ⟨T73, h73, X73, e73, W73, st73⟩ := stJ X71 hx hZ e71 Ar73 (j := (16 : Int32)) hin73 (g := (mkF m 114 #[.val (.int p0), .unset] [(.long (10000000000000000 : Int64)), (.int (16 : Int32)), (.ref b39), (.ref b39)])) rfl rfl (hb hby dmethod_2_code_114)
  have V73 : Arv Z h73 b39 k39 .long (19 : Int32) [(.long (1 : Int64)), (.long (10 : Int64)), (.long (100 : Int64)), (.long (1000 : Int64)), (.long (10000 : Int64)), (.long (100000 : Int64)), (.long (1000000 : Int64)), (.long (10000000 : Int64)), (.long (100000000 : Int64)), (.long (1000000000 : Int64)), (.long (10000000000 : Int64)), (.long (100000000000 : Int64)), (.long (1000000000000 : Int64)), (.long (10000000000000 : Int64)), (.long (100000000000000 : Int64)), (.long (1000000000000000 : Int64)), (.long (10000000000000000 : Int64)), (.long (0 : Int64)), (.long (0 : Int64))] (.long (0 : Int64)) := Arv.set Ar73 q73 S73 N73_ H73 G73 rfl W73 16 rfl (Nat.le_of_ble_eq_true rfl)
  have N73 := Fr.snoc X73 N71 g_b39
  have Z74 : n0 ≤ h73.size := Nat.le_trans Z72 (Keep.of_wr W73).1
  have K74 : Keep h0 h73 [] := K72.wr W73 (Or.inr sz_b39)
  refine Go.st (S' := T73.setTop (mkF m 115 #[.val (.int p0), .unset] [(.ref b39)])) st73 ?_
  refine Go.st (S' := T73.setTop (mkF m 116 #[.val (.int p0), .unset] [(.ref b39), (.ref b39)])) (fun t k => XS.dup X73.here hx rfl (hb hby dmethod_2_code_115) rfl rfl k) ?_
  refine Go.st (S' := T73.setTop (mkF m 118 #[.val (.int p0), .unset] [(.int (17 : Int32)), (.ref b39), (.ref b39)])) (fun t k => XS.bipush X73.here hx rfl (hb hby dmethod_2_code_116) k) ?_
  refine Go.st (S' := T73.setTop (mkF m 121 #[.val (.int p0), .unset] [(.long (100000000000000000 : Int64)), (.int (17 : Int32)), (.ref b39), (.ref b39)])) (fun t k => X73.ldc2Long hx hown (mvT hZ (hw _ (List.mem_of_getElem? (i := 28) rfl))) (g := (mkF m 118 #[.val (.int p0), .unset] [(.int (17 : Int32)), (.ref b39), (.ref b39)])) rfl (hb hby dmethod_2_code_118) t k) ?_
  obtain ⟨cl75, Ar75, q75, S75, N75_, H75, G75⟩ := id V73
  have hin75 : ¬ ((17 : Int32) < 0 ∨ cl75.slots.size ≤ ((17 : Int32)).toNatClampNeg) := inb_of S75 ⟨by decide, by decide⟩
  obtain ⟨T75, h75, X75, e75, W75, st75⟩ := stJ X73 hx hZ e73 Ar75 (j := (17 : Int32)) hin75 (g := (mkF m 121 #[.val (.int p0), .unset] [(.long (100000000000000000 : Int64)), (.int (17 : Int32)), (.ref b39), (.ref b39)])) rfl rfl (hb hby dmethod_2_code_121)
  have V75 : Arv Z h75 b39 k39 .long (19 : Int32) [(.long (1 : Int64)), (.long (10 : Int64)), (.long (100 : Int64)), (.long (1000 : Int64)), (.long (10000 : Int64)), (.long (100000 : Int64)), (.long (1000000 : Int64)), (.long (10000000 : Int64)), (.long (100000000 : Int64)), (.long (1000000000 : Int64)), (.long (10000000000 : Int64)), (.long (100000000000 : Int64)), (.long (1000000000000 : Int64)), (.long (10000000000000 : Int64)), (.long (100000000000000 : Int64)), (.long (1000000000000000 : Int64)), (.long (10000000000000000 : Int64)), (.long (100000000000000000 : Int64)), (.long (0 : Int64))] (.long (0 : Int64)) := Arv.set Ar75 q75 S75 N75_ H75 G75 rfl W75 17 rfl (Nat.le_of_ble_eq_true rfl)
  have N75 := Fr.snoc X75 N73 g_b39
  have Z76 : n0 ≤ h75.size := Nat.le_trans Z74 (Keep.of_wr W75).1
  have K76 : Keep h0 h75 [] := K74.wr W75 (Or.inr sz_b39)
  refine Go.st (S' := T75.setTop (mkF m 122 #[.val (.int p0), .unset] [(.ref b39)])) st75 ?_
  refine Go.st (S' := T75.setTop (mkF m 123 #[.val (.int p0), .unset] [(.ref b39), (.ref b39)])) (fun t k => XS.dup X75.here hx rfl (hb hby dmethod_2_code_122) rfl rfl k) ?_
  refine Go.st (S' := T75.setTop (mkF m 125 #[.val (.int p0), .unset] [(.int (18 : Int32)), (.ref b39), (.ref b39)])) (fun t k => XS.bipush X75.here hx rfl (hb hby dmethod_2_code_123) k) ?_
  refine Go.st (S' := T75.setTop (mkF m 128 #[.val (.int p0), .unset] [(.long (1000000000000000000 : Int64)), (.int (18 : Int32)), (.ref b39), (.ref b39)])) (fun t k => X75.ldc2Long hx hown (mvT hZ (hw _ (List.mem_of_getElem? (i := 29) rfl))) (g := (mkF m 125 #[.val (.int p0), .unset] [(.int (18 : Int32)), (.ref b39), (.ref b39)])) rfl (hb hby dmethod_2_code_125) t k) ?_
  obtain ⟨cl77, Ar77, q77, S77, N77_, H77, G77⟩ := id V75
  have hin77 : ¬ ((18 : Int32) < 0 ∨ cl77.slots.size ≤ ((18 : Int32)).toNatClampNeg) := inb_of S77 ⟨by decide, by decide⟩
  obtain ⟨T77, h77, X77, e77, W77, st77⟩ := stJ X75 hx hZ e75 Ar77 (j := (18 : Int32)) hin77 (g := (mkF m 128 #[.val (.int p0), .unset] [(.long (1000000000000000000 : Int64)), (.int (18 : Int32)), (.ref b39), (.ref b39)])) rfl rfl (hb hby dmethod_2_code_128)
  have V77 : Arv Z h77 b39 k39 .long (19 : Int32) [(.long (1 : Int64)), (.long (10 : Int64)), (.long (100 : Int64)), (.long (1000 : Int64)), (.long (10000 : Int64)), (.long (100000 : Int64)), (.long (1000000 : Int64)), (.long (10000000 : Int64)), (.long (100000000 : Int64)), (.long (1000000000 : Int64)), (.long (10000000000 : Int64)), (.long (100000000000 : Int64)), (.long (1000000000000 : Int64)), (.long (10000000000000 : Int64)), (.long (100000000000000 : Int64)), (.long (1000000000000000 : Int64)), (.long (10000000000000000 : Int64)), (.long (100000000000000000 : Int64)), (.long (1000000000000000000 : Int64))] (.long (0 : Int64)) := Arv.set Ar77 q77 S77 N77_ H77 G77 rfl W77 18 rfl (Nat.le_of_ble_eq_true rfl)
  have N77 := Fr.snoc X77 N75 g_b39
  have Z78 : n0 ≤ h77.size := Nat.le_trans Z76 (Keep.of_wr W77).1
  have K78 : Keep h0 h77 [] := K76.wr W77 (Or.inr sz_b39)
  refine Go.st (S' := T77.setTop (mkF m 129 #[.val (.int p0), .unset] [(.ref b39)])) st77 ?_
  refine Go.st (S' := T77.setTop (mkF m 130 #[.val (.int p0), .val (.ref b39)] [])) (fun t k => XS.astoreN X77.here hx rfl (hb hby dmethod_2_code_129) rfl rfl (l' := #[.val (.int p0), .val (.ref b39)]) rfl k) ?_
  refine Go.st (S' := T77.setTop (mkF m 131 #[.val (.int p0), .val (.ref b39)] [(.ref b39)])) (fun t k => XS.aloadN X77.here hx rfl (hb hby dmethod_2_code_130) rfl rfl k) ?_
  refine Go.st (S' := T77.setTop (mkF m 132 #[.val (.int p0), .val (.ref b39)] [(.int p0), (.ref b39)])) (fun t k => XS.iloadN X77.here hx rfl (hb hby dmethod_2_code_131) rfl k) ?_
  by_cases hj80 : p0 = (0 : Int32)
  · obtain ⟨cl81, Ar81, -, S81, N81_, H81, -⟩ := id V77
    have hin81 : ¬ (p0 < 0 ∨ cl81.slots.size ≤ (p0).toNatClampNeg) := by rw [hj80]; exact inb_of S81 ⟨by decide, by decide⟩
    have hat81 : cl81.slots[(p0).toNatClampNeg]? = some (.long (1 : Int64)) := Has.at H81 hin81 (by rw [hj80]; rfl)
    refine Go.st (S' := T77.setTop (mkF m 133 #[.val (.int p0), .val (.ref b39)] [(.long (1 : Int64))])) (fun t k => X77.laload hx (j := p0) (v := (.long (1 : Int64))) (own_eh e77 Ar81.1) (State.isArrayOf_alike hZ.alike Ar81.2.1) Ar81.2.2 hin81 hat81 (g := (mkF m 132 #[.val (.int p0), .val (.ref b39)] [(.int p0), (.ref b39)])) rfl rfl (hb hby dmethod_2_code_132) t k) ?_
    have f82 := ((((((((((((((((((((((((((((((((((((((B39).wr W41)).wr W43)).wr W45)).wr W47)).wr W49)).wr W51)).wr W53)).wr W55)).wr W57)).wr W59)).wr W61)).wr W63)).wr W65)).wr W67)).wr W69)).wr W71)).wr W73)).wr W75)).wr W77)
    exact Go.ret X77 (v := some (.long (1 : Int64))) (fun h => by rw [Bd.returns] at h; cases h) Bd.notSynchronized (fun fs hr => retOut X77 hx Bd.returns rfl (Or.inr (Or.inl ⟨rfl, rfl, _, rfl⟩)) (hb hby dmethod_2_code_133) hr) (by decide) (by decide) (by rw [e77]; exact ⟨(1 : Int64), (by rw [hj80]; decide +kernel), rfl, N77, K78⟩)
  · by_cases hj83 : p0 = (1 : Int32)
    · obtain ⟨cl84, Ar84, -, S84, N84_, H84, -⟩ := id V77
      have hin84 : ¬ (p0 < 0 ∨ cl84.slots.size ≤ (p0).toNatClampNeg) := by rw [hj83]; exact inb_of S84 ⟨by decide, by decide⟩
      have hat84 : cl84.slots[(p0).toNatClampNeg]? = some (.long (10 : Int64)) := Has.at H84 hin84 (by rw [hj83]; rfl)
      refine Go.st (S' := T77.setTop (mkF m 133 #[.val (.int p0), .val (.ref b39)] [(.long (10 : Int64))])) (fun t k => X77.laload hx (j := p0) (v := (.long (10 : Int64))) (own_eh e77 Ar84.1) (State.isArrayOf_alike hZ.alike Ar84.2.1) Ar84.2.2 hin84 hat84 (g := (mkF m 132 #[.val (.int p0), .val (.ref b39)] [(.int p0), (.ref b39)])) rfl rfl (hb hby dmethod_2_code_132) t k) ?_
      have f85 := ((((((((((((((((((((((((((((((((((((((B39).wr W41)).wr W43)).wr W45)).wr W47)).wr W49)).wr W51)).wr W53)).wr W55)).wr W57)).wr W59)).wr W61)).wr W63)).wr W65)).wr W67)).wr W69)).wr W71)).wr W73)).wr W75)).wr W77)
      exact Go.ret X77 (v := some (.long (10 : Int64))) (fun h => by rw [Bd.returns] at h; cases h) Bd.notSynchronized (fun fs hr => retOut X77 hx Bd.returns rfl (Or.inr (Or.inl ⟨rfl, rfl, _, rfl⟩)) (hb hby dmethod_2_code_133) hr) (by decide) (by decide) (by rw [e77]; exact ⟨(10 : Int64), (by rw [hj83]; decide +kernel), rfl, N77, K78⟩)
    · by_cases hj86 : p0 = (2 : Int32)
      · obtain ⟨cl87, Ar87, -, S87, N87_, H87, -⟩ := id V77
        have hin87 : ¬ (p0 < 0 ∨ cl87.slots.size ≤ (p0).toNatClampNeg) := by rw [hj86]; exact inb_of S87 ⟨by decide, by decide⟩
        have hat87 : cl87.slots[(p0).toNatClampNeg]? = some (.long (100 : Int64)) := Has.at H87 hin87 (by rw [hj86]; rfl)
        refine Go.st (S' := T77.setTop (mkF m 133 #[.val (.int p0), .val (.ref b39)] [(.long (100 : Int64))])) (fun t k => X77.laload hx (j := p0) (v := (.long (100 : Int64))) (own_eh e77 Ar87.1) (State.isArrayOf_alike hZ.alike Ar87.2.1) Ar87.2.2 hin87 hat87 (g := (mkF m 132 #[.val (.int p0), .val (.ref b39)] [(.int p0), (.ref b39)])) rfl rfl (hb hby dmethod_2_code_132) t k) ?_
        have f88 := ((((((((((((((((((((((((((((((((((((((B39).wr W41)).wr W43)).wr W45)).wr W47)).wr W49)).wr W51)).wr W53)).wr W55)).wr W57)).wr W59)).wr W61)).wr W63)).wr W65)).wr W67)).wr W69)).wr W71)).wr W73)).wr W75)).wr W77)
        exact Go.ret X77 (v := some (.long (100 : Int64))) (fun h => by rw [Bd.returns] at h; cases h) Bd.notSynchronized (fun fs hr => retOut X77 hx Bd.returns rfl (Or.inr (Or.inl ⟨rfl, rfl, _, rfl⟩)) (hb hby dmethod_2_code_133) hr) (by decide) (by decide) (by rw [e77]; exact ⟨(100 : Int64), (by rw [hj86]; decide +kernel), rfl, N77, K78⟩)
      · by_cases hj89 : p0 = (3 : Int32)
        · obtain ⟨cl90, Ar90, -, S90, N90_, H90, -⟩ := id V77
          have hin90 : ¬ (p0 < 0 ∨ cl90.slots.size ≤ (p0).toNatClampNeg) := by rw [hj89]; exact inb_of S90 ⟨by decide, by decide⟩
          have hat90 : cl90.slots[(p0).toNatClampNeg]? = some (.long (1000 : Int64)) := Has.at H90 hin90 (by rw [hj89]; rfl)
          refine Go.st (S' := T77.setTop (mkF m 133 #[.val (.int p0), .val (.ref b39)] [(.long (1000 : Int64))])) (fun t k => X77.laload hx (j := p0) (v := (.long (1000 : Int64))) (own_eh e77 Ar90.1) (State.isArrayOf_alike hZ.alike Ar90.2.1) Ar90.2.2 hin90 hat90 (g := (mkF m 132 #[.val (.int p0), .val (.ref b39)] [(.int p0), (.ref b39)])) rfl rfl (hb hby dmethod_2_code_132) t k) ?_
          have f91 := ((((((((((((((((((((((((((((((((((((((B39).wr W41)).wr W43)).wr W45)).wr W47)).wr W49)).wr W51)).wr W53)).wr W55)).wr W57)).wr W59)).wr W61)).wr W63)).wr W65)).wr W67)).wr W69)).wr W71)).wr W73)).wr W75)).wr W77)
          exact Go.ret X77 (v := some (.long (1000 : Int64))) (fun h => by rw [Bd.returns] at h; cases h) Bd.notSynchronized (fun fs hr => retOut X77 hx Bd.returns rfl (Or.inr (Or.inl ⟨rfl, rfl, _, rfl⟩)) (hb hby dmethod_2_code_133) hr) (by decide) (by decide) (by rw [e77]; exact ⟨(1000 : Int64), (by rw [hj89]; decide +kernel), rfl, N77, K78⟩)
        · by_cases hj92 : p0 = (4 : Int32)
          · obtain ⟨cl93, Ar93, -, S93, N93_, H93, -⟩ := id V77
            have hin93 : ¬ (p0 < 0 ∨ cl93.slots.size ≤ (p0).toNatClampNeg) := by rw [hj92]; exact inb_of S93 ⟨by decide, by decide⟩
            have hat93 : cl93.slots[(p0).toNatClampNeg]? = some (.long (10000 : Int64)) := Has.at H93 hin93 (by rw [hj92]; rfl)
            refine Go.st (S' := T77.setTop (mkF m 133 #[.val (.int p0), .val (.ref b39)] [(.long (10000 : Int64))])) (fun t k => X77.laload hx (j := p0) (v := (.long (10000 : Int64))) (own_eh e77 Ar93.1) (State.isArrayOf_alike hZ.alike Ar93.2.1) Ar93.2.2 hin93 hat93 (g := (mkF m 132 #[.val (.int p0), .val (.ref b39)] [(.int p0), (.ref b39)])) rfl rfl (hb hby dmethod_2_code_132) t k) ?_
            have f94 := ((((((((((((((((((((((((((((((((((((((B39).wr W41)).wr W43)).wr W45)).wr W47)).wr W49)).wr W51)).wr W53)).wr W55)).wr W57)).wr W59)).wr W61)).wr W63)).wr W65)).wr W67)).wr W69)).wr W71)).wr W73)).wr W75)).wr W77)
            exact Go.ret X77 (v := some (.long (10000 : Int64))) (fun h => by rw [Bd.returns] at h; cases h) Bd.notSynchronized (fun fs hr => retOut X77 hx Bd.returns rfl (Or.inr (Or.inl ⟨rfl, rfl, _, rfl⟩)) (hb hby dmethod_2_code_133) hr) (by decide) (by decide) (by rw [e77]; exact ⟨(10000 : Int64), (by rw [hj92]; decide +kernel), rfl, N77, K78⟩)
          · by_cases hj95 : p0 = (5 : Int32)
            · obtain ⟨cl96, Ar96, -, S96, N96_, H96, -⟩ := id V77
              have hin96 : ¬ (p0 < 0 ∨ cl96.slots.size ≤ (p0).toNatClampNeg) := by rw [hj95]; exact inb_of S96 ⟨by decide, by decide⟩
              have hat96 : cl96.slots[(p0).toNatClampNeg]? = some (.long (100000 : Int64)) := Has.at H96 hin96 (by rw [hj95]; rfl)
              refine Go.st (S' := T77.setTop (mkF m 133 #[.val (.int p0), .val (.ref b39)] [(.long (100000 : Int64))])) (fun t k => X77.laload hx (j := p0) (v := (.long (100000 : Int64))) (own_eh e77 Ar96.1) (State.isArrayOf_alike hZ.alike Ar96.2.1) Ar96.2.2 hin96 hat96 (g := (mkF m 132 #[.val (.int p0), .val (.ref b39)] [(.int p0), (.ref b39)])) rfl rfl (hb hby dmethod_2_code_132) t k) ?_
              have f97 := ((((((((((((((((((((((((((((((((((((((B39).wr W41)).wr W43)).wr W45)).wr W47)).wr W49)).wr W51)).wr W53)).wr W55)).wr W57)).wr W59)).wr W61)).wr W63)).wr W65)).wr W67)).wr W69)).wr W71)).wr W73)).wr W75)).wr W77)
              exact Go.ret X77 (v := some (.long (100000 : Int64))) (fun h => by rw [Bd.returns] at h; cases h) Bd.notSynchronized (fun fs hr => retOut X77 hx Bd.returns rfl (Or.inr (Or.inl ⟨rfl, rfl, _, rfl⟩)) (hb hby dmethod_2_code_133) hr) (by decide) (by decide) (by rw [e77]; exact ⟨(100000 : Int64), (by rw [hj95]; decide +kernel), rfl, N77, K78⟩)
            · by_cases hj98 : p0 = (6 : Int32)
              · obtain ⟨cl99, Ar99, -, S99, N99_, H99, -⟩ := id V77
                have hin99 : ¬ (p0 < 0 ∨ cl99.slots.size ≤ (p0).toNatClampNeg) := by rw [hj98]; exact inb_of S99 ⟨by decide, by decide⟩
                have hat99 : cl99.slots[(p0).toNatClampNeg]? = some (.long (1000000 : Int64)) := Has.at H99 hin99 (by rw [hj98]; rfl)
                refine Go.st (S' := T77.setTop (mkF m 133 #[.val (.int p0), .val (.ref b39)] [(.long (1000000 : Int64))])) (fun t k => X77.laload hx (j := p0) (v := (.long (1000000 : Int64))) (own_eh e77 Ar99.1) (State.isArrayOf_alike hZ.alike Ar99.2.1) Ar99.2.2 hin99 hat99 (g := (mkF m 132 #[.val (.int p0), .val (.ref b39)] [(.int p0), (.ref b39)])) rfl rfl (hb hby dmethod_2_code_132) t k) ?_
                have f100 := ((((((((((((((((((((((((((((((((((((((B39).wr W41)).wr W43)).wr W45)).wr W47)).wr W49)).wr W51)).wr W53)).wr W55)).wr W57)).wr W59)).wr W61)).wr W63)).wr W65)).wr W67)).wr W69)).wr W71)).wr W73)).wr W75)).wr W77)
                exact Go.ret X77 (v := some (.long (1000000 : Int64))) (fun h => by rw [Bd.returns] at h; cases h) Bd.notSynchronized (fun fs hr => retOut X77 hx Bd.returns rfl (Or.inr (Or.inl ⟨rfl, rfl, _, rfl⟩)) (hb hby dmethod_2_code_133) hr) (by decide) (by decide) (by rw [e77]; exact ⟨(1000000 : Int64), (by rw [hj98]; decide +kernel), rfl, N77, K78⟩)
              · by_cases hj101 : p0 = (7 : Int32)
                · obtain ⟨cl102, Ar102, -, S102, N102_, H102, -⟩ := id V77
                  have hin102 : ¬ (p0 < 0 ∨ cl102.slots.size ≤ (p0).toNatClampNeg) := by rw [hj101]; exact inb_of S102 ⟨by decide, by decide⟩
                  have hat102 : cl102.slots[(p0).toNatClampNeg]? = some (.long (10000000 : Int64)) := Has.at H102 hin102 (by rw [hj101]; rfl)
                  refine Go.st (S' := T77.setTop (mkF m 133 #[.val (.int p0), .val (.ref b39)] [(.long (10000000 : Int64))])) (fun t k => X77.laload hx (j := p0) (v := (.long (10000000 : Int64))) (own_eh e77 Ar102.1) (State.isArrayOf_alike hZ.alike Ar102.2.1) Ar102.2.2 hin102 hat102 (g := (mkF m 132 #[.val (.int p0), .val (.ref b39)] [(.int p0), (.ref b39)])) rfl rfl (hb hby dmethod_2_code_132) t k) ?_
                  have f103 := ((((((((((((((((((((((((((((((((((((((B39).wr W41)).wr W43)).wr W45)).wr W47)).wr W49)).wr W51)).wr W53)).wr W55)).wr W57)).wr W59)).wr W61)).wr W63)).wr W65)).wr W67)).wr W69)).wr W71)).wr W73)).wr W75)).wr W77)
                  exact Go.ret X77 (v := some (.long (10000000 : Int64))) (fun h => by rw [Bd.returns] at h; cases h) Bd.notSynchronized (fun fs hr => retOut X77 hx Bd.returns rfl (Or.inr (Or.inl ⟨rfl, rfl, _, rfl⟩)) (hb hby dmethod_2_code_133) hr) (by decide) (by decide) (by rw [e77]; exact ⟨(10000000 : Int64), (by rw [hj101]; decide +kernel), rfl, N77, K78⟩)
                · by_cases hj104 : p0 = (8 : Int32)
                  · obtain ⟨cl105, Ar105, -, S105, N105_, H105, -⟩ := id V77
                    have hin105 : ¬ (p0 < 0 ∨ cl105.slots.size ≤ (p0).toNatClampNeg) := by rw [hj104]; exact inb_of S105 ⟨by decide, by decide⟩
                    have hat105 : cl105.slots[(p0).toNatClampNeg]? = some (.long (100000000 : Int64)) := Has.at H105 hin105 (by rw [hj104]; rfl)
                    refine Go.st (S' := T77.setTop (mkF m 133 #[.val (.int p0), .val (.ref b39)] [(.long (100000000 : Int64))])) (fun t k => X77.laload hx (j := p0) (v := (.long (100000000 : Int64))) (own_eh e77 Ar105.1) (State.isArrayOf_alike hZ.alike Ar105.2.1) Ar105.2.2 hin105 hat105 (g := (mkF m 132 #[.val (.int p0), .val (.ref b39)] [(.int p0), (.ref b39)])) rfl rfl (hb hby dmethod_2_code_132) t k) ?_
                    have f106 := ((((((((((((((((((((((((((((((((((((((B39).wr W41)).wr W43)).wr W45)).wr W47)).wr W49)).wr W51)).wr W53)).wr W55)).wr W57)).wr W59)).wr W61)).wr W63)).wr W65)).wr W67)).wr W69)).wr W71)).wr W73)).wr W75)).wr W77)
                    exact Go.ret X77 (v := some (.long (100000000 : Int64))) (fun h => by rw [Bd.returns] at h; cases h) Bd.notSynchronized (fun fs hr => retOut X77 hx Bd.returns rfl (Or.inr (Or.inl ⟨rfl, rfl, _, rfl⟩)) (hb hby dmethod_2_code_133) hr) (by decide) (by decide) (by rw [e77]; exact ⟨(100000000 : Int64), (by rw [hj104]; decide +kernel), rfl, N77, K78⟩)
                  · by_cases hj107 : p0 = (9 : Int32)
                    · obtain ⟨cl108, Ar108, -, S108, N108_, H108, -⟩ := id V77
                      have hin108 : ¬ (p0 < 0 ∨ cl108.slots.size ≤ (p0).toNatClampNeg) := by rw [hj107]; exact inb_of S108 ⟨by decide, by decide⟩
                      have hat108 : cl108.slots[(p0).toNatClampNeg]? = some (.long (1000000000 : Int64)) := Has.at H108 hin108 (by rw [hj107]; rfl)
                      refine Go.st (S' := T77.setTop (mkF m 133 #[.val (.int p0), .val (.ref b39)] [(.long (1000000000 : Int64))])) (fun t k => X77.laload hx (j := p0) (v := (.long (1000000000 : Int64))) (own_eh e77 Ar108.1) (State.isArrayOf_alike hZ.alike Ar108.2.1) Ar108.2.2 hin108 hat108 (g := (mkF m 132 #[.val (.int p0), .val (.ref b39)] [(.int p0), (.ref b39)])) rfl rfl (hb hby dmethod_2_code_132) t k) ?_
                      have f109 := ((((((((((((((((((((((((((((((((((((((B39).wr W41)).wr W43)).wr W45)).wr W47)).wr W49)).wr W51)).wr W53)).wr W55)).wr W57)).wr W59)).wr W61)).wr W63)).wr W65)).wr W67)).wr W69)).wr W71)).wr W73)).wr W75)).wr W77)
                      exact Go.ret X77 (v := some (.long (1000000000 : Int64))) (fun h => by rw [Bd.returns] at h; cases h) Bd.notSynchronized (fun fs hr => retOut X77 hx Bd.returns rfl (Or.inr (Or.inl ⟨rfl, rfl, _, rfl⟩)) (hb hby dmethod_2_code_133) hr) (by decide) (by decide) (by rw [e77]; exact ⟨(1000000000 : Int64), (by rw [hj107]; decide +kernel), rfl, N77, K78⟩)
                    · by_cases hj110 : p0 = (10 : Int32)
                      · obtain ⟨cl111, Ar111, -, S111, N111_, H111, -⟩ := id V77
                        have hin111 : ¬ (p0 < 0 ∨ cl111.slots.size ≤ (p0).toNatClampNeg) := by rw [hj110]; exact inb_of S111 ⟨by decide, by decide⟩
                        have hat111 : cl111.slots[(p0).toNatClampNeg]? = some (.long (10000000000 : Int64)) := Has.at H111 hin111 (by rw [hj110]; rfl)
                        refine Go.st (S' := T77.setTop (mkF m 133 #[.val (.int p0), .val (.ref b39)] [(.long (10000000000 : Int64))])) (fun t k => X77.laload hx (j := p0) (v := (.long (10000000000 : Int64))) (own_eh e77 Ar111.1) (State.isArrayOf_alike hZ.alike Ar111.2.1) Ar111.2.2 hin111 hat111 (g := (mkF m 132 #[.val (.int p0), .val (.ref b39)] [(.int p0), (.ref b39)])) rfl rfl (hb hby dmethod_2_code_132) t k) ?_
                        have f112 := ((((((((((((((((((((((((((((((((((((((B39).wr W41)).wr W43)).wr W45)).wr W47)).wr W49)).wr W51)).wr W53)).wr W55)).wr W57)).wr W59)).wr W61)).wr W63)).wr W65)).wr W67)).wr W69)).wr W71)).wr W73)).wr W75)).wr W77)
                        exact Go.ret X77 (v := some (.long (10000000000 : Int64))) (fun h => by rw [Bd.returns] at h; cases h) Bd.notSynchronized (fun fs hr => retOut X77 hx Bd.returns rfl (Or.inr (Or.inl ⟨rfl, rfl, _, rfl⟩)) (hb hby dmethod_2_code_133) hr) (by decide) (by decide) (by rw [e77]; exact ⟨(10000000000 : Int64), (by rw [hj110]; decide +kernel), rfl, N77, K78⟩)
                      · by_cases hj113 : p0 = (11 : Int32)
                        · obtain ⟨cl114, Ar114, -, S114, N114_, H114, -⟩ := id V77
                          have hin114 : ¬ (p0 < 0 ∨ cl114.slots.size ≤ (p0).toNatClampNeg) := by rw [hj113]; exact inb_of S114 ⟨by decide, by decide⟩
                          have hat114 : cl114.slots[(p0).toNatClampNeg]? = some (.long (100000000000 : Int64)) := Has.at H114 hin114 (by rw [hj113]; rfl)
                          refine Go.st (S' := T77.setTop (mkF m 133 #[.val (.int p0), .val (.ref b39)] [(.long (100000000000 : Int64))])) (fun t k => X77.laload hx (j := p0) (v := (.long (100000000000 : Int64))) (own_eh e77 Ar114.1) (State.isArrayOf_alike hZ.alike Ar114.2.1) Ar114.2.2 hin114 hat114 (g := (mkF m 132 #[.val (.int p0), .val (.ref b39)] [(.int p0), (.ref b39)])) rfl rfl (hb hby dmethod_2_code_132) t k) ?_
                          have f115 := ((((((((((((((((((((((((((((((((((((((B39).wr W41)).wr W43)).wr W45)).wr W47)).wr W49)).wr W51)).wr W53)).wr W55)).wr W57)).wr W59)).wr W61)).wr W63)).wr W65)).wr W67)).wr W69)).wr W71)).wr W73)).wr W75)).wr W77)
                          exact Go.ret X77 (v := some (.long (100000000000 : Int64))) (fun h => by rw [Bd.returns] at h; cases h) Bd.notSynchronized (fun fs hr => retOut X77 hx Bd.returns rfl (Or.inr (Or.inl ⟨rfl, rfl, _, rfl⟩)) (hb hby dmethod_2_code_133) hr) (by decide) (by decide) (by rw [e77]; exact ⟨(100000000000 : Int64), (by rw [hj113]; decide +kernel), rfl, N77, K78⟩)
                        · by_cases hj116 : p0 = (12 : Int32)
                          · obtain ⟨cl117, Ar117, -, S117, N117_, H117, -⟩ := id V77
                            have hin117 : ¬ (p0 < 0 ∨ cl117.slots.size ≤ (p0).toNatClampNeg) := by rw [hj116]; exact inb_of S117 ⟨by decide, by decide⟩
                            have hat117 : cl117.slots[(p0).toNatClampNeg]? = some (.long (1000000000000 : Int64)) := Has.at H117 hin117 (by rw [hj116]; rfl)
                            refine Go.st (S' := T77.setTop (mkF m 133 #[.val (.int p0), .val (.ref b39)] [(.long (1000000000000 : Int64))])) (fun t k => X77.laload hx (j := p0) (v := (.long (1000000000000 : Int64))) (own_eh e77 Ar117.1) (State.isArrayOf_alike hZ.alike Ar117.2.1) Ar117.2.2 hin117 hat117 (g := (mkF m 132 #[.val (.int p0), .val (.ref b39)] [(.int p0), (.ref b39)])) rfl rfl (hb hby dmethod_2_code_132) t k) ?_
                            have f118 := ((((((((((((((((((((((((((((((((((((((B39).wr W41)).wr W43)).wr W45)).wr W47)).wr W49)).wr W51)).wr W53)).wr W55)).wr W57)).wr W59)).wr W61)).wr W63)).wr W65)).wr W67)).wr W69)).wr W71)).wr W73)).wr W75)).wr W77)
                            exact Go.ret X77 (v := some (.long (1000000000000 : Int64))) (fun h => by rw [Bd.returns] at h; cases h) Bd.notSynchronized (fun fs hr => retOut X77 hx Bd.returns rfl (Or.inr (Or.inl ⟨rfl, rfl, _, rfl⟩)) (hb hby dmethod_2_code_133) hr) (by decide) (by decide) (by rw [e77]; exact ⟨(1000000000000 : Int64), (by rw [hj116]; decide +kernel), rfl, N77, K78⟩)
                          · by_cases hj119 : p0 = (13 : Int32)
                            · obtain ⟨cl120, Ar120, -, S120, N120_, H120, -⟩ := id V77
                              have hin120 : ¬ (p0 < 0 ∨ cl120.slots.size ≤ (p0).toNatClampNeg) := by rw [hj119]; exact inb_of S120 ⟨by decide, by decide⟩
                              have hat120 : cl120.slots[(p0).toNatClampNeg]? = some (.long (10000000000000 : Int64)) := Has.at H120 hin120 (by rw [hj119]; rfl)
                              refine Go.st (S' := T77.setTop (mkF m 133 #[.val (.int p0), .val (.ref b39)] [(.long (10000000000000 : Int64))])) (fun t k => X77.laload hx (j := p0) (v := (.long (10000000000000 : Int64))) (own_eh e77 Ar120.1) (State.isArrayOf_alike hZ.alike Ar120.2.1) Ar120.2.2 hin120 hat120 (g := (mkF m 132 #[.val (.int p0), .val (.ref b39)] [(.int p0), (.ref b39)])) rfl rfl (hb hby dmethod_2_code_132) t k) ?_
                              have f121 := ((((((((((((((((((((((((((((((((((((((B39).wr W41)).wr W43)).wr W45)).wr W47)).wr W49)).wr W51)).wr W53)).wr W55)).wr W57)).wr W59)).wr W61)).wr W63)).wr W65)).wr W67)).wr W69)).wr W71)).wr W73)).wr W75)).wr W77)
                              exact Go.ret X77 (v := some (.long (10000000000000 : Int64))) (fun h => by rw [Bd.returns] at h; cases h) Bd.notSynchronized (fun fs hr => retOut X77 hx Bd.returns rfl (Or.inr (Or.inl ⟨rfl, rfl, _, rfl⟩)) (hb hby dmethod_2_code_133) hr) (by decide) (by decide) (by rw [e77]; exact ⟨(10000000000000 : Int64), (by rw [hj119]; decide +kernel), rfl, N77, K78⟩)
                            · by_cases hj122 : p0 = (14 : Int32)
                              · obtain ⟨cl123, Ar123, -, S123, N123_, H123, -⟩ := id V77
                                have hin123 : ¬ (p0 < 0 ∨ cl123.slots.size ≤ (p0).toNatClampNeg) := by rw [hj122]; exact inb_of S123 ⟨by decide, by decide⟩
                                have hat123 : cl123.slots[(p0).toNatClampNeg]? = some (.long (100000000000000 : Int64)) := Has.at H123 hin123 (by rw [hj122]; rfl)
                                refine Go.st (S' := T77.setTop (mkF m 133 #[.val (.int p0), .val (.ref b39)] [(.long (100000000000000 : Int64))])) (fun t k => X77.laload hx (j := p0) (v := (.long (100000000000000 : Int64))) (own_eh e77 Ar123.1) (State.isArrayOf_alike hZ.alike Ar123.2.1) Ar123.2.2 hin123 hat123 (g := (mkF m 132 #[.val (.int p0), .val (.ref b39)] [(.int p0), (.ref b39)])) rfl rfl (hb hby dmethod_2_code_132) t k) ?_
                                have f124 := ((((((((((((((((((((((((((((((((((((((B39).wr W41)).wr W43)).wr W45)).wr W47)).wr W49)).wr W51)).wr W53)).wr W55)).wr W57)).wr W59)).wr W61)).wr W63)).wr W65)).wr W67)).wr W69)).wr W71)).wr W73)).wr W75)).wr W77)
                                exact Go.ret X77 (v := some (.long (100000000000000 : Int64))) (fun h => by rw [Bd.returns] at h; cases h) Bd.notSynchronized (fun fs hr => retOut X77 hx Bd.returns rfl (Or.inr (Or.inl ⟨rfl, rfl, _, rfl⟩)) (hb hby dmethod_2_code_133) hr) (by decide) (by decide) (by rw [e77]; exact ⟨(100000000000000 : Int64), (by rw [hj122]; decide +kernel), rfl, N77, K78⟩)
                              · by_cases hj125 : p0 = (15 : Int32)
                                · obtain ⟨cl126, Ar126, -, S126, N126_, H126, -⟩ := id V77
                                  have hin126 : ¬ (p0 < 0 ∨ cl126.slots.size ≤ (p0).toNatClampNeg) := by rw [hj125]; exact inb_of S126 ⟨by decide, by decide⟩
                                  have hat126 : cl126.slots[(p0).toNatClampNeg]? = some (.long (1000000000000000 : Int64)) := Has.at H126 hin126 (by rw [hj125]; rfl)
                                  refine Go.st (S' := T77.setTop (mkF m 133 #[.val (.int p0), .val (.ref b39)] [(.long (1000000000000000 : Int64))])) (fun t k => X77.laload hx (j := p0) (v := (.long (1000000000000000 : Int64))) (own_eh e77 Ar126.1) (State.isArrayOf_alike hZ.alike Ar126.2.1) Ar126.2.2 hin126 hat126 (g := (mkF m 132 #[.val (.int p0), .val (.ref b39)] [(.int p0), (.ref b39)])) rfl rfl (hb hby dmethod_2_code_132) t k) ?_
                                  have f127 := ((((((((((((((((((((((((((((((((((((((B39).wr W41)).wr W43)).wr W45)).wr W47)).wr W49)).wr W51)).wr W53)).wr W55)).wr W57)).wr W59)).wr W61)).wr W63)).wr W65)).wr W67)).wr W69)).wr W71)).wr W73)).wr W75)).wr W77)
                                  exact Go.ret X77 (v := some (.long (1000000000000000 : Int64))) (fun h => by rw [Bd.returns] at h; cases h) Bd.notSynchronized (fun fs hr => retOut X77 hx Bd.returns rfl (Or.inr (Or.inl ⟨rfl, rfl, _, rfl⟩)) (hb hby dmethod_2_code_133) hr) (by decide) (by decide) (by rw [e77]; exact ⟨(1000000000000000 : Int64), (by rw [hj125]; decide +kernel), rfl, N77, K78⟩)
                                · by_cases hj128 : p0 = (16 : Int32)
                                  · obtain ⟨cl129, Ar129, -, S129, N129_, H129, -⟩ := id V77
                                    have hin129 : ¬ (p0 < 0 ∨ cl129.slots.size ≤ (p0).toNatClampNeg) := by rw [hj128]; exact inb_of S129 ⟨by decide, by decide⟩
                                    have hat129 : cl129.slots[(p0).toNatClampNeg]? = some (.long (10000000000000000 : Int64)) := Has.at H129 hin129 (by rw [hj128]; rfl)
                                    refine Go.st (S' := T77.setTop (mkF m 133 #[.val (.int p0), .val (.ref b39)] [(.long (10000000000000000 : Int64))])) (fun t k => X77.laload hx (j := p0) (v := (.long (10000000000000000 : Int64))) (own_eh e77 Ar129.1) (State.isArrayOf_alike hZ.alike Ar129.2.1) Ar129.2.2 hin129 hat129 (g := (mkF m 132 #[.val (.int p0), .val (.ref b39)] [(.int p0), (.ref b39)])) rfl rfl (hb hby dmethod_2_code_132) t k) ?_
                                    have f130 := ((((((((((((((((((((((((((((((((((((((B39).wr W41)).wr W43)).wr W45)).wr W47)).wr W49)).wr W51)).wr W53)).wr W55)).wr W57)).wr W59)).wr W61)).wr W63)).wr W65)).wr W67)).wr W69)).wr W71)).wr W73)).wr W75)).wr W77)
                                    exact Go.ret X77 (v := some (.long (10000000000000000 : Int64))) (fun h => by rw [Bd.returns] at h; cases h) Bd.notSynchronized (fun fs hr => retOut X77 hx Bd.returns rfl (Or.inr (Or.inl ⟨rfl, rfl, _, rfl⟩)) (hb hby dmethod_2_code_133) hr) (by decide) (by decide) (by rw [e77]; exact ⟨(10000000000000000 : Int64), (by rw [hj128]; decide +kernel), rfl, N77, K78⟩)
                                  · by_cases hj131 : p0 = (17 : Int32)
                                    · obtain ⟨cl132, Ar132, -, S132, N132_, H132, -⟩ := id V77
                                      have hin132 : ¬ (p0 < 0 ∨ cl132.slots.size ≤ (p0).toNatClampNeg) := by rw [hj131]; exact inb_of S132 ⟨by decide, by decide⟩
                                      have hat132 : cl132.slots[(p0).toNatClampNeg]? = some (.long (100000000000000000 : Int64)) := Has.at H132 hin132 (by rw [hj131]; rfl)
                                      refine Go.st (S' := T77.setTop (mkF m 133 #[.val (.int p0), .val (.ref b39)] [(.long (100000000000000000 : Int64))])) (fun t k => X77.laload hx (j := p0) (v := (.long (100000000000000000 : Int64))) (own_eh e77 Ar132.1) (State.isArrayOf_alike hZ.alike Ar132.2.1) Ar132.2.2 hin132 hat132 (g := (mkF m 132 #[.val (.int p0), .val (.ref b39)] [(.int p0), (.ref b39)])) rfl rfl (hb hby dmethod_2_code_132) t k) ?_
                                      have f133 := ((((((((((((((((((((((((((((((((((((((B39).wr W41)).wr W43)).wr W45)).wr W47)).wr W49)).wr W51)).wr W53)).wr W55)).wr W57)).wr W59)).wr W61)).wr W63)).wr W65)).wr W67)).wr W69)).wr W71)).wr W73)).wr W75)).wr W77)
                                      exact Go.ret X77 (v := some (.long (100000000000000000 : Int64))) (fun h => by rw [Bd.returns] at h; cases h) Bd.notSynchronized (fun fs hr => retOut X77 hx Bd.returns rfl (Or.inr (Or.inl ⟨rfl, rfl, _, rfl⟩)) (hb hby dmethod_2_code_133) hr) (by decide) (by decide) (by rw [e77]; exact ⟨(100000000000000000 : Int64), (by rw [hj131]; decide +kernel), rfl, N77, K78⟩)
                                    · have hj134 : p0 = (18 : Int32) := by
                                        refine Decidable.byContradiction fun hc135 => ?_
                                        have rp0 := rng32 p0
                                        have lI0 : (0 : Int32).toInt = 0 := by decide
                                        have lI1 : (1 : Int32).toInt = 1 := by decide
                                        have lI2 : (2 : Int32).toInt = 2 := by decide
                                        have lI3 : (3 : Int32).toInt = 3 := by decide
                                        have lI4 : (4 : Int32).toInt = 4 := by decide
                                        have lI5 : (5 : Int32).toInt = 5 := by decide
                                        have lI6 : (6 : Int32).toInt = 6 := by decide
                                        have lI7 : (7 : Int32).toInt = 7 := by decide
                                        have lI8 : (8 : Int32).toInt = 8 := by decide
                                        have lI9 : (9 : Int32).toInt = 9 := by decide
                                        have lI10 : (10 : Int32).toInt = 10 := by decide
                                        have lI11 : (11 : Int32).toInt = 11 := by decide
                                        have lI12 : (12 : Int32).toInt = 12 := by decide
                                        have lI13 : (13 : Int32).toInt = 13 := by decide
                                        have lI14 : (14 : Int32).toInt = 14 := by decide
                                        have lI15 : (15 : Int32).toInt = 15 := by decide
                                        have lI16 : (16 : Int32).toInt = 16 := by decide
                                        have lI17 : (17 : Int32).toInt = 17 := by decide
                                        have lI18 : (18 : Int32).toInt = 18 := by decide
                                        simp only [Int32.lt_iff_toInt_lt, Int64.lt_iff_toInt_lt, ← Int32.toInt_inj, ← Int64.toInt_inj] at hj80 hj83 hj86 hj89 hj92 hj95 hj98 hj101 hj104 hj107 hj110 hj113 hj116 hj119 hj122 hj125 hj128 hj131 hc135
                                        omega
                                      obtain ⟨cl136, Ar136, -, S136, N136_, H136, -⟩ := id V77
                                      have hin136 : ¬ (p0 < 0 ∨ cl136.slots.size ≤ (p0).toNatClampNeg) := by rw [hj134]; exact inb_of S136 ⟨by decide, by decide⟩
                                      have hat136 : cl136.slots[(p0).toNatClampNeg]? = some (.long (1000000000000000000 : Int64)) := Has.at H136 hin136 (by rw [hj134]; rfl)
                                      refine Go.st (S' := T77.setTop (mkF m 133 #[.val (.int p0), .val (.ref b39)] [(.long (1000000000000000000 : Int64))])) (fun t k => X77.laload hx (j := p0) (v := (.long (1000000000000000000 : Int64))) (own_eh e77 Ar136.1) (State.isArrayOf_alike hZ.alike Ar136.2.1) Ar136.2.2 hin136 hat136 (g := (mkF m 132 #[.val (.int p0), .val (.ref b39)] [(.int p0), (.ref b39)])) rfl rfl (hb hby dmethod_2_code_132) t k) ?_
                                      have f137 := ((((((((((((((((((((((((((((((((((((((B39).wr W41)).wr W43)).wr W45)).wr W47)).wr W49)).wr W51)).wr W53)).wr W55)).wr W57)).wr W59)).wr W61)).wr W63)).wr W65)).wr W67)).wr W69)).wr W71)).wr W73)).wr W75)).wr W77)
                                      exact Go.ret X77 (v := some (.long (1000000000000000000 : Int64))) (fun h => by rw [Bd.returns] at h; cases h) Bd.notSynchronized (fun fs hr => retOut X77 hx Bd.returns rfl (Or.inr (Or.inl ⟨rfl, rfl, _, rfl⟩)) (hb hby dmethod_2_code_133) hr) (by decide) (by decide) (by rw [e77]; exact ⟨(1000000000000000000 : Int64), (by rw [hj134]; decide +kernel), rfl, N77, K78⟩)
theorem ef_3 (m : MethodId) (q0 : Int64) (p1 : Int32) (p2 : Int32) : entryFrame m #[(.long q0), (.int p1), (.int p2)] maxLocals = mkF m 0 #[.val (.long q0), .second, .val (.int p1), .val (.int p2), .unset, .unset, .unset, .unset, .unset] [] := by first | (simp [entryFrame, mkF, argsToLocals, Value.category, maxLocals]; done) | rfl
def Q3 (Z : State) (q0 : Int64) (p1 : Int32) (p2 : Int32) (h0 : Heap) (n0 : Nat) (v : Option Value) (h : Heap) (L : List Loc) : Prop := v = some (.int 1) ∧ Fr n0 L
set_option maxRecDepth 65536 in
set_option maxHeartbeats 40000000 in
theorem rm3 (l : Launch) (Z : State) (a0 : Array Value) (hw : ∀ d ∈ tables_1, d.before a0 Z = true) (ws : List Jvm.Cond) (q0 : Int64) (p1 : Int32) (p2 : Int32) (h0 : Heap) (n0 : Nat) (Z0 : n0 ≤ h0.size)  :
    Con l Z x code maxLocals ret ws room_1 #[(.long q0), (.int p1), (.int p2)] h0 2 38 (Q3 Z q0 p1 p2 h0 n0) := by
  refine MetFree.of_bodySF (plainFor_of_name pn_1) hisR ?_
  intro p e s m args below meth c s₁ Bd hml0 hP hK
  obtain ⟨rfl, hZ, hh⟩ := hP
  have hx := Bd.exec
  have hby := Bd.bytes
  have hml : c.maxLocals = 9 := hml0
  have hown : s.vm.findClass "com/example/dwellgate/dwellgate/scenario/FixedPointDigitsPinLaw" = some m.cls := findClass_of_methodNamed Bd.named
  have hnm := (name_of_methodNamed Bd.named Bd.method).1
  have X0 : Stand p l e room_1 s m #[(.long q0), (.int p1), (.int p2)] below meth c s₁ [] 0 0 := Stand.of_body Bd
  have e0 : s₁.heap = h0 := by rw [← hh, Bd.state]; rfl
  have N0 := Fr.nil n0
  refine Go.of ?_
  refine Go.st (S' := s₁.setTop (mkF m 0 #[.val (.long q0), .second, .val (.int p1), .val (.int p2), .unset, .unset, .unset, .unset, .unset] [])) (fun t k => castTop (ef_3 m q0 p1 p2) k) ?_
  let A1 : Array Slot := #[.val (.long q0), .second, .val (.int p1), .val (.int p2), .unset, .unset, .unset, .unset, .unset]
  refine Go.st (S' := s₁.setTop (mkF m 1 A1 [(.long q0)])) (fun t k => XS.lloadN X0.here hx rfl (hb hby at_0) rfl k) ?_
  refine Go.st (S' := s₁.setTop (mkF m 4 A1 [(.long (9223372036854775807 : Int64)), (.long q0)])) (fun t k => X0.ldc2Long hx hown (mvT hZ (hw _ (List.mem_of_getElem? (i := 0) rfl))) (g := (mkF m 1 A1 [(.long q0)])) rfl (hb hby at_1) t k) ?_
  refine Go.op (F := fun z => s₁.setTop (mkF m 5 A1 [(.long z)])) (x := (q0 &&& (9223372036854775807 : Int64))) (fun t k => XS.land X0.here hx rfl (hb hby at_4) rfl k) ?_
  intro v2 hv2
  let A3 : Array Slot := #[.val (.long q0), .second, .val (.int p1), .val (.int p2), .val (.long v2), .second, .unset, .unset, .unset]
  refine Go.st (S' := s₁.setTop (mkF m 7 A3 [])) (fun t k => XS.lstore X0.here hx rfl (hb hby at_5) rfl (l' := A3) rfl k) ?_
  refine Go.st (S' := s₁.setTop (mkF m 8 A3 [(.int p1)])) (fun t k => XS.iloadN X0.here hx rfl (hb hby at_7) rfl k) ?_
  refine Go.st (S' := s₁.setTop (mkF m 10 A3 [(.int (2147483647 : Int32)), (.int p1)])) (fun t k => X0.ldcInt hx hown (mvT hZ (hw _ (List.mem_of_getElem? (i := 1) rfl))) (g := (mkF m 8 A3 [(.int p1)])) rfl (hb hby at_8) t k) ?_
  refine Go.op (F := fun z => s₁.setTop (mkF m 11 A3 [(.int z)])) (x := (p1 &&& (2147483647 : Int32))) (fun t k => XS.iand X0.here hx rfl (hb hby at_10) rfl k) ?_
  intro v4 hv4
  refine Go.st (S' := s₁.setTop (mkF m 13 A3 [(.int (19 : Int32)), (.int v4)])) (fun t k => XS.bipush X0.here hx rfl (hb hby at_11) k) ?_
  refine Go.op (F := fun z => s₁.setTop (mkF m 14 A3 [(.int z)])) (x := (v4 % (19 : Int32))) (fun t k => iremM X0 hx rfl (hb hby at_13) rfl (by decide) k) ?_
  intro v5 hv5
  let A6 : Array Slot := #[.val (.long q0), .second, .val (.int p1), .val (.int p2), .val (.long v2), .second, .val (.int v5), .unset, .unset]
  refine Go.st (S' := s₁.setTop (mkF m 16 A6 [])) (fun t k => XS.istore X0.here hx rfl (hb hby at_14) rfl (l' := A6) rfl k) ?_
  refine Go.st (S' := s₁.setTop (mkF m 17 A6 [(.int p2)])) (fun t k => XS.iloadN X0.here hx rfl (hb hby at_16) rfl k) ?_
  refine Go.st (S' := s₁.setTop (mkF m 19 A6 [(.int (2147483647 : Int32)), (.int p2)])) (fun t k => X0.ldcInt hx hown (mvT hZ (hw _ (List.mem_of_getElem? (i := 1) rfl))) (g := (mkF m 17 A6 [(.int p2)])) rfl (hb hby at_17) t k) ?_
  refine Go.op (F := fun z => s₁.setTop (mkF m 20 A6 [(.int z)])) (x := (p2 &&& (2147483647 : Int32))) (fun t k => XS.iand X0.here hx rfl (hb hby at_19) rfl k) ?_
  intro v7 hv7
  refine Go.st (S' := s₁.setTop (mkF m 22 A6 [(.int v5), (.int v7)])) (fun t k => XS.iload X0.here hx rfl (hb hby at_20) rfl k) ?_
  refine Go.st (S' := s₁.setTop (mkF m 23 A6 [(.int (1 : Int32)), (.int v5), (.int v7)])) (fun t k => XS.iconst X0.here hx rfl (hb hby at_22) k) ?_
  refine Go.op (F := fun z => s₁.setTop (mkF m 24 A6 [(.int z), (.int v7)])) (x := (v5 + (1 : Int32))) (fun t k => XS.iadd X0.here hx rfl (hb hby at_23) rfl k) ?_
  intro v8 hv8
  have nz10 : v8 ≠ 0 := by
    intro hz9
    have rv4 := rng32 v4
    have wv4 := c_mask p1 (2147483647 : Int32) 31 (by decide) (by decide)
    rw [← hv4] at wv4
    have rv5 := rng32 v5
    have wv5 := c_irem v4 (19 : Int32) 19 (by decide)
    rw [← hv5] at wv5
    have rv8 := rng32 v8
    have wv8 := c_iadd v5 (1 : Int32)
    rw [← hv8] at wv8
    have rp1 := rng32 p1
    have lI0 : (0 : Int32).toInt = 0 := by decide
    have lI1 : (1 : Int32).toInt = 1 := by decide
    have lI19 : (19 : Int32).toInt = 19 := by decide
    have lI2147483647 : (2147483647 : Int32).toInt = 2147483647 := by decide
    simp only [Int32.lt_iff_toInt_lt, Int64.lt_iff_toInt_lt, ← Int32.toInt_inj, ← Int64.toInt_inj] at hz9
    omega
  refine Go.op (F := fun z => s₁.setTop (mkF m 25 A6 [(.int z)])) (x := (v7 % v8)) (fun t k => iremM X0 hx rfl (hb hby at_24) rfl nz10 k) ?_
  intro v11 hv11
  let A12 : Array Slot := #[.val (.long q0), .second, .val (.int p1), .val (.int p2), .val (.long v2), .second, .val (.int v5), .val (.int v11), .unset]
  refine Go.st (S' := s₁.setTop (mkF m 27 A12 [])) (fun t k => XS.istore X0.here hx rfl (hb hby at_25) rfl (l' := A12) rfl k) ?_
  refine Go.st (S' := s₁.setTop (mkF m 29 A12 [(.long v2)])) (fun t k => XS.lload X0.here hx rfl (hb hby at_27) rfl k) ?_
  refine Go.st (S' := s₁.setTop (mkF m 31 A12 [(.int v5), (.long v2)])) (fun t k => XS.iload X0.here hx rfl (hb hby at_29) rfl k) ?_
  refine Go.st (S' := s₁.setTop (mkF m 33 A12 [(.int v11), (.int v5), (.long v2)])) (fun t k => XS.iload X0.here hx rfl (hb hby at_31) rfl k) ?_
  have pre31 : digPre v2 v5 v11 := by
    have rv2 := rng64 v2
    have wv2 := c_maskL q0 (9223372036854775807 : Int64) 63 (by decide) (by decide)
    rw [← hv2] at wv2
    have rv4 := rng32 v4
    have wv4 := c_mask p1 (2147483647 : Int32) 31 (by decide) (by decide)
    rw [← hv4] at wv4
    have rv5 := rng32 v5
    have wv5 := c_irem v4 (19 : Int32) 19 (by decide)
    rw [← hv5] at wv5
    have rv7 := rng32 v7
    have wv7 := c_mask p2 (2147483647 : Int32) 31 (by decide) (by decide)
    rw [← hv7] at wv7
    have rv8 := rng32 v8
    have wv8 := c_iadd v5 (1 : Int32)
    rw [← hv8] at wv8
    have rv11 := rng32 v11
    have wv11 := c_iremV v7 v8
    rw [← hv11] at wv11
    have rp1 := rng32 p1
    have rp2 := rng32 p2
    have rq0 := rng64 q0
    have lI1 : (1 : Int32).toInt = 1 := by decide
    have lI19 : (19 : Int32).toInt = 19 := by decide
    have lI2147483647 : (2147483647 : Int32).toInt = 2147483647 := by decide
    have lJ9223372036854775807 : (9223372036854775807 : Int64).toInt = 9223372036854775807 := by decide
    exact ⟨by omega, by omega, by omega, by omega⟩
  obtain ⟨r32, T32, L32, X32, hQ32, st32⟩ := own_callS (W := 0) X0 hx hZ e0 hown (y := (⟨"com/example/dwellgate/dwellgate/scenario/FixedPoint", "digits", "(JII)I"⟩ : MethodName)) (hw _ (List.mem_of_getElem? (i := 2) rfl)) (hw _ (List.mem_of_getElem? (i := 3) rfl)) (hw _ (List.mem_of_getElem? (i := 4) rfl)) (hw _ (List.mem_of_getElem? (i := 5) rfl)) (by decide) (rm1 l Z a0 hw [] v2 v5 v11 h0 n0 Z0 (pre31)) (by decide) (by decide) (by decide) (by decide) (g := (mkF m 33 A12 [(.int v11), (.int v5), (.long v2)])) rfl (by rw [hml]; rfl) (argsL := [(.long v2), (.int v5), (.int v11)]) (rest := []) rfl (lenOf pd_0 rfl) rfl (by show 2 * 0 + _ ≤ _; exact Nat.le_of_eq rfl) (hb hby at_33)
  obtain ⟨r33, hp34, rfl, N32, e32⟩ := hQ32
  have N32_ := Fr.app N0 N32
  refine Go.st (S' := T32.setTop (mkF m 36 A12 [(.int r33)])) st32 ?_
  let A35 : Array Slot := #[.val (.long q0), .second, .val (.int p1), .val (.int p2), .val (.long v2), .second, .val (.int v5), .val (.int v11), .val (.int r33)]
  refine Go.st (S' := T32.setTop (mkF m 38 A35 [])) (fun t k => XS.istore X32.here hx rfl (hb hby at_36) rfl (l' := A35) rfl k) ?_
  refine Go.st (S' := T32.setTop (mkF m 40 A35 [(.int r33)])) (fun t k => XS.iload X32.here hx rfl (hb hby at_38) rfl k) ?_
  refine Go.st (S' := T32.setTop (mkF m 42 A35 [(.int v11), (.int r33)])) (fun t k => XS.iload X32.here hx rfl (hb hby at_40) rfl k) ?_
  by_cases hc36 : (r33 < v11)
  · exfalso
    obtain ⟨gd1, gd2, -, -⟩ := id hp34
    have rv7 := rng32 v7
    have wv7 := c_mask p2 (2147483647 : Int32) 31 (by decide) (by decide)
    rw [← hv7] at wv7
    have rv4 := rng32 v4
    have wv4 := c_mask p1 (2147483647 : Int32) 31 (by decide) (by decide)
    rw [← hv4] at wv4
    have rv5 := rng32 v5
    have wv5 := c_irem v4 (19 : Int32) 19 (by decide)
    rw [← hv5] at wv5
    have rv8 := rng32 v8
    have wv8 := c_iadd v5 (1 : Int32)
    rw [← hv8] at wv8
    have rv11 := rng32 v11
    have wv11 := c_iremV v7 v8
    rw [← hv11] at wv11
    have rp1 := rng32 p1
    have rp2 := rng32 p2
    have rr33 := rng32 r33
    have lI1 : (1 : Int32).toInt = 1 := by decide
    have lI19 : (19 : Int32).toInt = 19 := by decide
    have lI2147483647 : (2147483647 : Int32).toInt = 2147483647 := by decide
    simp only [Int32.lt_iff_toInt_lt, Int64.lt_iff_toInt_lt, ← Int32.toInt_inj, ← Int64.toInt_inj] at hc36
    omega
  · refine Go.st (S' := T32.setTop (mkF m 45 A35 [])) (fun t k => XS.icmpNo X32.here hx rfl (hb hby at_42) rfl (flt hc36).1 k) ?_
    refine Go.st (S' := T32.setTop (mkF m 47 A35 [(.int r33)])) (fun t k => XS.iload X32.here hx rfl (hb hby at_45) rfl k) ?_
    refine Go.st (S' := T32.setTop (mkF m 49 A35 [(.int v5), (.int r33)])) (fun t k => XS.iload X32.here hx rfl (hb hby at_47) rfl k) ?_
    by_cases hc37 : (v5 < r33)
    · exfalso
      obtain ⟨gd1, gd2, -, -⟩ := id hp34
      have rv7 := rng32 v7
      have wv7 := c_mask p2 (2147483647 : Int32) 31 (by decide) (by decide)
      rw [← hv7] at wv7
      have rv4 := rng32 v4
      have wv4 := c_mask p1 (2147483647 : Int32) 31 (by decide) (by decide)
      rw [← hv4] at wv4
      have rv5 := rng32 v5
      have wv5 := c_irem v4 (19 : Int32) 19 (by decide)
      rw [← hv5] at wv5
      have rv8 := rng32 v8
      have wv8 := c_iadd v5 (1 : Int32)
      rw [← hv8] at wv8
      have rv11 := rng32 v11
      have wv11 := c_iremV v7 v8
      rw [← hv11] at wv11
      have rp1 := rng32 p1
      have rp2 := rng32 p2
      have rr33 := rng32 r33
      have lI1 : (1 : Int32).toInt = 1 := by decide
      have lI19 : (19 : Int32).toInt = 19 := by decide
      have lI2147483647 : (2147483647 : Int32).toInt = 2147483647 := by decide
      simp only [Int32.lt_iff_toInt_lt, Int64.lt_iff_toInt_lt, ← Int32.toInt_inj, ← Int64.toInt_inj] at hc36 hc37
      omega
    · refine Go.st (S' := T32.setTop (mkF m 54 A35 [])) (fun t k => XS.icmpYes X32.here hx rfl (pc0 := 49) (pc' := 54) rfl (hb hby at_49) rfl (flt hc37).2.2.2 (by decide) (by decide) k) ?_
      refine Go.st (S' := T32.setTop (mkF m 56 A35 [(.long v2)])) (fun t k => XS.lload X32.here hx rfl (hb hby at_54) rfl k) ?_
      refine Go.st (S' := T32.setTop (mkF m 58 A35 [(.int v5), (.long v2)])) (fun t k => XS.iload X32.here hx rfl (hb hby at_56) rfl k) ?_
      refine Go.st (S' := T32.setTop (mkF m 60 A35 [(.int r33), (.int v5), (.long v2)])) (fun t k => XS.iload X32.here hx rfl (hb hby at_58) rfl k) ?_
      refine Go.op (F := fun z => T32.setTop (mkF m 61 A35 [(.int z), (.long v2)])) (x := (v5 - r33)) (fun t k => XS.isub X32.here hx rfl (hb hby at_60) rfl k) ?_
      intro v38 hv38
      have pre138 : 0 ≤ (v38).toInt ∧ (v38).toInt ≤ 18 := by
        obtain ⟨gd1, gd2, -, -⟩ := id hp34
        have rv4 := rng32 v4
        have wv4 := c_mask p1 (2147483647 : Int32) 31 (by decide) (by decide)
        rw [← hv4] at wv4
        have rv5 := rng32 v5
        have wv5 := c_irem v4 (19 : Int32) 19 (by decide)
        rw [← hv5] at wv5
        have rv38 := rng32 v38
        have wv38 := c_isub v5 r33
        rw [← hv38] at wv38
        have rv7 := rng32 v7
        have wv7 := c_mask p2 (2147483647 : Int32) 31 (by decide) (by decide)
        rw [← hv7] at wv7
        have rv8 := rng32 v8
        have wv8 := c_iadd v5 (1 : Int32)
        rw [← hv8] at wv8
        have rv11 := rng32 v11
        have wv11 := c_iremV v7 v8
        rw [← hv11] at wv11
        have rp1 := rng32 p1
        have rp2 := rng32 p2
        have rr33 := rng32 r33
        have lI1 : (1 : Int32).toInt = 1 := by decide
        have lI19 : (19 : Int32).toInt = 19 := by decide
        have lI2147483647 : (2147483647 : Int32).toInt = 2147483647 := by decide
        simp only [Int32.lt_iff_toInt_lt, ← Int32.toInt_inj] at hc36 hc37
        exact ⟨by omega, by omega⟩
      obtain ⟨r139, T139, L139, X139, hQ139, st139⟩ := own_callS (W := 2) X32 hx hZ e32 hown (y := (⟨"com/example/dwellgate/dwellgate/scenario/FixedPointDigitsPinLaw", "pow10", "(I)J"⟩ : MethodName)) (hw _ (List.mem_of_getElem? (i := 7) rfl)) (hw _ (List.mem_of_getElem? (i := 8) rfl)) (hw _ (List.mem_of_getElem? (i := 9) rfl)) (hw _ (List.mem_of_getElem? (i := 10) rfl)) (by decide) (rm2 l Z a0 hw [] v38 h0 n0 Z0 (pre138)) (by decide) (by decide) (by decide) (by decide) (g := (mkF m 61 A35 [(.int v38), (.long v2)])) rfl (by rw [hml]; rfl) (argsL := [(.int v38)]) (rest := [(.long v2)]) rfl (lenOf pd_1 rfl) rfl (by show 2 * 0 + _ ≤ _; exact Nat.le_of_eq rfl) (hb hby at_61)
      obtain ⟨r140, hp141, rfl, N139, K139_⟩ := hQ139
      have Z142 : n0 ≤ T139.heap.size := Nat.le_trans Z0 K139_.1
      have K142 : Keep h0 T139.heap [] := (Keep.refl h0 []).trans K139_ all0
      have N139_ := Fr.app N32_ N139
      refine Go.st (S' := T139.setTop (mkF m 64 A35 [(.long r140), (.long v2)])) st139 ?_
      have nz144 : r140 ≠ 0 := by
        intro hz143
        exact pow_ne hp141 hz143
      refine Go.op (F := fun z => T139.setTop (mkF m 65 A35 [(.long z)])) (x := (v2 - (v2 / r140) * r140)) (fun t k => XS.lrem X139.here hx rfl (hb hby at_64) rfl nz144 k) ?_
      intro v145 hv145
      rw [lrem_mod] at hv145
      refine Go.st (S' := T139.setTop (mkF m 66 A35 [(.long (0 : Int64)), (.long v145)])) (fun t k => XS.lconst X139.here hx rfl (hb hby at_65) k) ?_
      refine Go.op (F := fun z => T139.setTop (mkF m 67 A35 [(.int z)])) (x := (lcmpW v145 (0 : Int64))) (fun t k => XS.lcmp X139.here hx rfl (hb hby at_66) rfl k) ?_
      intro v146 hv146
      by_cases hc147 : (v145 = (0 : Int64))
      · refine Go.st (S' := T139.setTop (mkF m 72 A35 [])) (fun t k => XS.ifYes X139.here hx rfl (pc0 := 67) (pc' := 72) rfl (hb hby at_67) rfl ((if0 _ _).trans (teq (by rw [hv146]; exact (lw_eq _ _).2 hc147)).1) (by decide) (by decide) k) ?_
        refine Go.st (S' := T139.setTop (mkF m 74 A35 [(.int r33)])) (fun t k => XS.iload X139.here hx rfl (hb hby at_72) rfl k) ?_
        refine Go.st (S' := T139.setTop (mkF m 76 A35 [(.int v11), (.int r33)])) (fun t k => XS.iload X139.here hx rfl (hb hby at_74) rfl k) ?_
        by_cases hc148 : (r33 = v11)
        · refine Go.st (S' := T139.setTop (mkF m 79 A35 [])) (fun t k => XS.icmpNo X139.here hx rfl (hb hby at_76) rfl (teq hc148).2 k) ?_
          refine Go.st (S' := T139.setTop (mkF m 80 A35 [(.int (1 : Int32))])) (fun t k => XS.iconst X139.here hx rfl (hb hby at_79) k) ?_
          exact Go.ret X139 (v := some (.int (1 : Int32))) (fun h => by rw [Bd.returns] at h; cases h) Bd.notSynchronized (fun fs hr => retN X139 hx (t := .boolean) Bd.returns (by simp) (hb hby at_80) hr) (by decide) (by decide) ⟨rfl, N139_⟩
        · refine Go.st (S' := T139.setTop (mkF m 81 A35 [])) (fun t k => XS.icmpYes X139.here hx rfl (pc0 := 76) (pc' := 81) rfl (hb hby at_76) rfl (feq hc148).2 (by decide) (by decide) k) ?_
          refine Go.st (S' := T139.setTop (mkF m 83 A35 [(.long v2)])) (fun t k => XS.lload X139.here hx rfl (hb hby at_81) rfl k) ?_
          refine Go.st (S' := T139.setTop (mkF m 85 A35 [(.int v5), (.long v2)])) (fun t k => XS.iload X139.here hx rfl (hb hby at_83) rfl k) ?_
          refine Go.st (S' := T139.setTop (mkF m 87 A35 [(.int r33), (.int v5), (.long v2)])) (fun t k => XS.iload X139.here hx rfl (hb hby at_85) rfl k) ?_
          refine Go.op (F := fun z => T139.setTop (mkF m 88 A35 [(.int z), (.long v2)])) (x := (v5 - r33)) (fun t k => XS.isub X139.here hx rfl (hb hby at_87) rfl k) ?_
          intro v149 hv149
          obtain rfl : v38 = v149 := hv38.trans hv149.symm
          refine Go.st (S' := T139.setTop (mkF m 89 A35 [(.int (1 : Int32)), (.int v38), (.long v2)])) (fun t k => XS.iconst X139.here hx rfl (hb hby at_88) k) ?_
          refine Go.op (F := fun z => T139.setTop (mkF m 90 A35 [(.int z), (.long v2)])) (x := (v38 + (1 : Int32))) (fun t k => XS.iadd X139.here hx rfl (hb hby at_89) rfl k) ?_
          intro v150 hv150
          have pre151 : 0 ≤ (v150).toInt ∧ (v150).toInt ≤ 18 := by
            obtain ⟨gd1, gd2, -, -⟩ := id hp34
            have rv4 := rng32 v4
            have wv4 := c_mask p1 (2147483647 : Int32) 31 (by decide) (by decide)
            rw [← hv4] at wv4
            have rv5 := rng32 v5
            have wv5 := c_irem v4 (19 : Int32) 19 (by decide)
            rw [← hv5] at wv5
            have rv38 := rng32 v38
            have wv38 := c_isub v5 r33
            rw [← hv38] at wv38
            have rv150 := rng32 v150
            have wv150 := c_iadd v38 (1 : Int32)
            rw [← hv150] at wv150
            have rv7 := rng32 v7
            have wv7 := c_mask p2 (2147483647 : Int32) 31 (by decide) (by decide)
            rw [← hv7] at wv7
            have rv8 := rng32 v8
            have wv8 := c_iadd v5 (1 : Int32)
            rw [← hv8] at wv8
            have rv11 := rng32 v11
            have wv11 := c_iremV v7 v8
            rw [← hv11] at wv11
            have rp1 := rng32 p1
            have rp2 := rng32 p2
            have rr33 := rng32 r33
            have lI1 : (1 : Int32).toInt = 1 := by decide
            have lI19 : (19 : Int32).toInt = 19 := by decide
            have lI2147483647 : (2147483647 : Int32).toInt = 2147483647 := by decide
            simp only [Int32.lt_iff_toInt_lt, ← Int32.toInt_inj] at hc36 hc37 hc148
            exact ⟨by omega, by omega⟩
          obtain ⟨r152, T152, L152, X152, hQ152, st152⟩ := own_callS (W := 2) X139 hx hZ rfl hown (y := (⟨"com/example/dwellgate/dwellgate/scenario/FixedPointDigitsPinLaw", "pow10", "(I)J"⟩ : MethodName)) (hw _ (List.mem_of_getElem? (i := 7) rfl)) (hw _ (List.mem_of_getElem? (i := 8) rfl)) (hw _ (List.mem_of_getElem? (i := 9) rfl)) (hw _ (List.mem_of_getElem? (i := 10) rfl)) (by decide) (rm2 l Z a0 hw [] v150 T139.heap n0 Z142 (pre151)) (by decide) (by decide) (by decide) (by decide) (g := (mkF m 90 A35 [(.int v150), (.long v2)])) rfl (by rw [hml]; rfl) (argsL := [(.int v150)]) (rest := [(.long v2)]) rfl (lenOf pd_1 rfl) rfl (by show 2 * 0 + _ ≤ _; exact Nat.le_of_eq rfl) (hb hby at_90)
          obtain ⟨r153, hp154, rfl, N152, K152_⟩ := hQ152
          have Z155 : n0 ≤ T152.heap.size := Nat.le_trans Z142 K152_.1
          have K155 : Keep h0 T152.heap [] := K142.trans K152_ all0
          have N152_ := Fr.app N139_ N152
          refine Go.st (S' := T152.setTop (mkF m 93 A35 [(.long r153), (.long v2)])) st152 ?_
          have nz157 : r153 ≠ 0 := by
            intro hz156
            exact pow_ne hp154 hz156
          refine Go.op (F := fun z => T152.setTop (mkF m 94 A35 [(.long z)])) (x := (v2 - (v2 / r153) * r153)) (fun t k => XS.lrem X152.here hx rfl (hb hby at_93) rfl nz157 k) ?_
          intro v158 hv158
          rw [lrem_mod] at hv158
          refine Go.st (S' := T152.setTop (mkF m 95 A35 [(.long (0 : Int64)), (.long v158)])) (fun t k => XS.lconst X152.here hx rfl (hb hby at_94) k) ?_
          refine Go.op (F := fun z => T152.setTop (mkF m 96 A35 [(.int z)])) (x := (lcmpW v158 (0 : Int64))) (fun t k => XS.lcmp X152.here hx rfl (hb hby at_95) rfl k) ?_
          intro v159 hv159
          by_cases hc160 : (v158 = (0 : Int64))
          · exfalso
            have rv4 := rng32 v4
            have wv4 := c_mask p1 (2147483647 : Int32) 31 (by decide) (by decide)
            rw [← hv4] at wv4
            have rv5 := rng32 v5
            have wv5 := c_irem v4 (19 : Int32) 19 (by decide)
            rw [← hv5] at wv5
            have rv38 := rng32 v38
            have wv38 := c_isub v5 r33
            rw [← hv38] at wv38
            have rv150 := rng32 v150
            have wv150 := c_iadd v38 (1 : Int32)
            rw [← hv150] at wv150
            have rv2 := rng64 v2
            have wv2 := c_maskL q0 (9223372036854775807 : Int64) 63 (by decide) (by decide)
            rw [← hv2] at wv2
            have rv7 := rng32 v7
            have wv7 := c_mask p2 (2147483647 : Int32) 31 (by decide) (by decide)
            rw [← hv7] at wv7
            have rv8 := rng32 v8
            have wv8 := c_iadd v5 (1 : Int32)
            rw [← hv8] at wv8
            have rv11 := rng32 v11
            have wv11 := c_iremV v7 v8
            rw [← hv11] at wv11
            have rp1 := rng32 p1
            have rp2 := rng32 p2
            have rq0 := rng64 q0
            have rr33 := rng32 r33
            have lI1 : (1 : Int32).toInt = 1 := by decide
            have lI19 : (19 : Int32).toInt = 19 := by decide
            have lI2147483647 : (2147483647 : Int32).toInt = 2147483647 := by decide
            have lJ9223372036854775807 : (9223372036854775807 : Int64).toInt = 9223372036854775807 := by decide
            obtain ⟨g1, g2, g3, g4⟩ := hp34
            have ee : (v150).toInt.toNat = (v5.toInt - r33.toInt).toNat + 1 := by omega
            have hh := lrem_pow hv158 hp154 (by omega)
            rw [ee] at hh
            exact g4 hc148 (by rw [← hh, hc160]; rfl)
          · refine Go.st (S' := T152.setTop (mkF m 99 A35 [])) (fun t k => XS.ifNo X152.here hx rfl (hb hby at_96) rfl ((if0 _ _).trans (feq (by rw [hv159]; exact fun z => hc160 ((lw_eq _ _).1 z))).1) k) ?_
            refine Go.st (S' := T152.setTop (mkF m 100 A35 [(.int (1 : Int32))])) (fun t k => XS.iconst X152.here hx rfl (hb hby at_99) k) ?_
            refine Go.st (S' := T152.setTop (mkF m 104 A35 [(.int (1 : Int32))])) (fun t k => XS.goto X152.here hx rfl (pc0 := 100) (pc' := 104) rfl (hb hby at_100) (by decide) (by decide) k) ?_
            exact Go.ret X152 (v := some (.int (1 : Int32))) (fun h => by rw [Bd.returns] at h; cases h) Bd.notSynchronized (fun fs hr => retN X152 hx (t := .boolean) Bd.returns (by simp) (hb hby at_104) hr) (by decide) (by decide) ⟨rfl, N152_⟩
      · exfalso
        have rv4 := rng32 v4
        have wv4 := c_mask p1 (2147483647 : Int32) 31 (by decide) (by decide)
        rw [← hv4] at wv4
        have rv5 := rng32 v5
        have wv5 := c_irem v4 (19 : Int32) 19 (by decide)
        rw [← hv5] at wv5
        have rv38 := rng32 v38
        have wv38 := c_isub v5 r33
        rw [← hv38] at wv38
        have rv2 := rng64 v2
        have wv2 := c_maskL q0 (9223372036854775807 : Int64) 63 (by decide) (by decide)
        rw [← hv2] at wv2
        have rv7 := rng32 v7
        have wv7 := c_mask p2 (2147483647 : Int32) 31 (by decide) (by decide)
        rw [← hv7] at wv7
        have rv8 := rng32 v8
        have wv8 := c_iadd v5 (1 : Int32)
        rw [← hv8] at wv8
        have rv11 := rng32 v11
        have wv11 := c_iremV v7 v8
        rw [← hv11] at wv11
        have rp1 := rng32 p1
        have rp2 := rng32 p2
        have rq0 := rng64 q0
        have rr33 := rng32 r33
        have lI1 : (1 : Int32).toInt = 1 := by decide
        have lI19 : (19 : Int32).toInt = 19 := by decide
        have lI2147483647 : (2147483647 : Int32).toInt = 2147483647 := by decide
        have lJ9223372036854775807 : (9223372036854775807 : Int64).toInt = 9223372036854775807 := by decide
        obtain ⟨g1, g2, g3, g4⟩ := hp34
        have ee : (v38).toInt.toNat = (v5.toInt - r33.toInt).toNat := by omega
        have hh := lrem_pow hv145 hp141 (by omega)
        rw [ee] at hh
        exact hc147 (Int64.toInt_inj.mp (by rw [hh]; exact g3))
set_option maxRecDepth 65536 in
set_option maxHeartbeats 40000000 in
theorem comes_1 {Post : Tables → Env → Array Value → State → Outcome → State → Prop} (hpost : ∀ tb e args s v u, (limb_1_1.after args s (.returned v) u = true ∧ limb_1_2.after args s (.returned v) u = true ∧ True) → FrameEnd s (.returned v) u (Jvm.fieldLocs frame_1_writes args s ++ Jvm.arrayLocs frame_1_arrays args s ++ Jvm.staticLocs frame_1_statics s) 16 192 → Post tb e args s (.returned v) u) :
    ArmFor flags0 classFile x code maxLocals ret World_1 tables_1 room_1 Calls_1 rest_1 Pre_1 Post := by
  intro l hfl _ _ p e ha hc hk s m args below hf hA hF happ hP
  obtain ⟨hcalls, hrest, hpre⟩ := hP
  obtain ⟨-, -, -, hnamed, -, -, -, hat⟩ := (Spec.applies_iff hf).mp happ
  obtain ⟨hg, hn⟩ := and_e (Cond.before_iff.mp (show (Jvm.Cond.and given_1 narrow_1).before args s = true from hpre))
  obtain ⟨h1, h2⟩ := and_e hg
  obtain ⟨w0, w1, w2, rfl⟩ : ∃ w0 w1 w2 : Value, args = #[w0, w1, w2] := by
    have hs : args.size = 3 := by simpa [Cond.value, given_1] using h1
    obtain ⟨L⟩ := args
    match L, hs with
    | [w0, w1, w2], _ => exact ⟨w0, w1, w2, rfl⟩
  have hw := fun d (hd : d ∈ tables_1) => atoms_spec (ws := Jvm.Cond.code x code maxLocals ret :: tables_1) hat d (List.mem_cons_of_mem _ hd)
  have hfit : Fit s := fun {y c} hc i hi => by
    obtain ⟨ha, rfl⟩ := Array.getElem?_eq_some_iff.mp hc
    have q := List.all_eq_true.mp ((Array.all_eq_true_iff_forall_mem.mp hF) _ (Array.getElem_mem ha)) i (List.mem_range.mpr hi)
    simpa [Array.getElem?_eq_getElem hi] using q
  obtain ⟨q0, h2_0⟩ := and_e h2
  obtain ⟨i0, ee0⟩ := isL_v q0
  obtain rfl : w0 = (.long i0) := Option.some.inj ee0
  obtain ⟨q1, h2_1⟩ := and_e h2_0
  obtain ⟨i1, ee1⟩ := is_v q1
  obtain rfl : w1 = (.int i1) := Option.some.inj ee1
  obtain ⟨i2, ee2⟩ := is_v h2_1
  obtain rfl : w2 = (.int i2) := Option.some.inj ee2
  obtain ⟨n, o, h1, h2, h3, _, L, rfl, ⟨rfl, N⟩, hq⟩ := rm3 l s _ hw tables_1 i0 i1 i2 s.heap s.heap.size (Nat.le_refl _)  p e ha hc hk s m _ below hf ((Spec.applies_iff_loose hf).mp happ).1 ⟨rfl, State.Warmed39.refl s, rfl⟩ trivial
  refine ⟨n, _, h1, h2, h3, hpost _ _ _ _ _ _ ⟨Cond.after_iff.mpr rfl, Cond.after_iff.mpr (eq_i res_at (Term.int_eval (1)) rfl), trivial⟩ ⟨hq.1, hq.2.1, (hq.2.2.sift fun y hy => Or.inr (N y hy)).mono (by decide) (by decide)⟩⟩
theorem main_1_1 : Claimed_1_1 := comes_1 fun _ _ _ _ _ _ h hF => ⟨h.1, hF⟩
theorem main_1_2 : Claimed_1_2 := comes_1 fun _ _ _ _ _ _ h hF => ⟨h.2.1, hF⟩
end Jvm.Pilot.@@N@@
namespace Jvm.Pilot.@@N@@
open Jvm Jvm.ClassFile Sem Op Lib Jvm.Free Jvm.Stand Jvm.Pilot.@@N@@.Jvm.D
/-! MADE BY PROGRAM (witnessworld.py) out of the Statement's table words and the real class files: 11 classes; the members and pool entries that the words name. The judged class is class 1, her method 2. -/
namespace start1
open Jvm.ClassFile
def u (s : String) : CpInfo := .utf8 (stringToUtf16 s)
/-- a pool by its gaps: so many unusable entries, then the entry; so many at the end -/
def gap : Nat → List CpInfo → List CpInfo
  | 0, r => r
  | n + 1, r => .unusable :: gap n r
def poolList (es : List (Nat × CpInfo)) (last : Nat) : List CpInfo := es.foldr (fun e r => gap e.1 (e.2 :: r)) (gap last [])
def pool (es : List (Nat × CpInfo)) (last : Nat) : Array CpInfo := ⟨poolList es last⟩
def fileOf (pool : Array CpInfo) (this : Nat) (attrs : Array Attribute := #[]) (ms : Array MethodInfo := #[]) (fl : Nat := 33) (sup : Nat := 0) (ifs : Array Nat := #[]) (fds : Array FieldInfo := #[]) : ClassFile where
  minorVersion := 0
  majorVersion := 65
  constantPool := pool
  accessFlags := fl
  thisClass := this
  superClass := sup
  interfaces := ifs
  fields := fds
  methods := ms
  attributes := attrs
def plain (name : String) (sup : Option ClassId) : Class where
  name := name
  kind := .ordinary
  loader := none
  accessFlags := 33
  super := sup
  interfaces := #[]
  cf := none
  fields := #[]
  methods := #[]
  instanceTypes := #[]
  staticTypes := #[]
  resolved := #[]
  callSites := []
  init := .initialized
  statics := none
  mirror := none

def pool0 : Array CpInfo := pool [(5, u "<init>"), (0, u "()V"), (1, .class_ 10), (1, u "java/lang/Object")] 113

def k0m0 : Method := { name := "<init>", desc := "()V", sig := { parameters := [], returnType := none }, accessFlags := 1, code := none }
/-- java/lang/Object -/
def k0 : Class := { plain "java/lang/Object" none with
  accessFlags := 33
  interfaces := #[]
  cf := some (fileOf pool0 8 #[] #[{ accessFlags := 1, nameIndex := 5, descriptorIndex := 6, attributes := #[] }] 33 0 #[] #[])
  fields := #[]
  methods := #[k0m0]
  instanceTypes := #[]
  staticTypes := #[]
  resolved := Array.replicate 124 none
  statics := none }

def pool1 : Array CpInfo := pool [(2, .class_ 4), (1, u "java/lang/Object"), (0, u "<init>"), (0, u "()V"), (0, .long 10), (1, .long 100), (1, .long 1000), (1, .long 10000), (1, .long 100000), (1, .long 1000000), (1, .long 10000000), (1, .long 100000000), (1, .long 1000000000), (1, .long 10000000000), (1, .long 100000000000), (1, .long 1000000000000), (1, .long 10000000000000), (1, .long 100000000000000), (1, .long 1000000000000000), (1, .long 10000000000000000), (1, .long 100000000000000000), (1, .long 1000000000000000000), (3, .long 9223372036854775807), (1, .integer 2147483647), (0, .methodref 49 50), (0, .class_ 51), (0, .nameAndType 52 53), (0, u "com/example/dwellgate/dwellgate/scenario/FixedPoint"), (0, u "digits"), (0, u "(JII)I"), (0, .methodref 55 56), (0, .class_ 57), (0, .nameAndType 58 59), (0, u "com/example/dwellgate/dwellgate/scenario/FixedPointDigitsPinLaw"), (0, u "pow10"), (0, u "(I)J"), (2, u "law"), (0, u "(JII)Z")] 3

def k1m0 : Method := { name := "<init>", desc := "()V", sig := { parameters := [], returnType := none }, accessFlags := 2, code := none }
def k1c1 : Code := { maxStack := 5, maxLocals := 2, code := method_2_code, exceptionTable := #[], attributes := #[] }
def k1m1 : Method := { name := "pow10", desc := "(I)J", sig := { parameters := [.int], returnType := some .long }, accessFlags := 10, code := some k1c1 }
def k1c2 : Code := { maxStack := 4, maxLocals := 9, code := code, exceptionTable := #[], attributes := #[] }
def k1m2 : Method := { name := "law", desc := "(JII)Z", sig := { parameters := [.long, .int, .int], returnType := some .boolean }, accessFlags := 9, code := some k1c2 }
/-- com/example/dwellgate/dwellgate/scenario/FixedPointDigitsPinLaw -/
def k1 : Class := { plain "com/example/dwellgate/dwellgate/scenario/FixedPointDigitsPinLaw" (some 0) with
  accessFlags := 49
  interfaces := #[]
  cf := some (fileOf pool1 55 #[] #[{ accessFlags := 2, nameIndex := 5, descriptorIndex := 6, attributes := #[] }, { accessFlags := 10, nameIndex := 58, descriptorIndex := 59, attributes := #[] }, { accessFlags := 9, nameIndex := 62, descriptorIndex := 63, attributes := #[] }] 49 2 #[] #[])
  fields := #[]
  methods := #[k1m0, k1m1, k1m2]
  instanceTypes := #[]
  staticTypes := #[]
  resolved := Array.replicate 67 none
  statics := none }

def pool2 : Array CpInfo := pool [(2, .class_ 4), (1, u "java/lang/Object"), (0, u "<init>"), (0, u "()V"), (27, .long 10), (4, .class_ 41), (1, u "com/example/dwellgate/dwellgate/scenario/FixedPoint"), (0, u "POWERS_OF_TEN"), (0, u "[J"), (16, u "digits"), (0, u "(JII)I")] 4

def k2m0 : Method := { name := "<init>", desc := "()V", sig := { parameters := [], returnType := none }, accessFlags := 2, code := none }
def k2c1 : Code := { maxStack := 4, maxLocals := 7, code := prog_54_method_3_code, exceptionTable := #[], attributes := #[] }
def k2m1 : Method := { name := "digits", desc := "(JII)I", sig := { parameters := [.long, .int, .int], returnType := some .int }, accessFlags := 8, code := some k2c1 }
/-- com/example/dwellgate/dwellgate/scenario/FixedPoint -/
def k2 : Class := { plain "com/example/dwellgate/dwellgate/scenario/FixedPoint" (some 0) with
  accessFlags := 49
  interfaces := #[]
  cf := some (fileOf pool2 39 #[] #[{ accessFlags := 2, nameIndex := 5, descriptorIndex := 6, attributes := #[] }, { accessFlags := 8, nameIndex := 60, descriptorIndex := 61, attributes := #[] }] 49 2 #[] #[{ accessFlags := 26, nameIndex := 42, descriptorIndex := 43, attributes := #[] }])
  fields := #[{ name := "POWERS_OF_TEN", type := (.array .long), accessFlags := 26, slot := 0, constantValue := 0 }]
  methods := #[k2m0, k2m1]
  instanceTypes := #[]
  staticTypes := #[(.array .long)]
  resolved := Array.replicate 66 none
  statics := none }

def pool3 : Array CpInfo := pool [(1, u "java/lang/Cloneable"), (0, .class_ 1), (0, u "java/lang/Object"), (0, .class_ 3)] 3

/-- java/lang/Cloneable -/
def k3 : Class := { plain "java/lang/Cloneable" (some 0) with
  accessFlags := 1537
  interfaces := #[]
  cf := some (fileOf pool3 2 #[] #[] 1537 4 #[] #[])
  fields := #[]
  methods := #[]
  instanceTypes := #[]
  staticTypes := #[]
  resolved := Array.replicate 8 none
  statics := none }

def pool4 : Array CpInfo := pool [(1, u "java/io/Serializable"), (0, .class_ 1), (0, u "java/lang/Object"), (0, .class_ 3)] 3

/-- java/io/Serializable -/
def k4 : Class := { plain "java/io/Serializable" (some 0) with
  accessFlags := 1537
  interfaces := #[]
  cf := some (fileOf pool4 2 #[] #[] 1537 4 #[] #[])
  fields := #[]
  methods := #[]
  instanceTypes := #[]
  staticTypes := #[]
  resolved := Array.replicate 8 none
  statics := none }

/-- the primitive byte -/
def k5 : Class := { plain "byte" none with kind := .primitive 'B', accessFlags := 0x411 }
/-- [B -/
def k6 : Class := { plain "[B" (some 0) with kind := .array 5 .byte, interfaces := #[3, 4], accessFlags := 1041 }

/-- the primitive int -/
def k7 : Class := { plain "int" none with kind := .primitive 'I', accessFlags := 0x411 }
/-- [I -/
def k8 : Class := { plain "[I" (some 0) with kind := .array 7 .int, interfaces := #[3, 4], accessFlags := 1041 }

/-- the primitive long -/
def k9 : Class := { plain "long" none with kind := .primitive 'J', accessFlags := 0x411 }
/-- [J -/
def k10 : Class := { plain "[J" (some 0) with kind := .array 9 .long, interfaces := #[3, 4], accessFlags := 1041 }

def heap : Heap := #[]
def classes : Array Class := #[k0, k1, k2, k3, k4, k5, k6, k7, k8, k9, k10]
def interned : List (Array UInt16 × Addr) := []
def slotsUsed : Nat := 0
def theMethod : MethodId := ⟨1, 2⟩
def args0 : Array Value := #[.long 500, .int 7, .int 1]
def aboutOver (below : List Frame) : State where
  vm := { classes := classes, interned := interned.toArray }
  heap := heap
  slotsUsed := slotsUsed
  threads := #[{ frames := .invoking theMethod args0 :: below }]
def below0 : List Frame := [.native { method := ⟨0, 0⟩, args := #[] }]
def about1 : State := aboutOver below0
def p0 : Program := .bare "" "" ""
def e0 : Env := launch0.env 0 0 0
theorem w_frames : about1.frames = Frame.invoking theMethod args0 :: below0 := rfl
set_option maxRecDepth 65536 in
theorem w_args : argsFit about1.vm theMethod args0 = true := by decide +kernel
set_option maxRecDepth 65536 in
theorem w_heap : heapFits about1 = true := by decide +kernel
set_option maxRecDepth 65536 in
theorem w_runnable : about1.curStatus? = some .runnable := by decide +kernel
set_option maxRecDepth 65536 in
theorem w_alone : about1.alone = true := by decide +kernel
set_option maxRecDepth 65536 in
theorem w_named : about1.methodNamed? x = some theMethod := by decide +kernel
set_option maxRecDepth 65536 in
theorem w_hears : about1.hears theMethod below0 = true := by decide +kernel
set_option maxRecDepth 65536 in
theorem w_ripe : about1.ripe theMethod args0 below0 = true := by decide +kernel
theorem w_running : about1.status = .running := rfl
set_option maxRecDepth 65536 in
theorem w_room : about1.hasRoom e0.platform room_1 = true :=
  launch0.hasRoom_least _ room_1 (by decide +kernel) (by decide +kernel) (by decide +kernel) (by decide +kernel) (by decide +kernel) (by decide +kernel)
theorem allAtoms_all (ts : List Jvm.Cond) (a : Array Jvm.Value) (st : Jvm.State) : (allAtoms ts).before a st = ts.all (fun c => c.before a st) := by
  induction ts with
  | nil => rfl
  | cons c t ih =>
    show (Jvm.Cond.and c (allAtoms t)).before a st = _
    rw [Jvm.Cond.before_and, ih, List.all_cons]
def words1 : List Jvm.Cond := Jvm.Cond.code x code maxLocals ret :: tables_1
/-- a 'code' word, met by the world's own term for the bytes: nothing is compared byte by byte -/
theorem code_word {y : MethodName} {bytes : ByteArray} {mx : Nat} {rt : Option FieldType} {a : Array Value} {s : State} {m : MethodId} {meth : Method} {c : Code} (h1 : s.methodNamed? y = some m) (h2 : s.vm.method? m = some meth) (h3 : meth.code = some c) (h4 : c.code = bytes)
    (h5 : (c.maxLocals == mx && c.exceptionTable.isEmpty && decide (c.maxStack ≤ mostOperands) && decide (meth.sig.returnType = rt) && !meth.locks && decide (parseMethodDescriptor y.desc = some meth.sig)) = true) : (Jvm.Cond.code y bytes mx rt).before a s = true := by
  simp only [Bool.and_eq_true, beq_iff_eq, Bool.not_eq_true', decide_eq_true_eq] at h5
  obtain ⟨⟨⟨⟨⟨g1, g2⟩, g3⟩, g4⟩, g5⟩, g6⟩ := h5
  simp [Cond.before, Cond.holds, Cond.value, h1, h2, h3, h4, g1, g2, g3, g4, g5, g6]
def isCode : Jvm.Cond → Bool
  | .code _ _ _ _ => true
  | _ => false
theorem all_split {L : List Jvm.Cond} {P : Jvm.Cond → Bool} (h1 : L.all (fun c => isCode c || P c) = true) (h2 : ∀ c ∈ L.filter isCode, P c = true) : L.all P = true := by
  refine List.all_eq_true.mpr fun c hc => ?_
  have h := List.all_eq_true.mp h1 c hc
  rcases Bool.eq_false_or_eq_true (isCode c) with hi | hi
  · exact h2 c (List.mem_filter.mpr ⟨hc, hi⟩)
  · simpa [hi] using h
set_option maxRecDepth 65536 in
theorem w_c0 : (Jvm.Cond.code x code maxLocals ret).before args0 about1 = true := code_word (m := ⟨1, 2⟩) (meth := k1m2) (c := k1c2) (by decide +kernel) rfl rfl rfl (by decide +kernel)
set_option maxRecDepth 65536 in
theorem w_c1 : (Jvm.Cond.code ({ cls := "com/example/dwellgate/dwellgate/scenario/FixedPoint", name := "digits", desc := "(JII)I" } : Jvm.MethodName) prog_54_method_3_code (7 : Nat) (Option.some Jvm.ClassFile.FieldType.int)).before args0 about1 = true := code_word (m := ⟨2, 1⟩) (meth := k2m1) (c := k2c1) (by decide +kernel) rfl rfl rfl (by decide +kernel)
set_option maxRecDepth 65536 in
theorem w_c2 : (Jvm.Cond.code ({ cls := "com/example/dwellgate/dwellgate/scenario/FixedPointDigitsPinLaw", name := "pow10", desc := "(I)J" } : Jvm.MethodName) method_2_code (2 : Nat) (Option.some Jvm.ClassFile.FieldType.long)).before args0 about1 = true := code_word (m := ⟨1, 1⟩) (meth := k1m1) (c := k1c1) (by decide +kernel) rfl rfl rfl (by decide +kernel)
def codes1 : List Jvm.Cond := [Jvm.Cond.code x code maxLocals ret, Jvm.Cond.code ({ cls := "com/example/dwellgate/dwellgate/scenario/FixedPoint", name := "digits", desc := "(JII)I" } : Jvm.MethodName) prog_54_method_3_code (7 : Nat) (Option.some Jvm.ClassFile.FieldType.int), Jvm.Cond.code ({ cls := "com/example/dwellgate/dwellgate/scenario/FixedPointDigitsPinLaw", name := "pow10", desc := "(I)J" } : Jvm.MethodName) method_2_code (2 : Nat) (Option.some Jvm.ClassFile.FieldType.long)]
set_option maxRecDepth 65536 in
theorem codes_eq : words1.filter isCode = codes1 := rfl
theorem w_codes : ∀ c ∈ words1.filter isCode, c.before args0 about1 = true := by
  rw [codes_eq]
  intro c hc
  simp only [codes1, List.mem_cons, List.not_mem_nil, or_false] at hc
  rcases hc with rfl | rfl | rfl
  · exact w_c0
  · exact w_c1
  · exact w_c2
set_option maxRecDepth 65536 in
theorem w_t1 : (words1.take 24).all (fun c => isCode c || c.before args0 about1) = true := by decide +kernel
set_option maxRecDepth 65536 in
theorem w_t2 : (words1.drop 24).all (fun c => isCode c || c.before args0 about1) = true := by decide +kernel
theorem w_tables : (allAtoms (Jvm.Cond.code x code maxLocals ret :: tables_1)).before args0 about1 = true := by
  rw [allAtoms_all]
  show words1.all (fun c => c.before args0 about1) = true
  refine all_split ?_ w_codes
  rw [← List.take_append_drop 24 words1, List.all_append, w_t1, w_t2]
  rfl
set_option maxRecDepth 65536 in
theorem w_case : (Jvm.Cond.and given_1 narrow_1).before args0 about1 = true := by decide +kernel
theorem w_applies : (headSpec (Jvm.Cond.code x code maxLocals ret :: tables_1) room_1).applies x e0.platform about1 = true :=
  (Spec.applies_iff w_frames).mpr ⟨w_running, w_runnable, w_alone, w_named, w_hears, w_ripe, w_room, w_tables⟩
theorem atStart : AtStart classFile x code maxLocals ret World_1 tables_1 room_1 Calls_1 rest_1 Pre_1 launch0 p0 e0 about1 theMethod args0 below0 :=
  ⟨lists_1, trivial, launch0.admits_env _ _ _, launch0.least_env, fairChoices_fair.cas, fairChoices_fair.clock, w_frames, w_args, w_heap, w_applies, trivial, trivial, w_case⟩
end start1
theorem witness_1 : WitnessClaimed_1 := ⟨start1.p0, start1.e0, start1.about1, start1.theMethod, start1.args0, start1.below0, start1.atStart⟩
end Jvm.Pilot.@@N@@
