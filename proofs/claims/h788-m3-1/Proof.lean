import JvmDerived
import JvmDerived.Pilot.@@N@@Statement
import JvmDerived.Pilot.@@N@@Code
set_option linter.unusedVariables false
set_option linter.unusedSimpArgs false
namespace Jvm.RoadKit
open Sem ClassFile Op Lib Jvm.Stand Jvm.Free Jvm.LawKit
section New
variable {p : Program} {l : Launch} {e : Env} {R : Room} {s : State} {m : MethodId} {args : Array Value} {below : List Frame} {meth : Method} {c : Code} {T : State} {locs : List Loc} {cells slots : Nat}
theorem retI (X : Stand p l e R s m args below meth c T locs cells slots) (hx : p.tables.exec = Jvm.exec) {pc : Nat} {Ls : Array Slot} {z : Int32} {rest : List Value} (hret : meth.sig.returnType = some .int) (hd : decode c.code pc = .ok (.ireturn, 1)) {fs : List Frame}
    (hl : ∀ (f : JFrame) (acts : List Action), f.method = m → f.locked = none → f.entered = [] → (doReturn e (T.setTop f) acts (some (.int z))).1 = T.setFrames fs) : Steps p.tables e below (T.setTop (mkF m pc Ls (.int z :: rest))) (T.setFrames fs) := retOut X hx hret rfl (Or.inl ⟨rfl, Or.inl rfl, _, rfl⟩) hd hl
end New
end Jvm.RoadKit
namespace Jvm.Pilot.@@N@@
open Jvm Jvm.ClassFile Sem Op Lib Jvm.Free Jvm.Stand Jvm.LawKit Jvm.RoadKit Bundle Jvm.Pilot.@@N@@.Jvm.D
section OwnKit
variable {p : Program} {l : Launch} {e : Env} {R : Room} {s : State} {m : MethodId} {args : Array Value} {below : List Frame} {meth : Method} {c : Code} {T : State} {locs : List Loc} {cells slots : Nat} {Z : State} {a0 : Array Value} {h : Heap}
def Go (p : Program) (e : Env) (below : List Frame) (Q : Outcome → State → Prop) (S : State) : Prop := ∃ s₂ o, Steps p.tables e below S s₂ ∧ s₂.status = .running ∧ Ended s₂ below o ∧ Q o s₂
theorem Go.of {Q : Outcome → State → Prop} {S : State} (k : Go p e below Q S) : ∃ s₂ o, Steps p.tables e below S s₂ ∧ s₂.status = .running ∧ Ended s₂ below o ∧ Q o s₂ := k
theorem Go.st {Q : Outcome → State → Prop} {S S' : State} (h : ∀ t, Steps p.tables e below S' t → Steps p.tables e below S t) (k : Go p e below Q S') : Go p e below Q S := by
  obtain ⟨s2, o, h1, h2⟩ := k; exact ⟨s2, o, h _ h1, h2⟩
theorem Go.op {α : Type} {Q : Outcome → State → Prop} {S : State} {F : α → State} {x : α} (h : ∀ t, Steps p.tables e below (F x) t → Steps p.tables e below S t) (k : ∀ z, z = x → Go p e below Q (F z)) : Go p e below Q S := Go.st h (k x rfl)
theorem Go.join {α : Type} {Q : Outcome → State → Prop} {S : State} (C : α → Prop) (F : α → State) (k : ∀ r, C r → Go p e below Q (F r)) (j : (∀ r, C r → Go p e below Q (F r)) → Go p e below Q S) : Go p e below Q S := j k
theorem Go.joinT {α : Type} {Q : Outcome → State → Prop} {S : State} (X : Stand p l e R s m args below meth c T locs cells slots) (eT : T.heap = h) (C : α → Prop) (F : State → α → State) (k : ∀ T', Stand p l e R s m args below meth c T' locs cells slots → T'.heap = h → ∀ r, C r → Go p e below Q (F T' r)) (j : (∀ T', Stand p l e R s m args below meth c T' locs cells slots → T'.heap = h → ∀ r, C r → Go p e below Q (F T' r)) → Go p e below Q S) : Go p e below Q S := j k
theorem Go.loop {α : Type} {Q : Outcome → State → Prop} (I : Nat → α → Prop) (F : α → State) (k0 : Nat) (x0 : α) (h0 : I k0 x0) (step : ∀ k x, I k x → (∀ k' x', k' < k → I k' x' → Go p e below Q (F x')) → Go p e below Q (F x)) : Go p e below Q (F x0) := by
  have H : ∀ k x, I k x → Go p e below Q (F x) := by
    intro k
    induction k using Nat.strongRecOn with
    | _ k ih => intro x hx; exact step k x hx fun k' x' hk hx' => ih k' hk x' hx'
  exact H k0 x0 h0
theorem Go.ret {Qn : Option Value → Heap → List Loc → Prop} {rc rs : Nat} (X : Stand p l e R s m args below meth c T locs cells slots) {v : Option Value} (hv : meth.sig.returnType = none → v = none) (hlk : meth.locks = false) {f : JFrame}
    (st : ∀ fs, (∀ (f : JFrame) (acts : List Action), f.method = m → f.locked = none → f.entered = [] → (doReturn e (T.setTop f) acts v).1 = T.setFrames fs) → Steps p.tables e below (T.setTop f) (T.setFrames fs))
    (hc : cells ≤ rc) (hs : slots ≤ rs) (hQ : Qn v T.heap locs) : Go p e below (fun o U' => ∃ v L, o = .returned v ∧ Qn v U'.heap L ∧ FrameEnd s o U' L rc rs) (T.setTop f) := by
  obtain ⟨fs, hr, hrun, hended, hW, hsame⟩ := X.leave (v := v) hv hlk
  exact ⟨_, _, st fs hr, hrun, hended, v, locs, rfl, hQ, ⟨_, rfl⟩, hW, hsame.mono hc hs⟩
abbrev Con (l : Launch) (Z : State) (y : MethodName) (bytes : ByteArray) (maxL : Nat) (ret : Option FieldType) (ws : List Jvm.Cond) (rm : Room) (as' : Array Value) (h : Heap) (rc rs : Nat) (Q : Option Value → Heap → List Loc → Prop) : Prop :=
  MetFree l y (head1 (Jvm.Cond.code y bytes maxL ret :: ws) rm) (fun a U => a = as' ∧ Z.Warmed39 U.vm ∧ U.heap = h) (fun _ _ _ _ _ => True) (fun _ U o U' => ∃ v L, o = .returned v ∧ Q v U'.heap L ∧ FrameEnd U o U' L rc rs)
theorem own_eh {a : Addr} {cl : Cell} (eT : T.heap = h) (q : h[a]? = some cl) : T.heap[a]? = some cl := by rw [eT]; exact q
theorem own_callS {own : String} {index : Nat} {y : MethodName} {bytes : ByteArray} {maxL : Nat} {ret : Option FieldType} {rm : Room} {as' : Array Value} {Q : Option Value → Heap → List Loc → Prop} {W : Nat} {g : JFrame} {argsL rest : List Value}
    (X : Stand p l e R s m args below meth c T locs cells slots) (hx : p.tables.exec = Jvm.exec) (hZ : Z.Warmed39 s.vm) (eT : T.heap = h) (hown : s.vm.findClass own = some m.cls)
    (w1 : (Jvm.Cond.methodLink own index y).before a0 Z = true) (w2 : (Jvm.Cond.static y).before a0 Z = true) (w3 : (Jvm.Cond.initialized y.cls).before a0 Z = true) (w4 : (Jvm.Cond.code y bytes maxL ret).before a0 Z = true)
    (hy : y.cls ≠ "java/lang/invoke/MethodHandle" ∧ y.cls ≠ "java/lang/invoke/VarHandle")
    (hM : Con l Z y bytes maxL ret [] rm as' h rm.cells rm.slots Q)
    (hf : rm.frames + 1 ≤ R.frames) (hl : W + (maxL + 11) + rm.locals ≤ R.locals) (hc : cells + rm.cells ≤ R.cells) (hs : slots + rm.slots ≤ R.slots)
    (hg : g.method = m) (hsize : g.locals.size = c.maxLocals) (has : argsL.toArray = as') (hlen : ∀ sig, parseMethodDescriptor y.desc = some sig → argsL.length = sig.parameters.length)
    (hstack : g.stack = argsL.reverse ++ rest) (hW : 2 * g.monitorRoom + (rest.map fun v => v.category).sum ≤ W) (hdg : decode c.code g.pc = .ok (.invokestatic index, 3)) :
    ∃ v T' L, Stand p l e R s m args below meth c T' (locs ++ L) (cells + rm.cells) (slots + rm.slots) ∧ Q v T'.heap L ∧ ∀ target, Steps p.tables e below (T'.setTop { g with pc := g.pc + 3, stack := v.toList ++ rest }) target → Steps p.tables e below (T.setTop g) target := by
  obtain ⟨v, _, ⟨T', L', k', n'⟩, -, X', ⟨L, hQ, l', y', z'⟩, st⟩ := Jvm.LawKit.callS X hx (y := y) hown (mvT hZ w1) (mvT hZ w2) (mvT hZ w3) (mvT hZ w4) hy (backOf (W := W) hM hZ w4 w3 hf hl) (g := g) hg hsize (argsL := argsL) (rest := rest) hlen hstack hW hdg (fun _ _ => ⟨has, eT, hc, hs⟩)
  dsimp only [Pt.U, Pt.locs, Pt.cells, Pt.slots] at X' l' y' z' st hQ
  subst l' y' z'
  exact ⟨v, T', L, X', hQ, st⟩
theorem own_callI {own : String} {index : Nat} {y : MethodName} {bytes : ByteArray} {maxL : Nat} {rm : Room} {as' : Array Value} {Q : Option Value → Heap → List Loc → Prop} {W : Nat} {g : JFrame} {a : Addr} {argsL rest : List Value}
    (X : Stand p l e R s m args below meth c T locs cells slots) (hx : p.tables.exec = Jvm.exec) (hZ : Z.Warmed39 s.vm) (eT : T.heap = h) (hown : s.vm.findClass own = some m.cls) (hyn : y.name = "<init>")
    (w1 : (Jvm.Cond.methodLink own index y).before a0 Z = true) (w2 : (Jvm.Cond.instanceMethod y).before a0 Z = true) (w3 : (Jvm.Cond.initialized y.cls).before a0 Z = true) (w4 : (Jvm.Cond.code y bytes maxL none).before a0 Z = true)
    (hy : y.cls ≠ "java/lang/invoke/MethodHandle" ∧ y.cls ≠ "java/lang/invoke/VarHandle")
    (hM : Con l Z y bytes maxL none [] rm as' h rm.cells rm.slots Q)
    (hf : rm.frames + 1 ≤ R.frames) (hl : W + (maxL + 11) + rm.locals ≤ R.locals) (hc : cells + rm.cells ≤ R.cells) (hs : slots + rm.slots ≤ R.slots)
    (hg : g.method = m) (hsize : g.locals.size = c.maxLocals) (has : (Value.ref a :: argsL).toArray = as') (hlen : ∀ sig, parseMethodDescriptor y.desc = some sig → argsL.length = sig.parameters.length)
    (hstack : g.stack = argsL.reverse ++ .ref a :: rest) (hW : 2 * g.monitorRoom + (rest.map fun v => v.category).sum ≤ W) (hdg : decode c.code g.pc = .ok (.invokespecial index, 3)) :
    ∃ v T' L, Stand p l e R s m args below meth c T' (locs ++ L) (cells + rm.cells) (slots + rm.slots) ∧ Q v T'.heap L ∧ ∀ target, Steps p.tables e below (T'.setTop { g with pc := g.pc + 3, stack := v.toList ++ rest }) target → Steps p.tables e below (T.setTop g) target := by
  obtain ⟨v, _, ⟨T', L', k', n'⟩, -, X', ⟨L, hQ, l', y', z'⟩, st⟩ := X.specialBack hx (y := y) hyn hown (mvT hZ w1) (mvT hZ w2) (mvT hZ w4) hy (backOf (W := W) hM hZ w4 w3 hf hl) (g := g) hg hsize (Steps.refl _) (a := a) (argsL := argsL) (rest := rest) hlen hstack hW hdg (fun _ _ => ⟨has, eT, hc, hs⟩)
  dsimp only [Pt.U, Pt.locs, Pt.cells, Pt.slots] at X' l' y' z' st hQ
  subst l' y' z'
  exact ⟨v, T', L, X', hQ, fun _ k => st.trans k⟩
theorem own_callV {own C : String} {index : Nat} {y z : MethodName} {bytes : ByteArray} {maxL : Nat} {ret : Option FieldType} {rm : Room} {as' : Array Value} {Q : Option Value → Heap → List Loc → Prop} {W : Nat} {g : JFrame} {a : Addr} {argsL rest : List Value}
    (X : Stand p l e R s m args below meth c T locs cells slots) (hx : p.tables.exec = Jvm.exec) (hZ : Z.Warmed39 s.vm) (eT : T.heap = h) (hown : s.vm.findClass own = some m.cls)
    (w1 : (Jvm.Cond.methodLink own index y).before a0 Z = true) (w2 : (Jvm.Cond.declares y).before a0 Z = true) (nf : NotFace s y) (w5 : (Jvm.Cond.selects C y z).before a0 Z = true) (w6 : (Jvm.Cond.instanceMethod z).before a0 Z = true) (w3 : (Jvm.Cond.initialized z.cls).before a0 Z = true) (w4 : (Jvm.Cond.code z bytes maxL ret).before a0 Z = true)
    (hy : y.cls ≠ "java/lang/invoke/MethodHandle" ∧ y.cls ≠ "java/lang/invoke/VarHandle") (E : Exa Z h a C)
    (hM : Con l Z z bytes maxL ret [] rm as' h rm.cells rm.slots Q)
    (hf : rm.frames + 1 ≤ R.frames) (hl : W + (maxL + 11) + rm.locals ≤ R.locals) (hc : cells + rm.cells ≤ R.cells) (hs : slots + rm.slots ≤ R.slots)
    (hg : g.method = m) (hsize : g.locals.size = c.maxLocals) (has : (Value.ref a :: argsL).toArray = as') (hlen : ∀ sig, parseMethodDescriptor y.desc = some sig → argsL.length = sig.parameters.length)
    (hstack : g.stack = argsL.reverse ++ .ref a :: rest) (hW : 2 * g.monitorRoom + (rest.map fun v => v.category).sum ≤ W) (hdg : decode c.code g.pc = .ok (.invokevirtual index, 3)) :
    ∃ v T' L, Stand p l e R s m args below meth c T' (locs ++ L) (cells + rm.cells) (slots + rm.slots) ∧ Q v T'.heap L ∧ ∀ target, Steps p.tables e below (T'.setTop { g with pc := g.pc + 3, stack := v.toList ++ rest }) target → Steps p.tables e below (T.setTop g) target := by
  obtain ⟨cq, kq, qa, qb, qc⟩ := isOf hZ eT E
  obtain ⟨v, _, ⟨T', L', k', n'⟩, -, X', ⟨L, hQ, l', y', z'⟩, st⟩ := X.virtualBack hx (y := y) (z := z) hown (mvT hZ w1) (mvT hZ w2) nf (mvT hZ w5) (mvT hZ w6) hy (backOf (W := W) hM hZ w4 w3 hf hl) qa qc (g := g) hg hsize (Steps.refl _) (argsL := argsL) (rest := rest) hlen hstack hW hdg (fun _ _ => ⟨has, eT, hc, hs⟩)
  dsimp only [Pt.U, Pt.locs, Pt.cells, Pt.slots] at X' l' y' z' st hQ
  subst l' y' z'
  exact ⟨v, T', L, X', hQ, fun _ k => st.trans k⟩
theorem own_sta_keep {C n d : String} {w : Value} {h h' : Heap} {ws : List Addr} (F : Sta Z h C n d w) (K : Keep h h' ws) (q : ∀ x ∈ ws, ∃ cl : Cell, h[x]? = some cl ∧ cl.vm.isStatics = false) : Sta Z h' C n d w := by
  obtain ⟨cf, i, k, f, st, cell, h1, h2, h3, h4, h5, h6, h7⟩ := F
  refine ⟨cf, i, k, f, st, cell, h1, h2, h3, h4, K.2.1 st cell h5 fun z => ?_, h6, h7⟩
  obtain ⟨cl, q1, q2⟩ := q st z
  cases h5.symm.trans q1
  rw [h6] at q2; cases q2
theorem own_exa_plain {a : Addr} {C : String} {h : Heap} (F : Exa Z h a C) : ∃ cl : Cell, h[a]? = some cl ∧ cl.vm.isStatics = false := by
  obtain ⟨cell, k, h1, -, -, h4, -⟩ := F; exact ⟨cell, h1, h4⟩
theorem own_arv_plain {a : Addr} {k : ClassId} {ty : FieldType} {z : Int32} {vs : List Value} {dv : Value} {h : Heap} (F : Arv Z h a k ty z vs dv) : ∃ cl : Cell, h[a]? = some cl ∧ cl.vm.isStatics = false := by
  obtain ⟨cell, A, -⟩ := F; exact ⟨cell, A.1, A.plain⟩
theorem own_getR {own O n d : String} {index : Nat} {a : Addr} {v : Value} {g : JFrame} {rest : List Value} (X : Stand p l e R s m args below meth c T locs cells slots) (hx : p.tables.exec = Jvm.exec) (hZ : Z.Warmed39 s.vm) (hown : s.vm.findClass own = some m.cls)
    (w : (Jvm.Cond.fieldRef own index O n d).before a0 Z = true) (eT : T.heap = h) (F : Fld Z h a O n d v) (hg : g.method = m) (hs : g.stack = .ref a :: rest) (hd : decode c.code g.pc = .ok (.getfield index, 3)) :
    ∀ target, Steps p.tables e below (T.setTop { g with pc := g.pc + 3, stack := v :: rest }) target → Steps p.tables e below (T.setTop g) target := by
  have hU : Z.Warmed39 T.vm := wtrans hZ X.warmed
  have w2 := Cond.fieldRef_warmed39 hU w
  have hc : (Z.setVm T.vm).vm.findClass own = some m.cls := by
    show T.vm.findClass own = some m.cls
    rw [X.warmed.alike.findClass]; exact hown
  obtain ⟨c1, k1, i1, f1, hf1, hr⟩ := Cond.fieldRef_spec hc w2
  obtain ⟨cell, cf, k, i, f, h1, h2, h3, h4, -, -, h7⟩ := F
  obtain ⟨k', hi, -⟩ := State.fieldFound?_setVm (s := Z) hU.alike h2
  cases hi.symm.trans hf1
  intro t kk
  exact (X.getfieldR hx hg hr h3 hs (by rw [eT]; exact h1) h4 h7 hd (Steps.refl _)).trans kk
theorem own_callP {own C : String} {index : Nat} {y : MethodName} {bytes : ByteArray} {maxL : Nat} {ret : Option FieldType} {rm : Room} {as' : Array Value} {Q : Option Value → Heap → List Loc → Prop} {W : Nat} {g : JFrame} {a : Addr} {argsL rest : List Value}
    (X : Stand p l e R s m args below meth c T locs cells slots) (hx : p.tables.exec = Jvm.exec) (hZ : Z.Warmed39 s.vm) (eT : T.heap = h) (hown : s.vm.findClass own = some m.cls)
    (w1 : (Jvm.Cond.methodLink own index y).before a0 Z = true) (w2 : (Jvm.Cond.instanceMethod y).before a0 Z = true) (w5 : (Jvm.Cond.selects y.cls y y).before a0 Z = true) (w6 : (Jvm.Cond.privateMethod y).before a0 Z = true) (w3 : (Jvm.Cond.initialized y.cls).before a0 Z = true) (w4 : (Jvm.Cond.code y bytes maxL ret).before a0 Z = true)
    (hy : y.cls ≠ "java/lang/invoke/MethodHandle" ∧ y.cls ≠ "java/lang/invoke/VarHandle") (E : Exa Z h a C)
    (hM : Con l Z y bytes maxL ret [] rm as' h rm.cells rm.slots Q)
    (hf : rm.frames + 1 ≤ R.frames) (hl : W + (maxL + 11) + rm.locals ≤ R.locals) (hc : cells + rm.cells ≤ R.cells) (hs : slots + rm.slots ≤ R.slots)
    (hg : g.method = m) (hsize : g.locals.size = c.maxLocals) (has : (Value.ref a :: argsL).toArray = as') (hlen : ∀ sig, parseMethodDescriptor y.desc = some sig → argsL.length = sig.parameters.length)
    (hstack : g.stack = argsL.reverse ++ .ref a :: rest) (hW : 2 * g.monitorRoom + (rest.map fun v => v.category).sum ≤ W) (hdg : decode c.code g.pc = .ok (.invokevirtual index, 3)) :
    ∃ v T' L, Stand p l e R s m args below meth c T' (locs ++ L) (cells + rm.cells) (slots + rm.slots) ∧ Q v T'.heap L ∧ ∀ target, Steps p.tables e below (T'.setTop { g with pc := g.pc + 3, stack := v.toList ++ rest }) target → Steps p.tables e below (T.setTop g) target := by
  obtain ⟨cq, q1, q2⟩ := E.cell
  obtain ⟨v, _, ⟨T', L', k', n'⟩, -, X', ⟨L, hQ, l', y', z'⟩, st⟩ := X.privateBack hx (y := y) hown (mvT hZ w1) (mvT hZ w2) (mvT hZ w5) (Cond.privateMethod_at (mvP hZ w6 (args := #[]))) (mvT hZ w4) hy (backOf (W := W) hM hZ w4 w3 hf hl) (g := g) hg hsize (Steps.refl _) (a := a) (by rw [eT]; exact q1) q2 (argsL := argsL) (rest := rest) hlen hstack hW hdg (fun _ _ => ⟨has, eT, hc, hs⟩)
  dsimp only [Pt.U, Pt.locs, Pt.cells, Pt.slots] at X' l' y' z' st hQ
  subst l' y' z'
  exact ⟨v, T', L, X', hQ, fun _ k => st.trans k⟩
theorem own_callF {own C : String} {index count : Nat} {xi y : MethodName} {bytes : ByteArray} {maxL : Nat} {ret : Option FieldType} {rm : Room} {as' : Array Value} {Q : Option Value → Heap → List Loc → Prop} {W : Nat} {g : JFrame} {a : Addr} {argsL rest : List Value}
    (X : Stand p l e R s m args below meth c T locs cells slots) (hx : p.tables.exec = Jvm.exec) (hZ : Z.Warmed39 s.vm) (eT : T.heap = h) (hown : s.vm.findClass own = some m.cls)
    (w1 : (Jvm.Cond.methodLink own index xi).before a0 Z = true) (w2 : (Jvm.Cond.declares xi).before a0 Z = true) (w7 : (Jvm.Cond.interfaceMethod xi.cls xi.cls xi.name xi.desc).before args s = true) (w5 : (Jvm.Cond.selects C xi y).before a0 Z = true) (w6 : (Jvm.Cond.instanceMethod y).before a0 Z = true)
    (w8 : (Jvm.Cond.publicMethod y).before a0 Z = true) (w9 : (Jvm.Cond.unhidden C xi.name xi.desc).before a0 Z = true) (w10 : (Jvm.Cond.castable C xi.cls).before a0 Z = true) (w3 : (Jvm.Cond.initialized y.cls).before a0 Z = true) (w4 : (Jvm.Cond.code y bytes maxL ret).before a0 Z = true)
    (hy : xi.cls ≠ "java/lang/invoke/MethodHandle" ∧ xi.cls ≠ "java/lang/invoke/VarHandle") (E : Exa Z h a C)
    (hM : Con l Z y bytes maxL ret [] rm as' h rm.cells rm.slots Q)
    (hf : rm.frames + 1 ≤ R.frames) (hl : W + (maxL + 11) + rm.locals ≤ R.locals) (hc : cells + rm.cells ≤ R.cells) (hs : slots + rm.slots ≤ R.slots)
    (hg : g.method = m) (hsize : g.locals.size = c.maxLocals) (has : (Value.ref a :: argsL).toArray = as') (hlen : ∀ sig, parseMethodDescriptor xi.desc = some sig → argsL.length = sig.parameters.length)
    (hstack : g.stack = argsL.reverse ++ .ref a :: rest) (hW : 2 * g.monitorRoom + (rest.map fun v => v.category).sum ≤ W) (hdg : decode c.code g.pc = .ok (.invokeinterface index count, 5)) :
    ∃ v T' L, Stand p l e R s m args below meth c T' (locs ++ L) (cells + rm.cells) (slots + rm.slots) ∧ Q v T'.heap L ∧ ∀ target, Steps p.tables e below (T'.setTop { g with pc := g.pc + 5, stack := v.toList ++ rest }) target → Steps p.tables e below (T.setTop g) target := by
  obtain ⟨cq, kq, qa, qb, qc⟩ := isOf hZ eT E
  obtain ⟨v, _, ⟨T', L', k', n'⟩, -, X', ⟨L, hQ, l', y', z'⟩, st⟩ := X.interfaceBack hx (xi := xi) (y := y) hown (mvT hZ w1) (mvT hZ w2) w7 (mvT hZ w5) (mvT hZ w6) (mvT hZ w8) (mvT hZ w9) (mvT hZ w10) hy (backOf (W := W) hM hZ w4 w3 hf hl) qa qb qc (g := g) hg hsize (Steps.refl _) (argsL := argsL) (rest := rest) hlen hstack hW hdg (fun _ _ => ⟨has, eT, hc, hs⟩)
  dsimp only [Pt.U, Pt.locs, Pt.cells, Pt.slots] at X' l' y' z' st hQ
  subst l' y' z'
  exact ⟨v, T', L, X', hQ, fun _ k => st.trans k⟩
theorem own_ns_root {O K : String} {n : Nat} (w : (Jvm.Cond.noSuperclass O).before a0 Z = true) (wk : (Jvm.Cond.instantiable K n).before a0 Z = true) (hn : O ≠ K) : NS Z O K := by
  obtain ⟨c, k, h1, h2, h3, -, -⟩ := Cond.noSuperclass_spec w
  obtain ⟨t, kt, g1, -⟩ := Cond.instantiable_spec wk
  have ne := ids_ne h1 g1 hn
  refine ⟨c, t, h1, g1, fun fuel => ?_⟩
  cases fuel with
  | zero => rfl
  | succ f => simp [Vm.isSubclassAux, ne, h2, h3]
theorem own_ns_no {C S K : String} {n : Nat} (w : (Jvm.Cond.superclass C S).before a0 Z = true) (wk : (Jvm.Cond.instantiable K n).before a0 Z = true) (hN : NS Z C K) (hn : C ≠ K) : ∃ c t, Z.vm.findClass C = some c ∧ Z.vm.findClass K = some t ∧ Z.vm.assignable c t = false := by
  obtain ⟨c, t, h0, g0, n3⟩ := hN
  obtain ⟨p, k, kp, h1, h2, h3, h4, h5, -, h7⟩ := Cond.superclass_spec h0 w
  obtain ⟨t', kt, g1, g2, g3, g4, -⟩ := Cond.instantiable_spec wk
  cases g0.symm.trans g1
  have g7 : kt.isInterface = false := by
    cases hq : kt.isInterface
    · rfl
    · simp [hq] at g4
  have ne := ids_ne h0 g0 hn
  refine ⟨c, t, h0, g0, ?_⟩
  show Z.vm.assignableAux (255 + 1) c t = false
  simp [Vm.assignableAux, ne, h2, g2, h5, g3, g7, Vm.isSubclass, n3]
end OwnKit
section OwnStart
variable {args : Array Value} {Z : State}
theorem own_eq_int {t : Term} {k : Int32} (h : (Jvm.Cond.eq t (.int k)).value args Z none Z [] = some true) : t.eval args Z none [] Z = some (.int k) := by
  obtain ⟨a, b, h1, h2, h3, h4⟩ := cmp_v (Or.inl h)
  have hb : b = .int k := Option.some.inj (h2.symm.trans (Term.int_eval k))
  subst hb
  obtain ⟨z, rfl⟩ : ∃ z, a = .int z := h4
  have q : z = k := by simpa [Cond.value, h1, h2] using h
  rw [h1, q]
theorem own_eq_ref {t u : Term} {a : Addr} (h : (Jvm.Cond.eq t u).value args Z none Z [] = some true) (hu : u.eval args Z none [] Z = some (.ref a)) : t.eval args Z none [] Z = some (.ref a) := by
  obtain ⟨x, y, h1, h2, h3, h4⟩ := cmp_v (Or.inl h)
  have hb : y = .ref a := Option.some.inj (h2.symm.trans hu)
  subst hb
  obtain ⟨-, q⟩ : Value.isRef (.ref a) = true ∧ x.isRef = true := h4
  have e := eq_R (a := t) (b := u) h1 h2 q rfl
  rw [e] at h
  have r : x = .ref a := by simpa using h
  rw [h1, r]
theorem own_ne0 {t : Term} {z : Int32} (ht : t.eval args Z none [] Z = some (.int z)) (h : (Jvm.Cond.not (Jvm.Cond.eq t (.int 0))).value args Z none Z [] = some true) : z ≠ 0 := by
  have q := not_v h
  intro e
  subst e
  simp [Cond.value, ht, Term.eval] at q
theorem own_fld {t : Term} {C n d : String} {a : Addr} {v : Value} (ht : t.eval args Z none [] Z = some (.ref a)) (h : (Term.field t C n d).eval args Z none [] Z = some v) : Fld Z Z.heap a C n d v := Fld.start ((fld_at ht).symm.trans h)
theorem own_len {t : Term} {a : Addr} {c : Cell} {k : Int32} {ty : FieldType} (ht : t.eval args Z none [] Z = some (.ref a)) (A : Arr Z Z.heap a c ty) (h : (Term.length t).eval args Z none [] Z = some (.int k)) : c.slots.size < 2 ^ 31 ∧ c.slots.size.toInt32 = k := by
  have q : Z.arrayAt? a = some c := A.fin (Vm.Alike.refl _)
  by_cases hl : c.slots.size < 2 ^ 31
  · have e := (len_f (t := t) ht q hl).symm.trans h
    exact ⟨hl, by simpa using e⟩
  · exfalso
    have hl' : ¬ c.slots.size < 2147483648 := hl
    simp [Term.eval, ht, q, hl'] at h
theorem own_slot {t : Term} {a : Addr} {c : Cell} {ty : FieldType} {v : Value} {j : Int32} (ht : t.eval args Z none [] Z = some (.ref a)) (A : Arr Z Z.heap a c ty) (h : (Term.elem t (.int j)).eval args Z none [] Z = some v) : c.slots[j.toNatClampNeg]? = some v := (elem_in h ht (Term.int_eval j) A.1).2
end OwnStart
theorem dprog_31_method_7_code_0 : decode prog_31_method_7_code 0 = .ok (.aload_n 0, 1) := by decide +kernel
theorem dprog_31_method_7_code_1 : decode prog_31_method_7_code 1 = .ok (.getstatic 3, 3) := by decide +kernel
theorem dprog_31_method_7_code_4 : decode prog_31_method_7_code 4 = .ok (.if_acmp .ne 17, 3) := by decide +kernel
theorem dprog_31_method_7_code_7 : decode prog_31_method_7_code 7 = .ok (.lload_n 1, 1) := by decide +kernel
theorem dprog_31_method_7_code_8 : decode prog_31_method_7_code 8 = .ok (.lload_n 3, 1) := by decide +kernel
theorem dprog_31_method_7_code_9 : decode prog_31_method_7_code 9 = .ok (.lcmp, 1) := by decide +kernel
theorem dprog_31_method_7_code_10 : decode prog_31_method_7_code 10 = .ok (.ifCond .le 7, 3) := by decide +kernel
theorem dprog_31_method_7_code_13 : decode prog_31_method_7_code 13 = .ok (.iconst 1, 1) := by decide +kernel
theorem dprog_31_method_7_code_14 : decode prog_31_method_7_code 14 = .ok (.goto 18, 3) := by decide +kernel
theorem dprog_31_method_7_code_17 : decode prog_31_method_7_code 17 = .ok (.iconst 0, 1) := by decide +kernel
theorem dprog_31_method_7_code_18 : decode prog_31_method_7_code 18 = .ok (.goto 14, 3) := by decide +kernel
theorem dprog_31_method_7_code_21 : decode prog_31_method_7_code 21 = .ok (.lload_n 1, 1) := by decide +kernel
theorem dprog_31_method_7_code_22 : decode prog_31_method_7_code 22 = .ok (.lload_n 3, 1) := by decide +kernel
theorem dprog_31_method_7_code_23 : decode prog_31_method_7_code 23 = .ok (.lcmp, 1) := by decide +kernel
theorem dprog_31_method_7_code_24 : decode prog_31_method_7_code 24 = .ok (.ifCond .ge 7, 3) := by decide +kernel
theorem dprog_31_method_7_code_27 : decode prog_31_method_7_code 27 = .ok (.iconst 1, 1) := by decide +kernel
theorem dprog_31_method_7_code_28 : decode prog_31_method_7_code 28 = .ok (.goto 4, 3) := by decide +kernel
theorem dprog_31_method_7_code_31 : decode prog_31_method_7_code 31 = .ok (.iconst 0, 1) := by decide +kernel
theorem dprog_31_method_7_code_32 : decode prog_31_method_7_code 32 = .ok (.ireturn, 1) := by decide +kernel
theorem pn_0 : plainName "com/example/dwellgate/dwellgate/book/Side" = true := by first | (simp [plainName, overriddenIn]; done) | decide +kernel
theorem pn_1 : plainName "com/example/dwellgate/dwellgate/book/SideBetterPinLaw" = true := by first | (simp [plainName, overriddenIn]; done) | decide +kernel
theorem pd_0 : parseMethodDescriptor "(JJ)Z" = some ⟨[.long, .long], some .boolean⟩ := by decide +kernel
theorem ef_1 (m : MethodId) (s_Side_SELL : Addr) (q1 : Int64) (q2 : Int64) : entryFrame m #[(.ref s_Side_SELL), (.long q1), (.long q2)] 5 = mkF m 0 #[.val (.ref s_Side_SELL), .val (.long q1), .second, .val (.long q2), .second] [] := by first | (simp [entryFrame, mkF, argsToLocals, Value.category, maxLocals]; done) | rfl
def Q1 (Z : State) (s_Side_SELL : Addr) (q1 : Int64) (q2 : Int64) (s_Side_BUY : Addr) (h0 : Heap) (n0 : Nat) (v : Option Value) (h : Heap) (L : List Loc) : Prop := (∃ (rv1 : Int32), (((q1 < q2) ∧ (rv1 = (1 : Int32))) ∨ ((¬ (q1 < q2)) ∧ (rv1 = (0 : Int32)))) ∧ v = some (.int rv1) ∧ Fr n0 L ∧ h = h0)
set_option maxRecDepth 65536 in
set_option maxHeartbeats 40000000 in
theorem rm1 (l : Launch) (Z : State) (a0 : Array Value) (hw : ∀ d ∈ tables_1, d.before a0 Z = true) (ws : List Jvm.Cond) (s_Side_SELL : Addr) (q1 : Int64) (q2 : Int64) (s_Side_BUY : Addr) (h0 : Heap) (n0 : Nat) (Z0 : n0 ≤ h0.size) (S_s_Side_BUY : Sta Z h0 "com/example/dwellgate/dwellgate/book/Side" "BUY" "Lcom/example/dwellgate/dwellgate/book/Side;" (.ref s_Side_BUY)) (ne_s_Side_SELL_s_Side_BUY : s_Side_SELL ≠ s_Side_BUY) :
    Con l Z (⟨"com/example/dwellgate/dwellgate/book/Side", "better", "(JJ)Z"⟩ : MethodName) prog_31_method_7_code 5 (some .boolean) ws ({ frames := 0, cells := 0, slots := 0, locals := 0 } : Room) #[(.ref s_Side_SELL), (.long q1), (.long q2)] h0 0 0 (Q1 Z s_Side_SELL q1 q2 s_Side_BUY h0 n0) := by
  refine MetFree.of_bodySF (plainFor_of_name pn_0) hisR ?_
  intro p e s m args below meth c s₁ Bd hml0 hP hK
  obtain ⟨rfl, hZ, hh⟩ := hP
  have hx := Bd.exec
  have hby := Bd.bytes
  have hml : c.maxLocals = 5 := hml0
  have hown : s.vm.findClass "com/example/dwellgate/dwellgate/book/Side" = some m.cls := findClass_of_methodNamed Bd.named
  have hnm := (name_of_methodNamed Bd.named Bd.method).1
  have X0 : Stand p l e ({ frames := 0, cells := 0, slots := 0, locals := 0 } : Room) s m #[(.ref s_Side_SELL), (.long q1), (.long q2)] below meth c s₁ [] 0 0 := Stand.of_body Bd
  have e0 : s₁.heap = h0 := by rw [← hh, Bd.state]; rfl
  have N0 := Fr.nil n0
  refine Go.of ?_
  refine Go.st (S' := s₁.setTop (mkF m 0 #[.val (.ref s_Side_SELL), .val (.long q1), .second, .val (.long q2), .second] [])) (fun t k => castTop (ef_1 m s_Side_SELL q1 q2) k) ?_
  let A15 : Array Slot := #[.val (.ref s_Side_SELL), .val (.long q1), .second, .val (.long q2), .second]
  refine Go.st (S' := s₁.setTop (mkF m 1 A15 [(.ref s_Side_SELL)])) (fun t k => XS.aloadN X0.here hx rfl (hb hby dprog_31_method_7_code_0) rfl rfl k) ?_
  obtain ⟨T16, X16, e16, st16⟩ := getS X0 hx hZ hown (hw _ (List.mem_of_getElem? (i := 10) rfl)) Via.refl e0 S_s_Side_BUY (host := "") (g := (mkF m 1 A15 [(.ref s_Side_SELL)])) rfl (hb hby dprog_31_method_7_code_1)
  refine Go.st (S' := T16.setTop (mkF m 4 A15 [(.ref s_Side_BUY), (.ref s_Side_SELL)])) st16 ?_
  refine Go.st (S' := T16.setTop (mkF m 21 A15 [])) (fun t k => acmp X16 hx rfl rfl rfl (pc0 := 4) (pc' := 21) (same := false) rfl (hb hby dprog_31_method_7_code_4) rfl (by simp [ne_s_Side_SELL_s_Side_BUY]) (by decide) (by decide) k) ?_
  refine Go.st (S' := T16.setTop (mkF m 22 A15 [(.long q1)])) (fun t k => XS.lloadN X16.here hx rfl (hb hby dprog_31_method_7_code_21) rfl k) ?_
  refine Go.st (S' := T16.setTop (mkF m 23 A15 [(.long q2), (.long q1)])) (fun t k => XS.lloadN X16.here hx rfl (hb hby dprog_31_method_7_code_22) rfl k) ?_
  refine Go.op (F := fun z => T16.setTop (mkF m 24 A15 [(.int z)])) (x := (lcmpW q1 q2)) (fun t k => XS.lcmp X16.here hx rfl (hb hby dprog_31_method_7_code_23) rfl k) ?_
  intro v17 hv17
  by_cases hc18 : (q1 < q2)
  · refine Go.st (S' := T16.setTop (mkF m 27 A15 [])) (fun t k => XS.ifNo X16.here hx rfl (hb hby dprog_31_method_7_code_24) rfl ((if0 _ _).trans (tlt (by rw [hv17]; exact (lw_lt _ _).2 hc18)).2.1) k) ?_
    refine Go.st (S' := T16.setTop (mkF m 28 A15 [(.int (1 : Int32))])) (fun t k => XS.iconst X16.here hx rfl (hb hby dprog_31_method_7_code_27) k) ?_
    refine Go.st (S' := T16.setTop (mkF m 32 A15 [(.int (1 : Int32))])) (fun t k => XS.goto X16.here hx rfl (pc0 := 28) (pc' := 32) rfl (hb hby dprog_31_method_7_code_28) (by decide) (by decide) k) ?_
    exact Go.ret X16 (v := some (.int (1 : Int32))) (fun h => by rw [Bd.returns] at h; cases h) Bd.notSynchronized (fun fs hr => retN X16 hx (t := .boolean) Bd.returns (by simp) (hb hby dprog_31_method_7_code_32) hr) (by decide) (by decide) (⟨(1 : Int32), (Or.inl ⟨hc18, rfl⟩), rfl, N0, (e16)⟩)
  · refine Go.st (S' := T16.setTop (mkF m 31 A15 [])) (fun t k => XS.ifYes X16.here hx rfl (pc0 := 24) (pc' := 31) rfl (hb hby dprog_31_method_7_code_24) rfl ((if0 _ _).trans (flt (by rw [hv17]; exact fun z => hc18 ((lw_lt _ _).1 z))).2.1) (by decide) (by decide) k) ?_
    refine Go.st (S' := T16.setTop (mkF m 32 A15 [(.int (0 : Int32))])) (fun t k => XS.iconst X16.here hx rfl (hb hby dprog_31_method_7_code_31) k) ?_
    exact Go.ret X16 (v := some (.int (0 : Int32))) (fun h => by rw [Bd.returns] at h; cases h) Bd.notSynchronized (fun fs hr => retN X16 hx (t := .boolean) Bd.returns (by simp) (hb hby dprog_31_method_7_code_32) hr) (by decide) (by decide) (⟨(0 : Int32), (Or.inr ⟨hc18, rfl⟩), rfl, N0, (e16)⟩)
theorem ef_2 (m : MethodId) (s_Side_BUY : Addr) (q1 : Int64) (q2 : Int64) : entryFrame m #[(.ref s_Side_BUY), (.long q1), (.long q2)] 5 = mkF m 0 #[.val (.ref s_Side_BUY), .val (.long q1), .second, .val (.long q2), .second] [] := by first | (simp [entryFrame, mkF, argsToLocals, Value.category, maxLocals]; done) | rfl
def Q2 (Z : State) (s_Side_BUY : Addr) (q1 : Int64) (q2 : Int64) (h0 : Heap) (n0 : Nat) (v : Option Value) (h : Heap) (L : List Loc) : Prop := (∃ (rv2 : Int32), (((q2 < q1) ∧ (rv2 = (1 : Int32))) ∨ ((¬ (q2 < q1)) ∧ (rv2 = (0 : Int32)))) ∧ v = some (.int rv2) ∧ Fr n0 L ∧ h = h0)
set_option maxRecDepth 65536 in
set_option maxHeartbeats 40000000 in
theorem rm2 (l : Launch) (Z : State) (a0 : Array Value) (hw : ∀ d ∈ tables_1, d.before a0 Z = true) (ws : List Jvm.Cond) (s_Side_BUY : Addr) (q1 : Int64) (q2 : Int64) (h0 : Heap) (n0 : Nat) (Z0 : n0 ≤ h0.size) (S_s_Side_BUY : Sta Z h0 "com/example/dwellgate/dwellgate/book/Side" "BUY" "Lcom/example/dwellgate/dwellgate/book/Side;" (.ref s_Side_BUY)) :
    Con l Z (⟨"com/example/dwellgate/dwellgate/book/Side", "better", "(JJ)Z"⟩ : MethodName) prog_31_method_7_code 5 (some .boolean) ws ({ frames := 0, cells := 0, slots := 0, locals := 0 } : Room) #[(.ref s_Side_BUY), (.long q1), (.long q2)] h0 0 0 (Q2 Z s_Side_BUY q1 q2 h0 n0) := by
  refine MetFree.of_bodySF (plainFor_of_name pn_0) hisR ?_
  intro p e s m args below meth c s₁ Bd hml0 hP hK
  obtain ⟨rfl, hZ, hh⟩ := hP
  have hx := Bd.exec
  have hby := Bd.bytes
  have hml : c.maxLocals = 5 := hml0
  have hown : s.vm.findClass "com/example/dwellgate/dwellgate/book/Side" = some m.cls := findClass_of_methodNamed Bd.named
  have hnm := (name_of_methodNamed Bd.named Bd.method).1
  have X0 : Stand p l e ({ frames := 0, cells := 0, slots := 0, locals := 0 } : Room) s m #[(.ref s_Side_BUY), (.long q1), (.long q2)] below meth c s₁ [] 0 0 := Stand.of_body Bd
  have e0 : s₁.heap = h0 := by rw [← hh, Bd.state]; rfl
  have N0 := Fr.nil n0
  refine Go.of ?_
  refine Go.st (S' := s₁.setTop (mkF m 0 #[.val (.ref s_Side_BUY), .val (.long q1), .second, .val (.long q2), .second] [])) (fun t k => castTop (ef_2 m s_Side_BUY q1 q2) k) ?_
  let A27 : Array Slot := #[.val (.ref s_Side_BUY), .val (.long q1), .second, .val (.long q2), .second]
  refine Go.st (S' := s₁.setTop (mkF m 1 A27 [(.ref s_Side_BUY)])) (fun t k => XS.aloadN X0.here hx rfl (hb hby dprog_31_method_7_code_0) rfl rfl k) ?_
  obtain ⟨T28, X28, e28, st28⟩ := getS X0 hx hZ hown (hw _ (List.mem_of_getElem? (i := 10) rfl)) Via.refl e0 S_s_Side_BUY (host := "") (g := (mkF m 1 A27 [(.ref s_Side_BUY)])) rfl (hb hby dprog_31_method_7_code_1)
  refine Go.st (S' := T28.setTop (mkF m 4 A27 [(.ref s_Side_BUY), (.ref s_Side_BUY)])) st28 ?_
  refine Go.st (S' := T28.setTop (mkF m 7 A27 [])) (fun t k => acmp X28 hx rfl rfl rfl (pc0 := 4) (pc' := 7) (same := true) rfl (hb hby dprog_31_method_7_code_4) rfl (by simp) (by decide) (by decide) k) ?_
  refine Go.st (S' := T28.setTop (mkF m 8 A27 [(.long q1)])) (fun t k => XS.lloadN X28.here hx rfl (hb hby dprog_31_method_7_code_7) rfl k) ?_
  refine Go.st (S' := T28.setTop (mkF m 9 A27 [(.long q2), (.long q1)])) (fun t k => XS.lloadN X28.here hx rfl (hb hby dprog_31_method_7_code_8) rfl k) ?_
  refine Go.op (F := fun z => T28.setTop (mkF m 10 A27 [(.int z)])) (x := (lcmpW q1 q2)) (fun t k => XS.lcmp X28.here hx rfl (hb hby dprog_31_method_7_code_9) rfl k) ?_
  intro v29 hv29
  by_cases hc30 : (q2 < q1)
  · refine Go.st (S' := T28.setTop (mkF m 13 A27 [])) (fun t k => XS.ifNo X28.here hx rfl (hb hby dprog_31_method_7_code_10) rfl ((if0 _ _).trans (tlt (by rw [hv29]; exact (lw_gt _ _).2 hc30)).2.2.2) k) ?_
    refine Go.st (S' := T28.setTop (mkF m 14 A27 [(.int (1 : Int32))])) (fun t k => XS.iconst X28.here hx rfl (hb hby dprog_31_method_7_code_13) k) ?_
    refine Go.st (S' := T28.setTop (mkF m 32 A27 [(.int (1 : Int32))])) (fun t k => XS.goto X28.here hx rfl (pc0 := 14) (pc' := 32) rfl (hb hby dprog_31_method_7_code_14) (by decide) (by decide) k) ?_
    exact Go.ret X28 (v := some (.int (1 : Int32))) (fun h => by rw [Bd.returns] at h; cases h) Bd.notSynchronized (fun fs hr => retN X28 hx (t := .boolean) Bd.returns (by simp) (hb hby dprog_31_method_7_code_32) hr) (by decide) (by decide) (⟨(1 : Int32), (Or.inl ⟨hc30, rfl⟩), rfl, N0, (e28)⟩)
  · refine Go.st (S' := T28.setTop (mkF m 17 A27 [])) (fun t k => XS.ifYes X28.here hx rfl (pc0 := 10) (pc' := 17) rfl (hb hby dprog_31_method_7_code_10) rfl ((if0 _ _).trans (flt (by rw [hv29]; exact fun z => hc30 ((lw_gt _ _).1 z))).2.2.2) (by decide) (by decide) k) ?_
    refine Go.st (S' := T28.setTop (mkF m 18 A27 [(.int (0 : Int32))])) (fun t k => XS.iconst X28.here hx rfl (hb hby dprog_31_method_7_code_17) k) ?_
    refine Go.st (S' := T28.setTop (mkF m 32 A27 [(.int (0 : Int32))])) (fun t k => XS.goto X28.here hx rfl (pc0 := 18) (pc' := 32) rfl (hb hby dprog_31_method_7_code_18) (by decide) (by decide) k) ?_
    exact Go.ret X28 (v := some (.int (0 : Int32))) (fun h => by rw [Bd.returns] at h; cases h) Bd.notSynchronized (fun fs hr => retN X28 hx (t := .boolean) Bd.returns (by simp) (hb hby dprog_31_method_7_code_32) hr) (by decide) (by decide) (⟨(0 : Int32), (Or.inr ⟨hc30, rfl⟩), rfl, N0, (e28)⟩)
theorem ef_3 (m : MethodId) (q0 : Int64) (q1 : Int64) (p2 : Int32) : entryFrame m #[(.long q0), (.long q1), (.int p2)] maxLocals = mkF m 0 #[.val (.long q0), .second, .val (.long q1), .second, .val (.int p2), .unset, .unset, .unset, .unset, .unset, .unset, .unset, .unset] [] := by first | (simp [entryFrame, mkF, argsToLocals, Value.category, maxLocals]; done) | rfl
def Q3 (Z : State) (q0 : Int64) (q1 : Int64) (p2 : Int32) (s_Side_SELL : Addr) (s_Side_BUY : Addr) (h0 : Heap) (n0 : Nat) (v : Option Value) (h : Heap) (L : List Loc) : Prop := v = some (.int 1) ∧ Fr n0 L
set_option maxRecDepth 65536 in
set_option maxHeartbeats 40000000 in
theorem rm3 (l : Launch) (Z : State) (a0 : Array Value) (hw : ∀ d ∈ tables_1, d.before a0 Z = true) (ws : List Jvm.Cond) (q0 : Int64) (q1 : Int64) (p2 : Int32) (s_Side_SELL : Addr) (s_Side_BUY : Addr) (h0 : Heap) (n0 : Nat) (Z0 : n0 ≤ h0.size) (S_s_Side_SELL : Sta Z h0 "com/example/dwellgate/dwellgate/book/Side" "SELL" "Lcom/example/dwellgate/dwellgate/book/Side;" (.ref s_Side_SELL)) (S_s_Side_BUY : Sta Z h0 "com/example/dwellgate/dwellgate/book/Side" "BUY" "Lcom/example/dwellgate/dwellgate/book/Side;" (.ref s_Side_BUY)) (E_s_Side_SELL : Exa Z h0 s_Side_SELL "com/example/dwellgate/dwellgate/book/Side") (ne_s_Side_SELL_s_Side_BUY : s_Side_SELL ≠ s_Side_BUY) (E_s_Side_BUY : Exa Z h0 s_Side_BUY "com/example/dwellgate/dwellgate/book/Side") :
    Con l Z x code maxLocals ret ws room_1 #[(.long q0), (.long q1), (.int p2)] h0 0 0 (Q3 Z q0 q1 p2 s_Side_SELL s_Side_BUY h0 n0) := by
  refine MetFree.of_bodySF (plainFor_of_name pn_1) hisR ?_
  intro p e s m args below meth c s₁ Bd hml0 hP hK
  obtain ⟨rfl, hZ, hh⟩ := hP
  have hx := Bd.exec
  have hby := Bd.bytes
  have hml : c.maxLocals = 13 := hml0
  have hown : s.vm.findClass "com/example/dwellgate/dwellgate/book/SideBetterPinLaw" = some m.cls := findClass_of_methodNamed Bd.named
  have hnm := (name_of_methodNamed Bd.named Bd.method).1
  have X0 : Stand p l e room_1 s m #[(.long q0), (.long q1), (.int p2)] below meth c s₁ [] 0 0 := Stand.of_body Bd
  have e0 : s₁.heap = h0 := by rw [← hh, Bd.state]; rfl
  have N0 := Fr.nil n0
  refine Go.of ?_
  refine Go.st (S' := s₁.setTop (mkF m 0 #[.val (.long q0), .second, .val (.long q1), .second, .val (.int p2), .unset, .unset, .unset, .unset, .unset, .unset, .unset, .unset] [])) (fun t k => castTop (ef_3 m q0 q1 p2) k) ?_
  let A1 : Array Slot := #[.val (.long q0), .second, .val (.long q1), .second, .val (.int p2), .unset, .unset, .unset, .unset, .unset, .unset, .unset, .unset]
  refine Go.st (S' := s₁.setTop (mkF m 2 A1 [(.int p2)])) (fun t k => XS.iload X0.here hx rfl (hb hby at_0) rfl k) ?_
  refine Go.st (S' := s₁.setTop (mkF m 3 A1 [(.int (1 : Int32)), (.int p2)])) (fun t k => XS.iconst X0.here hx rfl (hb hby at_2) k) ?_
  refine Go.op (F := fun z => s₁.setTop (mkF m 4 A1 [(.int z)])) (x := (p2 &&& (1 : Int32))) (fun t k => XS.iand X0.here hx rfl (hb hby at_3) rfl k) ?_
  intro v2 hv2
  by_cases hc9 : (v2 = (0 : Int32))
  · refine Go.st (S' := s₁.setTop (mkF m 13 A1 [])) (fun t k => XS.ifYes X0.here hx rfl (pc0 := 4) (pc' := 13) rfl (hb hby at_4) rfl ((if0 _ _).trans (teq hc9).1) (by decide) (by decide) k) ?_
    obtain ⟨T10, X10, e10, st10⟩ := getS X0 hx hZ hown (hw _ (List.mem_of_getElem? (i := 0) rfl)) Via.refl e0 S_s_Side_SELL (host := "") (g := (mkF m 13 A1 [])) rfl (hb hby at_13)
    refine Go.st (S' := T10.setTop (mkF m 16 A1 [(.ref s_Side_SELL)])) st10 ?_
    let A11 : Array Slot := #[.val (.long q0), .second, .val (.long q1), .second, .val (.int p2), .val (.ref s_Side_SELL), .unset, .unset, .unset, .unset, .unset, .unset, .unset]
    refine Go.st (S' := T10.setTop (mkF m 18 A11 [])) (fun t k => XS.astore X10.here hx rfl (hb hby at_16) rfl rfl (l' := A11) rfl k) ?_
    refine Go.st (S' := T10.setTop (mkF m 20 A11 [(.int p2)])) (fun t k => XS.iload X10.here hx rfl (hb hby at_18) rfl k) ?_
    refine Go.st (S' := T10.setTop (mkF m 21 A11 [(.int (1 : Int32)), (.int p2)])) (fun t k => XS.iconst X10.here hx rfl (hb hby at_20) k) ?_
    refine Go.op (F := fun z => T10.setTop (mkF m 22 A11 [(.int z)])) (x := (p2 &&& (1 : Int32))) (fun t k => XS.iand X10.here hx rfl (hb hby at_21) rfl k) ?_
    intro v12 hv12
    obtain rfl : v2 = v12 := hv2.trans hv12.symm
    refine Go.st (S' := T10.setTop (mkF m 31 A11 [])) (fun t k => XS.ifYes X10.here hx rfl (pc0 := 22) (pc' := 31) rfl (hb hby at_22) rfl ((if0 _ _).trans (teq hc9).1) (by decide) (by decide) k) ?_
    obtain ⟨T13, X13, e13, st13⟩ := getS X10 hx hZ hown (hw _ (List.mem_of_getElem? (i := 3) rfl)) Via.refl e10 S_s_Side_BUY (host := "") (g := (mkF m 31 A11 [])) rfl (hb hby at_31)
    refine Go.st (S' := T13.setTop (mkF m 34 A11 [(.ref s_Side_BUY)])) st13 ?_
    let A14 : Array Slot := #[.val (.long q0), .second, .val (.long q1), .second, .val (.int p2), .val (.ref s_Side_SELL), .val (.ref s_Side_BUY), .unset, .unset, .unset, .unset, .unset, .unset]
    refine Go.st (S' := T13.setTop (mkF m 36 A14 [])) (fun t k => XS.astore X13.here hx rfl (hb hby at_34) rfl rfl (l' := A14) rfl k) ?_
    refine Go.st (S' := T13.setTop (mkF m 38 A14 [(.ref s_Side_SELL)])) (fun t k => XS.aload X13.here hx rfl (hb hby at_36) rfl rfl k) ?_
    refine Go.st (S' := T13.setTop (mkF m 39 A14 [(.long q0), (.ref s_Side_SELL)])) (fun t k => XS.lloadN X13.here hx rfl (hb hby at_38) rfl k) ?_
    refine Go.st (S' := T13.setTop (mkF m 40 A14 [(.long q1), (.long q0), (.ref s_Side_SELL)])) (fun t k => XS.lloadN X13.here hx rfl (hb hby at_39) rfl k) ?_
    obtain ⟨r19, T19, L19, X19, hQ19, st19⟩ := own_callV (W := 0) (a := s_Side_SELL) (C := "com/example/dwellgate/dwellgate/book/Side") X13 hx hZ e13 hown (y := (⟨"com/example/dwellgate/dwellgate/book/Side", "better", "(JJ)Z"⟩ : MethodName)) (z := (⟨"com/example/dwellgate/dwellgate/book/Side", "better", "(JJ)Z"⟩ : MethodName)) (hw _ (List.mem_of_getElem? (i := 5) rfl)) (hw _ (List.mem_of_getElem? (i := 6) rfl)) (notFace_of_selects (args := #[]) (mvT hZ (hw _ (List.mem_of_getElem? (i := 8) rfl)))) (hw _ (List.mem_of_getElem? (i := 8) rfl)) (hw _ (List.mem_of_getElem? (i := 7) rfl)) (hw _ (List.mem_of_getElem? (i := 1) rfl)) (hw _ (List.mem_of_getElem? (i := 9) rfl)) (by decide) (E_s_Side_SELL) (rm1 l Z a0 hw [] s_Side_SELL q0 q1 s_Side_BUY h0 n0 Z0 (S_s_Side_BUY) (ne_s_Side_SELL_s_Side_BUY)) (by decide) (by decide) (by decide) (by decide) (g := (mkF m 40 A14 [(.long q1), (.long q0), (.ref s_Side_SELL)])) rfl (by rw [hml]; rfl) (argsL := [(.long q0), (.long q1)]) (rest := []) rfl (lenOf pd_0 rfl) rfl (by show 2 * 0 + _ ≤ _; exact Nat.le_of_eq rfl) (hb hby at_40)
    obtain ⟨r20, hc21, rfl, N19, e19⟩ := hQ19
    have N19_ := Fr.app N0 N19
    refine Go.st (S' := T19.setTop (mkF m 43 A14 [(.int r20)])) st19 ?_
    let A22 : Array Slot := #[.val (.long q0), .second, .val (.long q1), .second, .val (.int p2), .val (.ref s_Side_SELL), .val (.ref s_Side_BUY), .val (.int r20), .unset, .unset, .unset, .unset, .unset]
    refine Go.st (S' := T19.setTop (mkF m 45 A22 [])) (fun t k => XS.istore X19.here hx rfl (hb hby at_43) rfl (l' := A22) rfl k) ?_
    refine Go.st (S' := T19.setTop (mkF m 47 A22 [(.ref s_Side_SELL)])) (fun t k => XS.aload X19.here hx rfl (hb hby at_45) rfl rfl k) ?_
    refine Go.st (S' := T19.setTop (mkF m 48 A22 [(.long q1), (.ref s_Side_SELL)])) (fun t k => XS.lloadN X19.here hx rfl (hb hby at_47) rfl k) ?_
    refine Go.st (S' := T19.setTop (mkF m 49 A22 [(.long q0), (.long q1), (.ref s_Side_SELL)])) (fun t k => XS.lloadN X19.here hx rfl (hb hby at_48) rfl k) ?_
    obtain ⟨r23, T23, L23, X23, hQ23, st23⟩ := own_callV (W := 0) (a := s_Side_SELL) (C := "com/example/dwellgate/dwellgate/book/Side") X19 hx hZ e19 hown (y := (⟨"com/example/dwellgate/dwellgate/book/Side", "better", "(JJ)Z"⟩ : MethodName)) (z := (⟨"com/example/dwellgate/dwellgate/book/Side", "better", "(JJ)Z"⟩ : MethodName)) (hw _ (List.mem_of_getElem? (i := 5) rfl)) (hw _ (List.mem_of_getElem? (i := 6) rfl)) (notFace_of_selects (args := #[]) (mvT hZ (hw _ (List.mem_of_getElem? (i := 8) rfl)))) (hw _ (List.mem_of_getElem? (i := 8) rfl)) (hw _ (List.mem_of_getElem? (i := 7) rfl)) (hw _ (List.mem_of_getElem? (i := 1) rfl)) (hw _ (List.mem_of_getElem? (i := 9) rfl)) (by decide) (E_s_Side_SELL) (rm1 l Z a0 hw [] s_Side_SELL q1 q0 s_Side_BUY h0 n0 Z0 (S_s_Side_BUY) (ne_s_Side_SELL_s_Side_BUY)) (by decide) (by decide) (by decide) (by decide) (g := (mkF m 49 A22 [(.long q0), (.long q1), (.ref s_Side_SELL)])) rfl (by rw [hml]; rfl) (argsL := [(.long q1), (.long q0)]) (rest := []) rfl (lenOf pd_0 rfl) rfl (by show 2 * 0 + _ ≤ _; exact Nat.le_of_eq rfl) (hb hby at_49)
    obtain ⟨r24, hc25, rfl, N23, e23⟩ := hQ23
    have N23_ := Fr.app N19_ N23
    refine Go.st (S' := T23.setTop (mkF m 52 A22 [(.int r24)])) st23 ?_
    let A26 : Array Slot := #[.val (.long q0), .second, .val (.long q1), .second, .val (.int p2), .val (.ref s_Side_SELL), .val (.ref s_Side_BUY), .val (.int r20), .val (.int r24), .unset, .unset, .unset, .unset]
    refine Go.st (S' := T23.setTop (mkF m 54 A26 [])) (fun t k => XS.istore X23.here hx rfl (hb hby at_52) rfl (l' := A26) rfl k) ?_
    refine Go.st (S' := T23.setTop (mkF m 56 A26 [(.ref s_Side_BUY)])) (fun t k => XS.aload X23.here hx rfl (hb hby at_54) rfl rfl k) ?_
    refine Go.st (S' := T23.setTop (mkF m 57 A26 [(.long q1), (.ref s_Side_BUY)])) (fun t k => XS.lloadN X23.here hx rfl (hb hby at_56) rfl k) ?_
    refine Go.st (S' := T23.setTop (mkF m 58 A26 [(.long q0), (.long q1), (.ref s_Side_BUY)])) (fun t k => XS.lloadN X23.here hx rfl (hb hby at_57) rfl k) ?_
    obtain ⟨r31, T31, L31, X31, hQ31, st31⟩ := own_callV (W := 0) (a := s_Side_BUY) (C := "com/example/dwellgate/dwellgate/book/Side") X23 hx hZ e23 hown (y := (⟨"com/example/dwellgate/dwellgate/book/Side", "better", "(JJ)Z"⟩ : MethodName)) (z := (⟨"com/example/dwellgate/dwellgate/book/Side", "better", "(JJ)Z"⟩ : MethodName)) (hw _ (List.mem_of_getElem? (i := 5) rfl)) (hw _ (List.mem_of_getElem? (i := 6) rfl)) (notFace_of_selects (args := #[]) (mvT hZ (hw _ (List.mem_of_getElem? (i := 8) rfl)))) (hw _ (List.mem_of_getElem? (i := 8) rfl)) (hw _ (List.mem_of_getElem? (i := 7) rfl)) (hw _ (List.mem_of_getElem? (i := 1) rfl)) (hw _ (List.mem_of_getElem? (i := 9) rfl)) (by decide) (E_s_Side_BUY) (rm2 l Z a0 hw [] s_Side_BUY q1 q0 h0 n0 Z0 (S_s_Side_BUY)) (by decide) (by decide) (by decide) (by decide) (g := (mkF m 58 A26 [(.long q0), (.long q1), (.ref s_Side_BUY)])) rfl (by rw [hml]; rfl) (argsL := [(.long q1), (.long q0)]) (rest := []) rfl (lenOf pd_0 rfl) rfl (by show 2 * 0 + _ ≤ _; exact Nat.le_of_eq rfl) (hb hby at_58)
    obtain ⟨r32, hc33, rfl, N31, e31⟩ := hQ31
    have N31_ := Fr.app N23_ N31
    refine Go.st (S' := T31.setTop (mkF m 61 A26 [(.int r32)])) st31 ?_
    let A34 : Array Slot := #[.val (.long q0), .second, .val (.long q1), .second, .val (.int p2), .val (.ref s_Side_SELL), .val (.ref s_Side_BUY), .val (.int r20), .val (.int r24), .val (.int r32), .unset, .unset, .unset]
    refine Go.st (S' := T31.setTop (mkF m 63 A34 [])) (fun t k => XS.istore X31.here hx rfl (hb hby at_61) rfl (l' := A34) rfl k) ?_
    refine Go.st (S' := T31.setTop (mkF m 64 A34 [(.long q0)])) (fun t k => XS.lloadN X31.here hx rfl (hb hby at_63) rfl k) ?_
    refine Go.st (S' := T31.setTop (mkF m 65 A34 [(.long q1), (.long q0)])) (fun t k => XS.lloadN X31.here hx rfl (hb hby at_64) rfl k) ?_
    refine Go.op (F := fun z => T31.setTop (mkF m 66 A34 [(.int z)])) (x := (lcmpW q0 q1)) (fun t k => XS.lcmp X31.here hx rfl (hb hby at_65) rfl k) ?_
    intro v35 hv35
    refine Go.join (α := Int32) (fun r => (((q0 = q1) ∧ (r = (1 : Int32))) ∨ ((¬ (q0 = q1)) ∧ (r = (0 : Int32))))) (fun r => T31.setTop (mkF m 74 A34 [(.int r)])) ?_ ?_
    · intro r38 hc39
      let A40 : Array Slot := #[.val (.long q0), .second, .val (.long q1), .second, .val (.int p2), .val (.ref s_Side_SELL), .val (.ref s_Side_BUY), .val (.int r20), .val (.int r24), .val (.int r32), .val (.int r38), .unset, .unset]
      refine Go.st (S' := T31.setTop (mkF m 76 A40 [])) (fun t k => XS.istore X31.here hx rfl (hb hby at_74) rfl (l' := A40) rfl k) ?_
      refine Go.st (S' := T31.setTop (mkF m 78 A40 [(.int r20)])) (fun t k => XS.iload X31.here hx rfl (hb hby at_76) rfl k) ?_
      refine Go.join (α := Int32) (fun r => (((r20 = (0 : Int32)) ∧ (r = (0 : Int32))) ∨ ((¬ (r20 = (0 : Int32))) ∧ (r = (1 : Int32))))) (fun r => T31.setTop (mkF m 86 A40 [(.int r)])) ?_ ?_
      · intro r43 hc44
        refine Go.st (S' := T31.setTop (mkF m 88 A40 [(.int r24), (.int r43)])) (fun t k => XS.iload X31.here hx rfl (hb hby at_86) rfl k) ?_
        refine Go.join (α := Int32) (fun r => (((r24 = (0 : Int32)) ∧ (r = (0 : Int32))) ∨ ((¬ (r24 = (0 : Int32))) ∧ (r = (1 : Int32))))) (fun r => T31.setTop (mkF m 96 A40 [(.int r), (.int r43)])) ?_ ?_
        · intro r47 hc48
          refine Go.op (F := fun z => T31.setTop (mkF m 97 A40 [(.int z)])) (x := (r43 + r47)) (fun t k => XS.iadd X31.here hx rfl (hb hby at_96) rfl k) ?_
          intro v49 hv49
          refine Go.st (S' := T31.setTop (mkF m 99 A40 [(.int r38), (.int v49)])) (fun t k => XS.iload X31.here hx rfl (hb hby at_97) rfl k) ?_
          refine Go.join (α := Int32) (fun r => (((r38 = (0 : Int32)) ∧ (r = (0 : Int32))) ∨ ((¬ (r38 = (0 : Int32))) ∧ (r = (1 : Int32))))) (fun r => T31.setTop (mkF m 107 A40 [(.int r), (.int v49)])) ?_ ?_
          · intro r52 hc53
            refine Go.op (F := fun z => T31.setTop (mkF m 108 A40 [(.int z)])) (x := (v49 + r52)) (fun t k => XS.iadd X31.here hx rfl (hb hby at_107) rfl k) ?_
            intro v54 hv54
            let A55 : Array Slot := #[.val (.long q0), .second, .val (.long q1), .second, .val (.int p2), .val (.ref s_Side_SELL), .val (.ref s_Side_BUY), .val (.int r20), .val (.int r24), .val (.int r32), .val (.int r38), .val (.int v54), .unset]
            refine Go.st (S' := T31.setTop (mkF m 110 A55 [])) (fun t k => XS.istore X31.here hx rfl (hb hby at_108) rfl (l' := A55) rfl k) ?_
            refine Go.st (S' := T31.setTop (mkF m 112 A55 [(.int v54)])) (fun t k => XS.iload X31.here hx rfl (hb hby at_110) rfl k) ?_
            refine Go.st (S' := T31.setTop (mkF m 113 A55 [(.int (1 : Int32)), (.int v54)])) (fun t k => XS.iconst X31.here hx rfl (hb hby at_112) k) ?_
            by_cases hc56 : (v54 = (1 : Int32))
            · refine Go.st (S' := T31.setTop (mkF m 118 A55 [])) (fun t k => XS.icmpYes X31.here hx rfl (pc0 := 113) (pc' := 118) rfl (hb hby at_113) rfl (teq hc56).1 (by decide) (by decide) k) ?_
              refine Go.st (S' := T31.setTop (mkF m 120 A55 [(.int r20)])) (fun t k => XS.iload X31.here hx rfl (hb hby at_118) rfl k) ?_
              refine Go.st (S' := T31.setTop (mkF m 122 A55 [(.int r32), (.int r20)])) (fun t k => XS.iload X31.here hx rfl (hb hby at_120) rfl k) ?_
              by_cases hc57 : (r20 = r32)
              · refine Go.st (S' := T31.setTop (mkF m 127 A55 [])) (fun t k => XS.icmpYes X31.here hx rfl (pc0 := 122) (pc' := 127) rfl (hb hby at_122) rfl (teq hc57).1 (by decide) (by decide) k) ?_
                refine Go.st (S' := T31.setTop (mkF m 129 A55 [(.int p2)])) (fun t k => XS.iload X31.here hx rfl (hb hby at_127) rfl k) ?_
                refine Go.st (S' := T31.setTop (mkF m 130 A55 [(.int (1 : Int32)), (.int p2)])) (fun t k => XS.iconst X31.here hx rfl (hb hby at_129) k) ?_
                refine Go.op (F := fun z => T31.setTop (mkF m 131 A55 [(.int z)])) (x := (p2 &&& (1 : Int32))) (fun t k => XS.iand X31.here hx rfl (hb hby at_130) rfl k) ?_
                intro v58 hv58
                obtain rfl : v2 = v58 := hv2.trans hv58.symm
                refine Go.st (S' := T31.setTop (mkF m 150 A55 [])) (fun t k => XS.ifYes X31.here hx rfl (pc0 := 131) (pc' := 150) rfl (hb hby at_131) rfl ((if0 _ _).trans (teq hc9).1) (by decide) (by decide) k) ?_
                refine Go.st (S' := T31.setTop (mkF m 151 A55 [(.long q1)])) (fun t k => XS.lloadN X31.here hx rfl (hb hby at_150) rfl k) ?_
                refine Go.st (S' := T31.setTop (mkF m 152 A55 [(.long q0), (.long q1)])) (fun t k => XS.lloadN X31.here hx rfl (hb hby at_151) rfl k) ?_
                refine Go.op (F := fun z => T31.setTop (mkF m 153 A55 [(.int z)])) (x := (lcmpW q1 q0)) (fun t k => XS.lcmp X31.here hx rfl (hb hby at_152) rfl k) ?_
                intro v59 hv59
                refine Go.join (α := Int32) (fun r => (((q0 < q1) ∧ (r = (1 : Int32))) ∨ ((¬ (q0 < q1)) ∧ (r = (0 : Int32))))) (fun r => T31.setTop (mkF m 161 A55 [(.int r)])) ?_ ?_
                · intro r62 hc63
                  let A64 : Array Slot := #[.val (.long q0), .second, .val (.long q1), .second, .val (.int p2), .val (.ref s_Side_SELL), .val (.ref s_Side_BUY), .val (.int r20), .val (.int r24), .val (.int r32), .val (.int r38), .val (.int v54), .val (.int r62)]
                  refine Go.st (S' := T31.setTop (mkF m 163 A64 [])) (fun t k => XS.istore X31.here hx rfl (hb hby at_161) rfl (l' := A64) rfl k) ?_
                  refine Go.st (S' := T31.setTop (mkF m 165 A64 [(.int r20)])) (fun t k => XS.iload X31.here hx rfl (hb hby at_163) rfl k) ?_
                  refine Go.st (S' := T31.setTop (mkF m 167 A64 [(.int r62), (.int r20)])) (fun t k => XS.iload X31.here hx rfl (hb hby at_165) rfl k) ?_
                  by_cases hc65 : (r20 = r62)
                  · refine Go.st (S' := T31.setTop (mkF m 170 A64 [])) (fun t k => XS.icmpNo X31.here hx rfl (hb hby at_167) rfl (teq hc65).2 k) ?_
                    refine Go.st (S' := T31.setTop (mkF m 171 A64 [(.int (1 : Int32))])) (fun t k => XS.iconst X31.here hx rfl (hb hby at_170) k) ?_
                    refine Go.st (S' := T31.setTop (mkF m 175 A64 [(.int (1 : Int32))])) (fun t k => XS.goto X31.here hx rfl (pc0 := 171) (pc' := 175) rfl (hb hby at_171) (by decide) (by decide) k) ?_
                    exact Go.ret X31 (v := some (.int (1 : Int32))) (fun h => by rw [Bd.returns] at h; cases h) Bd.notSynchronized (fun fs hr => retN X31 hx (t := .boolean) Bd.returns (by simp) (hb hby at_175) hr) (by decide) (by decide) ⟨rfl, N31_⟩
                  · exfalso
                    have rv49 := rng32 v49
                    have wv49 := c_iadd r43 r47
                    rw [← hv49] at wv49
                    have rv54 := rng32 v54
                    have wv54 := c_iadd v49 r52
                    rw [← hv54] at wv54
                    have rq0 := rng64 q0
                    have rq1 := rng64 q1
                    have rr20 := rng32 r20
                    have rr24 := rng32 r24
                    have rr32 := rng32 r32
                    have rr38 := rng32 r38
                    have rr43 := rng32 r43
                    have rr47 := rng32 r47
                    have rr52 := rng32 r52
                    have rr62 := rng32 r62
                    have lI0 : (0 : Int32).toInt = 0 := by decide
                    have lI1 : (1 : Int32).toInt = 1 := by decide
                    simp only [Int32.lt_iff_toInt_lt, Int64.lt_iff_toInt_lt, ← Int32.toInt_inj, ← Int64.toInt_inj] at hc21 hc25 hc33 hc39 hc44 hc48 hc53 hc56 hc57 hc63 hc65
                    omega
                · intro J66
                  by_cases hc67 : (q0 < q1)
                  · refine Go.st (S' := T31.setTop (mkF m 156 A55 [])) (fun t k => XS.ifNo X31.here hx rfl (hb hby at_153) rfl ((if0 _ _).trans (tlt (by rw [hv59]; exact (lw_gt _ _).2 hc67)).2.2.2) k) ?_
                    refine Go.st (S' := T31.setTop (mkF m 157 A55 [(.int (1 : Int32))])) (fun t k => XS.iconst X31.here hx rfl (hb hby at_156) k) ?_
                    refine Go.st (S' := T31.setTop (mkF m 161 A55 [(.int (1 : Int32))])) (fun t k => XS.goto X31.here hx rfl (pc0 := 157) (pc' := 161) rfl (hb hby at_157) (by decide) (by decide) k) ?_
                    exact J66 ((1 : Int32)) (Or.inl ⟨hc67, rfl⟩)
                  · refine Go.st (S' := T31.setTop (mkF m 160 A55 [])) (fun t k => XS.ifYes X31.here hx rfl (pc0 := 153) (pc' := 160) rfl (hb hby at_153) rfl ((if0 _ _).trans (flt (by rw [hv59]; exact fun z => hc67 ((lw_gt _ _).1 z))).2.2.2) (by decide) (by decide) k) ?_
                    refine Go.st (S' := T31.setTop (mkF m 161 A55 [(.int (0 : Int32))])) (fun t k => XS.iconst X31.here hx rfl (hb hby at_160) k) ?_
                    exact J66 ((0 : Int32)) (Or.inr ⟨hc67, rfl⟩)
              · exfalso
                have rv49 := rng32 v49
                have wv49 := c_iadd r43 r47
                rw [← hv49] at wv49
                have rv54 := rng32 v54
                have wv54 := c_iadd v49 r52
                rw [← hv54] at wv54
                have rq0 := rng64 q0
                have rq1 := rng64 q1
                have rr20 := rng32 r20
                have rr24 := rng32 r24
                have rr32 := rng32 r32
                have rr38 := rng32 r38
                have rr43 := rng32 r43
                have rr47 := rng32 r47
                have rr52 := rng32 r52
                have lI0 : (0 : Int32).toInt = 0 := by decide
                have lI1 : (1 : Int32).toInt = 1 := by decide
                simp only [Int32.lt_iff_toInt_lt, Int64.lt_iff_toInt_lt, ← Int32.toInt_inj, ← Int64.toInt_inj] at hc21 hc25 hc33 hc39 hc44 hc48 hc53 hc56 hc57
                omega
            · exfalso
              have rv49 := rng32 v49
              have wv49 := c_iadd r43 r47
              rw [← hv49] at wv49
              have rv54 := rng32 v54
              have wv54 := c_iadd v49 r52
              rw [← hv54] at wv54
              have rq0 := rng64 q0
              have rq1 := rng64 q1
              have rr20 := rng32 r20
              have rr24 := rng32 r24
              have rr32 := rng32 r32
              have rr38 := rng32 r38
              have rr43 := rng32 r43
              have rr47 := rng32 r47
              have rr52 := rng32 r52
              have lI0 : (0 : Int32).toInt = 0 := by decide
              have lI1 : (1 : Int32).toInt = 1 := by decide
              simp only [Int32.lt_iff_toInt_lt, Int64.lt_iff_toInt_lt, ← Int32.toInt_inj, ← Int64.toInt_inj] at hc21 hc25 hc33 hc39 hc44 hc48 hc53 hc56
              omega
          · intro J68
            by_cases hc69 : (r38 = (0 : Int32))
            · refine Go.st (S' := T31.setTop (mkF m 106 A40 [(.int v49)])) (fun t k => XS.ifYes X31.here hx rfl (pc0 := 99) (pc' := 106) rfl (hb hby at_99) rfl ((if0 _ _).trans (teq hc69).1) (by decide) (by decide) k) ?_
              refine Go.st (S' := T31.setTop (mkF m 107 A40 [(.int (0 : Int32)), (.int v49)])) (fun t k => XS.iconst X31.here hx rfl (hb hby at_106) k) ?_
              exact J68 ((0 : Int32)) (Or.inl ⟨hc69, rfl⟩)
            · refine Go.st (S' := T31.setTop (mkF m 102 A40 [(.int v49)])) (fun t k => XS.ifNo X31.here hx rfl (hb hby at_99) rfl ((if0 _ _).trans (feq hc69).1) k) ?_
              refine Go.st (S' := T31.setTop (mkF m 103 A40 [(.int (1 : Int32)), (.int v49)])) (fun t k => XS.iconst X31.here hx rfl (hb hby at_102) k) ?_
              refine Go.st (S' := T31.setTop (mkF m 107 A40 [(.int (1 : Int32)), (.int v49)])) (fun t k => XS.goto X31.here hx rfl (pc0 := 103) (pc' := 107) rfl (hb hby at_103) (by decide) (by decide) k) ?_
              exact J68 ((1 : Int32)) (Or.inr ⟨hc69, rfl⟩)
        · intro J70
          by_cases hc71 : (r24 = (0 : Int32))
          · refine Go.st (S' := T31.setTop (mkF m 95 A40 [(.int r43)])) (fun t k => XS.ifYes X31.here hx rfl (pc0 := 88) (pc' := 95) rfl (hb hby at_88) rfl ((if0 _ _).trans (teq hc71).1) (by decide) (by decide) k) ?_
            refine Go.st (S' := T31.setTop (mkF m 96 A40 [(.int (0 : Int32)), (.int r43)])) (fun t k => XS.iconst X31.here hx rfl (hb hby at_95) k) ?_
            exact J70 ((0 : Int32)) (Or.inl ⟨hc71, rfl⟩)
          · refine Go.st (S' := T31.setTop (mkF m 91 A40 [(.int r43)])) (fun t k => XS.ifNo X31.here hx rfl (hb hby at_88) rfl ((if0 _ _).trans (feq hc71).1) k) ?_
            refine Go.st (S' := T31.setTop (mkF m 92 A40 [(.int (1 : Int32)), (.int r43)])) (fun t k => XS.iconst X31.here hx rfl (hb hby at_91) k) ?_
            refine Go.st (S' := T31.setTop (mkF m 96 A40 [(.int (1 : Int32)), (.int r43)])) (fun t k => XS.goto X31.here hx rfl (pc0 := 92) (pc' := 96) rfl (hb hby at_92) (by decide) (by decide) k) ?_
            exact J70 ((1 : Int32)) (Or.inr ⟨hc71, rfl⟩)
      · intro J72
        by_cases hc73 : (r20 = (0 : Int32))
        · refine Go.st (S' := T31.setTop (mkF m 85 A40 [])) (fun t k => XS.ifYes X31.here hx rfl (pc0 := 78) (pc' := 85) rfl (hb hby at_78) rfl ((if0 _ _).trans (teq hc73).1) (by decide) (by decide) k) ?_
          refine Go.st (S' := T31.setTop (mkF m 86 A40 [(.int (0 : Int32))])) (fun t k => XS.iconst X31.here hx rfl (hb hby at_85) k) ?_
          exact J72 ((0 : Int32)) (Or.inl ⟨hc73, rfl⟩)
        · refine Go.st (S' := T31.setTop (mkF m 81 A40 [])) (fun t k => XS.ifNo X31.here hx rfl (hb hby at_78) rfl ((if0 _ _).trans (feq hc73).1) k) ?_
          refine Go.st (S' := T31.setTop (mkF m 82 A40 [(.int (1 : Int32))])) (fun t k => XS.iconst X31.here hx rfl (hb hby at_81) k) ?_
          refine Go.st (S' := T31.setTop (mkF m 86 A40 [(.int (1 : Int32))])) (fun t k => XS.goto X31.here hx rfl (pc0 := 82) (pc' := 86) rfl (hb hby at_82) (by decide) (by decide) k) ?_
          exact J72 ((1 : Int32)) (Or.inr ⟨hc73, rfl⟩)
    · intro J74
      by_cases hc75 : (q0 = q1)
      · refine Go.st (S' := T31.setTop (mkF m 69 A34 [])) (fun t k => XS.ifNo X31.here hx rfl (hb hby at_66) rfl ((if0 _ _).trans (teq (by rw [hv35]; exact (lw_eq _ _).2 hc75)).2) k) ?_
        refine Go.st (S' := T31.setTop (mkF m 70 A34 [(.int (1 : Int32))])) (fun t k => XS.iconst X31.here hx rfl (hb hby at_69) k) ?_
        refine Go.st (S' := T31.setTop (mkF m 74 A34 [(.int (1 : Int32))])) (fun t k => XS.goto X31.here hx rfl (pc0 := 70) (pc' := 74) rfl (hb hby at_70) (by decide) (by decide) k) ?_
        exact J74 ((1 : Int32)) (Or.inl ⟨hc75, rfl⟩)
      · refine Go.st (S' := T31.setTop (mkF m 73 A34 [])) (fun t k => XS.ifYes X31.here hx rfl (pc0 := 66) (pc' := 73) rfl (hb hby at_66) rfl ((if0 _ _).trans (feq (by rw [hv35]; exact fun z => hc75 ((lw_eq _ _).1 z))).2) (by decide) (by decide) k) ?_
        refine Go.st (S' := T31.setTop (mkF m 74 A34 [(.int (0 : Int32))])) (fun t k => XS.iconst X31.here hx rfl (hb hby at_73) k) ?_
        exact J74 ((0 : Int32)) (Or.inr ⟨hc75, rfl⟩)
  · refine Go.st (S' := s₁.setTop (mkF m 7 A1 [])) (fun t k => XS.ifNo X0.here hx rfl (hb hby at_4) rfl ((if0 _ _).trans (feq hc9).1) k) ?_
    obtain ⟨T76, X76, e76, st76⟩ := getS X0 hx hZ hown (hw _ (List.mem_of_getElem? (i := 3) rfl)) Via.refl e0 S_s_Side_BUY (host := "") (g := (mkF m 7 A1 [])) rfl (hb hby at_7)
    refine Go.st (S' := T76.setTop (mkF m 10 A1 [(.ref s_Side_BUY)])) st76 ?_
    refine Go.st (S' := T76.setTop (mkF m 16 A1 [(.ref s_Side_BUY)])) (fun t k => XS.goto X76.here hx rfl (pc0 := 10) (pc' := 16) rfl (hb hby at_10) (by decide) (by decide) k) ?_
    let A77 : Array Slot := #[.val (.long q0), .second, .val (.long q1), .second, .val (.int p2), .val (.ref s_Side_BUY), .unset, .unset, .unset, .unset, .unset, .unset, .unset]
    refine Go.st (S' := T76.setTop (mkF m 18 A77 [])) (fun t k => XS.astore X76.here hx rfl (hb hby at_16) rfl rfl (l' := A77) rfl k) ?_
    refine Go.st (S' := T76.setTop (mkF m 20 A77 [(.int p2)])) (fun t k => XS.iload X76.here hx rfl (hb hby at_18) rfl k) ?_
    refine Go.st (S' := T76.setTop (mkF m 21 A77 [(.int (1 : Int32)), (.int p2)])) (fun t k => XS.iconst X76.here hx rfl (hb hby at_20) k) ?_
    refine Go.op (F := fun z => T76.setTop (mkF m 22 A77 [(.int z)])) (x := (p2 &&& (1 : Int32))) (fun t k => XS.iand X76.here hx rfl (hb hby at_21) rfl k) ?_
    intro v78 hv78
    obtain rfl : v2 = v78 := hv2.trans hv78.symm
    refine Go.st (S' := T76.setTop (mkF m 25 A77 [])) (fun t k => XS.ifNo X76.here hx rfl (hb hby at_22) rfl ((if0 _ _).trans (feq hc9).1) k) ?_
    obtain ⟨T79, X79, e79, st79⟩ := getS X76 hx hZ hown (hw _ (List.mem_of_getElem? (i := 0) rfl)) Via.refl e76 S_s_Side_SELL (host := "") (g := (mkF m 25 A77 [])) rfl (hb hby at_25)
    refine Go.st (S' := T79.setTop (mkF m 28 A77 [(.ref s_Side_SELL)])) st79 ?_
    refine Go.st (S' := T79.setTop (mkF m 34 A77 [(.ref s_Side_SELL)])) (fun t k => XS.goto X79.here hx rfl (pc0 := 28) (pc' := 34) rfl (hb hby at_28) (by decide) (by decide) k) ?_
    let A80 : Array Slot := #[.val (.long q0), .second, .val (.long q1), .second, .val (.int p2), .val (.ref s_Side_BUY), .val (.ref s_Side_SELL), .unset, .unset, .unset, .unset, .unset, .unset]
    refine Go.st (S' := T79.setTop (mkF m 36 A80 [])) (fun t k => XS.astore X79.here hx rfl (hb hby at_34) rfl rfl (l' := A80) rfl k) ?_
    refine Go.st (S' := T79.setTop (mkF m 38 A80 [(.ref s_Side_BUY)])) (fun t k => XS.aload X79.here hx rfl (hb hby at_36) rfl rfl k) ?_
    refine Go.st (S' := T79.setTop (mkF m 39 A80 [(.long q0), (.ref s_Side_BUY)])) (fun t k => XS.lloadN X79.here hx rfl (hb hby at_38) rfl k) ?_
    refine Go.st (S' := T79.setTop (mkF m 40 A80 [(.long q1), (.long q0), (.ref s_Side_BUY)])) (fun t k => XS.lloadN X79.here hx rfl (hb hby at_39) rfl k) ?_
    obtain ⟨r81, T81, L81, X81, hQ81, st81⟩ := own_callV (W := 0) (a := s_Side_BUY) (C := "com/example/dwellgate/dwellgate/book/Side") X79 hx hZ e79 hown (y := (⟨"com/example/dwellgate/dwellgate/book/Side", "better", "(JJ)Z"⟩ : MethodName)) (z := (⟨"com/example/dwellgate/dwellgate/book/Side", "better", "(JJ)Z"⟩ : MethodName)) (hw _ (List.mem_of_getElem? (i := 5) rfl)) (hw _ (List.mem_of_getElem? (i := 6) rfl)) (notFace_of_selects (args := #[]) (mvT hZ (hw _ (List.mem_of_getElem? (i := 8) rfl)))) (hw _ (List.mem_of_getElem? (i := 8) rfl)) (hw _ (List.mem_of_getElem? (i := 7) rfl)) (hw _ (List.mem_of_getElem? (i := 1) rfl)) (hw _ (List.mem_of_getElem? (i := 9) rfl)) (by decide) (E_s_Side_BUY) (rm2 l Z a0 hw [] s_Side_BUY q0 q1 h0 n0 Z0 (S_s_Side_BUY)) (by decide) (by decide) (by decide) (by decide) (g := (mkF m 40 A80 [(.long q1), (.long q0), (.ref s_Side_BUY)])) rfl (by rw [hml]; rfl) (argsL := [(.long q0), (.long q1)]) (rest := []) rfl (lenOf pd_0 rfl) rfl (by show 2 * 0 + _ ≤ _; exact Nat.le_of_eq rfl) (hb hby at_40)
    obtain ⟨r82, hc83, rfl, N81, e81⟩ := hQ81
    have N81_ := Fr.app N0 N81
    refine Go.st (S' := T81.setTop (mkF m 43 A80 [(.int r82)])) st81 ?_
    let A84 : Array Slot := #[.val (.long q0), .second, .val (.long q1), .second, .val (.int p2), .val (.ref s_Side_BUY), .val (.ref s_Side_SELL), .val (.int r82), .unset, .unset, .unset, .unset, .unset]
    refine Go.st (S' := T81.setTop (mkF m 45 A84 [])) (fun t k => XS.istore X81.here hx rfl (hb hby at_43) rfl (l' := A84) rfl k) ?_
    refine Go.st (S' := T81.setTop (mkF m 47 A84 [(.ref s_Side_BUY)])) (fun t k => XS.aload X81.here hx rfl (hb hby at_45) rfl rfl k) ?_
    refine Go.st (S' := T81.setTop (mkF m 48 A84 [(.long q1), (.ref s_Side_BUY)])) (fun t k => XS.lloadN X81.here hx rfl (hb hby at_47) rfl k) ?_
    refine Go.st (S' := T81.setTop (mkF m 49 A84 [(.long q0), (.long q1), (.ref s_Side_BUY)])) (fun t k => XS.lloadN X81.here hx rfl (hb hby at_48) rfl k) ?_
    obtain ⟨r85, T85, L85, X85, hQ85, st85⟩ := own_callV (W := 0) (a := s_Side_BUY) (C := "com/example/dwellgate/dwellgate/book/Side") X81 hx hZ e81 hown (y := (⟨"com/example/dwellgate/dwellgate/book/Side", "better", "(JJ)Z"⟩ : MethodName)) (z := (⟨"com/example/dwellgate/dwellgate/book/Side", "better", "(JJ)Z"⟩ : MethodName)) (hw _ (List.mem_of_getElem? (i := 5) rfl)) (hw _ (List.mem_of_getElem? (i := 6) rfl)) (notFace_of_selects (args := #[]) (mvT hZ (hw _ (List.mem_of_getElem? (i := 8) rfl)))) (hw _ (List.mem_of_getElem? (i := 8) rfl)) (hw _ (List.mem_of_getElem? (i := 7) rfl)) (hw _ (List.mem_of_getElem? (i := 1) rfl)) (hw _ (List.mem_of_getElem? (i := 9) rfl)) (by decide) (E_s_Side_BUY) (rm2 l Z a0 hw [] s_Side_BUY q1 q0 h0 n0 Z0 (S_s_Side_BUY)) (by decide) (by decide) (by decide) (by decide) (g := (mkF m 49 A84 [(.long q0), (.long q1), (.ref s_Side_BUY)])) rfl (by rw [hml]; rfl) (argsL := [(.long q1), (.long q0)]) (rest := []) rfl (lenOf pd_0 rfl) rfl (by show 2 * 0 + _ ≤ _; exact Nat.le_of_eq rfl) (hb hby at_49)
    obtain ⟨r86, hc87, rfl, N85, e85⟩ := hQ85
    have N85_ := Fr.app N81_ N85
    refine Go.st (S' := T85.setTop (mkF m 52 A84 [(.int r86)])) st85 ?_
    let A88 : Array Slot := #[.val (.long q0), .second, .val (.long q1), .second, .val (.int p2), .val (.ref s_Side_BUY), .val (.ref s_Side_SELL), .val (.int r82), .val (.int r86), .unset, .unset, .unset, .unset]
    refine Go.st (S' := T85.setTop (mkF m 54 A88 [])) (fun t k => XS.istore X85.here hx rfl (hb hby at_52) rfl (l' := A88) rfl k) ?_
    refine Go.st (S' := T85.setTop (mkF m 56 A88 [(.ref s_Side_SELL)])) (fun t k => XS.aload X85.here hx rfl (hb hby at_54) rfl rfl k) ?_
    refine Go.st (S' := T85.setTop (mkF m 57 A88 [(.long q1), (.ref s_Side_SELL)])) (fun t k => XS.lloadN X85.here hx rfl (hb hby at_56) rfl k) ?_
    refine Go.st (S' := T85.setTop (mkF m 58 A88 [(.long q0), (.long q1), (.ref s_Side_SELL)])) (fun t k => XS.lloadN X85.here hx rfl (hb hby at_57) rfl k) ?_
    obtain ⟨r89, T89, L89, X89, hQ89, st89⟩ := own_callV (W := 0) (a := s_Side_SELL) (C := "com/example/dwellgate/dwellgate/book/Side") X85 hx hZ e85 hown (y := (⟨"com/example/dwellgate/dwellgate/book/Side", "better", "(JJ)Z"⟩ : MethodName)) (z := (⟨"com/example/dwellgate/dwellgate/book/Side", "better", "(JJ)Z"⟩ : MethodName)) (hw _ (List.mem_of_getElem? (i := 5) rfl)) (hw _ (List.mem_of_getElem? (i := 6) rfl)) (notFace_of_selects (args := #[]) (mvT hZ (hw _ (List.mem_of_getElem? (i := 8) rfl)))) (hw _ (List.mem_of_getElem? (i := 8) rfl)) (hw _ (List.mem_of_getElem? (i := 7) rfl)) (hw _ (List.mem_of_getElem? (i := 1) rfl)) (hw _ (List.mem_of_getElem? (i := 9) rfl)) (by decide) (E_s_Side_SELL) (rm1 l Z a0 hw [] s_Side_SELL q1 q0 s_Side_BUY h0 n0 Z0 (S_s_Side_BUY) (ne_s_Side_SELL_s_Side_BUY)) (by decide) (by decide) (by decide) (by decide) (g := (mkF m 58 A88 [(.long q0), (.long q1), (.ref s_Side_SELL)])) rfl (by rw [hml]; rfl) (argsL := [(.long q1), (.long q0)]) (rest := []) rfl (lenOf pd_0 rfl) rfl (by show 2 * 0 + _ ≤ _; exact Nat.le_of_eq rfl) (hb hby at_58)
    obtain ⟨r90, hc91, rfl, N89, e89⟩ := hQ89
    have N89_ := Fr.app N85_ N89
    refine Go.st (S' := T89.setTop (mkF m 61 A88 [(.int r90)])) st89 ?_
    let A92 : Array Slot := #[.val (.long q0), .second, .val (.long q1), .second, .val (.int p2), .val (.ref s_Side_BUY), .val (.ref s_Side_SELL), .val (.int r82), .val (.int r86), .val (.int r90), .unset, .unset, .unset]
    refine Go.st (S' := T89.setTop (mkF m 63 A92 [])) (fun t k => XS.istore X89.here hx rfl (hb hby at_61) rfl (l' := A92) rfl k) ?_
    refine Go.st (S' := T89.setTop (mkF m 64 A92 [(.long q0)])) (fun t k => XS.lloadN X89.here hx rfl (hb hby at_63) rfl k) ?_
    refine Go.st (S' := T89.setTop (mkF m 65 A92 [(.long q1), (.long q0)])) (fun t k => XS.lloadN X89.here hx rfl (hb hby at_64) rfl k) ?_
    refine Go.op (F := fun z => T89.setTop (mkF m 66 A92 [(.int z)])) (x := (lcmpW q0 q1)) (fun t k => XS.lcmp X89.here hx rfl (hb hby at_65) rfl k) ?_
    intro v93 hv93
    refine Go.join (α := Int32) (fun r => (((q0 = q1) ∧ (r = (1 : Int32))) ∨ ((¬ (q0 = q1)) ∧ (r = (0 : Int32))))) (fun r => T89.setTop (mkF m 74 A92 [(.int r)])) ?_ ?_
    · intro r96 hc97
      let A98 : Array Slot := #[.val (.long q0), .second, .val (.long q1), .second, .val (.int p2), .val (.ref s_Side_BUY), .val (.ref s_Side_SELL), .val (.int r82), .val (.int r86), .val (.int r90), .val (.int r96), .unset, .unset]
      refine Go.st (S' := T89.setTop (mkF m 76 A98 [])) (fun t k => XS.istore X89.here hx rfl (hb hby at_74) rfl (l' := A98) rfl k) ?_
      refine Go.st (S' := T89.setTop (mkF m 78 A98 [(.int r82)])) (fun t k => XS.iload X89.here hx rfl (hb hby at_76) rfl k) ?_
      refine Go.join (α := Int32) (fun r => (((r82 = (0 : Int32)) ∧ (r = (0 : Int32))) ∨ ((¬ (r82 = (0 : Int32))) ∧ (r = (1 : Int32))))) (fun r => T89.setTop (mkF m 86 A98 [(.int r)])) ?_ ?_
      · intro r101 hc102
        refine Go.st (S' := T89.setTop (mkF m 88 A98 [(.int r86), (.int r101)])) (fun t k => XS.iload X89.here hx rfl (hb hby at_86) rfl k) ?_
        refine Go.join (α := Int32) (fun r => (((r86 = (0 : Int32)) ∧ (r = (0 : Int32))) ∨ ((¬ (r86 = (0 : Int32))) ∧ (r = (1 : Int32))))) (fun r => T89.setTop (mkF m 96 A98 [(.int r), (.int r101)])) ?_ ?_
        · intro r105 hc106
          refine Go.op (F := fun z => T89.setTop (mkF m 97 A98 [(.int z)])) (x := (r101 + r105)) (fun t k => XS.iadd X89.here hx rfl (hb hby at_96) rfl k) ?_
          intro v107 hv107
          refine Go.st (S' := T89.setTop (mkF m 99 A98 [(.int r96), (.int v107)])) (fun t k => XS.iload X89.here hx rfl (hb hby at_97) rfl k) ?_
          refine Go.join (α := Int32) (fun r => (((r96 = (0 : Int32)) ∧ (r = (0 : Int32))) ∨ ((¬ (r96 = (0 : Int32))) ∧ (r = (1 : Int32))))) (fun r => T89.setTop (mkF m 107 A98 [(.int r), (.int v107)])) ?_ ?_
          · intro r110 hc111
            refine Go.op (F := fun z => T89.setTop (mkF m 108 A98 [(.int z)])) (x := (v107 + r110)) (fun t k => XS.iadd X89.here hx rfl (hb hby at_107) rfl k) ?_
            intro v112 hv112
            let A113 : Array Slot := #[.val (.long q0), .second, .val (.long q1), .second, .val (.int p2), .val (.ref s_Side_BUY), .val (.ref s_Side_SELL), .val (.int r82), .val (.int r86), .val (.int r90), .val (.int r96), .val (.int v112), .unset]
            refine Go.st (S' := T89.setTop (mkF m 110 A113 [])) (fun t k => XS.istore X89.here hx rfl (hb hby at_108) rfl (l' := A113) rfl k) ?_
            refine Go.st (S' := T89.setTop (mkF m 112 A113 [(.int v112)])) (fun t k => XS.iload X89.here hx rfl (hb hby at_110) rfl k) ?_
            refine Go.st (S' := T89.setTop (mkF m 113 A113 [(.int (1 : Int32)), (.int v112)])) (fun t k => XS.iconst X89.here hx rfl (hb hby at_112) k) ?_
            by_cases hc114 : (v112 = (1 : Int32))
            · refine Go.st (S' := T89.setTop (mkF m 118 A113 [])) (fun t k => XS.icmpYes X89.here hx rfl (pc0 := 113) (pc' := 118) rfl (hb hby at_113) rfl (teq hc114).1 (by decide) (by decide) k) ?_
              refine Go.st (S' := T89.setTop (mkF m 120 A113 [(.int r82)])) (fun t k => XS.iload X89.here hx rfl (hb hby at_118) rfl k) ?_
              refine Go.st (S' := T89.setTop (mkF m 122 A113 [(.int r90), (.int r82)])) (fun t k => XS.iload X89.here hx rfl (hb hby at_120) rfl k) ?_
              by_cases hc115 : (r82 = r90)
              · refine Go.st (S' := T89.setTop (mkF m 127 A113 [])) (fun t k => XS.icmpYes X89.here hx rfl (pc0 := 122) (pc' := 127) rfl (hb hby at_122) rfl (teq hc115).1 (by decide) (by decide) k) ?_
                refine Go.st (S' := T89.setTop (mkF m 129 A113 [(.int p2)])) (fun t k => XS.iload X89.here hx rfl (hb hby at_127) rfl k) ?_
                refine Go.st (S' := T89.setTop (mkF m 130 A113 [(.int (1 : Int32)), (.int p2)])) (fun t k => XS.iconst X89.here hx rfl (hb hby at_129) k) ?_
                refine Go.op (F := fun z => T89.setTop (mkF m 131 A113 [(.int z)])) (x := (p2 &&& (1 : Int32))) (fun t k => XS.iand X89.here hx rfl (hb hby at_130) rfl k) ?_
                intro v116 hv116
                obtain rfl : v2 = v116 := hv2.trans hv116.symm
                refine Go.st (S' := T89.setTop (mkF m 134 A113 [])) (fun t k => XS.ifNo X89.here hx rfl (hb hby at_131) rfl ((if0 _ _).trans (feq hc9).1) k) ?_
                refine Go.st (S' := T89.setTop (mkF m 135 A113 [(.long q0)])) (fun t k => XS.lloadN X89.here hx rfl (hb hby at_134) rfl k) ?_
                refine Go.st (S' := T89.setTop (mkF m 136 A113 [(.long q1), (.long q0)])) (fun t k => XS.lloadN X89.here hx rfl (hb hby at_135) rfl k) ?_
                refine Go.op (F := fun z => T89.setTop (mkF m 137 A113 [(.int z)])) (x := (lcmpW q0 q1)) (fun t k => XS.lcmp X89.here hx rfl (hb hby at_136) rfl k) ?_
                intro v117 hv117
                obtain rfl : v93 = v117 := hv93.trans hv117.symm
                refine Go.join (α := Int32) (fun r => (((q1 < q0) ∧ (r = (1 : Int32))) ∨ ((¬ (q1 < q0)) ∧ (r = (0 : Int32))))) (fun r => T89.setTop (mkF m 145 A113 [(.int r)])) ?_ ?_
                · intro r120 hc121
                  let A122 : Array Slot := #[.val (.long q0), .second, .val (.long q1), .second, .val (.int p2), .val (.ref s_Side_BUY), .val (.ref s_Side_SELL), .val (.int r82), .val (.int r86), .val (.int r90), .val (.int r96), .val (.int v112), .val (.int r120)]
                  refine Go.st (S' := T89.setTop (mkF m 147 A122 [])) (fun t k => XS.istore X89.here hx rfl (hb hby at_145) rfl (l' := A122) rfl k) ?_
                  refine Go.st (S' := T89.setTop (mkF m 163 A122 [])) (fun t k => XS.goto X89.here hx rfl (pc0 := 147) (pc' := 163) rfl (hb hby at_147) (by decide) (by decide) k) ?_
                  refine Go.st (S' := T89.setTop (mkF m 165 A122 [(.int r82)])) (fun t k => XS.iload X89.here hx rfl (hb hby at_163) rfl k) ?_
                  refine Go.st (S' := T89.setTop (mkF m 167 A122 [(.int r120), (.int r82)])) (fun t k => XS.iload X89.here hx rfl (hb hby at_165) rfl k) ?_
                  by_cases hc123 : (r82 = r120)
                  · refine Go.st (S' := T89.setTop (mkF m 170 A122 [])) (fun t k => XS.icmpNo X89.here hx rfl (hb hby at_167) rfl (teq hc123).2 k) ?_
                    refine Go.st (S' := T89.setTop (mkF m 171 A122 [(.int (1 : Int32))])) (fun t k => XS.iconst X89.here hx rfl (hb hby at_170) k) ?_
                    refine Go.st (S' := T89.setTop (mkF m 175 A122 [(.int (1 : Int32))])) (fun t k => XS.goto X89.here hx rfl (pc0 := 171) (pc' := 175) rfl (hb hby at_171) (by decide) (by decide) k) ?_
                    exact Go.ret X89 (v := some (.int (1 : Int32))) (fun h => by rw [Bd.returns] at h; cases h) Bd.notSynchronized (fun fs hr => retN X89 hx (t := .boolean) Bd.returns (by simp) (hb hby at_175) hr) (by decide) (by decide) ⟨rfl, N89_⟩
                  · exfalso
                    have rv107 := rng32 v107
                    have wv107 := c_iadd r101 r105
                    rw [← hv107] at wv107
                    have rv112 := rng32 v112
                    have wv112 := c_iadd v107 r110
                    rw [← hv112] at wv112
                    have rq0 := rng64 q0
                    have rq1 := rng64 q1
                    have rr101 := rng32 r101
                    have rr105 := rng32 r105
                    have rr110 := rng32 r110
                    have rr120 := rng32 r120
                    have rr82 := rng32 r82
                    have rr86 := rng32 r86
                    have rr90 := rng32 r90
                    have rr96 := rng32 r96
                    have lI0 : (0 : Int32).toInt = 0 := by decide
                    have lI1 : (1 : Int32).toInt = 1 := by decide
                    simp only [Int32.lt_iff_toInt_lt, Int64.lt_iff_toInt_lt, ← Int32.toInt_inj, ← Int64.toInt_inj] at hc83 hc87 hc91 hc97 hc102 hc106 hc111 hc114 hc115 hc121 hc123
                    omega
                · intro J124
                  by_cases hc125 : (q1 < q0)
                  · refine Go.st (S' := T89.setTop (mkF m 140 A113 [])) (fun t k => XS.ifNo X89.here hx rfl (hb hby at_137) rfl ((if0 _ _).trans (tlt (by rw [hv93]; exact (lw_gt _ _).2 hc125)).2.2.2) k) ?_
                    refine Go.st (S' := T89.setTop (mkF m 141 A113 [(.int (1 : Int32))])) (fun t k => XS.iconst X89.here hx rfl (hb hby at_140) k) ?_
                    refine Go.st (S' := T89.setTop (mkF m 145 A113 [(.int (1 : Int32))])) (fun t k => XS.goto X89.here hx rfl (pc0 := 141) (pc' := 145) rfl (hb hby at_141) (by decide) (by decide) k) ?_
                    exact J124 ((1 : Int32)) (Or.inl ⟨hc125, rfl⟩)
                  · refine Go.st (S' := T89.setTop (mkF m 144 A113 [])) (fun t k => XS.ifYes X89.here hx rfl (pc0 := 137) (pc' := 144) rfl (hb hby at_137) rfl ((if0 _ _).trans (flt (by rw [hv93]; exact fun z => hc125 ((lw_gt _ _).1 z))).2.2.2) (by decide) (by decide) k) ?_
                    refine Go.st (S' := T89.setTop (mkF m 145 A113 [(.int (0 : Int32))])) (fun t k => XS.iconst X89.here hx rfl (hb hby at_144) k) ?_
                    exact J124 ((0 : Int32)) (Or.inr ⟨hc125, rfl⟩)
              · exfalso
                have rv107 := rng32 v107
                have wv107 := c_iadd r101 r105
                rw [← hv107] at wv107
                have rv112 := rng32 v112
                have wv112 := c_iadd v107 r110
                rw [← hv112] at wv112
                have rq0 := rng64 q0
                have rq1 := rng64 q1
                have rr101 := rng32 r101
                have rr105 := rng32 r105
                have rr110 := rng32 r110
                have rr82 := rng32 r82
                have rr86 := rng32 r86
                have rr90 := rng32 r90
                have rr96 := rng32 r96
                have lI0 : (0 : Int32).toInt = 0 := by decide
                have lI1 : (1 : Int32).toInt = 1 := by decide
                simp only [Int32.lt_iff_toInt_lt, Int64.lt_iff_toInt_lt, ← Int32.toInt_inj, ← Int64.toInt_inj] at hc83 hc87 hc91 hc97 hc102 hc106 hc111 hc114 hc115
                omega
            · exfalso
              have rv107 := rng32 v107
              have wv107 := c_iadd r101 r105
              rw [← hv107] at wv107
              have rv112 := rng32 v112
              have wv112 := c_iadd v107 r110
              rw [← hv112] at wv112
              have rq0 := rng64 q0
              have rq1 := rng64 q1
              have rr101 := rng32 r101
              have rr105 := rng32 r105
              have rr110 := rng32 r110
              have rr82 := rng32 r82
              have rr86 := rng32 r86
              have rr90 := rng32 r90
              have rr96 := rng32 r96
              have lI0 : (0 : Int32).toInt = 0 := by decide
              have lI1 : (1 : Int32).toInt = 1 := by decide
              simp only [Int32.lt_iff_toInt_lt, Int64.lt_iff_toInt_lt, ← Int32.toInt_inj, ← Int64.toInt_inj] at hc83 hc87 hc91 hc97 hc102 hc106 hc111 hc114
              omega
          · intro J126
            by_cases hc127 : (r96 = (0 : Int32))
            · refine Go.st (S' := T89.setTop (mkF m 106 A98 [(.int v107)])) (fun t k => XS.ifYes X89.here hx rfl (pc0 := 99) (pc' := 106) rfl (hb hby at_99) rfl ((if0 _ _).trans (teq hc127).1) (by decide) (by decide) k) ?_
              refine Go.st (S' := T89.setTop (mkF m 107 A98 [(.int (0 : Int32)), (.int v107)])) (fun t k => XS.iconst X89.here hx rfl (hb hby at_106) k) ?_
              exact J126 ((0 : Int32)) (Or.inl ⟨hc127, rfl⟩)
            · refine Go.st (S' := T89.setTop (mkF m 102 A98 [(.int v107)])) (fun t k => XS.ifNo X89.here hx rfl (hb hby at_99) rfl ((if0 _ _).trans (feq hc127).1) k) ?_
              refine Go.st (S' := T89.setTop (mkF m 103 A98 [(.int (1 : Int32)), (.int v107)])) (fun t k => XS.iconst X89.here hx rfl (hb hby at_102) k) ?_
              refine Go.st (S' := T89.setTop (mkF m 107 A98 [(.int (1 : Int32)), (.int v107)])) (fun t k => XS.goto X89.here hx rfl (pc0 := 103) (pc' := 107) rfl (hb hby at_103) (by decide) (by decide) k) ?_
              exact J126 ((1 : Int32)) (Or.inr ⟨hc127, rfl⟩)
        · intro J128
          by_cases hc129 : (r86 = (0 : Int32))
          · refine Go.st (S' := T89.setTop (mkF m 95 A98 [(.int r101)])) (fun t k => XS.ifYes X89.here hx rfl (pc0 := 88) (pc' := 95) rfl (hb hby at_88) rfl ((if0 _ _).trans (teq hc129).1) (by decide) (by decide) k) ?_
            refine Go.st (S' := T89.setTop (mkF m 96 A98 [(.int (0 : Int32)), (.int r101)])) (fun t k => XS.iconst X89.here hx rfl (hb hby at_95) k) ?_
            exact J128 ((0 : Int32)) (Or.inl ⟨hc129, rfl⟩)
          · refine Go.st (S' := T89.setTop (mkF m 91 A98 [(.int r101)])) (fun t k => XS.ifNo X89.here hx rfl (hb hby at_88) rfl ((if0 _ _).trans (feq hc129).1) k) ?_
            refine Go.st (S' := T89.setTop (mkF m 92 A98 [(.int (1 : Int32)), (.int r101)])) (fun t k => XS.iconst X89.here hx rfl (hb hby at_91) k) ?_
            refine Go.st (S' := T89.setTop (mkF m 96 A98 [(.int (1 : Int32)), (.int r101)])) (fun t k => XS.goto X89.here hx rfl (pc0 := 92) (pc' := 96) rfl (hb hby at_92) (by decide) (by decide) k) ?_
            exact J128 ((1 : Int32)) (Or.inr ⟨hc129, rfl⟩)
      · intro J130
        by_cases hc131 : (r82 = (0 : Int32))
        · refine Go.st (S' := T89.setTop (mkF m 85 A98 [])) (fun t k => XS.ifYes X89.here hx rfl (pc0 := 78) (pc' := 85) rfl (hb hby at_78) rfl ((if0 _ _).trans (teq hc131).1) (by decide) (by decide) k) ?_
          refine Go.st (S' := T89.setTop (mkF m 86 A98 [(.int (0 : Int32))])) (fun t k => XS.iconst X89.here hx rfl (hb hby at_85) k) ?_
          exact J130 ((0 : Int32)) (Or.inl ⟨hc131, rfl⟩)
        · refine Go.st (S' := T89.setTop (mkF m 81 A98 [])) (fun t k => XS.ifNo X89.here hx rfl (hb hby at_78) rfl ((if0 _ _).trans (feq hc131).1) k) ?_
          refine Go.st (S' := T89.setTop (mkF m 82 A98 [(.int (1 : Int32))])) (fun t k => XS.iconst X89.here hx rfl (hb hby at_81) k) ?_
          refine Go.st (S' := T89.setTop (mkF m 86 A98 [(.int (1 : Int32))])) (fun t k => XS.goto X89.here hx rfl (pc0 := 82) (pc' := 86) rfl (hb hby at_82) (by decide) (by decide) k) ?_
          exact J130 ((1 : Int32)) (Or.inr ⟨hc131, rfl⟩)
    · intro J132
      by_cases hc133 : (q0 = q1)
      · refine Go.st (S' := T89.setTop (mkF m 69 A92 [])) (fun t k => XS.ifNo X89.here hx rfl (hb hby at_66) rfl ((if0 _ _).trans (teq (by rw [hv93]; exact (lw_eq _ _).2 hc133)).2) k) ?_
        refine Go.st (S' := T89.setTop (mkF m 70 A92 [(.int (1 : Int32))])) (fun t k => XS.iconst X89.here hx rfl (hb hby at_69) k) ?_
        refine Go.st (S' := T89.setTop (mkF m 74 A92 [(.int (1 : Int32))])) (fun t k => XS.goto X89.here hx rfl (pc0 := 70) (pc' := 74) rfl (hb hby at_70) (by decide) (by decide) k) ?_
        exact J132 ((1 : Int32)) (Or.inl ⟨hc133, rfl⟩)
      · refine Go.st (S' := T89.setTop (mkF m 73 A92 [])) (fun t k => XS.ifYes X89.here hx rfl (pc0 := 66) (pc' := 73) rfl (hb hby at_66) rfl ((if0 _ _).trans (feq (by rw [hv93]; exact fun z => hc133 ((lw_eq _ _).1 z))).2) (by decide) (by decide) k) ?_
        refine Go.st (S' := T89.setTop (mkF m 74 A92 [(.int (0 : Int32))])) (fun t k => XS.iconst X89.here hx rfl (hb hby at_73) k) ?_
        exact J132 ((0 : Int32)) (Or.inr ⟨hc133, rfl⟩)
set_option maxRecDepth 65536 in
set_option maxHeartbeats 40000000 in
theorem comes_1 {Post : Tables → Env → Array Value → State → Outcome → State → Prop} (hpost : ∀ tb e args s v u, (limb_1_1.after args s (.returned v) u = true ∧ limb_1_2.after args s (.returned v) u = true ∧ True) → FrameEnd s (.returned v) u (Jvm.fieldLocs frame_1_writes args s ++ Jvm.arrayLocs frame_1_arrays args s ++ Jvm.staticLocs frame_1_statics s) 0 0 → Post tb e args s (.returned v) u) :
    ArmFor flags0 classFile x code maxLocals ret World_1 tables_1 room_1 Calls_1 rest_1 Pre_1 Post := by
  intro l hfl _ _ p e ha hc hk s m args below hf hA hF happ hP
  obtain ⟨hcalls, hrest, hpre⟩ := hP
  obtain ⟨-, -, -, hnamed, -, -, -, hat⟩ := (Spec.applies_iff hf).mp happ
  obtain ⟨hg, hn⟩ := and_e (Cond.before_iff.mp (show (Jvm.Cond.and given_1 narrow_1).before args s = true from hpre))
  obtain ⟨h1, h2⟩ := and_e hg
  obtain ⟨w0, w1, w2, rfl⟩ : ∃ w0 w1 w2 : Value, args = #[w0, w1, w2] := by
    have hs : args.size = 3 := by simpa [Cond.value, given_1] using h1
    obtain ⟨L⟩ := args
    match L, hs with
    | [w0, w1, w2], _ => exact ⟨w0, w1, w2, rfl⟩
  have hw := fun d (hd : d ∈ tables_1) => atoms_spec (ws := Jvm.Cond.code x code maxLocals ret :: tables_1) hat d (List.mem_cons_of_mem _ hd)
  have hfit : Fit s := fun {y c} hc i hi => by
    obtain ⟨ha, rfl⟩ := Array.getElem?_eq_some_iff.mp hc
    have q := List.all_eq_true.mp ((Array.all_eq_true_iff_forall_mem.mp hF) _ (Array.getElem_mem ha)) i (List.mem_range.mpr hi)
    simpa [Array.getElem?_eq_getElem hi] using q
  obtain ⟨q0, h2_0⟩ := and_e h2
  obtain ⟨i0, ee0⟩ := isL_v q0
  obtain rfl : w0 = (.long i0) := Option.some.inj ee0
  obtain ⟨q1, h2_1⟩ := and_e h2_0
  obtain ⟨i1, ee1⟩ := isL_v q1
  obtain rfl : w1 = (.long i1) := Option.some.inj ee1
  obtain ⟨i2, ee2⟩ := is_v h2_1
  obtain rfl : w2 = (.int i2) := Option.some.inj ee2
  obtain ⟨n0, hn0⟩ := and_e hn
  obtain ⟨n1, hn1⟩ := and_e hn0
  obtain ⟨n2, hn2⟩ := and_e hn1
  obtain ⟨s_Side_SELL, ev_s_Side_SELL⟩ := exa_v n0
  obtain ⟨s_Side_BUY, ev_s_Side_BUY⟩ := exa_v n1
  have E_s_Side_SELL : Exa s s.heap s_Side_SELL "com/example/dwellgate/dwellgate/book/Side" := Exa.start ev_s_Side_SELL n0
  have E_s_Side_BUY : Exa s s.heap s_Side_BUY "com/example/dwellgate/dwellgate/book/Side" := Exa.start ev_s_Side_BUY n1
  have F_s_Side_SELL_ordinal : Fld s s.heap s_Side_SELL "java/lang/Enum" "ordinal" "I" (.int (1 : Int32)) := own_fld ev_s_Side_SELL (own_eq_int n2)
  have F_s_Side_BUY_ordinal : Fld s s.heap s_Side_BUY "java/lang/Enum" "ordinal" "I" (.int (0 : Int32)) := own_fld ev_s_Side_BUY (own_eq_int hn2)
  obtain ⟨n, o, h1, h2, h3, _, L, rfl, ⟨rfl, N⟩, hq⟩ := rm3 l s _ hw tables_1 i0 i1 i2 s_Side_SELL s_Side_BUY s.heap s.heap.size (Nat.le_refl _) (Sta.start ev_s_Side_SELL (Or.inr ⟨(hw _ (List.mem_of_getElem? (i := 1) rfl)), (hw _ (List.mem_of_getElem? (i := 2) rfl))⟩)) (Sta.start ev_s_Side_BUY (Or.inr ⟨(hw _ (List.mem_of_getElem? (i := 1) rfl)), (hw _ (List.mem_of_getElem? (i := 4) rfl))⟩)) E_s_Side_SELL (Fld.ne F_s_Side_SELL_ordinal F_s_Side_BUY_ordinal (by simp)) E_s_Side_BUY p e ha hc hk s m _ below hf ((Spec.applies_iff_loose hf).mp happ).1 ⟨rfl, State.Warmed39.refl s, rfl⟩ trivial
  refine ⟨n, _, h1, h2, h3, hpost _ _ _ _ _ _ ⟨Cond.after_iff.mpr rfl, Cond.after_iff.mpr (eq_i res_at (Term.int_eval (1)) rfl), trivial⟩ ⟨hq.1, hq.2.1, (hq.2.2.sift fun y hy => Or.inr (N y hy)).mono (by decide) (by decide)⟩⟩
theorem main_1_1 : Claimed_1_1 := comes_1 fun _ _ _ _ _ _ h hF => ⟨h.1, hF⟩
theorem main_1_2 : Claimed_1_2 := comes_1 fun _ _ _ _ _ _ h hF => ⟨h.2.1, hF⟩
end Jvm.Pilot.@@N@@
namespace Jvm.Pilot.@@N@@
open Jvm Jvm.ClassFile Sem Op Lib Jvm.Free Jvm.Stand Jvm.Pilot.@@N@@.Jvm.D
/-! MADE BY PROGRAM (witnessworld.py) out of the Statement's table words and the real class files: 12 classes; the members and pool entries that the words name. The judged class is class 1, her method 1. -/
namespace start1
open Jvm.ClassFile
def u (s : String) : CpInfo := .utf8 (stringToUtf16 s)
/-- a pool by its gaps: so many unusable entries, then the entry; so many at the end -/
def gap : Nat → List CpInfo → List CpInfo
  | 0, r => r
  | n + 1, r => .unusable :: gap n r
def poolList (es : List (Nat × CpInfo)) (last : Nat) : List CpInfo := es.foldr (fun e r => gap e.1 (e.2 :: r)) (gap last [])
def pool (es : List (Nat × CpInfo)) (last : Nat) : Array CpInfo := ⟨poolList es last⟩
def fileOf (pool : Array CpInfo) (this : Nat) (attrs : Array Attribute := #[]) (ms : Array MethodInfo := #[]) (fl : Nat := 33) (sup : Nat := 0) (ifs : Array Nat := #[]) (fds : Array FieldInfo := #[]) : ClassFile where
  minorVersion := 0
  majorVersion := 65
  constantPool := pool
  accessFlags := fl
  thisClass := this
  superClass := sup
  interfaces := ifs
  fields := fds
  methods := ms
  attributes := attrs
def plain (name : String) (sup : Option ClassId) : Class where
  name := name
  kind := .ordinary
  loader := none
  accessFlags := 33
  super := sup
  interfaces := #[]
  cf := none
  fields := #[]
  methods := #[]
  instanceTypes := #[]
  staticTypes := #[]
  resolved := #[]
  callSites := []
  init := .initialized
  statics := none
  mirror := none

def pool0 : Array CpInfo := pool [(5, u "<init>"), (0, u "()V"), (1, .class_ 10), (1, u "java/lang/Object")] 113

def k0m0 : Method := { name := "<init>", desc := "()V", sig := { parameters := [], returnType := none }, accessFlags := 1, code := none }
/-- java/lang/Object -/
def k0 : Class := { plain "java/lang/Object" none with
  accessFlags := 33
  interfaces := #[]
  cf := some (fileOf pool0 8 #[] #[{ accessFlags := 1, nameIndex := 5, descriptorIndex := 6, attributes := #[] }] 33 0 #[] #[])
  fields := #[]
  methods := #[k0m0]
  instanceTypes := #[]
  staticTypes := #[]
  resolved := Array.replicate 124 none
  statics := none }

def pool1 : Array CpInfo := pool [(2, .class_ 4), (1, u "java/lang/Object"), (0, u "<init>"), (0, u "()V"), (0, .fieldref 8 9), (0, .class_ 10), (0, .nameAndType 11 12), (0, u "com/example/dwellgate/dwellgate/book/Side"), (0, u "BUY"), (0, u "Lcom/example/dwellgate/dwellgate/book/Side;"), (0, .fieldref 8 14), (0, .nameAndType 15 12), (0, u "SELL"), (0, .methodref 8 17), (0, .nameAndType 18 19), (0, u "better"), (0, u "(JJ)Z"), (0, .class_ 21), (0, u "com/example/dwellgate/dwellgate/book/SideBetterPinLaw"), (2, u "law"), (0, u "(JJI)Z")] 3

def k1m0 : Method := { name := "<init>", desc := "()V", sig := { parameters := [], returnType := none }, accessFlags := 2, code := none }
def k1c1 : Code := { maxStack := 5, maxLocals := 13, code := code, exceptionTable := #[], attributes := #[] }
def k1m1 : Method := { name := "law", desc := "(JJI)Z", sig := { parameters := [.long, .long, .int], returnType := some .boolean }, accessFlags := 9, code := some k1c1 }
/-- com/example/dwellgate/dwellgate/book/SideBetterPinLaw -/
def k1 : Class := { plain "com/example/dwellgate/dwellgate/book/SideBetterPinLaw" (some 0) with
  accessFlags := 49
  interfaces := #[]
  cf := some (fileOf pool1 20 #[] #[{ accessFlags := 2, nameIndex := 5, descriptorIndex := 6, attributes := #[] }, { accessFlags := 9, nameIndex := 24, descriptorIndex := 25, attributes := #[] }] 49 2 #[] #[])
  fields := #[]
  methods := #[k1m0, k1m1]
  instanceTypes := #[]
  staticTypes := #[]
  resolved := Array.replicate 29 none
  statics := none }

def pool2 : Array CpInfo := pool [(1, .class_ 2), (0, u "java/lang/constant/Constable"), (0, .class_ 4), (0, u "java/lang/Object")] 6

/-- java/lang/constant/Constable -/
def k2 : Class := { plain "java/lang/constant/Constable" (some 0) with
  accessFlags := 1537
  interfaces := #[]
  cf := some (fileOf pool2 1 #[] #[] 1537 3 #[] #[])
  fields := #[]
  methods := #[]
  instanceTypes := #[]
  staticTypes := #[]
  resolved := Array.replicate 11 none
  statics := none }

def pool3 : Array CpInfo := pool [(1, .class_ 2), (0, u "java/lang/Comparable"), (0, .class_ 4), (0, u "java/lang/Object")] 7

/-- java/lang/Comparable -/
def k3 : Class := { plain "java/lang/Comparable" (some 0) with
  accessFlags := 1537
  interfaces := #[]
  cf := some (fileOf pool3 1 #[] #[] 1537 3 #[] #[])
  fields := #[]
  methods := #[]
  instanceTypes := #[]
  staticTypes := #[]
  resolved := Array.replicate 12 none
  statics := none }

def pool4 : Array CpInfo := pool [(1, .class_ 2), (0, u "java/io/Serializable"), (0, .class_ 4), (0, u "java/lang/Object")] 2

/-- java/io/Serializable -/
def k4 : Class := { plain "java/io/Serializable" (some 0) with
  accessFlags := 1537
  interfaces := #[]
  cf := some (fileOf pool4 1 #[] #[] 1537 3 #[] #[])
  fields := #[]
  methods := #[]
  instanceTypes := #[]
  staticTypes := #[]
  resolved := Array.replicate 7 none
  statics := none }

def pool5 : Array CpInfo := pool [(2, .class_ 4), (1, u "java/lang/Enum"), (0, u "name"), (0, u "Ljava/lang/String;"), (2, u "ordinal"), (0, u "I"), (1, .class_ 14), (1, u "java/lang/Object"), (4, u "hash"), (86, .class_ 108), (1, u "java/lang/Enum$EnumDesc"), (2, .class_ 112), (0, u "java/lang/constant/Constable"), (0, .class_ 114), (0, u "java/lang/Comparable"), (0, .class_ 116), (0, u "java/io/Serializable")] 87

/-- java/lang/Enum -/
def k5 : Class := { plain "java/lang/Enum" (some 0) with
  accessFlags := 1057
  interfaces := #[2, 3, 4]
  cf := some (fileOf pool5 2 #[.nestMembers #[106]] #[] 1057 12 #[111, 113, 115] #[{ accessFlags := 18, nameIndex := 5, descriptorIndex := 6, attributes := #[] }, { accessFlags := 18, nameIndex := 9, descriptorIndex := 10, attributes := #[] }, { accessFlags := 2, nameIndex := 19, descriptorIndex := 10, attributes := #[] }])
  fields := #[{ name := "name", type := (.object "java/lang/String"), accessFlags := 18, slot := 0, constantValue := 0 }, { name := "ordinal", type := .int, accessFlags := 18, slot := 1, constantValue := 0 }, { name := "hash", type := .int, accessFlags := 2, slot := 2, constantValue := 0 }]
  methods := #[]
  instanceTypes := #[(.object "java/lang/String"), .int, .int]
  staticTypes := #[]
  resolved := Array.replicate 204 none
  statics := none }

def pool6 : Array CpInfo := pool [(1, .class_ 2), (0, u "com/example/dwellgate/dwellgate/book/Side"), (0, .fieldref 1 4), (0, .nameAndType 5 6), (0, u "BUY"), (0, u "Lcom/example/dwellgate/dwellgate/book/Side;"), (2, u "SELL"), (2, u "$VALUES"), (0, u "[Lcom/example/dwellgate/dwellgate/book/Side;"), (6, .class_ 22), (1, u "java/lang/Enum"), (8, u "word"), (0, u "Ljava/lang/String;"), (25, u "(JJ)Z"), (0, u "better")] 5

def k6c0 : Code := { maxStack := 4, maxLocals := 5, code := prog_31_method_7_code, exceptionTable := #[], attributes := #[] }
def k6m0 : Method := { name := "better", desc := "(JJ)Z", sig := { parameters := [.long, .long], returnType := some .boolean }, accessFlags := 1, code := some k6c0 }
/-- com/example/dwellgate/dwellgate/book/Side -/
def k6 : Class := { plain "com/example/dwellgate/dwellgate/book/Side" (some 5) with
  accessFlags := 16433
  interfaces := #[]
  cf := some (fileOf pool6 1 #[] #[{ accessFlags := 1, nameIndex := 59, descriptorIndex := 58, attributes := #[] }] 16433 20 #[] #[{ accessFlags := 16409, nameIndex := 5, descriptorIndex := 6, attributes := #[] }, { accessFlags := 16409, nameIndex := 9, descriptorIndex := 6, attributes := #[] }, { accessFlags := 18, nameIndex := 31, descriptorIndex := 32, attributes := #[] }, { accessFlags := 4122, nameIndex := 12, descriptorIndex := 13, attributes := #[] }])
  fields := #[{ name := "BUY", type := (.object "com/example/dwellgate/dwellgate/book/Side"), accessFlags := 16409, slot := 0, constantValue := 0 }, { name := "SELL", type := (.object "com/example/dwellgate/dwellgate/book/Side"), accessFlags := 16409, slot := 1, constantValue := 0 }, { name := "word", type := (.object "java/lang/String"), accessFlags := 18, slot := 3, constantValue := 0 }, { name := "$VALUES", type := (.array (.object "com/example/dwellgate/dwellgate/book/Side")), accessFlags := 4122, slot := 2, constantValue := 0 }]
  methods := #[k6m0]
  instanceTypes := #[(.object "java/lang/String"), .int, .int, (.object "java/lang/String")]
  staticTypes := #[(.object "com/example/dwellgate/dwellgate/book/Side"), (.object "com/example/dwellgate/dwellgate/book/Side"), (.array (.object "com/example/dwellgate/dwellgate/book/Side"))]
  resolved := Array.replicate 65 none
  statics := some 0 }

def pool7 : Array CpInfo := pool [(1, u "java/lang/Cloneable"), (0, .class_ 1), (0, u "java/lang/Object"), (0, .class_ 3)] 3

/-- java/lang/Cloneable -/
def k7 : Class := { plain "java/lang/Cloneable" (some 0) with
  accessFlags := 1537
  interfaces := #[]
  cf := some (fileOf pool7 2 #[] #[] 1537 4 #[] #[])
  fields := #[]
  methods := #[]
  instanceTypes := #[]
  staticTypes := #[]
  resolved := Array.replicate 8 none
  statics := none }

/-- the primitive byte -/
def k8 : Class := { plain "byte" none with kind := .primitive 'B', accessFlags := 0x411 }
/-- [B -/
def k9 : Class := { plain "[B" (some 0) with kind := .array 8 .byte, interfaces := #[7, 4], accessFlags := 1041 }

/-- the primitive int -/
def k10 : Class := { plain "int" none with kind := .primitive 'I', accessFlags := 0x411 }
/-- [I -/
def k11 : Class := { plain "[I" (some 0) with kind := .array 10 .int, interfaces := #[7, 4], accessFlags := 1041 }

def heap : Heap := #[{ cls := 6, slots := #[.ref 1, .ref 2, .null], vm := .statics 6 },
  { cls := 6, slots := #[.null, .int 0, .int 0, .null], vm := .none },
  { cls := 6, slots := #[.null, .int 1, .int 0, .null], vm := .none }]
def classes : Array Class := #[k0, k1, k2, k3, k4, k5, k6, k7, k8, k9, k10, k11]
def interned : List (Array UInt16 × Addr) := []
def slotsUsed : Nat := 11
def theMethod : MethodId := ⟨1, 1⟩
def args0 : Array Value := #[.long 5, .long 7, .int 1]
def aboutOver (below : List Frame) : State where
  vm := { classes := classes, interned := interned.toArray }
  heap := heap
  slotsUsed := slotsUsed
  threads := #[{ frames := .invoking theMethod args0 :: below }]
def below0 : List Frame := [.native { method := ⟨0, 0⟩, args := #[] }]
def about1 : State := aboutOver below0
def p0 : Program := .bare "" "" ""
def e0 : Env := launch0.env 0 0 0
theorem w_frames : about1.frames = Frame.invoking theMethod args0 :: below0 := rfl
set_option maxRecDepth 65536 in
theorem w_args : argsFit about1.vm theMethod args0 = true := by decide +kernel
set_option maxRecDepth 65536 in
theorem w_heap : heapFits about1 = true := by decide +kernel
set_option maxRecDepth 65536 in
theorem w_runnable : about1.curStatus? = some .runnable := by decide +kernel
set_option maxRecDepth 65536 in
theorem w_alone : about1.alone = true := by decide +kernel
set_option maxRecDepth 65536 in
theorem w_named : about1.methodNamed? x = some theMethod := by decide +kernel
set_option maxRecDepth 65536 in
theorem w_hears : about1.hears theMethod below0 = true := by decide +kernel
set_option maxRecDepth 65536 in
theorem w_ripe : about1.ripe theMethod args0 below0 = true := by decide +kernel
theorem w_running : about1.status = .running := rfl
set_option maxRecDepth 65536 in
theorem w_room : about1.hasRoom e0.platform room_1 = true :=
  launch0.hasRoom_least _ room_1 (by decide +kernel) (by decide +kernel) (by decide +kernel) (by decide +kernel) (by decide +kernel) (by decide +kernel)
theorem allAtoms_all (ts : List Jvm.Cond) (a : Array Jvm.Value) (st : Jvm.State) : (allAtoms ts).before a st = ts.all (fun c => c.before a st) := by
  induction ts with
  | nil => rfl
  | cons c t ih =>
    show (Jvm.Cond.and c (allAtoms t)).before a st = _
    rw [Jvm.Cond.before_and, ih, List.all_cons]
def words1 : List Jvm.Cond := Jvm.Cond.code x code maxLocals ret :: tables_1
/-- a 'code' word, met by the world's own term for the bytes: nothing is compared byte by byte -/
theorem code_word {y : MethodName} {bytes : ByteArray} {mx : Nat} {rt : Option FieldType} {a : Array Value} {s : State} {m : MethodId} {meth : Method} {c : Code} (h1 : s.methodNamed? y = some m) (h2 : s.vm.method? m = some meth) (h3 : meth.code = some c) (h4 : c.code = bytes)
    (h5 : (c.maxLocals == mx && c.exceptionTable.isEmpty && decide (c.maxStack ≤ mostOperands) && decide (meth.sig.returnType = rt) && !meth.locks && decide (parseMethodDescriptor y.desc = some meth.sig)) = true) : (Jvm.Cond.code y bytes mx rt).before a s = true := by
  simp only [Bool.and_eq_true, beq_iff_eq, Bool.not_eq_true', decide_eq_true_eq] at h5
  obtain ⟨⟨⟨⟨⟨g1, g2⟩, g3⟩, g4⟩, g5⟩, g6⟩ := h5
  simp [Cond.before, Cond.holds, Cond.value, h1, h2, h3, h4, g1, g2, g3, g4, g5, g6]
def isCode : Jvm.Cond → Bool
  | .code _ _ _ _ => true
  | _ => false
theorem all_split {L : List Jvm.Cond} {P : Jvm.Cond → Bool} (h1 : L.all (fun c => isCode c || P c) = true) (h2 : ∀ c ∈ L.filter isCode, P c = true) : L.all P = true := by
  refine List.all_eq_true.mpr fun c hc => ?_
  have h := List.all_eq_true.mp h1 c hc
  rcases Bool.eq_false_or_eq_true (isCode c) with hi | hi
  · exact h2 c (List.mem_filter.mpr ⟨hc, hi⟩)
  · simpa [hi] using h
set_option maxRecDepth 65536 in
theorem w_c0 : (Jvm.Cond.code x code maxLocals ret).before args0 about1 = true := code_word (m := ⟨1, 1⟩) (meth := k1m1) (c := k1c1) (by decide +kernel) rfl rfl rfl (by decide +kernel)
set_option maxRecDepth 65536 in
theorem w_c1 : (Jvm.Cond.code ({ cls := "com/example/dwellgate/dwellgate/book/Side", name := "better", desc := "(JJ)Z" } : Jvm.MethodName) prog_31_method_7_code (5 : Nat) (Option.some Jvm.ClassFile.FieldType.boolean)).before args0 about1 = true := code_word (m := ⟨6, 0⟩) (meth := k6m0) (c := k6c0) (by decide +kernel) rfl rfl rfl (by decide +kernel)
def codes1 : List Jvm.Cond := [Jvm.Cond.code x code maxLocals ret, Jvm.Cond.code ({ cls := "com/example/dwellgate/dwellgate/book/Side", name := "better", desc := "(JJ)Z" } : Jvm.MethodName) prog_31_method_7_code (5 : Nat) (Option.some Jvm.ClassFile.FieldType.boolean)]
set_option maxRecDepth 65536 in
theorem codes_eq : words1.filter isCode = codes1 := rfl
theorem w_codes : ∀ c ∈ words1.filter isCode, c.before args0 about1 = true := by
  rw [codes_eq]
  intro c hc
  simp only [codes1, List.mem_cons, List.not_mem_nil, or_false] at hc
  rcases hc with rfl | rfl
  · exact w_c0
  · exact w_c1
set_option maxRecDepth 65536 in
theorem w_t1 : words1.all (fun c => isCode c || c.before args0 about1) = true := by decide +kernel
theorem w_tables : (allAtoms (Jvm.Cond.code x code maxLocals ret :: tables_1)).before args0 about1 = true := by
  rw [allAtoms_all]
  show words1.all (fun c => c.before args0 about1) = true
  refine all_split ?_ w_codes
  rw [w_t1]
set_option maxRecDepth 65536 in
theorem w_case : (Jvm.Cond.and given_1 narrow_1).before args0 about1 = true := by decide +kernel
theorem w_applies : (headSpec (Jvm.Cond.code x code maxLocals ret :: tables_1) room_1).applies x e0.platform about1 = true :=
  (Spec.applies_iff w_frames).mpr ⟨w_running, w_runnable, w_alone, w_named, w_hears, w_ripe, w_room, w_tables⟩
theorem atStart : AtStart classFile x code maxLocals ret World_1 tables_1 room_1 Calls_1 rest_1 Pre_1 launch0 p0 e0 about1 theMethod args0 below0 :=
  ⟨lists_1, trivial, launch0.admits_env _ _ _, launch0.least_env, fairChoices_fair.cas, fairChoices_fair.clock, w_frames, w_args, w_heap, w_applies, trivial, trivial, w_case⟩
end start1
theorem witness_1 : WitnessClaimed_1 := ⟨start1.p0, start1.e0, start1.about1, start1.theMethod, start1.args0, start1.below0, start1.atStart⟩
end Jvm.Pilot.@@N@@
