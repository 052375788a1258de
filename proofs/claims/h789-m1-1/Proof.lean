import JvmDerived
import JvmDerived.Pilot.@@N@@Statement
import JvmDerived.Pilot.@@N@@Code
set_option linter.unusedVariables false
set_option linter.unusedSimpArgs false
namespace Jvm.RoadKit
open Sem ClassFile Op Lib Jvm.Stand Jvm.Free Jvm.LawKit
section New
variable {p : Program} {l : Launch} {e : Env} {R : Room} {s : State} {m : MethodId} {args : Array Value} {below : List Frame} {meth : Method} {c : Code} {T : State} {locs : List Loc} {cells slots : Nat}
theorem retI (X : Stand p l e R s m args below meth c T locs cells slots) (hx : p.tables.exec = Jvm.exec) {pc : Nat} {Ls : Array Slot} {z : Int32} {rest : List Value} (hret : meth.sig.returnType = some .int) (hd : decode c.code pc = .ok (.ireturn, 1)) {fs : List Frame}
    (hl : ∀ (f : JFrame) (acts : List Action), f.method = m → f.locked = none → f.entered = [] → (doReturn e (T.setTop f) acts (some (.int z))).1 = T.setFrames fs) : Steps p.tables e below (T.setTop (mkF m pc Ls (.int z :: rest))) (T.setFrames fs) := retOut X hx hret rfl (Or.inl ⟨rfl, Or.inl rfl, _, rfl⟩) hd hl
end New
end Jvm.RoadKit
namespace Jvm.Pilot.@@N@@
open Jvm Jvm.ClassFile Sem Op Lib Jvm.Free Jvm.Stand Jvm.LawKit Jvm.RoadKit Bundle Jvm.Pilot.@@N@@.Jvm.D
section OwnKit
variable {p : Program} {l : Launch} {e : Env} {R : Room} {s : State} {m : MethodId} {args : Array Value} {below : List Frame} {meth : Method} {c : Code} {T : State} {locs : List Loc} {cells slots : Nat} {Z : State} {a0 : Array Value} {h : Heap}
def Go (p : Program) (e : Env) (below : List Frame) (Q : Outcome → State → Prop) (S : State) : Prop := ∃ s₂ o, Steps p.tables e below S s₂ ∧ s₂.status = .running ∧ Ended s₂ below o ∧ Q o s₂
theorem Go.of {Q : Outcome → State → Prop} {S : State} (k : Go p e below Q S) : ∃ s₂ o, Steps p.tables e below S s₂ ∧ s₂.status = .running ∧ Ended s₂ below o ∧ Q o s₂ := k
theorem Go.st {Q : Outcome → State → Prop} {S S' : State} (h : ∀ t, Steps p.tables e below S' t → Steps p.tables e below S t) (k : Go p e below Q S') : Go p e below Q S := by
  obtain ⟨s2, o, h1, h2⟩ := k; exact ⟨s2, o, h _ h1, h2⟩
theorem Go.op {α : Type} {Q : Outcome → State → Prop} {S : State} {F : α → State} {x : α} (h : ∀ t, Steps p.tables e below (F x) t → Steps p.tables e below S t) (k : ∀ z, z = x → Go p e below Q (F z)) : Go p e below Q S := Go.st h (k x rfl)
theorem Go.join {α : Type} {Q : Outcome → State → Prop} {S : State} (C : α → Prop) (F : α → State) (k : ∀ r, C r → Go p e below Q (F r)) (j : (∀ r, C r → Go p e below Q (F r)) → Go p e below Q S) : Go p e below Q S := j k
theorem Go.joinT {α : Type} {Q : Outcome → State → Prop} {S : State} (X : Stand p l e R s m args below meth c T locs cells slots) (eT : T.heap = h) (C : α → Prop) (F : State → α → State) (k : ∀ T', Stand p l e R s m args below meth c T' locs cells slots → T'.heap = h → ∀ r, C r → Go p e below Q (F T' r)) (j : (∀ T', Stand p l e R s m args below meth c T' locs cells slots → T'.heap = h → ∀ r, C r → Go p e below Q (F T' r)) → Go p e below Q S) : Go p e below Q S := j k
theorem Go.loop {α : Type} {Q : Outcome → State → Prop} (I : Nat → α → Prop) (F : α → State) (k0 : Nat) (x0 : α) (h0 : I k0 x0) (step : ∀ k x, I k x → (∀ k' x', k' < k → I k' x' → Go p e below Q (F x')) → Go p e below Q (F x)) : Go p e below Q (F x0) := by
  have H : ∀ k x, I k x → Go p e below Q (F x) := by
    intro k
    induction k using Nat.strongRecOn with
    | _ k ih => intro x hx; exact step k x hx fun k' x' hk hx' => ih k' hk x' hx'
  exact H k0 x0 h0
theorem Go.ret {Qn : Option Value → Heap → List Loc → Prop} {rc rs : Nat} (X : Stand p l e R s m args below meth c T locs cells slots) {v : Option Value} (hv : meth.sig.returnType = none → v = none) (hlk : meth.locks = false) {f : JFrame}
    (st : ∀ fs, (∀ (f : JFrame) (acts : List Action), f.method = m → f.locked = none → f.entered = [] → (doReturn e (T.setTop f) acts v).1 = T.setFrames fs) → Steps p.tables e below (T.setTop f) (T.setFrames fs))
    (hc : cells ≤ rc) (hs : slots ≤ rs) (hQ : Qn v T.heap locs) : Go p e below (fun o U' => ∃ v L, o = .returned v ∧ Qn v U'.heap L ∧ FrameEnd s o U' L rc rs) (T.setTop f) := by
  obtain ⟨fs, hr, hrun, hended, hW, hsame⟩ := X.leave (v := v) hv hlk
  exact ⟨_, _, st fs hr, hrun, hended, v, locs, rfl, hQ, ⟨_, rfl⟩, hW, hsame.mono hc hs⟩
abbrev Con (l : Launch) (Z : State) (y : MethodName) (bytes : ByteArray) (maxL : Nat) (ret : Option FieldType) (ws : List Jvm.Cond) (rm : Room) (as' : Array Value) (h : Heap) (rc rs : Nat) (Q : Option Value → Heap → List Loc → Prop) : Prop :=
  MetFree l y (head1 (Jvm.Cond.code y bytes maxL ret :: ws) rm) (fun a U => a = as' ∧ Z.Warmed39 U.vm ∧ U.heap = h) (fun _ _ _ _ _ => True) (fun _ U o U' => ∃ v L, o = .returned v ∧ Q v U'.heap L ∧ FrameEnd U o U' L rc rs)
theorem own_eh {a : Addr} {cl : Cell} (eT : T.heap = h) (q : h[a]? = some cl) : T.heap[a]? = some cl := by rw [eT]; exact q
theorem own_callS {own : String} {index : Nat} {y : MethodName} {bytes : ByteArray} {maxL : Nat} {ret : Option FieldType} {rm : Room} {as' : Array Value} {Q : Option Value → Heap → List Loc → Prop} {W : Nat} {g : JFrame} {argsL rest : List Value}
    (X : Stand p l e R s m args below meth c T locs cells slots) (hx : p.tables.exec = Jvm.exec) (hZ : Z.Warmed39 s.vm) (eT : T.heap = h) (hown : s.vm.findClass own = some m.cls)
    (w1 : (Jvm.Cond.methodLink own index y).before a0 Z = true) (w2 : (Jvm.Cond.static y).before a0 Z = true) (w3 : (Jvm.Cond.initialized y.cls).before a0 Z = true) (w4 : (Jvm.Cond.code y bytes maxL ret).before a0 Z = true)
    (hy : y.cls ≠ "java/lang/invoke/MethodHandle" ∧ y.cls ≠ "java/lang/invoke/VarHandle")
    (hM : Con l Z y bytes maxL ret [] rm as' h rm.cells rm.slots Q)
    (hf : rm.frames + 1 ≤ R.frames) (hl : W + (maxL + 11) + rm.locals ≤ R.locals) (hc : cells + rm.cells ≤ R.cells) (hs : slots + rm.slots ≤ R.slots)
    (hg : g.method = m) (hsize : g.locals.size = c.maxLocals) (has : argsL.toArray = as') (hlen : ∀ sig, parseMethodDescriptor y.desc = some sig → argsL.length = sig.parameters.length)
    (hstack : g.stack = argsL.reverse ++ rest) (hW : 2 * g.monitorRoom + (rest.map fun v => v.category).sum ≤ W) (hdg : decode c.code g.pc = .ok (.invokestatic index, 3)) :
    ∃ v T' L, Stand p l e R s m args below meth c T' (locs ++ L) (cells + rm.cells) (slots + rm.slots) ∧ Q v T'.heap L ∧ ∀ target, Steps p.tables e below (T'.setTop { g with pc := g.pc + 3, stack := v.toList ++ rest }) target → Steps p.tables e below (T.setTop g) target := by
  obtain ⟨v, _, ⟨T', L', k', n'⟩, -, X', ⟨L, hQ, l', y', z'⟩, st⟩ := Jvm.LawKit.callS X hx (y := y) hown (mvT hZ w1) (mvT hZ w2) (mvT hZ w3) (mvT hZ w4) hy (backOf (W := W) hM hZ w4 w3 hf hl) (g := g) hg hsize (argsL := argsL) (rest := rest) hlen hstack hW hdg (fun _ _ => ⟨has, eT, hc, hs⟩)
  dsimp only [Pt.U, Pt.locs, Pt.cells, Pt.slots] at X' l' y' z' st hQ
  subst l' y' z'
  exact ⟨v, T', L, X', hQ, st⟩
theorem own_callI {own : String} {index : Nat} {y : MethodName} {bytes : ByteArray} {maxL : Nat} {rm : Room} {as' : Array Value} {Q : Option Value → Heap → List Loc → Prop} {W : Nat} {g : JFrame} {a : Addr} {argsL rest : List Value}
    (X : Stand p l e R s m args below meth c T locs cells slots) (hx : p.tables.exec = Jvm.exec) (hZ : Z.Warmed39 s.vm) (eT : T.heap = h) (hown : s.vm.findClass own = some m.cls) (hyn : y.name = "<init>")
    (w1 : (Jvm.Cond.methodLink own index y).before a0 Z = true) (w2 : (Jvm.Cond.instanceMethod y).before a0 Z = true) (w3 : (Jvm.Cond.initialized y.cls).before a0 Z = true) (w4 : (Jvm.Cond.code y bytes maxL none).before a0 Z = true)
    (hy : y.cls ≠ "java/lang/invoke/MethodHandle" ∧ y.cls ≠ "java/lang/invoke/VarHandle")
    (hM : Con l Z y bytes maxL none [] rm as' h rm.cells rm.slots Q)
    (hf : rm.frames + 1 ≤ R.frames) (hl : W + (maxL + 11) + rm.locals ≤ R.locals) (hc : cells + rm.cells ≤ R.cells) (hs : slots + rm.slots ≤ R.slots)
    (hg : g.method = m) (hsize : g.locals.size = c.maxLocals) (has : (Value.ref a :: argsL).toArray = as') (hlen : ∀ sig, parseMethodDescriptor y.desc = some sig → argsL.length = sig.parameters.length)
    (hstack : g.stack = argsL.reverse ++ .ref a :: rest) (hW : 2 * g.monitorRoom + (rest.map fun v => v.category).sum ≤ W) (hdg : decode c.code g.pc = .ok (.invokespecial index, 3)) :
    ∃ v T' L, Stand p l e R s m args below meth c T' (locs ++ L) (cells + rm.cells) (slots + rm.slots) ∧ Q v T'.heap L ∧ ∀ target, Steps p.tables e below (T'.setTop { g with pc := g.pc + 3, stack := v.toList ++ rest }) target → Steps p.tables e below (T.setTop g) target := by
  obtain ⟨v, _, ⟨T', L', k', n'⟩, -, X', ⟨L, hQ, l', y', z'⟩, st⟩ := X.specialBack hx (y := y) hyn hown (mvT hZ w1) (mvT hZ w2) (mvT hZ w4) hy (backOf (W := W) hM hZ w4 w3 hf hl) (g := g) hg hsize (Steps.refl _) (a := a) (argsL := argsL) (rest := rest) hlen hstack hW hdg (fun _ _ => ⟨has, eT, hc, hs⟩)
  dsimp only [Pt.U, Pt.locs, Pt.cells, Pt.slots] at X' l' y' z' st hQ
  subst l' y' z'
  exact ⟨v, T', L, X', hQ, fun _ k => st.trans k⟩
theorem own_callV {own C : String} {index : Nat} {y z : MethodName} {bytes : ByteArray} {maxL : Nat} {ret : Option FieldType} {rm : Room} {as' : Array Value} {Q : Option Value → Heap → List Loc → Prop} {W : Nat} {g : JFrame} {a : Addr} {argsL rest : List Value}
    (X : Stand p l e R s m args below meth c T locs cells slots) (hx : p.tables.exec = Jvm.exec) (hZ : Z.Warmed39 s.vm) (eT : T.heap = h) (hown : s.vm.findClass own = some m.cls)
    (w1 : (Jvm.Cond.methodLink own index y).before a0 Z = true) (w2 : (Jvm.Cond.declares y).before a0 Z = true) (nf : NotFace s y) (w5 : (Jvm.Cond.selects C y z).before a0 Z = true) (w6 : (Jvm.Cond.instanceMethod z).before a0 Z = true) (w3 : (Jvm.Cond.initialized z.cls).before a0 Z = true) (w4 : (Jvm.Cond.code z bytes maxL ret).before a0 Z = true)
    (hy : y.cls ≠ "java/lang/invoke/MethodHandle" ∧ y.cls ≠ "java/lang/invoke/VarHandle") (E : Exa Z h a C)
    (hM : Con l Z z bytes maxL ret [] rm as' h rm.cells rm.slots Q)
    (hf : rm.frames + 1 ≤ R.frames) (hl : W + (maxL + 11) + rm.locals ≤ R.locals) (hc : cells + rm.cells ≤ R.cells) (hs : slots + rm.slots ≤ R.slots)
    (hg : g.method = m) (hsize : g.locals.size = c.maxLocals) (has : (Value.ref a :: argsL).toArray = as') (hlen : ∀ sig, parseMethodDescriptor y.desc = some sig → argsL.length = sig.parameters.length)
    (hstack : g.stack = argsL.reverse ++ .ref a :: rest) (hW : 2 * g.monitorRoom + (rest.map fun v => v.category).sum ≤ W) (hdg : decode c.code g.pc = .ok (.invokevirtual index, 3)) :
    ∃ v T' L, Stand p l e R s m args below meth c T' (locs ++ L) (cells + rm.cells) (slots + rm.slots) ∧ Q v T'.heap L ∧ ∀ target, Steps p.tables e below (T'.setTop { g with pc := g.pc + 3, stack := v.toList ++ rest }) target → Steps p.tables e below (T.setTop g) target := by
  obtain ⟨cq, kq, qa, qb, qc⟩ := isOf hZ eT E
  obtain ⟨v, _, ⟨T', L', k', n'⟩, -, X', ⟨L, hQ, l', y', z'⟩, st⟩ := X.virtualBack hx (y := y) (z := z) hown (mvT hZ w1) (mvT hZ w2) nf (mvT hZ w5) (mvT hZ w6) hy (backOf (W := W) hM hZ w4 w3 hf hl) qa qc (g := g) hg hsize (Steps.refl _) (argsL := argsL) (rest := rest) hlen hstack hW hdg (fun _ _ => ⟨has, eT, hc, hs⟩)
  dsimp only [Pt.U, Pt.locs, Pt.cells, Pt.slots] at X' l' y' z' st hQ
  subst l' y' z'
  exact ⟨v, T', L, X', hQ, fun _ k => st.trans k⟩
theorem own_sta_keep {C n d : String} {w : Value} {h h' : Heap} {ws : List Addr} (F : Sta Z h C n d w) (K : Keep h h' ws) (q : ∀ x ∈ ws, ∃ cl : Cell, h[x]? = some cl ∧ cl.vm.isStatics = false) : Sta Z h' C n d w := by
  obtain ⟨cf, i, k, f, st, cell, h1, h2, h3, h4, h5, h6, h7⟩ := F
  refine ⟨cf, i, k, f, st, cell, h1, h2, h3, h4, K.2.1 st cell h5 fun z => ?_, h6, h7⟩
  obtain ⟨cl, q1, q2⟩ := q st z
  cases h5.symm.trans q1
  rw [h6] at q2; cases q2
theorem own_exa_plain {a : Addr} {C : String} {h : Heap} (F : Exa Z h a C) : ∃ cl : Cell, h[a]? = some cl ∧ cl.vm.isStatics = false := by
  obtain ⟨cell, k, h1, -, -, h4, -⟩ := F; exact ⟨cell, h1, h4⟩
theorem own_arv_plain {a : Addr} {k : ClassId} {ty : FieldType} {z : Int32} {vs : List Value} {dv : Value} {h : Heap} (F : Arv Z h a k ty z vs dv) : ∃ cl : Cell, h[a]? = some cl ∧ cl.vm.isStatics = false := by
  obtain ⟨cell, A, -⟩ := F; exact ⟨cell, A.1, A.plain⟩
theorem own_getR {own O n d : String} {index : Nat} {a : Addr} {v : Value} {g : JFrame} {rest : List Value} (X : Stand p l e R s m args below meth c T locs cells slots) (hx : p.tables.exec = Jvm.exec) (hZ : Z.Warmed39 s.vm) (hown : s.vm.findClass own = some m.cls)
    (w : (Jvm.Cond.fieldRef own index O n d).before a0 Z = true) (eT : T.heap = h) (F : Fld Z h a O n d v) (hg : g.method = m) (hs : g.stack = .ref a :: rest) (hd : decode c.code g.pc = .ok (.getfield index, 3)) :
    ∀ target, Steps p.tables e below (T.setTop { g with pc := g.pc + 3, stack := v :: rest }) target → Steps p.tables e below (T.setTop g) target := by
  have hU : Z.Warmed39 T.vm := wtrans hZ X.warmed
  have w2 := Cond.fieldRef_warmed39 hU w
  have hc : (Z.setVm T.vm).vm.findClass own = some m.cls := by
    show T.vm.findClass own = some m.cls
    rw [X.warmed.alike.findClass]; exact hown
  obtain ⟨c1, k1, i1, f1, hf1, hr⟩ := Cond.fieldRef_spec hc w2
  obtain ⟨cell, cf, k, i, f, h1, h2, h3, h4, -, -, h7⟩ := F
  obtain ⟨k', hi, -⟩ := State.fieldFound?_setVm (s := Z) hU.alike h2
  cases hi.symm.trans hf1
  intro t kk
  exact (X.getfieldR hx hg hr h3 hs (by rw [eT]; exact h1) h4 h7 hd (Steps.refl _)).trans kk
theorem own_callP {own C : String} {index : Nat} {y : MethodName} {bytes : ByteArray} {maxL : Nat} {ret : Option FieldType} {rm : Room} {as' : Array Value} {Q : Option Value → Heap → List Loc → Prop} {W : Nat} {g : JFrame} {a : Addr} {argsL rest : List Value}
    (X : Stand p l e R s m args below meth c T locs cells slots) (hx : p.tables.exec = Jvm.exec) (hZ : Z.Warmed39 s.vm) (eT : T.heap = h) (hown : s.vm.findClass own = some m.cls)
    (w1 : (Jvm.Cond.methodLink own index y).before a0 Z = true) (w2 : (Jvm.Cond.instanceMethod y).before a0 Z = true) (w5 : (Jvm.Cond.selects y.cls y y).before a0 Z = true) (w6 : (Jvm.Cond.privateMethod y).before a0 Z = true) (w3 : (Jvm.Cond.initialized y.cls).before a0 Z = true) (w4 : (Jvm.Cond.code y bytes maxL ret).before a0 Z = true)
    (hy : y.cls ≠ "java/lang/invoke/MethodHandle" ∧ y.cls ≠ "java/lang/invoke/VarHandle") (E : Exa Z h a C)
    (hM : Con l Z y bytes maxL ret [] rm as' h rm.cells rm.slots Q)
    (hf : rm.frames + 1 ≤ R.frames) (hl : W + (maxL + 11) + rm.locals ≤ R.locals) (hc : cells + rm.cells ≤ R.cells) (hs : slots + rm.slots ≤ R.slots)
    (hg : g.method = m) (hsize : g.locals.size = c.maxLocals) (has : (Value.ref a :: argsL).toArray = as') (hlen : ∀ sig, parseMethodDescriptor y.desc = some sig → argsL.length = sig.parameters.length)
    (hstack : g.stack = argsL.reverse ++ .ref a :: rest) (hW : 2 * g.monitorRoom + (rest.map fun v => v.category).sum ≤ W) (hdg : decode c.code g.pc = .ok (.invokevirtual index, 3)) :
    ∃ v T' L, Stand p l e R s m args below meth c T' (locs ++ L) (cells + rm.cells) (slots + rm.slots) ∧ Q v T'.heap L ∧ ∀ target, Steps p.tables e below (T'.setTop { g with pc := g.pc + 3, stack := v.toList ++ rest }) target → Steps p.tables e below (T.setTop g) target := by
  obtain ⟨cq, q1, q2⟩ := E.cell
  obtain ⟨v, _, ⟨T', L', k', n'⟩, -, X', ⟨L, hQ, l', y', z'⟩, st⟩ := X.privateBack hx (y := y) hown (mvT hZ w1) (mvT hZ w2) (mvT hZ w5) (Cond.privateMethod_at (mvP hZ w6 (args := #[]))) (mvT hZ w4) hy (backOf (W := W) hM hZ w4 w3 hf hl) (g := g) hg hsize (Steps.refl _) (a := a) (by rw [eT]; exact q1) q2 (argsL := argsL) (rest := rest) hlen hstack hW hdg (fun _ _ => ⟨has, eT, hc, hs⟩)
  dsimp only [Pt.U, Pt.locs, Pt.cells, Pt.slots] at X' l' y' z' st hQ
  subst l' y' z'
  exact ⟨v, T', L, X', hQ, fun _ k => st.trans k⟩
theorem own_callF {own C : String} {index count : Nat} {xi y : MethodName} {bytes : ByteArray} {maxL : Nat} {ret : Option FieldType} {rm : Room} {as' : Array Value} {Q : Option Value → Heap → List Loc → Prop} {W : Nat} {g : JFrame} {a : Addr} {argsL rest : List Value}
    (X : Stand p l e R s m args below meth c T locs cells slots) (hx : p.tables.exec = Jvm.exec) (hZ : Z.Warmed39 s.vm) (eT : T.heap = h) (hown : s.vm.findClass own = some m.cls)
    (w1 : (Jvm.Cond.methodLink own index xi).before a0 Z = true) (w2 : (Jvm.Cond.declares xi).before a0 Z = true) (w7 : (Jvm.Cond.interfaceMethod xi.cls xi.cls xi.name xi.desc).before args s = true) (w5 : (Jvm.Cond.selects C xi y).before a0 Z = true) (w6 : (Jvm.Cond.instanceMethod y).before a0 Z = true)
    (w8 : (Jvm.Cond.publicMethod y).before a0 Z = true) (w9 : (Jvm.Cond.unhidden C xi.name xi.desc).before a0 Z = true) (w10 : (Jvm.Cond.castable C xi.cls).before a0 Z = true) (w3 : (Jvm.Cond.initialized y.cls).before a0 Z = true) (w4 : (Jvm.Cond.code y bytes maxL ret).before a0 Z = true)
    (hy : xi.cls ≠ "java/lang/invoke/MethodHandle" ∧ xi.cls ≠ "java/lang/invoke/VarHandle") (E : Exa Z h a C)
    (hM : Con l Z y bytes maxL ret [] rm as' h rm.cells rm.slots Q)
    (hf : rm.frames + 1 ≤ R.frames) (hl : W + (maxL + 11) + rm.locals ≤ R.locals) (hc : cells + rm.cells ≤ R.cells) (hs : slots + rm.slots ≤ R.slots)
    (hg : g.method = m) (hsize : g.locals.size = c.maxLocals) (has : (Value.ref a :: argsL).toArray = as') (hlen : ∀ sig, parseMethodDescriptor xi.desc = some sig → argsL.length = sig.parameters.length)
    (hstack : g.stack = argsL.reverse ++ .ref a :: rest) (hW : 2 * g.monitorRoom + (rest.map fun v => v.category).sum ≤ W) (hdg : decode c.code g.pc = .ok (.invokeinterface index count, 5)) :
    ∃ v T' L, Stand p l e R s m args below meth c T' (locs ++ L) (cells + rm.cells) (slots + rm.slots) ∧ Q v T'.heap L ∧ ∀ target, Steps p.tables e below (T'.setTop { g with pc := g.pc + 5, stack := v.toList ++ rest }) target → Steps p.tables e below (T.setTop g) target := by
  obtain ⟨cq, kq, qa, qb, qc⟩ := isOf hZ eT E
  obtain ⟨v, _, ⟨T', L', k', n'⟩, -, X', ⟨L, hQ, l', y', z'⟩, st⟩ := X.interfaceBack hx (xi := xi) (y := y) hown (mvT hZ w1) (mvT hZ w2) w7 (mvT hZ w5) (mvT hZ w6) (mvT hZ w8) (mvT hZ w9) (mvT hZ w10) hy (backOf (W := W) hM hZ w4 w3 hf hl) qa qb qc (g := g) hg hsize (Steps.refl _) (argsL := argsL) (rest := rest) hlen hstack hW hdg (fun _ _ => ⟨has, eT, hc, hs⟩)
  dsimp only [Pt.U, Pt.locs, Pt.cells, Pt.slots] at X' l' y' z' st hQ
  subst l' y' z'
  exact ⟨v, T', L, X', hQ, fun _ k => st.trans k⟩
theorem own_ns_root {O K : String} {n : Nat} (w : (Jvm.Cond.noSuperclass O).before a0 Z = true) (wk : (Jvm.Cond.instantiable K n).before a0 Z = true) (hn : O ≠ K) : NS Z O K := by
  obtain ⟨c, k, h1, h2, h3, -, -⟩ := Cond.noSuperclass_spec w
  obtain ⟨t, kt, g1, -⟩ := Cond.instantiable_spec wk
  have ne := ids_ne h1 g1 hn
  refine ⟨c, t, h1, g1, fun fuel => ?_⟩
  cases fuel with
  | zero => rfl
  | succ f => simp [Vm.isSubclassAux, ne, h2, h3]
theorem own_ns_no {C S K : String} {n : Nat} (w : (Jvm.Cond.superclass C S).before a0 Z = true) (wk : (Jvm.Cond.instantiable K n).before a0 Z = true) (hN : NS Z C K) (hn : C ≠ K) : ∃ c t, Z.vm.findClass C = some c ∧ Z.vm.findClass K = some t ∧ Z.vm.assignable c t = false := by
  obtain ⟨c, t, h0, g0, n3⟩ := hN
  obtain ⟨p, k, kp, h1, h2, h3, h4, h5, -, h7⟩ := Cond.superclass_spec h0 w
  obtain ⟨t', kt, g1, g2, g3, g4, -⟩ := Cond.instantiable_spec wk
  cases g0.symm.trans g1
  have g7 : kt.isInterface = false := by
    cases hq : kt.isInterface
    · rfl
    · simp [hq] at g4
  have ne := ids_ne h0 g0 hn
  refine ⟨c, t, h0, g0, ?_⟩
  show Z.vm.assignableAux (255 + 1) c t = false
  simp [Vm.assignableAux, ne, h2, g2, h5, g3, g7, Vm.isSubclass, n3]
end OwnKit
section OwnStart
variable {args : Array Value} {Z : State}
theorem own_eq_int {t : Term} {k : Int32} (h : (Jvm.Cond.eq t (.int k)).value args Z none Z [] = some true) : t.eval args Z none [] Z = some (.int k) := by
  obtain ⟨a, b, h1, h2, h3, h4⟩ := cmp_v (Or.inl h)
  have hb : b = .int k := Option.some.inj (h2.symm.trans (Term.int_eval k))
  subst hb
  obtain ⟨z, rfl⟩ : ∃ z, a = .int z := h4
  have q : z = k := by simpa [Cond.value, h1, h2] using h
  rw [h1, q]
theorem own_eq_ref {t u : Term} {a : Addr} (h : (Jvm.Cond.eq t u).value args Z none Z [] = some true) (hu : u.eval args Z none [] Z = some (.ref a)) : t.eval args Z none [] Z = some (.ref a) := by
  obtain ⟨x, y, h1, h2, h3, h4⟩ := cmp_v (Or.inl h)
  have hb : y = .ref a := Option.some.inj (h2.symm.trans hu)
  subst hb
  obtain ⟨-, q⟩ : Value.isRef (.ref a) = true ∧ x.isRef = true := h4
  have e := eq_R (a := t) (b := u) h1 h2 q rfl
  rw [e] at h
  have r : x = .ref a := by simpa using h
  rw [h1, r]
theorem own_ne0 {t : Term} {z : Int32} (ht : t.eval args Z none [] Z = some (.int z)) (h : (Jvm.Cond.not (Jvm.Cond.eq t (.int 0))).value args Z none Z [] = some true) : z ≠ 0 := by
  have q := not_v h
  intro e
  subst e
  simp [Cond.value, ht, Term.eval] at q
theorem own_fld {t : Term} {C n d : String} {a : Addr} {v : Value} (ht : t.eval args Z none [] Z = some (.ref a)) (h : (Term.field t C n d).eval args Z none [] Z = some v) : Fld Z Z.heap a C n d v := Fld.start ((fld_at ht).symm.trans h)
theorem own_len {t : Term} {a : Addr} {c : Cell} {k : Int32} {ty : FieldType} (ht : t.eval args Z none [] Z = some (.ref a)) (A : Arr Z Z.heap a c ty) (h : (Term.length t).eval args Z none [] Z = some (.int k)) : c.slots.size < 2 ^ 31 ∧ c.slots.size.toInt32 = k := by
  have q : Z.arrayAt? a = some c := A.fin (Vm.Alike.refl _)
  by_cases hl : c.slots.size < 2 ^ 31
  · have e := (len_f (t := t) ht q hl).symm.trans h
    exact ⟨hl, by simpa using e⟩
  · exfalso
    have hl' : ¬ c.slots.size < 2147483648 := hl
    simp [Term.eval, ht, q, hl'] at h
theorem own_slot {t : Term} {a : Addr} {c : Cell} {ty : FieldType} {v : Value} {j : Int32} (ht : t.eval args Z none [] Z = some (.ref a)) (A : Arr Z Z.heap a c ty) (h : (Term.elem t (.int j)).eval args Z none [] Z = some v) : c.slots[j.toNatClampNeg]? = some v := (elem_in h ht (Term.int_eval j) A.1).2
end OwnStart
theorem dmethod_2_code_0 : decode method_2_code 0 = .ok (.iload_n 0, 1) := by decide +kernel
theorem dmethod_2_code_1 : decode method_2_code 1 = .ok (.iconst 1, 1) := by decide +kernel
theorem dmethod_2_code_2 : decode method_2_code 2 = .ok (.if_icmp .ne 7, 3) := by decide +kernel
theorem dmethod_2_code_5 : decode method_2_code 5 = .ok (.getstatic 7, 3) := by decide +kernel
theorem dmethod_2_code_8 : decode method_2_code 8 = .ok (.areturn, 1) := by decide +kernel
theorem dmethod_2_code_9 : decode method_2_code 9 = .ok (.iload_n 0, 1) := by decide +kernel
theorem dmethod_2_code_10 : decode method_2_code 10 = .ok (.iconst 2, 1) := by decide +kernel
theorem dmethod_2_code_11 : decode method_2_code 11 = .ok (.if_icmp .ne 7, 3) := by decide +kernel
theorem dmethod_2_code_14 : decode method_2_code 14 = .ok (.getstatic 13, 3) := by decide +kernel
theorem dmethod_2_code_17 : decode method_2_code 17 = .ok (.areturn, 1) := by decide +kernel
theorem dmethod_2_code_18 : decode method_2_code 18 = .ok (.iload_n 0, 1) := by decide +kernel
theorem dmethod_2_code_19 : decode method_2_code 19 = .ok (.iconst 3, 1) := by decide +kernel
theorem dmethod_2_code_20 : decode method_2_code 20 = .ok (.if_icmp .ne 7, 3) := by decide +kernel
theorem dmethod_2_code_23 : decode method_2_code 23 = .ok (.getstatic 16, 3) := by decide +kernel
theorem dmethod_2_code_26 : decode method_2_code 26 = .ok (.areturn, 1) := by decide +kernel
theorem dmethod_2_code_27 : decode method_2_code 27 = .ok (.iload_n 0, 1) := by decide +kernel
theorem dmethod_2_code_28 : decode method_2_code 28 = .ok (.iconst 4, 1) := by decide +kernel
theorem dmethod_2_code_29 : decode method_2_code 29 = .ok (.if_icmp .ne 7, 3) := by decide +kernel
theorem dmethod_2_code_32 : decode method_2_code 32 = .ok (.getstatic 19, 3) := by decide +kernel
theorem dmethod_2_code_35 : decode method_2_code 35 = .ok (.areturn, 1) := by decide +kernel
theorem dmethod_2_code_36 : decode method_2_code 36 = .ok (.iload_n 0, 1) := by decide +kernel
theorem dmethod_2_code_37 : decode method_2_code 37 = .ok (.iconst 5, 1) := by decide +kernel
theorem dmethod_2_code_38 : decode method_2_code 38 = .ok (.if_icmp .ne 7, 3) := by decide +kernel
theorem dmethod_2_code_41 : decode method_2_code 41 = .ok (.getstatic 22, 3) := by decide +kernel
theorem dmethod_2_code_44 : decode method_2_code 44 = .ok (.areturn, 1) := by decide +kernel
theorem dmethod_2_code_45 : decode method_2_code 45 = .ok (.iload_n 0, 1) := by decide +kernel
theorem dmethod_2_code_46 : decode method_2_code 46 = .ok (.bipush 6, 2) := by decide +kernel
theorem dmethod_2_code_48 : decode method_2_code 48 = .ok (.if_icmp .ne 7, 3) := by decide +kernel
theorem dmethod_2_code_51 : decode method_2_code 51 = .ok (.getstatic 25, 3) := by decide +kernel
theorem dmethod_2_code_54 : decode method_2_code 54 = .ok (.areturn, 1) := by decide +kernel
theorem dmethod_2_code_55 : decode method_2_code 55 = .ok (.iload_n 0, 1) := by decide +kernel
theorem dmethod_2_code_56 : decode method_2_code 56 = .ok (.bipush 7, 2) := by decide +kernel
theorem dmethod_2_code_58 : decode method_2_code 58 = .ok (.if_icmp .ne 7, 3) := by decide +kernel
theorem dmethod_2_code_61 : decode method_2_code 61 = .ok (.getstatic 28, 3) := by decide +kernel
theorem dmethod_2_code_64 : decode method_2_code 64 = .ok (.areturn, 1) := by decide +kernel
theorem dmethod_2_code_65 : decode method_2_code 65 = .ok (.iload_n 0, 1) := by decide +kernel
theorem dmethod_2_code_66 : decode method_2_code 66 = .ok (.bipush 8, 2) := by decide +kernel
theorem dmethod_2_code_68 : decode method_2_code 68 = .ok (.if_icmp .ne 7, 3) := by decide +kernel
theorem dmethod_2_code_71 : decode method_2_code 71 = .ok (.getstatic 31, 3) := by decide +kernel
theorem dmethod_2_code_74 : decode method_2_code 74 = .ok (.areturn, 1) := by decide +kernel
theorem dmethod_2_code_75 : decode method_2_code 75 = .ok (.iload_n 0, 1) := by decide +kernel
theorem dmethod_2_code_76 : decode method_2_code 76 = .ok (.bipush 9, 2) := by decide +kernel
theorem dmethod_2_code_78 : decode method_2_code 78 = .ok (.if_icmp .ne 7, 3) := by decide +kernel
theorem dmethod_2_code_81 : decode method_2_code 81 = .ok (.getstatic 34, 3) := by decide +kernel
theorem dmethod_2_code_84 : decode method_2_code 84 = .ok (.areturn, 1) := by decide +kernel
theorem dmethod_2_code_85 : decode method_2_code 85 = .ok (.iload_n 0, 1) := by decide +kernel
theorem dmethod_2_code_86 : decode method_2_code 86 = .ok (.bipush 10, 2) := by decide +kernel
theorem dmethod_2_code_88 : decode method_2_code 88 = .ok (.if_icmp .ne 7, 3) := by decide +kernel
theorem dmethod_2_code_91 : decode method_2_code 91 = .ok (.getstatic 37, 3) := by decide +kernel
theorem dmethod_2_code_94 : decode method_2_code 94 = .ok (.areturn, 1) := by decide +kernel
theorem dmethod_2_code_95 : decode method_2_code 95 = .ok (.aconst_null, 1) := by decide +kernel
theorem dmethod_2_code_96 : decode method_2_code 96 = .ok (.areturn, 1) := by decide +kernel
theorem dprog_30_method_4_code_0 : decode prog_30_method_4_code 0 = .ok (.aload_n 0, 1) := by decide +kernel
theorem dprog_30_method_4_code_1 : decode prog_30_method_4_code 1 = .ok (.getfield 53, 3) := by decide +kernel
theorem dprog_30_method_4_code_4 : decode prog_30_method_4_code 4 = .ok (.ireturn, 1) := by decide +kernel
theorem dprog_30_method_8_code_0 : decode prog_30_method_8_code 0 = .ok (.aconst_null, 1) := by decide +kernel
theorem dprog_30_method_8_code_1 : decode prog_30_method_8_code 1 = .ok (.astore_n 1, 1) := by decide +kernel
theorem dprog_30_method_8_code_2 : decode prog_30_method_8_code 2 = .ok (.getstatic 91, 3) := by decide +kernel
theorem dprog_30_method_8_code_5 : decode prog_30_method_8_code 5 = .ok (.astore_n 2, 1) := by decide +kernel
theorem dprog_30_method_8_code_6 : decode prog_30_method_8_code 6 = .ok (.aload_n 2, 1) := by decide +kernel
theorem dprog_30_method_8_code_7 : decode prog_30_method_8_code 7 = .ok (.arraylength, 1) := by decide +kernel
theorem dprog_30_method_8_code_8 : decode prog_30_method_8_code 8 = .ok (.istore_n 3, 1) := by decide +kernel
theorem dprog_30_method_8_code_9 : decode prog_30_method_8_code 9 = .ok (.iconst 0, 1) := by decide +kernel
theorem dprog_30_method_8_code_10 : decode prog_30_method_8_code 10 = .ok (.istore 4, 2) := by decide +kernel
theorem dprog_30_method_8_code_12 : decode prog_30_method_8_code 12 = .ok (.iload 4, 2) := by decide +kernel
theorem dprog_30_method_8_code_14 : decode prog_30_method_8_code 14 = .ok (.iload_n 3, 1) := by decide +kernel
theorem dprog_30_method_8_code_15 : decode prog_30_method_8_code 15 = .ok (.if_icmp .ge 30, 3) := by decide +kernel
theorem dprog_30_method_8_code_18 : decode prog_30_method_8_code 18 = .ok (.aload_n 2, 1) := by decide +kernel
theorem dprog_30_method_8_code_19 : decode prog_30_method_8_code 19 = .ok (.iload 4, 2) := by decide +kernel
theorem dprog_30_method_8_code_21 : decode prog_30_method_8_code 21 = .ok (.aaload, 1) := by decide +kernel
theorem dprog_30_method_8_code_22 : decode prog_30_method_8_code 22 = .ok (.astore 5, 2) := by decide +kernel
theorem dprog_30_method_8_code_24 : decode prog_30_method_8_code 24 = .ok (.aload 5, 2) := by decide +kernel
theorem dprog_30_method_8_code_26 : decode prog_30_method_8_code 26 = .ok (.getfield 53, 3) := by decide +kernel
theorem dprog_30_method_8_code_29 : decode prog_30_method_8_code 29 = .ok (.iload_n 0, 1) := by decide +kernel
theorem dprog_30_method_8_code_30 : decode prog_30_method_8_code 30 = .ok (.if_icmp .ne 9, 3) := by decide +kernel
theorem dprog_30_method_8_code_33 : decode prog_30_method_8_code 33 = .ok (.aload 5, 2) := by decide +kernel
theorem dprog_30_method_8_code_35 : decode prog_30_method_8_code 35 = .ok (.astore_n 1, 1) := by decide +kernel
theorem dprog_30_method_8_code_36 : decode prog_30_method_8_code 36 = .ok (.goto 9, 3) := by decide +kernel
theorem dprog_30_method_8_code_39 : decode prog_30_method_8_code 39 = .ok (.iinc 4 1, 3) := by decide +kernel
theorem dprog_30_method_8_code_42 : decode prog_30_method_8_code 42 = .ok (.goto (-30), 3) := by decide +kernel
theorem dprog_30_method_8_code_45 : decode prog_30_method_8_code 45 = .ok (.aload_n 1, 1) := by decide +kernel
theorem dprog_30_method_8_code_46 : decode prog_30_method_8_code 46 = .ok (.areturn, 1) := by decide +kernel
theorem pn_0 : plainName "com/example/hale_ledger/haleledger/protocol/RequestType" = true := by first | (simp [plainName, overriddenIn]; done) | decide +kernel
theorem pn_1 : plainName "com/example/hale_ledger/haleledger/protocol/RequestTypeOfCodePinLaw" = true := by first | (simp [plainName, overriddenIn]; done) | decide +kernel
theorem pd_0 : parseMethodDescriptor "(I)Lcom/example/hale_ledger/haleledger/protocol/RequestType;" = some ⟨[.int], some (.object "com/example/hale_ledger/haleledger/protocol/RequestType")⟩ := by decide +kernel
theorem pd_1 : parseMethodDescriptor "()I" = some ⟨[], some .int⟩ := by decide +kernel
theorem ef_1 (m : MethodId) (p0 : Int32) : entryFrame m #[(.int p0)] 6 = mkF m 0 #[.val (.int p0), .unset, .unset, .unset, .unset, .unset] [] := by first | (simp [entryFrame, mkF, argsToLocals, Value.category, maxLocals]; done) | rfl
def Q1 (Z : State) (p0 : Int32) (s_RequestType_VALUES : Addr) (k_s_RequestType_VALUES : ClassId) (s_RequestType_ADD : Addr) (s_RequestType_READ : Addr) (s_RequestType_STATS : Addr) (s_RequestType_FENCE : Addr) (s_RequestType_RECOVERY_READ : Addr) (s_RequestType_RECOVERY_ADD : Addr) (s_RequestType_READ_LAC : Addr) (s_RequestType_WRITE_LAC : Addr) (s_RequestType_WAIT_LAC : Addr) (s_RequestType_READ_RANGE : Addr) (h0 : Heap) (n0 : Nat) (v : Option Value) (h : Heap) (L : List Loc) : Prop := (((1 : Int32) = p0) ∧ v = some (.ref s_RequestType_ADD) ∧ Fr n0 L ∧ h = h0) ∨ ((¬ ((1 : Int32) = p0)) ∧ ((2 : Int32) = p0) ∧ v = some (.ref s_RequestType_READ) ∧ Fr n0 L ∧ h = h0) ∨ ((¬ ((1 : Int32) = p0)) ∧ (¬ ((2 : Int32) = p0)) ∧ ((3 : Int32) = p0) ∧ v = some (.ref s_RequestType_STATS) ∧ Fr n0 L ∧ h = h0) ∨ ((¬ ((1 : Int32) = p0)) ∧ (¬ ((2 : Int32) = p0)) ∧ (¬ ((3 : Int32) = p0)) ∧ ((4 : Int32) = p0) ∧ v = some (.ref s_RequestType_FENCE) ∧ Fr n0 L ∧ h = h0) ∨ ((¬ ((1 : Int32) = p0)) ∧ (¬ ((2 : Int32) = p0)) ∧ (¬ ((3 : Int32) = p0)) ∧ (¬ ((4 : Int32) = p0)) ∧ ((5 : Int32) = p0) ∧ v = some (.ref s_RequestType_RECOVERY_READ) ∧ Fr n0 L ∧ h = h0) ∨ ((¬ ((1 : Int32) = p0)) ∧ (¬ ((2 : Int32) = p0)) ∧ (¬ ((3 : Int32) = p0)) ∧ (¬ ((4 : Int32) = p0)) ∧ (¬ ((5 : Int32) = p0)) ∧ ((6 : Int32) = p0) ∧ v = some (.ref s_RequestType_RECOVERY_ADD) ∧ Fr n0 L ∧ h = h0) ∨ ((¬ ((1 : Int32) = p0)) ∧ (¬ ((2 : Int32) = p0)) ∧ (¬ ((3 : Int32) = p0)) ∧ (¬ ((4 : Int32) = p0)) ∧ (¬ ((5 : Int32) = p0)) ∧ (¬ ((6 : Int32) = p0)) ∧ ((7 : Int32) = p0) ∧ v = some (.ref s_RequestType_READ_LAC) ∧ Fr n0 L ∧ h = h0) ∨ ((¬ ((1 : Int32) = p0)) ∧ (¬ ((2 : Int32) = p0)) ∧ (¬ ((3 : Int32) = p0)) ∧ (¬ ((4 : Int32) = p0)) ∧ (¬ ((5 : Int32) = p0)) ∧ (¬ ((6 : Int32) = p0)) ∧ (¬ ((7 : Int32) = p0)) ∧ ((8 : Int32) = p0) ∧ v = some (.ref s_RequestType_WRITE_LAC) ∧ Fr n0 L ∧ h = h0) ∨ ((¬ ((1 : Int32) = p0)) ∧ (¬ ((2 : Int32) = p0)) ∧ (¬ ((3 : Int32) = p0)) ∧ (¬ ((4 : Int32) = p0)) ∧ (¬ ((5 : Int32) = p0)) ∧ (¬ ((6 : Int32) = p0)) ∧ (¬ ((7 : Int32) = p0)) ∧ (¬ ((8 : Int32) = p0)) ∧ ((9 : Int32) = p0) ∧ v = some (.ref s_RequestType_WAIT_LAC) ∧ Fr n0 L ∧ h = h0) ∨ ((¬ ((1 : Int32) = p0)) ∧ (¬ ((2 : Int32) = p0)) ∧ (¬ ((3 : Int32) = p0)) ∧ (¬ ((4 : Int32) = p0)) ∧ (¬ ((5 : Int32) = p0)) ∧ (¬ ((6 : Int32) = p0)) ∧ (¬ ((7 : Int32) = p0)) ∧ (¬ ((8 : Int32) = p0)) ∧ (¬ ((9 : Int32) = p0)) ∧ ((10 : Int32) = p0) ∧ v = some (.ref s_RequestType_READ_RANGE) ∧ Fr n0 L ∧ h = h0) ∨ ((¬ ((1 : Int32) = p0)) ∧ (¬ ((2 : Int32) = p0)) ∧ (¬ ((3 : Int32) = p0)) ∧ (¬ ((4 : Int32) = p0)) ∧ (¬ ((5 : Int32) = p0)) ∧ (¬ ((6 : Int32) = p0)) ∧ (¬ ((7 : Int32) = p0)) ∧ (¬ ((8 : Int32) = p0)) ∧ (¬ ((9 : Int32) = p0)) ∧ (¬ ((10 : Int32) = p0)) ∧ v = some .null ∧ Fr n0 L ∧ h = h0)
set_option maxRecDepth 65536 in
set_option maxHeartbeats 40000000 in
theorem rm1 (l : Launch) (Z : State) (a0 : Array Value) (hw : ∀ d ∈ tables_1, d.before a0 Z = true) (ws : List Jvm.Cond) (p0 : Int32) (s_RequestType_VALUES : Addr) (k_s_RequestType_VALUES : ClassId) (s_RequestType_ADD : Addr) (s_RequestType_READ : Addr) (s_RequestType_STATS : Addr) (s_RequestType_FENCE : Addr) (s_RequestType_RECOVERY_READ : Addr) (s_RequestType_RECOVERY_ADD : Addr) (s_RequestType_READ_LAC : Addr) (s_RequestType_WRITE_LAC : Addr) (s_RequestType_WAIT_LAC : Addr) (s_RequestType_READ_RANGE : Addr) (h0 : Heap) (n0 : Nat) (Z0 : n0 ≤ h0.size) (S_s_RequestType_VALUES : Sta Z h0 "com/example/hale_ledger/haleledger/protocol/RequestType" "VALUES" "[Lcom/example/hale_ledger/haleledger/protocol/RequestType;" (.ref s_RequestType_VALUES)) (V_s_RequestType_VALUES : Arv Z h0 s_RequestType_VALUES k_s_RequestType_VALUES (.object "com/example/hale_ledger/haleledger/protocol/RequestType") (10 : Int32) [(.ref s_RequestType_ADD), (.ref s_RequestType_READ), (.ref s_RequestType_STATS), (.ref s_RequestType_FENCE), (.ref s_RequestType_RECOVERY_READ), (.ref s_RequestType_RECOVERY_ADD), (.ref s_RequestType_READ_LAC), (.ref s_RequestType_WRITE_LAC), (.ref s_RequestType_WAIT_LAC), (.ref s_RequestType_READ_RANGE)] .null) (F_s_RequestType_ADD_code : Fld Z h0 s_RequestType_ADD "com/example/hale_ledger/haleledger/protocol/RequestType" "code" "I" (.int (1 : Int32))) (F_s_RequestType_READ_code : Fld Z h0 s_RequestType_READ "com/example/hale_ledger/haleledger/protocol/RequestType" "code" "I" (.int (2 : Int32))) (F_s_RequestType_STATS_code : Fld Z h0 s_RequestType_STATS "com/example/hale_ledger/haleledger/protocol/RequestType" "code" "I" (.int (3 : Int32))) (F_s_RequestType_FENCE_code : Fld Z h0 s_RequestType_FENCE "com/example/hale_ledger/haleledger/protocol/RequestType" "code" "I" (.int (4 : Int32))) (F_s_RequestType_RECOVERY_READ_code : Fld Z h0 s_RequestType_RECOVERY_READ "com/example/hale_ledger/haleledger/protocol/RequestType" "code" "I" (.int (5 : Int32))) (F_s_RequestType_RECOVERY_ADD_code : Fld Z h0 s_RequestType_RECOVERY_ADD "com/example/hale_ledger/haleledger/protocol/RequestType" "code" "I" (.int (6 : Int32))) (F_s_RequestType_READ_LAC_code : Fld Z h0 s_RequestType_READ_LAC "com/example/hale_ledger/haleledger/protocol/RequestType" "code" "I" (.int (7 : Int32))) (F_s_RequestType_WRITE_LAC_code : Fld Z h0 s_RequestType_WRITE_LAC "com/example/hale_ledger/haleledger/protocol/RequestType" "code" "I" (.int (8 : Int32))) (F_s_RequestType_WAIT_LAC_code : Fld Z h0 s_RequestType_WAIT_LAC "com/example/hale_ledger/haleledger/protocol/RequestType" "code" "I" (.int (9 : Int32))) (F_s_RequestType_READ_RANGE_code : Fld Z h0 s_RequestType_READ_RANGE "com/example/hale_ledger/haleledger/protocol/RequestType" "code" "I" (.int (10 : Int32))) :
    Con l Z (⟨"com/example/hale_ledger/haleledger/protocol/RequestType", "ofCode", "(I)Lcom/example/hale_ledger/haleledger/protocol/RequestType;"⟩ : MethodName) prog_30_method_8_code 6 (some (.object "com/example/hale_ledger/haleledger/protocol/RequestType")) ws ({ frames := 0, cells := 0, slots := 0, locals := 0 } : Room) #[(.int p0)] h0 0 0 (Q1 Z p0 s_RequestType_VALUES k_s_RequestType_VALUES s_RequestType_ADD s_RequestType_READ s_RequestType_STATS s_RequestType_FENCE s_RequestType_RECOVERY_READ s_RequestType_RECOVERY_ADD s_RequestType_READ_LAC s_RequestType_WRITE_LAC s_RequestType_WAIT_LAC s_RequestType_READ_RANGE h0 n0) := by
  refine MetFree.of_bodySF (plainFor_of_name pn_0) hisR ?_
  intro p e s m args below meth c s₁ Bd hml0 hP hK
  obtain ⟨rfl, hZ, hh⟩ := hP
  have hx := Bd.exec
  have hby := Bd.bytes
  have hml : c.maxLocals = 6 := hml0
  have hown : s.vm.findClass "com/example/hale_ledger/haleledger/protocol/RequestType" = some m.cls := findClass_of_methodNamed Bd.named
  have hnm := (name_of_methodNamed Bd.named Bd.method).1
  have X0 : Stand p l e ({ frames := 0, cells := 0, slots := 0, locals := 0 } : Room) s m #[(.int p0)] below meth c s₁ [] 0 0 := Stand.of_body Bd
  have e0 : s₁.heap = h0 := by rw [← hh, Bd.state]; rfl
  have N0 := Fr.nil n0
  refine Go.of ?_
  refine Go.st (S' := s₁.setTop (mkF m 0 #[.val (.int p0), .unset, .unset, .unset, .unset, .unset] [])) (fun t k => castTop (ef_1 m p0) k) ?_
  refine Go.st (S' := s₁.setTop (mkF m 1 #[.val (.int p0), .unset, .unset, .unset, .unset, .unset] [.null])) (fun t k => XS.aconstNull X0.here hx rfl (hb hby dprog_30_method_8_code_0) k) ?_
  refine Go.st (S' := s₁.setTop (mkF m 2 #[.val (.int p0), .val .null, .unset, .unset, .unset, .unset] [])) (fun t k => XS.astoreN X0.here hx rfl (hb hby dprog_30_method_8_code_1) rfl rfl (l' := #[.val (.int p0), .val .null, .unset, .unset, .unset, .unset]) rfl k) ?_
  obtain ⟨T13, X13, e13, st13⟩ := getS X0 hx hZ hown (hw _ (List.mem_of_getElem? (i := 4) rfl)) Via.refl e0 S_s_RequestType_VALUES (host := "") (g := (mkF m 2 #[.val (.int p0), .val .null, .unset, .unset, .unset, .unset] [])) rfl (hb hby dprog_30_method_8_code_2)
  refine Go.st (S' := T13.setTop (mkF m 5 #[.val (.int p0), .val .null, .unset, .unset, .unset, .unset] [(.ref s_RequestType_VALUES)])) st13 ?_
  let A14 : Array Slot := #[.val (.int p0), .val .null, .val (.ref s_RequestType_VALUES), .unset, .unset, .unset]
  refine Go.st (S' := T13.setTop (mkF m 6 A14 [])) (fun t k => XS.astoreN X13.here hx rfl (hb hby dprog_30_method_8_code_5) rfl rfl (l' := A14) rfl k) ?_
  refine Go.st (S' := T13.setTop (mkF m 7 A14 [(.ref s_RequestType_VALUES)])) (fun t k => XS.aloadN X13.here hx rfl (hb hby dprog_30_method_8_code_6) rfl rfl k) ?_
  obtain ⟨cl15, Ar15, -, S15, N15_, -, -⟩ := id V_s_RequestType_VALUES
  refine Go.op (F := fun z => T13.setTop (mkF m 8 A14 [(.int z)])) (x := cl15.slots.size.toInt32) (fun t k => X13.arraylength hx (own_eh e13 Ar15.1) (State.isArrayOf_alike hZ.alike Ar15.2.1) (g := (mkF m 7 A14 [(.ref s_RequestType_VALUES)])) rfl rfl (hb hby dprog_30_method_8_code_7) t k) ?_
  intro v16 hv16
  obtain rfl : (10 : Int32) = v16 := (hv16.trans (len_of S15 N15_)).symm
  let A17 : Array Slot := #[.val (.int p0), .val .null, .val (.ref s_RequestType_VALUES), .val (.int (10 : Int32)), .unset, .unset]
  refine Go.st (S' := T13.setTop (mkF m 9 A17 [])) (fun t k => XS.istoreN X13.here hx rfl (hb hby dprog_30_method_8_code_8) rfl (l' := A17) rfl k) ?_
  refine Go.st (S' := T13.setTop (mkF m 10 A17 [(.int (0 : Int32))])) (fun t k => XS.iconst X13.here hx rfl (hb hby dprog_30_method_8_code_9) k) ?_
  let A18 : Array Slot := #[.val (.int p0), .val .null, .val (.ref s_RequestType_VALUES), .val (.int (10 : Int32)), .val (.int (0 : Int32)), .unset]
  refine Go.st (S' := T13.setTop (mkF m 12 A18 [])) (fun t k => XS.istore X13.here hx rfl (hb hby dprog_30_method_8_code_10) rfl (l' := A18) rfl k) ?_
  refine Go.st (S' := T13.setTop (mkF m 14 A18 [(.int (0 : Int32))])) (fun t k => XS.iload X13.here hx rfl (hb hby dprog_30_method_8_code_12) rfl k) ?_
  refine Go.st (S' := T13.setTop (mkF m 15 A18 [(.int (10 : Int32)), (.int (0 : Int32))])) (fun t k => XS.iloadN X13.here hx rfl (hb hby dprog_30_method_8_code_14) rfl k) ?_
  refine Go.st (S' := T13.setTop (mkF m 18 A18 [])) (fun t k => XS.icmpNo X13.here hx rfl (hb hby dprog_30_method_8_code_15) rfl (tlt (by decide : ((0 : Int32) < (10 : Int32)))).2.1 k) ?_
  refine Go.st (S' := T13.setTop (mkF m 19 A18 [(.ref s_RequestType_VALUES)])) (fun t k => XS.aloadN X13.here hx rfl (hb hby dprog_30_method_8_code_18) rfl rfl k) ?_
  refine Go.st (S' := T13.setTop (mkF m 21 A18 [(.int (0 : Int32)), (.ref s_RequestType_VALUES)])) (fun t k => XS.iload X13.here hx rfl (hb hby dprog_30_method_8_code_19) rfl k) ?_
  obtain ⟨cl19, Ar19, -, S19, N19_, H19, -⟩ := id V_s_RequestType_VALUES
  have hin19 : ¬ ((0 : Int32) < 0 ∨ cl19.slots.size ≤ ((0 : Int32)).toNatClampNeg) := inb_of S19 ⟨by decide, by decide⟩
  have hat19 : cl19.slots[((0 : Int32)).toNatClampNeg]? = some (.ref s_RequestType_ADD) := Has.at H19 hin19 rfl
  refine Go.st (S' := T13.setTop (mkF m 22 A18 [(.ref s_RequestType_ADD)])) (fun t k => X13.aaload hx (j := (0 : Int32)) (v := (.ref s_RequestType_ADD)) (own_eh e13 Ar19.1) (State.isArrayOf_alike hZ.alike Ar19.2.1) rfl Ar19.2.2 hin19 hat19 (g := (mkF m 21 A18 [(.int (0 : Int32)), (.ref s_RequestType_VALUES)])) rfl rfl (hb hby dprog_30_method_8_code_21) t k) ?_
  let A20 : Array Slot := #[.val (.int p0), .val .null, .val (.ref s_RequestType_VALUES), .val (.int (10 : Int32)), .val (.int (0 : Int32)), .val (.ref s_RequestType_ADD)]
  refine Go.st (S' := T13.setTop (mkF m 24 A20 [])) (fun t k => XS.astore X13.here hx rfl (hb hby dprog_30_method_8_code_22) rfl rfl (l' := A20) rfl k) ?_
  refine Go.st (S' := T13.setTop (mkF m 26 A20 [(.ref s_RequestType_ADD)])) (fun t k => XS.aload X13.here hx rfl (hb hby dprog_30_method_8_code_24) rfl rfl k) ?_
  obtain ⟨T21, X21, e21, st21⟩ := getF X13 hx hZ hown (host := "") (Or.inl (hw _ (List.mem_of_getElem? (i := 7) rfl))) Via.refl e13 F_s_RequestType_ADD_code (g := (mkF m 26 A20 [(.ref s_RequestType_ADD)])) rfl rfl (hb hby dprog_30_method_8_code_26)
  refine Go.st (S' := T21.setTop (mkF m 29 A20 [(.int (1 : Int32))])) st21 ?_
  refine Go.st (S' := T21.setTop (mkF m 30 A20 [(.int p0), (.int (1 : Int32))])) (fun t k => XS.iloadN X21.here hx rfl (hb hby dprog_30_method_8_code_29) rfl k) ?_
  by_cases hc156 : ((1 : Int32) = p0)
  · refine Go.st (S' := T21.setTop (mkF m 33 A20 [])) (fun t k => XS.icmpNo X21.here hx rfl (hb hby dprog_30_method_8_code_30) rfl (teq hc156).2 k) ?_
    refine Go.st (S' := T21.setTop (mkF m 35 A20 [(.ref s_RequestType_ADD)])) (fun t k => XS.aload X21.here hx rfl (hb hby dprog_30_method_8_code_33) rfl rfl k) ?_
    let A157 : Array Slot := #[.val (.int p0), .val (.ref s_RequestType_ADD), .val (.ref s_RequestType_VALUES), .val (.int (10 : Int32)), .val (.int (0 : Int32)), .val (.ref s_RequestType_ADD)]
    refine Go.st (S' := T21.setTop (mkF m 36 A157 [])) (fun t k => XS.astoreN X21.here hx rfl (hb hby dprog_30_method_8_code_35) rfl rfl (l' := A157) rfl k) ?_
    refine Go.st (S' := T21.setTop (mkF m 45 A157 [])) (fun t k => XS.goto X21.here hx rfl (pc0 := 36) (pc' := 45) rfl (hb hby dprog_30_method_8_code_36) (by decide) (by decide) k) ?_
    refine Go.st (S' := T21.setTop (mkF m 46 A157 [(.ref s_RequestType_ADD)])) (fun t k => XS.aloadN X21.here hx rfl (hb hby dprog_30_method_8_code_45) rfl rfl k) ?_
    exact Go.ret X21 (v := some (.ref s_RequestType_ADD)) (fun h => by rw [Bd.returns] at h; cases h) Bd.notSynchronized (fun fs hr => retOut X21 hx Bd.returns rfl (Or.inr (Or.inr (Or.inr (Or.inr ⟨rfl, rfl, rfl⟩)))) (hb hby dprog_30_method_8_code_46) hr) (by decide) (by decide) ((Or.inl ⟨hc156, rfl, N0, (e21)⟩))
  · refine Go.st (S' := T21.setTop (mkF m 39 A20 [])) (fun t k => XS.icmpYes X21.here hx rfl (pc0 := 30) (pc' := 39) rfl (hb hby dprog_30_method_8_code_30) rfl (feq hc156).2 (by decide) (by decide) k) ?_
    refine Go.op (F := fun z => T21.setTop (mkF m 42 #[.val (.int p0), .val .null, .val (.ref s_RequestType_VALUES), .val (.int (10 : Int32)), .val (.int z), .val (.ref s_RequestType_ADD)] [])) (x := ((0 : Int32) + (1 : Int32))) (fun t k => XS.iinc X21.here hx rfl (hb hby dprog_30_method_8_code_39) rfl rfl k) ?_
    intro v158 hv158
    obtain rfl : (1 : Int32) = v158 := (hv158.trans (by decide)).symm
    let A159 : Array Slot := #[.val (.int p0), .val .null, .val (.ref s_RequestType_VALUES), .val (.int (10 : Int32)), .val (.int (1 : Int32)), .val (.ref s_RequestType_ADD)]
    refine Go.st (S' := T21.setTop (mkF m 12 A159 [])) (fun t k => XS.goto X21.here hx rfl (pc0 := 42) (pc' := 12) rfl (hb hby dprog_30_method_8_code_42) (by decide) (by decide) k) ?_
    refine Go.st (S' := T21.setTop (mkF m 14 A159 [(.int (1 : Int32))])) (fun t k => XS.iload X21.here hx rfl (hb hby dprog_30_method_8_code_12) rfl k) ?_
    refine Go.st (S' := T21.setTop (mkF m 15 A159 [(.int (10 : Int32)), (.int (1 : Int32))])) (fun t k => XS.iloadN X21.here hx rfl (hb hby dprog_30_method_8_code_14) rfl k) ?_
    refine Go.st (S' := T21.setTop (mkF m 18 A159 [])) (fun t k => XS.icmpNo X21.here hx rfl (hb hby dprog_30_method_8_code_15) rfl (tlt (by decide : ((1 : Int32) < (10 : Int32)))).2.1 k) ?_
    refine Go.st (S' := T21.setTop (mkF m 19 A159 [(.ref s_RequestType_VALUES)])) (fun t k => XS.aloadN X21.here hx rfl (hb hby dprog_30_method_8_code_18) rfl rfl k) ?_
    refine Go.st (S' := T21.setTop (mkF m 21 A159 [(.int (1 : Int32)), (.ref s_RequestType_VALUES)])) (fun t k => XS.iload X21.here hx rfl (hb hby dprog_30_method_8_code_19) rfl k) ?_
    obtain ⟨cl160, Ar160, -, S160, N160_, H160, -⟩ := id V_s_RequestType_VALUES
    have hin160 : ¬ ((1 : Int32) < 0 ∨ cl160.slots.size ≤ ((1 : Int32)).toNatClampNeg) := inb_of S160 ⟨by decide, by decide⟩
    have hat160 : cl160.slots[((1 : Int32)).toNatClampNeg]? = some (.ref s_RequestType_READ) := Has.at H160 hin160 rfl
    refine Go.st (S' := T21.setTop (mkF m 22 A159 [(.ref s_RequestType_READ)])) (fun t k => X21.aaload hx (j := (1 : Int32)) (v := (.ref s_RequestType_READ)) (own_eh e21 Ar160.1) (State.isArrayOf_alike hZ.alike Ar160.2.1) rfl Ar160.2.2 hin160 hat160 (g := (mkF m 21 A159 [(.int (1 : Int32)), (.ref s_RequestType_VALUES)])) rfl rfl (hb hby dprog_30_method_8_code_21) t k) ?_
    let A161 : Array Slot := #[.val (.int p0), .val .null, .val (.ref s_RequestType_VALUES), .val (.int (10 : Int32)), .val (.int (1 : Int32)), .val (.ref s_RequestType_READ)]
    refine Go.st (S' := T21.setTop (mkF m 24 A161 [])) (fun t k => XS.astore X21.here hx rfl (hb hby dprog_30_method_8_code_22) rfl rfl (l' := A161) rfl k) ?_
    refine Go.st (S' := T21.setTop (mkF m 26 A161 [(.ref s_RequestType_READ)])) (fun t k => XS.aload X21.here hx rfl (hb hby dprog_30_method_8_code_24) rfl rfl k) ?_
    obtain ⟨T162, X162, e162, st162⟩ := getF X21 hx hZ hown (host := "") (Or.inl (hw _ (List.mem_of_getElem? (i := 7) rfl))) Via.refl e21 F_s_RequestType_READ_code (g := (mkF m 26 A161 [(.ref s_RequestType_READ)])) rfl rfl (hb hby dprog_30_method_8_code_26)
    refine Go.st (S' := T162.setTop (mkF m 29 A161 [(.int (2 : Int32))])) st162 ?_
    refine Go.st (S' := T162.setTop (mkF m 30 A161 [(.int p0), (.int (2 : Int32))])) (fun t k => XS.iloadN X162.here hx rfl (hb hby dprog_30_method_8_code_29) rfl k) ?_
    by_cases hc283 : ((2 : Int32) = p0)
    · refine Go.st (S' := T162.setTop (mkF m 33 A161 [])) (fun t k => XS.icmpNo X162.here hx rfl (hb hby dprog_30_method_8_code_30) rfl (teq hc283).2 k) ?_
      refine Go.st (S' := T162.setTop (mkF m 35 A161 [(.ref s_RequestType_READ)])) (fun t k => XS.aload X162.here hx rfl (hb hby dprog_30_method_8_code_33) rfl rfl k) ?_
      let A284 : Array Slot := #[.val (.int p0), .val (.ref s_RequestType_READ), .val (.ref s_RequestType_VALUES), .val (.int (10 : Int32)), .val (.int (1 : Int32)), .val (.ref s_RequestType_READ)]
      refine Go.st (S' := T162.setTop (mkF m 36 A284 [])) (fun t k => XS.astoreN X162.here hx rfl (hb hby dprog_30_method_8_code_35) rfl rfl (l' := A284) rfl k) ?_
      refine Go.st (S' := T162.setTop (mkF m 45 A284 [])) (fun t k => XS.goto X162.here hx rfl (pc0 := 36) (pc' := 45) rfl (hb hby dprog_30_method_8_code_36) (by decide) (by decide) k) ?_
      refine Go.st (S' := T162.setTop (mkF m 46 A284 [(.ref s_RequestType_READ)])) (fun t k => XS.aloadN X162.here hx rfl (hb hby dprog_30_method_8_code_45) rfl rfl k) ?_
      exact Go.ret X162 (v := some (.ref s_RequestType_READ)) (fun h => by rw [Bd.returns] at h; cases h) Bd.notSynchronized (fun fs hr => retOut X162 hx Bd.returns rfl (Or.inr (Or.inr (Or.inr (Or.inr ⟨rfl, rfl, rfl⟩)))) (hb hby dprog_30_method_8_code_46) hr) (by decide) (by decide) ((Or.inr (Or.inl ⟨hc156, hc283, rfl, N0, (e162)⟩)))
    · refine Go.st (S' := T162.setTop (mkF m 39 A161 [])) (fun t k => XS.icmpYes X162.here hx rfl (pc0 := 30) (pc' := 39) rfl (hb hby dprog_30_method_8_code_30) rfl (feq hc283).2 (by decide) (by decide) k) ?_
      refine Go.op (F := fun z => T162.setTop (mkF m 42 #[.val (.int p0), .val .null, .val (.ref s_RequestType_VALUES), .val (.int (10 : Int32)), .val (.int z), .val (.ref s_RequestType_READ)] [])) (x := ((1 : Int32) + (1 : Int32))) (fun t k => XS.iinc X162.here hx rfl (hb hby dprog_30_method_8_code_39) rfl rfl k) ?_
      intro v285 hv285
      obtain rfl : (2 : Int32) = v285 := (hv285.trans (by decide)).symm
      let A286 : Array Slot := #[.val (.int p0), .val .null, .val (.ref s_RequestType_VALUES), .val (.int (10 : Int32)), .val (.int (2 : Int32)), .val (.ref s_RequestType_READ)]
      refine Go.st (S' := T162.setTop (mkF m 12 A286 [])) (fun t k => XS.goto X162.here hx rfl (pc0 := 42) (pc' := 12) rfl (hb hby dprog_30_method_8_code_42) (by decide) (by decide) k) ?_
      refine Go.st (S' := T162.setTop (mkF m 14 A286 [(.int (2 : Int32))])) (fun t k => XS.iload X162.here hx rfl (hb hby dprog_30_method_8_code_12) rfl k) ?_
      refine Go.st (S' := T162.setTop (mkF m 15 A286 [(.int (10 : Int32)), (.int (2 : Int32))])) (fun t k => XS.iloadN X162.here hx rfl (hb hby dprog_30_method_8_code_14) rfl k) ?_
      refine Go.st (S' := T162.setTop (mkF m 18 A286 [])) (fun t k => XS.icmpNo X162.here hx rfl (hb hby dprog_30_method_8_code_15) rfl (tlt (by decide : ((2 : Int32) < (10 : Int32)))).2.1 k) ?_
      refine Go.st (S' := T162.setTop (mkF m 19 A286 [(.ref s_RequestType_VALUES)])) (fun t k => XS.aloadN X162.here hx rfl (hb hby dprog_30_method_8_code_18) rfl rfl k) ?_
      refine Go.st (S' := T162.setTop (mkF m 21 A286 [(.int (2 : Int32)), (.ref s_RequestType_VALUES)])) (fun t k => XS.iload X162.here hx rfl (hb hby dprog_30_method_8_code_19) rfl k) ?_
      obtain ⟨cl287, Ar287, -, S287, N287_, H287, -⟩ := id V_s_RequestType_VALUES
      have hin287 : ¬ ((2 : Int32) < 0 ∨ cl287.slots.size ≤ ((2 : Int32)).toNatClampNeg) := inb_of S287 ⟨by decide, by decide⟩
      have hat287 : cl287.slots[((2 : Int32)).toNatClampNeg]? = some (.ref s_RequestType_STATS) := Has.at H287 hin287 rfl
      refine Go.st (S' := T162.setTop (mkF m 22 A286 [(.ref s_RequestType_STATS)])) (fun t k => X162.aaload hx (j := (2 : Int32)) (v := (.ref s_RequestType_STATS)) (own_eh e162 Ar287.1) (State.isArrayOf_alike hZ.alike Ar287.2.1) rfl Ar287.2.2 hin287 hat287 (g := (mkF m 21 A286 [(.int (2 : Int32)), (.ref s_RequestType_VALUES)])) rfl rfl (hb hby dprog_30_method_8_code_21) t k) ?_
      let A288 : Array Slot := #[.val (.int p0), .val .null, .val (.ref s_RequestType_VALUES), .val (.int (10 : Int32)), .val (.int (2 : Int32)), .val (.ref s_RequestType_STATS)]
      refine Go.st (S' := T162.setTop (mkF m 24 A288 [])) (fun t k => XS.astore X162.here hx rfl (hb hby dprog_30_method_8_code_22) rfl rfl (l' := A288) rfl k) ?_
      refine Go.st (S' := T162.setTop (mkF m 26 A288 [(.ref s_RequestType_STATS)])) (fun t k => XS.aload X162.here hx rfl (hb hby dprog_30_method_8_code_24) rfl rfl k) ?_
      obtain ⟨T289, X289, e289, st289⟩ := getF X162 hx hZ hown (host := "") (Or.inl (hw _ (List.mem_of_getElem? (i := 7) rfl))) Via.refl e162 F_s_RequestType_STATS_code (g := (mkF m 26 A288 [(.ref s_RequestType_STATS)])) rfl rfl (hb hby dprog_30_method_8_code_26)
      refine Go.st (S' := T289.setTop (mkF m 29 A288 [(.int (3 : Int32))])) st289 ?_
      refine Go.st (S' := T289.setTop (mkF m 30 A288 [(.int p0), (.int (3 : Int32))])) (fun t k => XS.iloadN X289.here hx rfl (hb hby dprog_30_method_8_code_29) rfl k) ?_
      by_cases hc396 : ((3 : Int32) = p0)
      · refine Go.st (S' := T289.setTop (mkF m 33 A288 [])) (fun t k => XS.icmpNo X289.here hx rfl (hb hby dprog_30_method_8_code_30) rfl (teq hc396).2 k) ?_
        refine Go.st (S' := T289.setTop (mkF m 35 A288 [(.ref s_RequestType_STATS)])) (fun t k => XS.aload X289.here hx rfl (hb hby dprog_30_method_8_code_33) rfl rfl k) ?_
        let A397 : Array Slot := #[.val (.int p0), .val (.ref s_RequestType_STATS), .val (.ref s_RequestType_VALUES), .val (.int (10 : Int32)), .val (.int (2 : Int32)), .val (.ref s_RequestType_STATS)]
        refine Go.st (S' := T289.setTop (mkF m 36 A397 [])) (fun t k => XS.astoreN X289.here hx rfl (hb hby dprog_30_method_8_code_35) rfl rfl (l' := A397) rfl k) ?_
        refine Go.st (S' := T289.setTop (mkF m 45 A397 [])) (fun t k => XS.goto X289.here hx rfl (pc0 := 36) (pc' := 45) rfl (hb hby dprog_30_method_8_code_36) (by decide) (by decide) k) ?_
        refine Go.st (S' := T289.setTop (mkF m 46 A397 [(.ref s_RequestType_STATS)])) (fun t k => XS.aloadN X289.here hx rfl (hb hby dprog_30_method_8_code_45) rfl rfl k) ?_
        exact Go.ret X289 (v := some (.ref s_RequestType_STATS)) (fun h => by rw [Bd.returns] at h; cases h) Bd.notSynchronized (fun fs hr => retOut X289 hx Bd.returns rfl (Or.inr (Or.inr (Or.inr (Or.inr ⟨rfl, rfl, rfl⟩)))) (hb hby dprog_30_method_8_code_46) hr) (by decide) (by decide) ((Or.inr (Or.inr (Or.inl ⟨hc156, hc283, hc396, rfl, N0, (e289)⟩))))
      · refine Go.st (S' := T289.setTop (mkF m 39 A288 [])) (fun t k => XS.icmpYes X289.here hx rfl (pc0 := 30) (pc' := 39) rfl (hb hby dprog_30_method_8_code_30) rfl (feq hc396).2 (by decide) (by decide) k) ?_
        refine Go.op (F := fun z => T289.setTop (mkF m 42 #[.val (.int p0), .val .null, .val (.ref s_RequestType_VALUES), .val (.int (10 : Int32)), .val (.int z), .val (.ref s_RequestType_STATS)] [])) (x := ((2 : Int32) + (1 : Int32))) (fun t k => XS.iinc X289.here hx rfl (hb hby dprog_30_method_8_code_39) rfl rfl k) ?_
        intro v398 hv398
        obtain rfl : (3 : Int32) = v398 := (hv398.trans (by decide)).symm
        let A399 : Array Slot := #[.val (.int p0), .val .null, .val (.ref s_RequestType_VALUES), .val (.int (10 : Int32)), .val (.int (3 : Int32)), .val (.ref s_RequestType_STATS)]
        refine Go.st (S' := T289.setTop (mkF m 12 A399 [])) (fun t k => XS.goto X289.here hx rfl (pc0 := 42) (pc' := 12) rfl (hb hby dprog_30_method_8_code_42) (by decide) (by decide) k) ?_
        refine Go.st (S' := T289.setTop (mkF m 14 A399 [(.int (3 : Int32))])) (fun t k => XS.iload X289.here hx rfl (hb hby dprog_30_method_8_code_12) rfl k) ?_
        refine Go.st (S' := T289.setTop (mkF m 15 A399 [(.int (10 : Int32)), (.int (3 : Int32))])) (fun t k => XS.iloadN X289.here hx rfl (hb hby dprog_30_method_8_code_14) rfl k) ?_
        refine Go.st (S' := T289.setTop (mkF m 18 A399 [])) (fun t k => XS.icmpNo X289.here hx rfl (hb hby dprog_30_method_8_code_15) rfl (tlt (by decide : ((3 : Int32) < (10 : Int32)))).2.1 k) ?_
        refine Go.st (S' := T289.setTop (mkF m 19 A399 [(.ref s_RequestType_VALUES)])) (fun t k => XS.aloadN X289.here hx rfl (hb hby dprog_30_method_8_code_18) rfl rfl k) ?_
        refine Go.st (S' := T289.setTop (mkF m 21 A399 [(.int (3 : Int32)), (.ref s_RequestType_VALUES)])) (fun t k => XS.iload X289.here hx rfl (hb hby dprog_30_method_8_code_19) rfl k) ?_
        obtain ⟨cl400, Ar400, -, S400, N400_, H400, -⟩ := id V_s_RequestType_VALUES
        have hin400 : ¬ ((3 : Int32) < 0 ∨ cl400.slots.size ≤ ((3 : Int32)).toNatClampNeg) := inb_of S400 ⟨by decide, by decide⟩
        have hat400 : cl400.slots[((3 : Int32)).toNatClampNeg]? = some (.ref s_RequestType_FENCE) := Has.at H400 hin400 rfl
        refine Go.st (S' := T289.setTop (mkF m 22 A399 [(.ref s_RequestType_FENCE)])) (fun t k => X289.aaload hx (j := (3 : Int32)) (v := (.ref s_RequestType_FENCE)) (own_eh e289 Ar400.1) (State.isArrayOf_alike hZ.alike Ar400.2.1) rfl Ar400.2.2 hin400 hat400 (g := (mkF m 21 A399 [(.int (3 : Int32)), (.ref s_RequestType_VALUES)])) rfl rfl (hb hby dprog_30_method_8_code_21) t k) ?_
        let A401 : Array Slot := #[.val (.int p0), .val .null, .val (.ref s_RequestType_VALUES), .val (.int (10 : Int32)), .val (.int (3 : Int32)), .val (.ref s_RequestType_FENCE)]
        refine Go.st (S' := T289.setTop (mkF m 24 A401 [])) (fun t k => XS.astore X289.here hx rfl (hb hby dprog_30_method_8_code_22) rfl rfl (l' := A401) rfl k) ?_
        refine Go.st (S' := T289.setTop (mkF m 26 A401 [(.ref s_RequestType_FENCE)])) (fun t k => XS.aload X289.here hx rfl (hb hby dprog_30_method_8_code_24) rfl rfl k) ?_
        obtain ⟨T402, X402, e402, st402⟩ := getF X289 hx hZ hown (host := "") (Or.inl (hw _ (List.mem_of_getElem? (i := 7) rfl))) Via.refl e289 F_s_RequestType_FENCE_code (g := (mkF m 26 A401 [(.ref s_RequestType_FENCE)])) rfl rfl (hb hby dprog_30_method_8_code_26)
        refine Go.st (S' := T402.setTop (mkF m 29 A401 [(.int (4 : Int32))])) st402 ?_
        refine Go.st (S' := T402.setTop (mkF m 30 A401 [(.int p0), (.int (4 : Int32))])) (fun t k => XS.iloadN X402.here hx rfl (hb hby dprog_30_method_8_code_29) rfl k) ?_
        by_cases hc495 : ((4 : Int32) = p0)
        · refine Go.st (S' := T402.setTop (mkF m 33 A401 [])) (fun t k => XS.icmpNo X402.here hx rfl (hb hby dprog_30_method_8_code_30) rfl (teq hc495).2 k) ?_
          refine Go.st (S' := T402.setTop (mkF m 35 A401 [(.ref s_RequestType_FENCE)])) (fun t k => XS.aload X402.here hx rfl (hb hby dprog_30_method_8_code_33) rfl rfl k) ?_
          let A496 : Array Slot := #[.val (.int p0), .val (.ref s_RequestType_FENCE), .val (.ref s_RequestType_VALUES), .val (.int (10 : Int32)), .val (.int (3 : Int32)), .val (.ref s_RequestType_FENCE)]
          refine Go.st (S' := T402.setTop (mkF m 36 A496 [])) (fun t k => XS.astoreN X402.here hx rfl (hb hby dprog_30_method_8_code_35) rfl rfl (l' := A496) rfl k) ?_
          refine Go.st (S' := T402.setTop (mkF m 45 A496 [])) (fun t k => XS.goto X402.here hx rfl (pc0 := 36) (pc' := 45) rfl (hb hby dprog_30_method_8_code_36) (by decide) (by decide) k) ?_
          refine Go.st (S' := T402.setTop (mkF m 46 A496 [(.ref s_RequestType_FENCE)])) (fun t k => XS.aloadN X402.here hx rfl (hb hby dprog_30_method_8_code_45) rfl rfl k) ?_
          exact Go.ret X402 (v := some (.ref s_RequestType_FENCE)) (fun h => by rw [Bd.returns] at h; cases h) Bd.notSynchronized (fun fs hr => retOut X402 hx Bd.returns rfl (Or.inr (Or.inr (Or.inr (Or.inr ⟨rfl, rfl, rfl⟩)))) (hb hby dprog_30_method_8_code_46) hr) (by decide) (by decide) ((Or.inr (Or.inr (Or.inr (Or.inl ⟨hc156, hc283, hc396, hc495, rfl, N0, (e402)⟩)))))
        · refine Go.st (S' := T402.setTop (mkF m 39 A401 [])) (fun t k => XS.icmpYes X402.here hx rfl (pc0 := 30) (pc' := 39) rfl (hb hby dprog_30_method_8_code_30) rfl (feq hc495).2 (by decide) (by decide) k) ?_
          refine Go.op (F := fun z => T402.setTop (mkF m 42 #[.val (.int p0), .val .null, .val (.ref s_RequestType_VALUES), .val (.int (10 : Int32)), .val (.int z), .val (.ref s_RequestType_FENCE)] [])) (x := ((3 : Int32) + (1 : Int32))) (fun t k => XS.iinc X402.here hx rfl (hb hby dprog_30_method_8_code_39) rfl rfl k) ?_
          intro v497 hv497
          obtain rfl : (4 : Int32) = v497 := (hv497.trans (by decide)).symm
          let A498 : Array Slot := #[.val (.int p0), .val .null, .val (.ref s_RequestType_VALUES), .val (.int (10 : Int32)), .val (.int (4 : Int32)), .val (.ref s_RequestType_FENCE)]
          refine Go.st (S' := T402.setTop (mkF m 12 A498 [])) (fun t k => XS.goto X402.here hx rfl (pc0 := 42) (pc' := 12) rfl (hb hby dprog_30_method_8_code_42) (by decide) (by decide) k) ?_
          refine Go.st (S' := T402.setTop (mkF m 14 A498 [(.int (4 : Int32))])) (fun t k => XS.iload X402.here hx rfl (hb hby dprog_30_method_8_code_12) rfl k) ?_
          refine Go.st (S' := T402.setTop (mkF m 15 A498 [(.int (10 : Int32)), (.int (4 : Int32))])) (fun t k => XS.iloadN X402.here hx rfl (hb hby dprog_30_method_8_code_14) rfl k) ?_
          refine Go.st (S' := T402.setTop (mkF m 18 A498 [])) (fun t k => XS.icmpNo X402.here hx rfl (hb hby dprog_30_method_8_code_15) rfl (tlt (by decide : ((4 : Int32) < (10 : Int32)))).2.1 k) ?_
          refine Go.st (S' := T402.setTop (mkF m 19 A498 [(.ref s_RequestType_VALUES)])) (fun t k => XS.aloadN X402.here hx rfl (hb hby dprog_30_method_8_code_18) rfl rfl k) ?_
          refine Go.st (S' := T402.setTop (mkF m 21 A498 [(.int (4 : Int32)), (.ref s_RequestType_VALUES)])) (fun t k => XS.iload X402.here hx rfl (hb hby dprog_30_method_8_code_19) rfl k) ?_
          obtain ⟨cl499, Ar499, -, S499, N499_, H499, -⟩ := id V_s_RequestType_VALUES
          have hin499 : ¬ ((4 : Int32) < 0 ∨ cl499.slots.size ≤ ((4 : Int32)).toNatClampNeg) := inb_of S499 ⟨by decide, by decide⟩
          have hat499 : cl499.slots[((4 : Int32)).toNatClampNeg]? = some (.ref s_RequestType_RECOVERY_READ) := Has.at H499 hin499 rfl
          refine Go.st (S' := T402.setTop (mkF m 22 A498 [(.ref s_RequestType_RECOVERY_READ)])) (fun t k => X402.aaload hx (j := (4 : Int32)) (v := (.ref s_RequestType_RECOVERY_READ)) (own_eh e402 Ar499.1) (State.isArrayOf_alike hZ.alike Ar499.2.1) rfl Ar499.2.2 hin499 hat499 (g := (mkF m 21 A498 [(.int (4 : Int32)), (.ref s_RequestType_VALUES)])) rfl rfl (hb hby dprog_30_method_8_code_21) t k) ?_
          let A500 : Array Slot := #[.val (.int p0), .val .null, .val (.ref s_RequestType_VALUES), .val (.int (10 : Int32)), .val (.int (4 : Int32)), .val (.ref s_RequestType_RECOVERY_READ)]
          refine Go.st (S' := T402.setTop (mkF m 24 A500 [])) (fun t k => XS.astore X402.here hx rfl (hb hby dprog_30_method_8_code_22) rfl rfl (l' := A500) rfl k) ?_
          refine Go.st (S' := T402.setTop (mkF m 26 A500 [(.ref s_RequestType_RECOVERY_READ)])) (fun t k => XS.aload X402.here hx rfl (hb hby dprog_30_method_8_code_24) rfl rfl k) ?_
          obtain ⟨T501, X501, e501, st501⟩ := getF X402 hx hZ hown (host := "") (Or.inl (hw _ (List.mem_of_getElem? (i := 7) rfl))) Via.refl e402 F_s_RequestType_RECOVERY_READ_code (g := (mkF m 26 A500 [(.ref s_RequestType_RECOVERY_READ)])) rfl rfl (hb hby dprog_30_method_8_code_26)
          refine Go.st (S' := T501.setTop (mkF m 29 A500 [(.int (5 : Int32))])) st501 ?_
          refine Go.st (S' := T501.setTop (mkF m 30 A500 [(.int p0), (.int (5 : Int32))])) (fun t k => XS.iloadN X501.here hx rfl (hb hby dprog_30_method_8_code_29) rfl k) ?_
          by_cases hc580 : ((5 : Int32) = p0)
          · refine Go.st (S' := T501.setTop (mkF m 33 A500 [])) (fun t k => XS.icmpNo X501.here hx rfl (hb hby dprog_30_method_8_code_30) rfl (teq hc580).2 k) ?_
            refine Go.st (S' := T501.setTop (mkF m 35 A500 [(.ref s_RequestType_RECOVERY_READ)])) (fun t k => XS.aload X501.here hx rfl (hb hby dprog_30_method_8_code_33) rfl rfl k) ?_
            let A581 : Array Slot := #[.val (.int p0), .val (.ref s_RequestType_RECOVERY_READ), .val (.ref s_RequestType_VALUES), .val (.int (10 : Int32)), .val (.int (4 : Int32)), .val (.ref s_RequestType_RECOVERY_READ)]
            refine Go.st (S' := T501.setTop (mkF m 36 A581 [])) (fun t k => XS.astoreN X501.here hx rfl (hb hby dprog_30_method_8_code_35) rfl rfl (l' := A581) rfl k) ?_
            refine Go.st (S' := T501.setTop (mkF m 45 A581 [])) (fun t k => XS.goto X501.here hx rfl (pc0 := 36) (pc' := 45) rfl (hb hby dprog_30_method_8_code_36) (by decide) (by decide) k) ?_
            refine Go.st (S' := T501.setTop (mkF m 46 A581 [(.ref s_RequestType_RECOVERY_READ)])) (fun t k => XS.aloadN X501.here hx rfl (hb hby dprog_30_method_8_code_45) rfl rfl k) ?_
            exact Go.ret X501 (v := some (.ref s_RequestType_RECOVERY_READ)) (fun h => by rw [Bd.returns] at h; cases h) Bd.notSynchronized (fun fs hr => retOut X501 hx Bd.returns rfl (Or.inr (Or.inr (Or.inr (Or.inr ⟨rfl, rfl, rfl⟩)))) (hb hby dprog_30_method_8_code_46) hr) (by decide) (by decide) ((Or.inr (Or.inr (Or.inr (Or.inr (Or.inl ⟨hc156, hc283, hc396, hc495, hc580, rfl, N0, (e501)⟩))))))
          · refine Go.st (S' := T501.setTop (mkF m 39 A500 [])) (fun t k => XS.icmpYes X501.here hx rfl (pc0 := 30) (pc' := 39) rfl (hb hby dprog_30_method_8_code_30) rfl (feq hc580).2 (by decide) (by decide) k) ?_
            refine Go.op (F := fun z => T501.setTop (mkF m 42 #[.val (.int p0), .val .null, .val (.ref s_RequestType_VALUES), .val (.int (10 : Int32)), .val (.int z), .val (.ref s_RequestType_RECOVERY_READ)] [])) (x := ((4 : Int32) + (1 : Int32))) (fun t k => XS.iinc X501.here hx rfl (hb hby dprog_30_method_8_code_39) rfl rfl k) ?_
            intro v582 hv582
            obtain rfl : (5 : Int32) = v582 := (hv582.trans (by decide)).symm
            let A583 : Array Slot := #[.val (.int p0), .val .null, .val (.ref s_RequestType_VALUES), .val (.int (10 : Int32)), .val (.int (5 : Int32)), .val (.ref s_RequestType_RECOVERY_READ)]
            refine Go.st (S' := T501.setTop (mkF m 12 A583 [])) (fun t k => XS.goto X501.here hx rfl (pc0 := 42) (pc' := 12) rfl (hb hby dprog_30_method_8_code_42) (by decide) (by decide) k) ?_
            refine Go.st (S' := T501.setTop (mkF m 14 A583 [(.int (5 : Int32))])) (fun t k => XS.iload X501.here hx rfl (hb hby dprog_30_method_8_code_12) rfl k) ?_
            refine Go.st (S' := T501.setTop (mkF m 15 A583 [(.int (10 : Int32)), (.int (5 : Int32))])) (fun t k => XS.iloadN X501.here hx rfl (hb hby dprog_30_method_8_code_14) rfl k) ?_
            refine Go.st (S' := T501.setTop (mkF m 18 A583 [])) (fun t k => XS.icmpNo X501.here hx rfl (hb hby dprog_30_method_8_code_15) rfl (tlt (by decide : ((5 : Int32) < (10 : Int32)))).2.1 k) ?_
            refine Go.st (S' := T501.setTop (mkF m 19 A583 [(.ref s_RequestType_VALUES)])) (fun t k => XS.aloadN X501.here hx rfl (hb hby dprog_30_method_8_code_18) rfl rfl k) ?_
            refine Go.st (S' := T501.setTop (mkF m 21 A583 [(.int (5 : Int32)), (.ref s_RequestType_VALUES)])) (fun t k => XS.iload X501.here hx rfl (hb hby dprog_30_method_8_code_19) rfl k) ?_
            obtain ⟨cl584, Ar584, -, S584, N584_, H584, -⟩ := id V_s_RequestType_VALUES
            have hin584 : ¬ ((5 : Int32) < 0 ∨ cl584.slots.size ≤ ((5 : Int32)).toNatClampNeg) := inb_of S584 ⟨by decide, by decide⟩
            have hat584 : cl584.slots[((5 : Int32)).toNatClampNeg]? = some (.ref s_RequestType_RECOVERY_ADD) := Has.at H584 hin584 rfl
            refine Go.st (S' := T501.setTop (mkF m 22 A583 [(.ref s_RequestType_RECOVERY_ADD)])) (fun t k => X501.aaload hx (j := (5 : Int32)) (v := (.ref s_RequestType_RECOVERY_ADD)) (own_eh e501 Ar584.1) (State.isArrayOf_alike hZ.alike Ar584.2.1) rfl Ar584.2.2 hin584 hat584 (g := (mkF m 21 A583 [(.int (5 : Int32)), (.ref s_RequestType_VALUES)])) rfl rfl (hb hby dprog_30_method_8_code_21) t k) ?_
            let A585 : Array Slot := #[.val (.int p0), .val .null, .val (.ref s_RequestType_VALUES), .val (.int (10 : Int32)), .val (.int (5 : Int32)), .val (.ref s_RequestType_RECOVERY_ADD)]
            refine Go.st (S' := T501.setTop (mkF m 24 A585 [])) (fun t k => XS.astore X501.here hx rfl (hb hby dprog_30_method_8_code_22) rfl rfl (l' := A585) rfl k) ?_
            refine Go.st (S' := T501.setTop (mkF m 26 A585 [(.ref s_RequestType_RECOVERY_ADD)])) (fun t k => XS.aload X501.here hx rfl (hb hby dprog_30_method_8_code_24) rfl rfl k) ?_
            obtain ⟨T586, X586, e586, st586⟩ := getF X501 hx hZ hown (host := "") (Or.inl (hw _ (List.mem_of_getElem? (i := 7) rfl))) Via.refl e501 F_s_RequestType_RECOVERY_ADD_code (g := (mkF m 26 A585 [(.ref s_RequestType_RECOVERY_ADD)])) rfl rfl (hb hby dprog_30_method_8_code_26)
            refine Go.st (S' := T586.setTop (mkF m 29 A585 [(.int (6 : Int32))])) st586 ?_
            refine Go.st (S' := T586.setTop (mkF m 30 A585 [(.int p0), (.int (6 : Int32))])) (fun t k => XS.iloadN X586.here hx rfl (hb hby dprog_30_method_8_code_29) rfl k) ?_
            by_cases hc651 : ((6 : Int32) = p0)
            · refine Go.st (S' := T586.setTop (mkF m 33 A585 [])) (fun t k => XS.icmpNo X586.here hx rfl (hb hby dprog_30_method_8_code_30) rfl (teq hc651).2 k) ?_
              refine Go.st (S' := T586.setTop (mkF m 35 A585 [(.ref s_RequestType_RECOVERY_ADD)])) (fun t k => XS.aload X586.here hx rfl (hb hby dprog_30_method_8_code_33) rfl rfl k) ?_
              let A652 : Array Slot := #[.val (.int p0), .val (.ref s_RequestType_RECOVERY_ADD), .val (.ref s_RequestType_VALUES), .val (.int (10 : Int32)), .val (.int (5 : Int32)), .val (.ref s_RequestType_RECOVERY_ADD)]
              refine Go.st (S' := T586.setTop (mkF m 36 A652 [])) (fun t k => XS.astoreN X586.here hx rfl (hb hby dprog_30_method_8_code_35) rfl rfl (l' := A652) rfl k) ?_
              refine Go.st (S' := T586.setTop (mkF m 45 A652 [])) (fun t k => XS.goto X586.here hx rfl (pc0 := 36) (pc' := 45) rfl (hb hby dprog_30_method_8_code_36) (by decide) (by decide) k) ?_
              refine Go.st (S' := T586.setTop (mkF m 46 A652 [(.ref s_RequestType_RECOVERY_ADD)])) (fun t k => XS.aloadN X586.here hx rfl (hb hby dprog_30_method_8_code_45) rfl rfl k) ?_
              exact Go.ret X586 (v := some (.ref s_RequestType_RECOVERY_ADD)) (fun h => by rw [Bd.returns] at h; cases h) Bd.notSynchronized (fun fs hr => retOut X586 hx Bd.returns rfl (Or.inr (Or.inr (Or.inr (Or.inr ⟨rfl, rfl, rfl⟩)))) (hb hby dprog_30_method_8_code_46) hr) (by decide) (by decide) ((Or.inr (Or.inr (Or.inr (Or.inr (Or.inr (Or.inl ⟨hc156, hc283, hc396, hc495, hc580, hc651, rfl, N0, (e586)⟩)))))))
            · refine Go.st (S' := T586.setTop (mkF m 39 A585 [])) (fun t k => XS.icmpYes X586.here hx rfl (pc0 := 30) (pc' := 39) rfl (hb hby dprog_30_method_8_code_30) rfl (feq hc651).2 (by decide) (by decide) k) ?_
              refine Go.op (F := fun z => T586.setTop (mkF m 42 #[.val (.int p0), .val .null, .val (.ref s_RequestType_VALUES), .val (.int (10 : Int32)), .val (.int z), .val (.ref s_RequestType_RECOVERY_ADD)] [])) (x := ((5 : Int32) + (1 : Int32))) (fun t k => XS.iinc X586.here hx rfl (hb hby dprog_30_method_8_code_39) rfl rfl k) ?_
              intro v653 hv653
              obtain rfl : (6 : Int32) = v653 := (hv653.trans (by decide)).symm
              let A654 : Array Slot := #[.val (.int p0), .val .null, .val (.ref s_RequestType_VALUES), .val (.int (10 : Int32)), .val (.int (6 : Int32)), .val (.ref s_RequestType_RECOVERY_ADD)]
              refine Go.st (S' := T586.setTop (mkF m 12 A654 [])) (fun t k => XS.goto X586.here hx rfl (pc0 := 42) (pc' := 12) rfl (hb hby dprog_30_method_8_code_42) (by decide) (by decide) k) ?_
              refine Go.st (S' := T586.setTop (mkF m 14 A654 [(.int (6 : Int32))])) (fun t k => XS.iload X586.here hx rfl (hb hby dprog_30_method_8_code_12) rfl k) ?_
              refine Go.st (S' := T586.setTop (mkF m 15 A654 [(.int (10 : Int32)), (.int (6 : Int32))])) (fun t k => XS.iloadN X586.here hx rfl (hb hby dprog_30_method_8_code_14) rfl k) ?_
              refine Go.st (S' := T586.setTop (mkF m 18 A654 [])) (fun t k => XS.icmpNo X586.here hx rfl (hb hby dprog_30_method_8_code_15) rfl (tlt (by decide : ((6 : Int32) < (10 : Int32)))).2.1 k) ?_
              refine Go.st (S' := T586.setTop (mkF m 19 A654 [(.ref s_RequestType_VALUES)])) (fun t k => XS.aloadN X586.here hx rfl (hb hby dprog_30_method_8_code_18) rfl rfl k) ?_
              refine Go.st (S' := T586.setTop (mkF m 21 A654 [(.int (6 : Int32)), (.ref s_RequestType_VALUES)])) (fun t k => XS.iload X586.here hx rfl (hb hby dprog_30_method_8_code_19) rfl k) ?_
              obtain ⟨cl655, Ar655, -, S655, N655_, H655, -⟩ := id V_s_RequestType_VALUES
              have hin655 : ¬ ((6 : Int32) < 0 ∨ cl655.slots.size ≤ ((6 : Int32)).toNatClampNeg) := inb_of S655 ⟨by decide, by decide⟩
              have hat655 : cl655.slots[((6 : Int32)).toNatClampNeg]? = some (.ref s_RequestType_READ_LAC) := Has.at H655 hin655 rfl
              refine Go.st (S' := T586.setTop (mkF m 22 A654 [(.ref s_RequestType_READ_LAC)])) (fun t k => X586.aaload hx (j := (6 : Int32)) (v := (.ref s_RequestType_READ_LAC)) (own_eh e586 Ar655.1) (State.isArrayOf_alike hZ.alike Ar655.2.1) rfl Ar655.2.2 hin655 hat655 (g := (mkF m 21 A654 [(.int (6 : Int32)), (.ref s_RequestType_VALUES)])) rfl rfl (hb hby dprog_30_method_8_code_21) t k) ?_
              let A656 : Array Slot := #[.val (.int p0), .val .null, .val (.ref s_RequestType_VALUES), .val (.int (10 : Int32)), .val (.int (6 : Int32)), .val (.ref s_RequestType_READ_LAC)]
              refine Go.st (S' := T586.setTop (mkF m 24 A656 [])) (fun t k => XS.astore X586.here hx rfl (hb hby dprog_30_method_8_code_22) rfl rfl (l' := A656) rfl k) ?_
              refine Go.st (S' := T586.setTop (mkF m 26 A656 [(.ref s_RequestType_READ_LAC)])) (fun t k => XS.aload X586.here hx rfl (hb hby dprog_30_method_8_code_24) rfl rfl k) ?_
              obtain ⟨T657, X657, e657, st657⟩ := getF X586 hx hZ hown (host := "") (Or.inl (hw _ (List.mem_of_getElem? (i := 7) rfl))) Via.refl e586 F_s_RequestType_READ_LAC_code (g := (mkF m 26 A656 [(.ref s_RequestType_READ_LAC)])) rfl rfl (hb hby dprog_30_method_8_code_26)
              refine Go.st (S' := T657.setTop (mkF m 29 A656 [(.int (7 : Int32))])) st657 ?_
              refine Go.st (S' := T657.setTop (mkF m 30 A656 [(.int p0), (.int (7 : Int32))])) (fun t k => XS.iloadN X657.here hx rfl (hb hby dprog_30_method_8_code_29) rfl k) ?_
              by_cases hc708 : ((7 : Int32) = p0)
              · refine Go.st (S' := T657.setTop (mkF m 33 A656 [])) (fun t k => XS.icmpNo X657.here hx rfl (hb hby dprog_30_method_8_code_30) rfl (teq hc708).2 k) ?_
                refine Go.st (S' := T657.setTop (mkF m 35 A656 [(.ref s_RequestType_READ_LAC)])) (fun t k => XS.aload X657.here hx rfl (hb hby dprog_30_method_8_code_33) rfl rfl k) ?_
                let A709 : Array Slot := #[.val (.int p0), .val (.ref s_RequestType_READ_LAC), .val (.ref s_RequestType_VALUES), .val (.int (10 : Int32)), .val (.int (6 : Int32)), .val (.ref s_RequestType_READ_LAC)]
                refine Go.st (S' := T657.setTop (mkF m 36 A709 [])) (fun t k => XS.astoreN X657.here hx rfl (hb hby dprog_30_method_8_code_35) rfl rfl (l' := A709) rfl k) ?_
                refine Go.st (S' := T657.setTop (mkF m 45 A709 [])) (fun t k => XS.goto X657.here hx rfl (pc0 := 36) (pc' := 45) rfl (hb hby dprog_30_method_8_code_36) (by decide) (by decide) k) ?_
                refine Go.st (S' := T657.setTop (mkF m 46 A709 [(.ref s_RequestType_READ_LAC)])) (fun t k => XS.aloadN X657.here hx rfl (hb hby dprog_30_method_8_code_45) rfl rfl k) ?_
                exact Go.ret X657 (v := some (.ref s_RequestType_READ_LAC)) (fun h => by rw [Bd.returns] at h; cases h) Bd.notSynchronized (fun fs hr => retOut X657 hx Bd.returns rfl (Or.inr (Or.inr (Or.inr (Or.inr ⟨rfl, rfl, rfl⟩)))) (hb hby dprog_30_method_8_code_46) hr) (by decide) (by decide) ((Or.inr (Or.inr (Or.inr (Or.inr (Or.inr (Or.inr (Or.inl ⟨hc156, hc283, hc396, hc495, hc580, hc651, hc708, rfl, N0, (e657)⟩))))))))
              · refine Go.st (S' := T657.setTop (mkF m 39 A656 [])) (fun t k => XS.icmpYes X657.here hx rfl (pc0 := 30) (pc' := 39) rfl (hb hby dprog_30_method_8_code_30) rfl (feq hc708).2 (by decide) (by decide) k) ?_
                refine Go.op (F := fun z => T657.setTop (mkF m 42 #[.val (.int p0), .val .null, .val (.ref s_RequestType_VALUES), .val (.int (10 : Int32)), .val (.int z), .val (.ref s_RequestType_READ_LAC)] [])) (x := ((6 : Int32) + (1 : Int32))) (fun t k => XS.iinc X657.here hx rfl (hb hby dprog_30_method_8_code_39) rfl rfl k) ?_
                intro v710 hv710
                obtain rfl : (7 : Int32) = v710 := (hv710.trans (by decide)).symm
                let A711 : Array Slot := #[.val (.int p0), .val .null, .val (.ref s_RequestType_VALUES), .val (.int (10 : Int32)), .val (.int (7 : Int32)), .val (.ref s_RequestType_READ_LAC)]
                refine Go.st (S' := T657.setTop (mkF m 12 A711 [])) (fun t k => XS.goto X657.here hx rfl (pc0 := 42) (pc' := 12) rfl (hb hby dprog_30_method_8_code_42) (by decide) (by decide) k) ?_
                refine Go.st (S' := T657.setTop (mkF m 14 A711 [(.int (7 : Int32))])) (fun t k => XS.iload X657.here hx rfl (hb hby dprog_30_method_8_code_12) rfl k) ?_
                refine Go.st (S' := T657.setTop (mkF m 15 A711 [(.int (10 : Int32)), (.int (7 : Int32))])) (fun t k => XS.iloadN X657.here hx rfl (hb hby dprog_30_method_8_code_14) rfl k) ?_
                refine Go.st (S' := T657.setTop (mkF m 18 A711 [])) (fun t k => XS.icmpNo X657.here hx rfl (hb hby dprog_30_method_8_code_15) rfl (tlt (by decide : ((7 : Int32) < (10 : Int32)))).2.1 k) ?_
                refine Go.st (S' := T657.setTop (mkF m 19 A711 [(.ref s_RequestType_VALUES)])) (fun t k => XS.aloadN X657.here hx rfl (hb hby dprog_30_method_8_code_18) rfl rfl k) ?_
                refine Go.st (S' := T657.setTop (mkF m 21 A711 [(.int (7 : Int32)), (.ref s_RequestType_VALUES)])) (fun t k => XS.iload X657.here hx rfl (hb hby dprog_30_method_8_code_19) rfl k) ?_
                obtain ⟨cl712, Ar712, -, S712, N712_, H712, -⟩ := id V_s_RequestType_VALUES
                have hin712 : ¬ ((7 : Int32) < 0 ∨ cl712.slots.size ≤ ((7 : Int32)).toNatClampNeg) := inb_of S712 ⟨by decide, by decide⟩
                have hat712 : cl712.slots[((7 : Int32)).toNatClampNeg]? = some (.ref s_RequestType_WRITE_LAC) := Has.at H712 hin712 rfl
                refine Go.st (S' := T657.setTop (mkF m 22 A711 [(.ref s_RequestType_WRITE_LAC)])) (fun t k => X657.aaload hx (j := (7 : Int32)) (v := (.ref s_RequestType_WRITE_LAC)) (own_eh e657 Ar712.1) (State.isArrayOf_alike hZ.alike Ar712.2.1) rfl Ar712.2.2 hin712 hat712 (g := (mkF m 21 A711 [(.int (7 : Int32)), (.ref s_RequestType_VALUES)])) rfl rfl (hb hby dprog_30_method_8_code_21) t k) ?_
                let A713 : Array Slot := #[.val (.int p0), .val .null, .val (.ref s_RequestType_VALUES), .val (.int (10 : Int32)), .val (.int (7 : Int32)), .val (.ref s_RequestType_WRITE_LAC)]
                refine Go.st (S' := T657.setTop (mkF m 24 A713 [])) (fun t k => XS.astore X657.here hx rfl (hb hby dprog_30_method_8_code_22) rfl rfl (l' := A713) rfl k) ?_
                refine Go.st (S' := T657.setTop (mkF m 26 A713 [(.ref s_RequestType_WRITE_LAC)])) (fun t k => XS.aload X657.here hx rfl (hb hby dprog_30_method_8_code_24) rfl rfl k) ?_
                obtain ⟨T714, X714, e714, st714⟩ := getF X657 hx hZ hown (host := "") (Or.inl (hw _ (List.mem_of_getElem? (i := 7) rfl))) Via.refl e657 F_s_RequestType_WRITE_LAC_code (g := (mkF m 26 A713 [(.ref s_RequestType_WRITE_LAC)])) rfl rfl (hb hby dprog_30_method_8_code_26)
                refine Go.st (S' := T714.setTop (mkF m 29 A713 [(.int (8 : Int32))])) st714 ?_
                refine Go.st (S' := T714.setTop (mkF m 30 A713 [(.int p0), (.int (8 : Int32))])) (fun t k => XS.iloadN X714.here hx rfl (hb hby dprog_30_method_8_code_29) rfl k) ?_
                by_cases hc751 : ((8 : Int32) = p0)
                · refine Go.st (S' := T714.setTop (mkF m 33 A713 [])) (fun t k => XS.icmpNo X714.here hx rfl (hb hby dprog_30_method_8_code_30) rfl (teq hc751).2 k) ?_
                  refine Go.st (S' := T714.setTop (mkF m 35 A713 [(.ref s_RequestType_WRITE_LAC)])) (fun t k => XS.aload X714.here hx rfl (hb hby dprog_30_method_8_code_33) rfl rfl k) ?_
                  let A752 : Array Slot := #[.val (.int p0), .val (.ref s_RequestType_WRITE_LAC), .val (.ref s_RequestType_VALUES), .val (.int (10 : Int32)), .val (.int (7 : Int32)), .val (.ref s_RequestType_WRITE_LAC)]
                  refine Go.st (S' := T714.setTop (mkF m 36 A752 [])) (fun t k => XS.astoreN X714.here hx rfl (hb hby dprog_30_method_8_code_35) rfl rfl (l' := A752) rfl k) ?_
                  refine Go.st (S' := T714.setTop (mkF m 45 A752 [])) (fun t k => XS.goto X714.here hx rfl (pc0 := 36) (pc' := 45) rfl (hb hby dprog_30_method_8_code_36) (by decide) (by decide) k) ?_
                  refine Go.st (S' := T714.setTop (mkF m 46 A752 [(.ref s_RequestType_WRITE_LAC)])) (fun t k => XS.aloadN X714.here hx rfl (hb hby dprog_30_method_8_code_45) rfl rfl k) ?_
                  exact Go.ret X714 (v := some (.ref s_RequestType_WRITE_LAC)) (fun h => by rw [Bd.returns] at h; cases h) Bd.notSynchronized (fun fs hr => retOut X714 hx Bd.returns rfl (Or.inr (Or.inr (Or.inr (Or.inr ⟨rfl, rfl, rfl⟩)))) (hb hby dprog_30_method_8_code_46) hr) (by decide) (by decide) ((Or.inr (Or.inr (Or.inr (Or.inr (Or.inr (Or.inr (Or.inr (Or.inl ⟨hc156, hc283, hc396, hc495, hc580, hc651, hc708, hc751, rfl, N0, (e714)⟩)))))))))
                · refine Go.st (S' := T714.setTop (mkF m 39 A713 [])) (fun t k => XS.icmpYes X714.here hx rfl (pc0 := 30) (pc' := 39) rfl (hb hby dprog_30_method_8_code_30) rfl (feq hc751).2 (by decide) (by decide) k) ?_
                  refine Go.op (F := fun z => T714.setTop (mkF m 42 #[.val (.int p0), .val .null, .val (.ref s_RequestType_VALUES), .val (.int (10 : Int32)), .val (.int z), .val (.ref s_RequestType_WRITE_LAC)] [])) (x := ((7 : Int32) + (1 : Int32))) (fun t k => XS.iinc X714.here hx rfl (hb hby dprog_30_method_8_code_39) rfl rfl k) ?_
                  intro v753 hv753
                  obtain rfl : (8 : Int32) = v753 := (hv753.trans (by decide)).symm
                  let A754 : Array Slot := #[.val (.int p0), .val .null, .val (.ref s_RequestType_VALUES), .val (.int (10 : Int32)), .val (.int (8 : Int32)), .val (.ref s_RequestType_WRITE_LAC)]
                  refine Go.st (S' := T714.setTop (mkF m 12 A754 [])) (fun t k => XS.goto X714.here hx rfl (pc0 := 42) (pc' := 12) rfl (hb hby dprog_30_method_8_code_42) (by decide) (by decide) k) ?_
                  refine Go.st (S' := T714.setTop (mkF m 14 A754 [(.int (8 : Int32))])) (fun t k => XS.iload X714.here hx rfl (hb hby dprog_30_method_8_code_12) rfl k) ?_
                  refine Go.st (S' := T714.setTop (mkF m 15 A754 [(.int (10 : Int32)), (.int (8 : Int32))])) (fun t k => XS.iloadN X714.here hx rfl (hb hby dprog_30_method_8_code_14) rfl k) ?_
                  refine Go.st (S' := T714.setTop (mkF m 18 A754 [])) (fun t k => XS.icmpNo X714.here hx rfl (hb hby dprog_30_method_8_code_15) rfl (tlt (by decide : ((8 : Int32) < (10 : Int32)))).2.1 k) ?_
                  refine Go.st (S' := T714.setTop (mkF m 19 A754 [(.ref s_RequestType_VALUES)])) (fun t k => XS.aloadN X714.here hx rfl (hb hby dprog_30_method_8_code_18) rfl rfl k) ?_
                  refine Go.st (S' := T714.setTop (mkF m 21 A754 [(.int (8 : Int32)), (.ref s_RequestType_VALUES)])) (fun t k => XS.iload X714.here hx rfl (hb hby dprog_30_method_8_code_19) rfl k) ?_
                  obtain ⟨cl755, Ar755, -, S755, N755_, H755, -⟩ := id V_s_RequestType_VALUES
                  have hin755 : ¬ ((8 : Int32) < 0 ∨ cl755.slots.size ≤ ((8 : Int32)).toNatClampNeg) := inb_of S755 ⟨by decide, by decide⟩
                  have hat755 : cl755.slots[((8 : Int32)).toNatClampNeg]? = some (.ref s_RequestType_WAIT_LAC) := Has.at H755 hin755 rfl
                  refine Go.st (S' := T714.setTop (mkF m 22 A754 [(.ref s_RequestType_WAIT_LAC)])) (fun t k => X714.aaload hx (j := (8 : Int32)) (v := (.ref s_RequestType_WAIT_LAC)) (own_eh e714 Ar755.1) (State.isArrayOf_alike hZ.alike Ar755.2.1) rfl Ar755.2.2 hin755 hat755 (g := (mkF m 21 A754 [(.int (8 : Int32)), (.ref s_RequestType_VALUES)])) rfl rfl (hb hby dprog_30_method_8_code_21) t k) ?_
                  let A756 : Array Slot := #[.val (.int p0), .val .null, .val (.ref s_RequestType_VALUES), .val (.int (10 : Int32)), .val (.int (8 : Int32)), .val (.ref s_RequestType_WAIT_LAC)]
                  refine Go.st (S' := T714.setTop (mkF m 24 A756 [])) (fun t k => XS.astore X714.here hx rfl (hb hby dprog_30_method_8_code_22) rfl rfl (l' := A756) rfl k) ?_
                  refine Go.st (S' := T714.setTop (mkF m 26 A756 [(.ref s_RequestType_WAIT_LAC)])) (fun t k => XS.aload X714.here hx rfl (hb hby dprog_30_method_8_code_24) rfl rfl k) ?_
                  obtain ⟨T757, X757, e757, st757⟩ := getF X714 hx hZ hown (host := "") (Or.inl (hw _ (List.mem_of_getElem? (i := 7) rfl))) Via.refl e714 F_s_RequestType_WAIT_LAC_code (g := (mkF m 26 A756 [(.ref s_RequestType_WAIT_LAC)])) rfl rfl (hb hby dprog_30_method_8_code_26)
                  refine Go.st (S' := T757.setTop (mkF m 29 A756 [(.int (9 : Int32))])) st757 ?_
                  refine Go.st (S' := T757.setTop (mkF m 30 A756 [(.int p0), (.int (9 : Int32))])) (fun t k => XS.iloadN X757.here hx rfl (hb hby dprog_30_method_8_code_29) rfl k) ?_
                  by_cases hc780 : ((9 : Int32) = p0)
                  · refine Go.st (S' := T757.setTop (mkF m 33 A756 [])) (fun t k => XS.icmpNo X757.here hx rfl (hb hby dprog_30_method_8_code_30) rfl (teq hc780).2 k) ?_
                    refine Go.st (S' := T757.setTop (mkF m 35 A756 [(.ref s_RequestType_WAIT_LAC)])) (fun t k => XS.aload X757.here hx rfl (hb hby dprog_30_method_8_code_33) rfl rfl k) ?_
                    let A781 : Array Slot := #[.val (.int p0), .val (.ref s_RequestType_WAIT_LAC), .val (.ref s_RequestType_VALUES), .val (.int (10 : Int32)), .val (.int (8 : Int32)), .val (.ref s_RequestType_WAIT_LAC)]
                    refine Go.st (S' := T757.setTop (mkF m 36 A781 [])) (fun t k => XS.astoreN X757.here hx rfl (hb hby dprog_30_method_8_code_35) rfl rfl (l' := A781) rfl k) ?_
                    refine Go.st (S' := T757.setTop (mkF m 45 A781 [])) (fun t k => XS.goto X757.here hx rfl (pc0 := 36) (pc' := 45) rfl (hb hby dprog_30_method_8_code_36) (by decide) (by decide) k) ?_
                    refine Go.st (S' := T757.setTop (mkF m 46 A781 [(.ref s_RequestType_WAIT_LAC)])) (fun t k => XS.aloadN X757.here hx rfl (hb hby dprog_30_method_8_code_45) rfl rfl k) ?_
                    exact Go.ret X757 (v := some (.ref s_RequestType_WAIT_LAC)) (fun h => by rw [Bd.returns] at h; cases h) Bd.notSynchronized (fun fs hr => retOut X757 hx Bd.returns rfl (Or.inr (Or.inr (Or.inr (Or.inr ⟨rfl, rfl, rfl⟩)))) (hb hby dprog_30_method_8_code_46) hr) (by decide) (by decide) ((Or.inr (Or.inr (Or.inr (Or.inr (Or.inr (Or.inr (Or.inr (Or.inr (Or.inl ⟨hc156, hc283, hc396, hc495, hc580, hc651, hc708, hc751, hc780, rfl, N0, (e757)⟩))))))))))
                  · refine Go.st (S' := T757.setTop (mkF m 39 A756 [])) (fun t k => XS.icmpYes X757.here hx rfl (pc0 := 30) (pc' := 39) rfl (hb hby dprog_30_method_8_code_30) rfl (feq hc780).2 (by decide) (by decide) k) ?_
                    refine Go.op (F := fun z => T757.setTop (mkF m 42 #[.val (.int p0), .val .null, .val (.ref s_RequestType_VALUES), .val (.int (10 : Int32)), .val (.int z), .val (.ref s_RequestType_WAIT_LAC)] [])) (x := ((8 : Int32) + (1 : Int32))) (fun t k => XS.iinc X757.here hx rfl (hb hby dprog_30_method_8_code_39) rfl rfl k) ?_
                    intro v782 hv782
                    obtain rfl : (9 : Int32) = v782 := (hv782.trans (by decide)).symm
                    let A783 : Array Slot := #[.val (.int p0), .val .null, .val (.ref s_RequestType_VALUES), .val (.int (10 : Int32)), .val (.int (9 : Int32)), .val (.ref s_RequestType_WAIT_LAC)]
                    refine Go.st (S' := T757.setTop (mkF m 12 A783 [])) (fun t k => XS.goto X757.here hx rfl (pc0 := 42) (pc' := 12) rfl (hb hby dprog_30_method_8_code_42) (by decide) (by decide) k) ?_
                    refine Go.st (S' := T757.setTop (mkF m 14 A783 [(.int (9 : Int32))])) (fun t k => XS.iload X757.here hx rfl (hb hby dprog_30_method_8_code_12) rfl k) ?_
                    refine Go.st (S' := T757.setTop (mkF m 15 A783 [(.int (10 : Int32)), (.int (9 : Int32))])) (fun t k => XS.iloadN X757.here hx rfl (hb hby dprog_30_method_8_code_14) rfl k) ?_
                    refine Go.st (S' := T757.setTop (mkF m 18 A783 [])) (fun t k => XS.icmpNo X757.here hx rfl (hb hby dprog_30_method_8_code_15) rfl (tlt (by decide : ((9 : Int32) < (10 : Int32)))).2.1 k) ?_
                    refine Go.st (S' := T757.setTop (mkF m 19 A783 [(.ref s_RequestType_VALUES)])) (fun t k => XS.aloadN X757.here hx rfl (hb hby dprog_30_method_8_code_18) rfl rfl k) ?_
                    refine Go.st (S' := T757.setTop (mkF m 21 A783 [(.int (9 : Int32)), (.ref s_RequestType_VALUES)])) (fun t k => XS.iload X757.here hx rfl (hb hby dprog_30_method_8_code_19) rfl k) ?_
                    obtain ⟨cl784, Ar784, -, S784, N784_, H784, -⟩ := id V_s_RequestType_VALUES
                    have hin784 : ¬ ((9 : Int32) < 0 ∨ cl784.slots.size ≤ ((9 : Int32)).toNatClampNeg) := inb_of S784 ⟨by decide, by decide⟩
                    have hat784 : cl784.slots[((9 : Int32)).toNatClampNeg]? = some (.ref s_RequestType_READ_RANGE) := Has.at H784 hin784 rfl
                    refine Go.st (S' := T757.setTop (mkF m 22 A783 [(.ref s_RequestType_READ_RANGE)])) (fun t k => X757.aaload hx (j := (9 : Int32)) (v := (.ref s_RequestType_READ_RANGE)) (own_eh e757 Ar784.1) (State.isArrayOf_alike hZ.alike Ar784.2.1) rfl Ar784.2.2 hin784 hat784 (g := (mkF m 21 A783 [(.int (9 : Int32)), (.ref s_RequestType_VALUES)])) rfl rfl (hb hby dprog_30_method_8_code_21) t k) ?_
                    let A785 : Array Slot := #[.val (.int p0), .val .null, .val (.ref s_RequestType_VALUES), .val (.int (10 : Int32)), .val (.int (9 : Int32)), .val (.ref s_RequestType_READ_RANGE)]
                    refine Go.st (S' := T757.setTop (mkF m 24 A785 [])) (fun t k => XS.astore X757.here hx rfl (hb hby dprog_30_method_8_code_22) rfl rfl (l' := A785) rfl k) ?_
                    refine Go.st (S' := T757.setTop (mkF m 26 A785 [(.ref s_RequestType_READ_RANGE)])) (fun t k => XS.aload X757.here hx rfl (hb hby dprog_30_method_8_code_24) rfl rfl k) ?_
                    obtain ⟨T786, X786, e786, st786⟩ := getF X757 hx hZ hown (host := "") (Or.inl (hw _ (List.mem_of_getElem? (i := 7) rfl))) Via.refl e757 F_s_RequestType_READ_RANGE_code (g := (mkF m 26 A785 [(.ref s_RequestType_READ_RANGE)])) rfl rfl (hb hby dprog_30_method_8_code_26)
                    refine Go.st (S' := T786.setTop (mkF m 29 A785 [(.int (10 : Int32))])) st786 ?_
                    refine Go.st (S' := T786.setTop (mkF m 30 A785 [(.int p0), (.int (10 : Int32))])) (fun t k => XS.iloadN X786.here hx rfl (hb hby dprog_30_method_8_code_29) rfl k) ?_
                    by_cases hc795 : ((10 : Int32) = p0)
                    · refine Go.st (S' := T786.setTop (mkF m 33 A785 [])) (fun t k => XS.icmpNo X786.here hx rfl (hb hby dprog_30_method_8_code_30) rfl (teq hc795).2 k) ?_
                      refine Go.st (S' := T786.setTop (mkF m 35 A785 [(.ref s_RequestType_READ_RANGE)])) (fun t k => XS.aload X786.here hx rfl (hb hby dprog_30_method_8_code_33) rfl rfl k) ?_
                      let A796 : Array Slot := #[.val (.int p0), .val (.ref s_RequestType_READ_RANGE), .val (.ref s_RequestType_VALUES), .val (.int (10 : Int32)), .val (.int (9 : Int32)), .val (.ref s_RequestType_READ_RANGE)]
                      refine Go.st (S' := T786.setTop (mkF m 36 A796 [])) (fun t k => XS.astoreN X786.here hx rfl (hb hby dprog_30_method_8_code_35) rfl rfl (l' := A796) rfl k) ?_
                      refine Go.st (S' := T786.setTop (mkF m 45 A796 [])) (fun t k => XS.goto X786.here hx rfl (pc0 := 36) (pc' := 45) rfl (hb hby dprog_30_method_8_code_36) (by decide) (by decide) k) ?_
                      refine Go.st (S' := T786.setTop (mkF m 46 A796 [(.ref s_RequestType_READ_RANGE)])) (fun t k => XS.aloadN X786.here hx rfl (hb hby dprog_30_method_8_code_45) rfl rfl k) ?_
                      exact Go.ret X786 (v := some (.ref s_RequestType_READ_RANGE)) (fun h => by rw [Bd.returns] at h; cases h) Bd.notSynchronized (fun fs hr => retOut X786 hx Bd.returns rfl (Or.inr (Or.inr (Or.inr (Or.inr ⟨rfl, rfl, rfl⟩)))) (hb hby dprog_30_method_8_code_46) hr) (by decide) (by decide) ((Or.inr (Or.inr (Or.inr (Or.inr (Or.inr (Or.inr (Or.inr (Or.inr (Or.inr (Or.inl ⟨hc156, hc283, hc396, hc495, hc580, hc651, hc708, hc751, hc780, hc795, rfl, N0, (e786)⟩)))))))))))
                    · refine Go.st (S' := T786.setTop (mkF m 39 A785 [])) (fun t k => XS.icmpYes X786.here hx rfl (pc0 := 30) (pc' := 39) rfl (hb hby dprog_30_method_8_code_30) rfl (feq hc795).2 (by decide) (by decide) k) ?_
                      refine Go.op (F := fun z => T786.setTop (mkF m 42 #[.val (.int p0), .val .null, .val (.ref s_RequestType_VALUES), .val (.int (10 : Int32)), .val (.int z), .val (.ref s_RequestType_READ_RANGE)] [])) (x := ((9 : Int32) + (1 : Int32))) (fun t k => XS.iinc X786.here hx rfl (hb hby dprog_30_method_8_code_39) rfl rfl k) ?_
                      intro v797 hv797
                      obtain rfl : (10 : Int32) = v797 := (hv797.trans (by decide)).symm
                      let A798 : Array Slot := #[.val (.int p0), .val .null, .val (.ref s_RequestType_VALUES), .val (.int (10 : Int32)), .val (.int (10 : Int32)), .val (.ref s_RequestType_READ_RANGE)]
                      refine Go.st (S' := T786.setTop (mkF m 12 A798 [])) (fun t k => XS.goto X786.here hx rfl (pc0 := 42) (pc' := 12) rfl (hb hby dprog_30_method_8_code_42) (by decide) (by decide) k) ?_
                      refine Go.st (S' := T786.setTop (mkF m 14 A798 [(.int (10 : Int32))])) (fun t k => XS.iload X786.here hx rfl (hb hby dprog_30_method_8_code_12) rfl k) ?_
                      refine Go.st (S' := T786.setTop (mkF m 15 A798 [(.int (10 : Int32)), (.int (10 : Int32))])) (fun t k => XS.iloadN X786.here hx rfl (hb hby dprog_30_method_8_code_14) rfl k) ?_
                      refine Go.st (S' := T786.setTop (mkF m 45 A798 [])) (fun t k => XS.icmpYes X786.here hx rfl (pc0 := 15) (pc' := 45) rfl (hb hby dprog_30_method_8_code_15) rfl (flt (by decide : (¬ ((10 : Int32) < (10 : Int32))))).2.1 (by decide) (by decide) k) ?_
                      refine Go.st (S' := T786.setTop (mkF m 46 A798 [.null])) (fun t k => XS.aloadN X786.here hx rfl (hb hby dprog_30_method_8_code_45) rfl rfl k) ?_
                      exact Go.ret X786 (v := some .null) (fun h => by rw [Bd.returns] at h; cases h) Bd.notSynchronized (fun fs hr => retOut X786 hx Bd.returns rfl (Or.inr (Or.inr (Or.inr (Or.inr ⟨rfl, rfl, rfl⟩)))) (hb hby dprog_30_method_8_code_46) hr) (by decide) (by decide) ((Or.inr (Or.inr (Or.inr (Or.inr (Or.inr (Or.inr (Or.inr (Or.inr (Or.inr (Or.inr ⟨hc156, hc283, hc396, hc495, hc580, hc651, hc708, hc751, hc780, hc795, rfl, N0, (e786)⟩)))))))))))
theorem ef_2 (m : MethodId) (p0 : Int32) : entryFrame m #[(.int p0)] 1 = mkF m 0 #[.val (.int p0)] [] := by first | (simp [entryFrame, mkF, argsToLocals, Value.category, maxLocals]; done) | rfl
def Q2 (Z : State) (p0 : Int32) (s_RequestType_ADD : Addr) (s_RequestType_READ : Addr) (s_RequestType_STATS : Addr) (s_RequestType_FENCE : Addr) (s_RequestType_RECOVERY_READ : Addr) (s_RequestType_RECOVERY_ADD : Addr) (s_RequestType_READ_LAC : Addr) (s_RequestType_WRITE_LAC : Addr) (s_RequestType_WAIT_LAC : Addr) (s_RequestType_READ_RANGE : Addr) (h0 : Heap) (n0 : Nat) (v : Option Value) (h : Heap) (L : List Loc) : Prop := ((p0 = (1 : Int32)) ∧ v = some (.ref s_RequestType_ADD) ∧ Fr n0 L ∧ h = h0) ∨ ((¬ (p0 = (1 : Int32))) ∧ (p0 = (2 : Int32)) ∧ v = some (.ref s_RequestType_READ) ∧ Fr n0 L ∧ h = h0) ∨ ((¬ (p0 = (1 : Int32))) ∧ (¬ (p0 = (2 : Int32))) ∧ (p0 = (3 : Int32)) ∧ v = some (.ref s_RequestType_STATS) ∧ Fr n0 L ∧ h = h0) ∨ ((¬ (p0 = (1 : Int32))) ∧ (¬ (p0 = (2 : Int32))) ∧ (¬ (p0 = (3 : Int32))) ∧ (p0 = (4 : Int32)) ∧ v = some (.ref s_RequestType_FENCE) ∧ Fr n0 L ∧ h = h0) ∨ ((¬ (p0 = (1 : Int32))) ∧ (¬ (p0 = (2 : Int32))) ∧ (¬ (p0 = (3 : Int32))) ∧ (¬ (p0 = (4 : Int32))) ∧ (p0 = (5 : Int32)) ∧ v = some (.ref s_RequestType_RECOVERY_READ) ∧ Fr n0 L ∧ h = h0) ∨ ((¬ (p0 = (1 : Int32))) ∧ (¬ (p0 = (2 : Int32))) ∧ (¬ (p0 = (3 : Int32))) ∧ (¬ (p0 = (4 : Int32))) ∧ (¬ (p0 = (5 : Int32))) ∧ (p0 = (6 : Int32)) ∧ v = some (.ref s_RequestType_RECOVERY_ADD) ∧ Fr n0 L ∧ h = h0) ∨ ((¬ (p0 = (1 : Int32))) ∧ (¬ (p0 = (2 : Int32))) ∧ (¬ (p0 = (3 : Int32))) ∧ (¬ (p0 = (4 : Int32))) ∧ (¬ (p0 = (5 : Int32))) ∧ (¬ (p0 = (6 : Int32))) ∧ (p0 = (7 : Int32)) ∧ v = some (.ref s_RequestType_READ_LAC) ∧ Fr n0 L ∧ h = h0) ∨ ((¬ (p0 = (1 : Int32))) ∧ (¬ (p0 = (2 : Int32))) ∧ (¬ (p0 = (3 : Int32))) ∧ (¬ (p0 = (4 : Int32))) ∧ (¬ (p0 = (5 : Int32))) ∧ (¬ (p0 = (6 : Int32))) ∧ (¬ (p0 = (7 : Int32))) ∧ (p0 = (8 : Int32)) ∧ v = some (.ref s_RequestType_WRITE_LAC) ∧ Fr n0 L ∧ h = h0) ∨ ((¬ (p0 = (1 : Int32))) ∧ (¬ (p0 = (2 : Int32))) ∧ (¬ (p0 = (3 : Int32))) ∧ (¬ (p0 = (4 : Int32))) ∧ (¬ (p0 = (5 : Int32))) ∧ (¬ (p0 = (6 : Int32))) ∧ (¬ (p0 = (7 : Int32))) ∧ (¬ (p0 = (8 : Int32))) ∧ (p0 = (9 : Int32)) ∧ v = some (.ref s_RequestType_WAIT_LAC) ∧ Fr n0 L ∧ h = h0) ∨ ((¬ (p0 = (1 : Int32))) ∧ (¬ (p0 = (2 : Int32))) ∧ (¬ (p0 = (3 : Int32))) ∧ (¬ (p0 = (4 : Int32))) ∧ (¬ (p0 = (5 : Int32))) ∧ (¬ (p0 = (6 : Int32))) ∧ (¬ (p0 = (7 : Int32))) ∧ (¬ (p0 = (8 : Int32))) ∧ (¬ (p0 = (9 : Int32))) ∧ (p0 = (10 : Int32)) ∧ v = some (.ref s_RequestType_READ_RANGE) ∧ Fr n0 L ∧ h = h0) ∨ ((¬ (p0 = (1 : Int32))) ∧ (¬ (p0 = (2 : Int32))) ∧ (¬ (p0 = (3 : Int32))) ∧ (¬ (p0 = (4 : Int32))) ∧ (¬ (p0 = (5 : Int32))) ∧ (¬ (p0 = (6 : Int32))) ∧ (¬ (p0 = (7 : Int32))) ∧ (¬ (p0 = (8 : Int32))) ∧ (¬ (p0 = (9 : Int32))) ∧ (¬ (p0 = (10 : Int32))) ∧ v = some .null ∧ Fr n0 L ∧ h = h0)
set_option maxRecDepth 65536 in
set_option maxHeartbeats 40000000 in
theorem rm2 (l : Launch) (Z : State) (a0 : Array Value) (hw : ∀ d ∈ tables_1, d.before a0 Z = true) (ws : List Jvm.Cond) (p0 : Int32) (s_RequestType_ADD : Addr) (s_RequestType_READ : Addr) (s_RequestType_STATS : Addr) (s_RequestType_FENCE : Addr) (s_RequestType_RECOVERY_READ : Addr) (s_RequestType_RECOVERY_ADD : Addr) (s_RequestType_READ_LAC : Addr) (s_RequestType_WRITE_LAC : Addr) (s_RequestType_WAIT_LAC : Addr) (s_RequestType_READ_RANGE : Addr) (h0 : Heap) (n0 : Nat) (Z0 : n0 ≤ h0.size) (S_s_RequestType_ADD : Sta Z h0 "com/example/hale_ledger/haleledger/protocol/RequestType" "ADD" "Lcom/example/hale_ledger/haleledger/protocol/RequestType;" (.ref s_RequestType_ADD)) (S_s_RequestType_READ : Sta Z h0 "com/example/hale_ledger/haleledger/protocol/RequestType" "READ" "Lcom/example/hale_ledger/haleledger/protocol/RequestType;" (.ref s_RequestType_READ)) (S_s_RequestType_STATS : Sta Z h0 "com/example/hale_ledger/haleledger/protocol/RequestType" "STATS" "Lcom/example/hale_ledger/haleledger/protocol/RequestType;" (.ref s_RequestType_STATS)) (S_s_RequestType_FENCE : Sta Z h0 "com/example/hale_ledger/haleledger/protocol/RequestType" "FENCE" "Lcom/example/hale_ledger/haleledger/protocol/RequestType;" (.ref s_RequestType_FENCE)) (S_s_RequestType_RECOVERY_READ : Sta Z h0 "com/example/hale_ledger/haleledger/protocol/RequestType" "RECOVERY_READ" "Lcom/example/hale_ledger/haleledger/protocol/RequestType;" (.ref s_RequestType_RECOVERY_READ)) (S_s_RequestType_RECOVERY_ADD : Sta Z h0 "com/example/hale_ledger/haleledger/protocol/RequestType" "RECOVERY_ADD" "Lcom/example/hale_ledger/haleledger/protocol/RequestType;" (.ref s_RequestType_RECOVERY_ADD)) (S_s_RequestType_READ_LAC : Sta Z h0 "com/example/hale_ledger/haleledger/protocol/RequestType" "READ_LAC" "Lcom/example/hale_ledger/haleledger/protocol/RequestType;" (.ref s_RequestType_READ_LAC)) (S_s_RequestType_WRITE_LAC : Sta Z h0 "com/example/hale_ledger/haleledger/protocol/RequestType" "WRITE_LAC" "Lcom/example/hale_ledger/haleledger/protocol/RequestType;" (.ref s_RequestType_WRITE_LAC)) (S_s_RequestType_WAIT_LAC : Sta Z h0 "com/example/hale_ledger/haleledger/protocol/RequestType" "WAIT_LAC" "Lcom/example/hale_ledger/haleledger/protocol/RequestType;" (.ref s_RequestType_WAIT_LAC)) (S_s_RequestType_READ_RANGE : Sta Z h0 "com/example/hale_ledger/haleledger/protocol/RequestType" "READ_RANGE" "Lcom/example/hale_ledger/haleledger/protocol/RequestType;" (.ref s_RequestType_READ_RANGE)) :
    Con l Z (⟨"com/example/hale_ledger/haleledger/protocol/RequestTypeOfCodePinLaw", "expected", "(I)Lcom/example/hale_ledger/haleledger/protocol/RequestType;"⟩ : MethodName) method_2_code 1 (some (.object "com/example/hale_ledger/haleledger/protocol/RequestType")) ws ({ frames := 0, cells := 0, slots := 0, locals := 0 } : Room) #[(.int p0)] h0 0 0 (Q2 Z p0 s_RequestType_ADD s_RequestType_READ s_RequestType_STATS s_RequestType_FENCE s_RequestType_RECOVERY_READ s_RequestType_RECOVERY_ADD s_RequestType_READ_LAC s_RequestType_WRITE_LAC s_RequestType_WAIT_LAC s_RequestType_READ_RANGE h0 n0) := by
  refine MetFree.of_bodySF (plainFor_of_name pn_1) hisR ?_
  intro p e s m args below meth c s₁ Bd hml0 hP hK
  obtain ⟨rfl, hZ, hh⟩ := hP
  have hx := Bd.exec
  have hby := Bd.bytes
  have hml : c.maxLocals = 1 := hml0
  have hown : s.vm.findClass "com/example/hale_ledger/haleledger/protocol/RequestTypeOfCodePinLaw" = some m.cls := findClass_of_methodNamed Bd.named
  have hnm := (name_of_methodNamed Bd.named Bd.method).1
  have X0 : Stand p l e ({ frames := 0, cells := 0, slots := 0, locals := 0 } : Room) s m #[(.int p0)] below meth c s₁ [] 0 0 := Stand.of_body Bd
  have e0 : s₁.heap = h0 := by rw [← hh, Bd.state]; rfl
  have N0 := Fr.nil n0
  refine Go.of ?_
  refine Go.st (S' := s₁.setTop (mkF m 0 #[.val (.int p0)] [])) (fun t k => castTop (ef_2 m p0) k) ?_
  refine Go.st (S' := s₁.setTop (mkF m 1 #[.val (.int p0)] [(.int p0)])) (fun t k => XS.iloadN X0.here hx rfl (hb hby dmethod_2_code_0) rfl k) ?_
  refine Go.st (S' := s₁.setTop (mkF m 2 #[.val (.int p0)] [(.int (1 : Int32)), (.int p0)])) (fun t k => XS.iconst X0.here hx rfl (hb hby dmethod_2_code_1) k) ?_
  by_cases hc802 : (p0 = (1 : Int32))
  · refine Go.st (S' := s₁.setTop (mkF m 5 #[.val (.int p0)] [])) (fun t k => XS.icmpNo X0.here hx rfl (hb hby dmethod_2_code_2) rfl (teq hc802).2 k) ?_
    obtain ⟨T803, X803, e803, st803⟩ := getS X0 hx hZ hown (hw _ (List.mem_of_getElem? (i := 33) rfl)) Via.refl e0 S_s_RequestType_ADD (host := "") (g := (mkF m 5 #[.val (.int p0)] [])) rfl (hb hby dmethod_2_code_5)
    refine Go.st (S' := T803.setTop (mkF m 8 #[.val (.int p0)] [(.ref s_RequestType_ADD)])) st803 ?_
    exact Go.ret X803 (v := some (.ref s_RequestType_ADD)) (fun h => by rw [Bd.returns] at h; cases h) Bd.notSynchronized (fun fs hr => retOut X803 hx Bd.returns rfl (Or.inr (Or.inr (Or.inr (Or.inr ⟨rfl, rfl, rfl⟩)))) (hb hby dmethod_2_code_8) hr) (by decide) (by decide) ((Or.inl ⟨hc802, rfl, N0, (e803)⟩))
  · refine Go.st (S' := s₁.setTop (mkF m 9 #[.val (.int p0)] [])) (fun t k => XS.icmpYes X0.here hx rfl (pc0 := 2) (pc' := 9) rfl (hb hby dmethod_2_code_2) rfl (feq hc802).2 (by decide) (by decide) k) ?_
    refine Go.st (S' := s₁.setTop (mkF m 10 #[.val (.int p0)] [(.int p0)])) (fun t k => XS.iloadN X0.here hx rfl (hb hby dmethod_2_code_9) rfl k) ?_
    refine Go.st (S' := s₁.setTop (mkF m 11 #[.val (.int p0)] [(.int (2 : Int32)), (.int p0)])) (fun t k => XS.iconst X0.here hx rfl (hb hby dmethod_2_code_10) k) ?_
    by_cases hc804 : (p0 = (2 : Int32))
    · refine Go.st (S' := s₁.setTop (mkF m 14 #[.val (.int p0)] [])) (fun t k => XS.icmpNo X0.here hx rfl (hb hby dmethod_2_code_11) rfl (teq hc804).2 k) ?_
      obtain ⟨T805, X805, e805, st805⟩ := getS X0 hx hZ hown (hw _ (List.mem_of_getElem? (i := 35) rfl)) Via.refl e0 S_s_RequestType_READ (host := "") (g := (mkF m 14 #[.val (.int p0)] [])) rfl (hb hby dmethod_2_code_14)
      refine Go.st (S' := T805.setTop (mkF m 17 #[.val (.int p0)] [(.ref s_RequestType_READ)])) st805 ?_
      exact Go.ret X805 (v := some (.ref s_RequestType_READ)) (fun h => by rw [Bd.returns] at h; cases h) Bd.notSynchronized (fun fs hr => retOut X805 hx Bd.returns rfl (Or.inr (Or.inr (Or.inr (Or.inr ⟨rfl, rfl, rfl⟩)))) (hb hby dmethod_2_code_17) hr) (by decide) (by decide) ((Or.inr (Or.inl ⟨hc802, hc804, rfl, N0, (e805)⟩)))
    · refine Go.st (S' := s₁.setTop (mkF m 18 #[.val (.int p0)] [])) (fun t k => XS.icmpYes X0.here hx rfl (pc0 := 11) (pc' := 18) rfl (hb hby dmethod_2_code_11) rfl (feq hc804).2 (by decide) (by decide) k) ?_
      refine Go.st (S' := s₁.setTop (mkF m 19 #[.val (.int p0)] [(.int p0)])) (fun t k => XS.iloadN X0.here hx rfl (hb hby dmethod_2_code_18) rfl k) ?_
      refine Go.st (S' := s₁.setTop (mkF m 20 #[.val (.int p0)] [(.int (3 : Int32)), (.int p0)])) (fun t k => XS.iconst X0.here hx rfl (hb hby dmethod_2_code_19) k) ?_
      by_cases hc806 : (p0 = (3 : Int32))
      · refine Go.st (S' := s₁.setTop (mkF m 23 #[.val (.int p0)] [])) (fun t k => XS.icmpNo X0.here hx rfl (hb hby dmethod_2_code_20) rfl (teq hc806).2 k) ?_
        obtain ⟨T807, X807, e807, st807⟩ := getS X0 hx hZ hown (hw _ (List.mem_of_getElem? (i := 31) rfl)) Via.refl e0 S_s_RequestType_STATS (host := "") (g := (mkF m 23 #[.val (.int p0)] [])) rfl (hb hby dmethod_2_code_23)
        refine Go.st (S' := T807.setTop (mkF m 26 #[.val (.int p0)] [(.ref s_RequestType_STATS)])) st807 ?_
        exact Go.ret X807 (v := some (.ref s_RequestType_STATS)) (fun h => by rw [Bd.returns] at h; cases h) Bd.notSynchronized (fun fs hr => retOut X807 hx Bd.returns rfl (Or.inr (Or.inr (Or.inr (Or.inr ⟨rfl, rfl, rfl⟩)))) (hb hby dmethod_2_code_26) hr) (by decide) (by decide) ((Or.inr (Or.inr (Or.inl ⟨hc802, hc804, hc806, rfl, N0, (e807)⟩))))
      · refine Go.st (S' := s₁.setTop (mkF m 27 #[.val (.int p0)] [])) (fun t k => XS.icmpYes X0.here hx rfl (pc0 := 20) (pc' := 27) rfl (hb hby dmethod_2_code_20) rfl (feq hc806).2 (by decide) (by decide) k) ?_
        refine Go.st (S' := s₁.setTop (mkF m 28 #[.val (.int p0)] [(.int p0)])) (fun t k => XS.iloadN X0.here hx rfl (hb hby dmethod_2_code_27) rfl k) ?_
        refine Go.st (S' := s₁.setTop (mkF m 29 #[.val (.int p0)] [(.int (4 : Int32)), (.int p0)])) (fun t k => XS.iconst X0.here hx rfl (hb hby dmethod_2_code_28) k) ?_
        by_cases hc808 : (p0 = (4 : Int32))
        · refine Go.st (S' := s₁.setTop (mkF m 32 #[.val (.int p0)] [])) (fun t k => XS.icmpNo X0.here hx rfl (hb hby dmethod_2_code_29) rfl (teq hc808).2 k) ?_
          obtain ⟨T809, X809, e809, st809⟩ := getS X0 hx hZ hown (hw _ (List.mem_of_getElem? (i := 28) rfl)) Via.refl e0 S_s_RequestType_FENCE (host := "") (g := (mkF m 32 #[.val (.int p0)] [])) rfl (hb hby dmethod_2_code_32)
          refine Go.st (S' := T809.setTop (mkF m 35 #[.val (.int p0)] [(.ref s_RequestType_FENCE)])) st809 ?_
          exact Go.ret X809 (v := some (.ref s_RequestType_FENCE)) (fun h => by rw [Bd.returns] at h; cases h) Bd.notSynchronized (fun fs hr => retOut X809 hx Bd.returns rfl (Or.inr (Or.inr (Or.inr (Or.inr ⟨rfl, rfl, rfl⟩)))) (hb hby dmethod_2_code_35) hr) (by decide) (by decide) ((Or.inr (Or.inr (Or.inr (Or.inl ⟨hc802, hc804, hc806, hc808, rfl, N0, (e809)⟩)))))
        · refine Go.st (S' := s₁.setTop (mkF m 36 #[.val (.int p0)] [])) (fun t k => XS.icmpYes X0.here hx rfl (pc0 := 29) (pc' := 36) rfl (hb hby dmethod_2_code_29) rfl (feq hc808).2 (by decide) (by decide) k) ?_
          refine Go.st (S' := s₁.setTop (mkF m 37 #[.val (.int p0)] [(.int p0)])) (fun t k => XS.iloadN X0.here hx rfl (hb hby dmethod_2_code_36) rfl k) ?_
          refine Go.st (S' := s₁.setTop (mkF m 38 #[.val (.int p0)] [(.int (5 : Int32)), (.int p0)])) (fun t k => XS.iconst X0.here hx rfl (hb hby dmethod_2_code_37) k) ?_
          by_cases hc810 : (p0 = (5 : Int32))
          · refine Go.st (S' := s₁.setTop (mkF m 41 #[.val (.int p0)] [])) (fun t k => XS.icmpNo X0.here hx rfl (hb hby dmethod_2_code_38) rfl (teq hc810).2 k) ?_
            obtain ⟨T811, X811, e811, st811⟩ := getS X0 hx hZ hown (hw _ (List.mem_of_getElem? (i := 30) rfl)) Via.refl e0 S_s_RequestType_RECOVERY_READ (host := "") (g := (mkF m 41 #[.val (.int p0)] [])) rfl (hb hby dmethod_2_code_41)
            refine Go.st (S' := T811.setTop (mkF m 44 #[.val (.int p0)] [(.ref s_RequestType_RECOVERY_READ)])) st811 ?_
            exact Go.ret X811 (v := some (.ref s_RequestType_RECOVERY_READ)) (fun h => by rw [Bd.returns] at h; cases h) Bd.notSynchronized (fun fs hr => retOut X811 hx Bd.returns rfl (Or.inr (Or.inr (Or.inr (Or.inr ⟨rfl, rfl, rfl⟩)))) (hb hby dmethod_2_code_44) hr) (by decide) (by decide) ((Or.inr (Or.inr (Or.inr (Or.inr (Or.inl ⟨hc802, hc804, hc806, hc808, hc810, rfl, N0, (e811)⟩))))))
          · refine Go.st (S' := s₁.setTop (mkF m 45 #[.val (.int p0)] [])) (fun t k => XS.icmpYes X0.here hx rfl (pc0 := 38) (pc' := 45) rfl (hb hby dmethod_2_code_38) rfl (feq hc810).2 (by decide) (by decide) k) ?_
            refine Go.st (S' := s₁.setTop (mkF m 46 #[.val (.int p0)] [(.int p0)])) (fun t k => XS.iloadN X0.here hx rfl (hb hby dmethod_2_code_45) rfl k) ?_
            refine Go.st (S' := s₁.setTop (mkF m 48 #[.val (.int p0)] [(.int (6 : Int32)), (.int p0)])) (fun t k => XS.bipush X0.here hx rfl (hb hby dmethod_2_code_46) k) ?_
            by_cases hc812 : (p0 = (6 : Int32))
            · refine Go.st (S' := s₁.setTop (mkF m 51 #[.val (.int p0)] [])) (fun t k => XS.icmpNo X0.here hx rfl (hb hby dmethod_2_code_48) rfl (teq hc812).2 k) ?_
              obtain ⟨T813, X813, e813, st813⟩ := getS X0 hx hZ hown (hw _ (List.mem_of_getElem? (i := 22) rfl)) Via.refl e0 S_s_RequestType_RECOVERY_ADD (host := "") (g := (mkF m 51 #[.val (.int p0)] [])) rfl (hb hby dmethod_2_code_51)
              refine Go.st (S' := T813.setTop (mkF m 54 #[.val (.int p0)] [(.ref s_RequestType_RECOVERY_ADD)])) st813 ?_
              exact Go.ret X813 (v := some (.ref s_RequestType_RECOVERY_ADD)) (fun h => by rw [Bd.returns] at h; cases h) Bd.notSynchronized (fun fs hr => retOut X813 hx Bd.returns rfl (Or.inr (Or.inr (Or.inr (Or.inr ⟨rfl, rfl, rfl⟩)))) (hb hby dmethod_2_code_54) hr) (by decide) (by decide) ((Or.inr (Or.inr (Or.inr (Or.inr (Or.inr (Or.inl ⟨hc802, hc804, hc806, hc808, hc810, hc812, rfl, N0, (e813)⟩)))))))
            · refine Go.st (S' := s₁.setTop (mkF m 55 #[.val (.int p0)] [])) (fun t k => XS.icmpYes X0.here hx rfl (pc0 := 48) (pc' := 55) rfl (hb hby dmethod_2_code_48) rfl (feq hc812).2 (by decide) (by decide) k) ?_
              refine Go.st (S' := s₁.setTop (mkF m 56 #[.val (.int p0)] [(.int p0)])) (fun t k => XS.iloadN X0.here hx rfl (hb hby dmethod_2_code_55) rfl k) ?_
              refine Go.st (S' := s₁.setTop (mkF m 58 #[.val (.int p0)] [(.int (7 : Int32)), (.int p0)])) (fun t k => XS.bipush X0.here hx rfl (hb hby dmethod_2_code_56) k) ?_
              by_cases hc814 : (p0 = (7 : Int32))
              · refine Go.st (S' := s₁.setTop (mkF m 61 #[.val (.int p0)] [])) (fun t k => XS.icmpNo X0.here hx rfl (hb hby dmethod_2_code_58) rfl (teq hc814).2 k) ?_
                obtain ⟨T815, X815, e815, st815⟩ := getS X0 hx hZ hown (hw _ (List.mem_of_getElem? (i := 36) rfl)) Via.refl e0 S_s_RequestType_READ_LAC (host := "") (g := (mkF m 61 #[.val (.int p0)] [])) rfl (hb hby dmethod_2_code_61)
                refine Go.st (S' := T815.setTop (mkF m 64 #[.val (.int p0)] [(.ref s_RequestType_READ_LAC)])) st815 ?_
                exact Go.ret X815 (v := some (.ref s_RequestType_READ_LAC)) (fun h => by rw [Bd.returns] at h; cases h) Bd.notSynchronized (fun fs hr => retOut X815 hx Bd.returns rfl (Or.inr (Or.inr (Or.inr (Or.inr ⟨rfl, rfl, rfl⟩)))) (hb hby dmethod_2_code_64) hr) (by decide) (by decide) ((Or.inr (Or.inr (Or.inr (Or.inr (Or.inr (Or.inr (Or.inl ⟨hc802, hc804, hc806, hc808, hc810, hc812, hc814, rfl, N0, (e815)⟩))))))))
              · refine Go.st (S' := s₁.setTop (mkF m 65 #[.val (.int p0)] [])) (fun t k => XS.icmpYes X0.here hx rfl (pc0 := 58) (pc' := 65) rfl (hb hby dmethod_2_code_58) rfl (feq hc814).2 (by decide) (by decide) k) ?_
                refine Go.st (S' := s₁.setTop (mkF m 66 #[.val (.int p0)] [(.int p0)])) (fun t k => XS.iloadN X0.here hx rfl (hb hby dmethod_2_code_65) rfl k) ?_
                refine Go.st (S' := s₁.setTop (mkF m 68 #[.val (.int p0)] [(.int (8 : Int32)), (.int p0)])) (fun t k => XS.bipush X0.here hx rfl (hb hby dmethod_2_code_66) k) ?_
                by_cases hc816 : (p0 = (8 : Int32))
                · refine Go.st (S' := s₁.setTop (mkF m 71 #[.val (.int p0)] [])) (fun t k => XS.icmpNo X0.here hx rfl (hb hby dmethod_2_code_68) rfl (teq hc816).2 k) ?_
                  obtain ⟨T817, X817, e817, st817⟩ := getS X0 hx hZ hown (hw _ (List.mem_of_getElem? (i := 29) rfl)) Via.refl e0 S_s_RequestType_WRITE_LAC (host := "") (g := (mkF m 71 #[.val (.int p0)] [])) rfl (hb hby dmethod_2_code_71)
                  refine Go.st (S' := T817.setTop (mkF m 74 #[.val (.int p0)] [(.ref s_RequestType_WRITE_LAC)])) st817 ?_
                  exact Go.ret X817 (v := some (.ref s_RequestType_WRITE_LAC)) (fun h => by rw [Bd.returns] at h; cases h) Bd.notSynchronized (fun fs hr => retOut X817 hx Bd.returns rfl (Or.inr (Or.inr (Or.inr (Or.inr ⟨rfl, rfl, rfl⟩)))) (hb hby dmethod_2_code_74) hr) (by decide) (by decide) ((Or.inr (Or.inr (Or.inr (Or.inr (Or.inr (Or.inr (Or.inr (Or.inl ⟨hc802, hc804, hc806, hc808, hc810, hc812, hc814, hc816, rfl, N0, (e817)⟩)))))))))
                · refine Go.st (S' := s₁.setTop (mkF m 75 #[.val (.int p0)] [])) (fun t k => XS.icmpYes X0.here hx rfl (pc0 := 68) (pc' := 75) rfl (hb hby dmethod_2_code_68) rfl (feq hc816).2 (by decide) (by decide) k) ?_
                  refine Go.st (S' := s₁.setTop (mkF m 76 #[.val (.int p0)] [(.int p0)])) (fun t k => XS.iloadN X0.here hx rfl (hb hby dmethod_2_code_75) rfl k) ?_
                  refine Go.st (S' := s₁.setTop (mkF m 78 #[.val (.int p0)] [(.int (9 : Int32)), (.int p0)])) (fun t k => XS.bipush X0.here hx rfl (hb hby dmethod_2_code_76) k) ?_
                  by_cases hc818 : (p0 = (9 : Int32))
                  · refine Go.st (S' := s₁.setTop (mkF m 81 #[.val (.int p0)] [])) (fun t k => XS.icmpNo X0.here hx rfl (hb hby dmethod_2_code_78) rfl (teq hc818).2 k) ?_
                    obtain ⟨T819, X819, e819, st819⟩ := getS X0 hx hZ hown (hw _ (List.mem_of_getElem? (i := 34) rfl)) Via.refl e0 S_s_RequestType_WAIT_LAC (host := "") (g := (mkF m 81 #[.val (.int p0)] [])) rfl (hb hby dmethod_2_code_81)
                    refine Go.st (S' := T819.setTop (mkF m 84 #[.val (.int p0)] [(.ref s_RequestType_WAIT_LAC)])) st819 ?_
                    exact Go.ret X819 (v := some (.ref s_RequestType_WAIT_LAC)) (fun h => by rw [Bd.returns] at h; cases h) Bd.notSynchronized (fun fs hr => retOut X819 hx Bd.returns rfl (Or.inr (Or.inr (Or.inr (Or.inr ⟨rfl, rfl, rfl⟩)))) (hb hby dmethod_2_code_84) hr) (by decide) (by decide) ((Or.inr (Or.inr (Or.inr (Or.inr (Or.inr (Or.inr (Or.inr (Or.inr (Or.inl ⟨hc802, hc804, hc806, hc808, hc810, hc812, hc814, hc816, hc818, rfl, N0, (e819)⟩))))))))))
                  · refine Go.st (S' := s₁.setTop (mkF m 85 #[.val (.int p0)] [])) (fun t k => XS.icmpYes X0.here hx rfl (pc0 := 78) (pc' := 85) rfl (hb hby dmethod_2_code_78) rfl (feq hc818).2 (by decide) (by decide) k) ?_
                    refine Go.st (S' := s₁.setTop (mkF m 86 #[.val (.int p0)] [(.int p0)])) (fun t k => XS.iloadN X0.here hx rfl (hb hby dmethod_2_code_85) rfl k) ?_
                    refine Go.st (S' := s₁.setTop (mkF m 88 #[.val (.int p0)] [(.int (10 : Int32)), (.int p0)])) (fun t k => XS.bipush X0.here hx rfl (hb hby dmethod_2_code_86) k) ?_
                    by_cases hc820 : (p0 = (10 : Int32))
                    · refine Go.st (S' := s₁.setTop (mkF m 91 #[.val (.int p0)] [])) (fun t k => XS.icmpNo X0.here hx rfl (hb hby dmethod_2_code_88) rfl (teq hc820).2 k) ?_
                      obtain ⟨T821, X821, e821, st821⟩ := getS X0 hx hZ hown (hw _ (List.mem_of_getElem? (i := 32) rfl)) Via.refl e0 S_s_RequestType_READ_RANGE (host := "") (g := (mkF m 91 #[.val (.int p0)] [])) rfl (hb hby dmethod_2_code_91)
                      refine Go.st (S' := T821.setTop (mkF m 94 #[.val (.int p0)] [(.ref s_RequestType_READ_RANGE)])) st821 ?_
                      exact Go.ret X821 (v := some (.ref s_RequestType_READ_RANGE)) (fun h => by rw [Bd.returns] at h; cases h) Bd.notSynchronized (fun fs hr => retOut X821 hx Bd.returns rfl (Or.inr (Or.inr (Or.inr (Or.inr ⟨rfl, rfl, rfl⟩)))) (hb hby dmethod_2_code_94) hr) (by decide) (by decide) ((Or.inr (Or.inr (Or.inr (Or.inr (Or.inr (Or.inr (Or.inr (Or.inr (Or.inr (Or.inl ⟨hc802, hc804, hc806, hc808, hc810, hc812, hc814, hc816, hc818, hc820, rfl, N0, (e821)⟩)))))))))))
                    · refine Go.st (S' := s₁.setTop (mkF m 95 #[.val (.int p0)] [])) (fun t k => XS.icmpYes X0.here hx rfl (pc0 := 88) (pc' := 95) rfl (hb hby dmethod_2_code_88) rfl (feq hc820).2 (by decide) (by decide) k) ?_
                      refine Go.st (S' := s₁.setTop (mkF m 96 #[.val (.int p0)] [.null])) (fun t k => XS.aconstNull X0.here hx rfl (hb hby dmethod_2_code_95) k) ?_
                      exact Go.ret X0 (v := some .null) (fun h => by rw [Bd.returns] at h; cases h) Bd.notSynchronized (fun fs hr => retOut X0 hx Bd.returns rfl (Or.inr (Or.inr (Or.inr (Or.inr ⟨rfl, rfl, rfl⟩)))) (hb hby dmethod_2_code_96) hr) (by decide) (by decide) ((Or.inr (Or.inr (Or.inr (Or.inr (Or.inr (Or.inr (Or.inr (Or.inr (Or.inr (Or.inr ⟨hc802, hc804, hc806, hc808, hc810, hc812, hc814, hc816, hc818, hc820, rfl, N0, (e0)⟩)))))))))))
theorem ef_3 (m : MethodId) (s_RequestType_ADD : Addr) : entryFrame m #[(.ref s_RequestType_ADD)] 1 = mkF m 0 #[.val (.ref s_RequestType_ADD)] [] := by first | (simp [entryFrame, mkF, argsToLocals, Value.category, maxLocals]; done) | rfl
def Q3 (Z : State) (s_RequestType_ADD : Addr) (h0 : Heap) (n0 : Nat) (v : Option Value) (h : Heap) (L : List Loc) : Prop := (v = some (.int (1 : Int32)) ∧ Fr n0 L ∧ h = h0)
set_option maxRecDepth 65536 in
set_option maxHeartbeats 40000000 in
theorem rm3 (l : Launch) (Z : State) (a0 : Array Value) (hw : ∀ d ∈ tables_1, d.before a0 Z = true) (ws : List Jvm.Cond) (s_RequestType_ADD : Addr) (h0 : Heap) (n0 : Nat) (Z0 : n0 ≤ h0.size) (F_s_RequestType_ADD_code : Fld Z h0 s_RequestType_ADD "com/example/hale_ledger/haleledger/protocol/RequestType" "code" "I" (.int (1 : Int32))) :
    Con l Z (⟨"com/example/hale_ledger/haleledger/protocol/RequestType", "code", "()I"⟩ : MethodName) prog_30_method_4_code 1 (some .int) ws ({ frames := 0, cells := 0, slots := 0, locals := 0 } : Room) #[(.ref s_RequestType_ADD)] h0 0 0 (Q3 Z s_RequestType_ADD h0 n0) := by
  refine MetFree.of_bodySF (plainFor_of_name pn_0) hisR ?_
  intro p e s m args below meth c s₁ Bd hml0 hP hK
  obtain ⟨rfl, hZ, hh⟩ := hP
  have hx := Bd.exec
  have hby := Bd.bytes
  have hml : c.maxLocals = 1 := hml0
  have hown : s.vm.findClass "com/example/hale_ledger/haleledger/protocol/RequestType" = some m.cls := findClass_of_methodNamed Bd.named
  have hnm := (name_of_methodNamed Bd.named Bd.method).1
  have X0 : Stand p l e ({ frames := 0, cells := 0, slots := 0, locals := 0 } : Room) s m #[(.ref s_RequestType_ADD)] below meth c s₁ [] 0 0 := Stand.of_body Bd
  have e0 : s₁.heap = h0 := by rw [← hh, Bd.state]; rfl
  have N0 := Fr.nil n0
  refine Go.of ?_
  refine Go.st (S' := s₁.setTop (mkF m 0 #[.val (.ref s_RequestType_ADD)] [])) (fun t k => castTop (ef_3 m s_RequestType_ADD) k) ?_
  refine Go.st (S' := s₁.setTop (mkF m 1 #[.val (.ref s_RequestType_ADD)] [(.ref s_RequestType_ADD)])) (fun t k => XS.aloadN X0.here hx rfl (hb hby dprog_30_method_4_code_0) rfl rfl k) ?_
  obtain ⟨T825, X825, e825, st825⟩ := getF X0 hx hZ hown (host := "") (Or.inl (hw _ (List.mem_of_getElem? (i := 7) rfl))) Via.refl e0 F_s_RequestType_ADD_code (g := (mkF m 1 #[.val (.ref s_RequestType_ADD)] [(.ref s_RequestType_ADD)])) rfl rfl (hb hby dprog_30_method_4_code_1)
  refine Go.st (S' := T825.setTop (mkF m 4 #[.val (.ref s_RequestType_ADD)] [(.int (1 : Int32))])) st825 ?_
  exact Go.ret X825 (v := some (.int (1 : Int32))) (fun h => by rw [Bd.returns] at h; cases h) Bd.notSynchronized (fun fs hr => retI X825 hx Bd.returns (hb hby dprog_30_method_4_code_4) hr) (by decide) (by decide) (⟨rfl, N0, (e825)⟩)
theorem ef_4 (m : MethodId) (s_RequestType_READ : Addr) : entryFrame m #[(.ref s_RequestType_READ)] 1 = mkF m 0 #[.val (.ref s_RequestType_READ)] [] := by first | (simp [entryFrame, mkF, argsToLocals, Value.category, maxLocals]; done) | rfl
def Q4 (Z : State) (s_RequestType_READ : Addr) (h0 : Heap) (n0 : Nat) (v : Option Value) (h : Heap) (L : List Loc) : Prop := (v = some (.int (2 : Int32)) ∧ Fr n0 L ∧ h = h0)
set_option maxRecDepth 65536 in
set_option maxHeartbeats 40000000 in
theorem rm4 (l : Launch) (Z : State) (a0 : Array Value) (hw : ∀ d ∈ tables_1, d.before a0 Z = true) (ws : List Jvm.Cond) (s_RequestType_READ : Addr) (h0 : Heap) (n0 : Nat) (Z0 : n0 ≤ h0.size) (F_s_RequestType_READ_code : Fld Z h0 s_RequestType_READ "com/example/hale_ledger/haleledger/protocol/RequestType" "code" "I" (.int (2 : Int32))) :
    Con l Z (⟨"com/example/hale_ledger/haleledger/protocol/RequestType", "code", "()I"⟩ : MethodName) prog_30_method_4_code 1 (some .int) ws ({ frames := 0, cells := 0, slots := 0, locals := 0 } : Room) #[(.ref s_RequestType_READ)] h0 0 0 (Q4 Z s_RequestType_READ h0 n0) := by
  refine MetFree.of_bodySF (plainFor_of_name pn_0) hisR ?_
  intro p e s m args below meth c s₁ Bd hml0 hP hK
  obtain ⟨rfl, hZ, hh⟩ := hP
  have hx := Bd.exec
  have hby := Bd.bytes
  have hml : c.maxLocals = 1 := hml0
  have hown : s.vm.findClass "com/example/hale_ledger/haleledger/protocol/RequestType" = some m.cls := findClass_of_methodNamed Bd.named
  have hnm := (name_of_methodNamed Bd.named Bd.method).1
  have X0 : Stand p l e ({ frames := 0, cells := 0, slots := 0, locals := 0 } : Room) s m #[(.ref s_RequestType_READ)] below meth c s₁ [] 0 0 := Stand.of_body Bd
  have e0 : s₁.heap = h0 := by rw [← hh, Bd.state]; rfl
  have N0 := Fr.nil n0
  refine Go.of ?_
  refine Go.st (S' := s₁.setTop (mkF m 0 #[.val (.ref s_RequestType_READ)] [])) (fun t k => castTop (ef_4 m s_RequestType_READ) k) ?_
  refine Go.st (S' := s₁.setTop (mkF m 1 #[.val (.ref s_RequestType_READ)] [(.ref s_RequestType_READ)])) (fun t k => XS.aloadN X0.here hx rfl (hb hby dprog_30_method_4_code_0) rfl rfl k) ?_
  obtain ⟨T899, X899, e899, st899⟩ := getF X0 hx hZ hown (host := "") (Or.inl (hw _ (List.mem_of_getElem? (i := 7) rfl))) Via.refl e0 F_s_RequestType_READ_code (g := (mkF m 1 #[.val (.ref s_RequestType_READ)] [(.ref s_RequestType_READ)])) rfl rfl (hb hby dprog_30_method_4_code_1)
  refine Go.st (S' := T899.setTop (mkF m 4 #[.val (.ref s_RequestType_READ)] [(.int (2 : Int32))])) st899 ?_
  exact Go.ret X899 (v := some (.int (2 : Int32))) (fun h => by rw [Bd.returns] at h; cases h) Bd.notSynchronized (fun fs hr => retI X899 hx Bd.returns (hb hby dprog_30_method_4_code_4) hr) (by decide) (by decide) (⟨rfl, N0, (e899)⟩)
theorem ef_5 (m : MethodId) (s_RequestType_STATS : Addr) : entryFrame m #[(.ref s_RequestType_STATS)] 1 = mkF m 0 #[.val (.ref s_RequestType_STATS)] [] := by first | (simp [entryFrame, mkF, argsToLocals, Value.category, maxLocals]; done) | rfl
def Q5 (Z : State) (s_RequestType_STATS : Addr) (h0 : Heap) (n0 : Nat) (v : Option Value) (h : Heap) (L : List Loc) : Prop := (v = some (.int (3 : Int32)) ∧ Fr n0 L ∧ h = h0)
set_option maxRecDepth 65536 in
set_option maxHeartbeats 40000000 in
theorem rm5 (l : Launch) (Z : State) (a0 : Array Value) (hw : ∀ d ∈ tables_1, d.before a0 Z = true) (ws : List Jvm.Cond) (s_RequestType_STATS : Addr) (h0 : Heap) (n0 : Nat) (Z0 : n0 ≤ h0.size) (F_s_RequestType_STATS_code : Fld Z h0 s_RequestType_STATS "com/example/hale_ledger/haleledger/protocol/RequestType" "code" "I" (.int (3 : Int32))) :
    Con l Z (⟨"com/example/hale_ledger/haleledger/protocol/RequestType", "code", "()I"⟩ : MethodName) prog_30_method_4_code 1 (some .int) ws ({ frames := 0, cells := 0, slots := 0, locals := 0 } : Room) #[(.ref s_RequestType_STATS)] h0 0 0 (Q5 Z s_RequestType_STATS h0 n0) := by
  refine MetFree.of_bodySF (plainFor_of_name pn_0) hisR ?_
  intro p e s m args below meth c s₁ Bd hml0 hP hK
  obtain ⟨rfl, hZ, hh⟩ := hP
  have hx := Bd.exec
  have hby := Bd.bytes
  have hml : c.maxLocals = 1 := hml0
  have hown : s.vm.findClass "com/example/hale_ledger/haleledger/protocol/RequestType" = some m.cls := findClass_of_methodNamed Bd.named
  have hnm := (name_of_methodNamed Bd.named Bd.method).1
  have X0 : Stand p l e ({ frames := 0, cells := 0, slots := 0, locals := 0 } : Room) s m #[(.ref s_RequestType_STATS)] below meth c s₁ [] 0 0 := Stand.of_body Bd
  have e0 : s₁.heap = h0 := by rw [← hh, Bd.state]; rfl
  have N0 := Fr.nil n0
  refine Go.of ?_
  refine Go.st (S' := s₁.setTop (mkF m 0 #[.val (.ref s_RequestType_STATS)] [])) (fun t k => castTop (ef_5 m s_RequestType_STATS) k) ?_
  refine Go.st (S' := s₁.setTop (mkF m 1 #[.val (.ref s_RequestType_STATS)] [(.ref s_RequestType_STATS)])) (fun t k => XS.aloadN X0.here hx rfl (hb hby dprog_30_method_4_code_0) rfl rfl k) ?_
  obtain ⟨T975, X975, e975, st975⟩ := getF X0 hx hZ hown (host := "") (Or.inl (hw _ (List.mem_of_getElem? (i := 7) rfl))) Via.refl e0 F_s_RequestType_STATS_code (g := (mkF m 1 #[.val (.ref s_RequestType_STATS)] [(.ref s_RequestType_STATS)])) rfl rfl (hb hby dprog_30_method_4_code_1)
  refine Go.st (S' := T975.setTop (mkF m 4 #[.val (.ref s_RequestType_STATS)] [(.int (3 : Int32))])) st975 ?_
  exact Go.ret X975 (v := some (.int (3 : Int32))) (fun h => by rw [Bd.returns] at h; cases h) Bd.notSynchronized (fun fs hr => retI X975 hx Bd.returns (hb hby dprog_30_method_4_code_4) hr) (by decide) (by decide) (⟨rfl, N0, (e975)⟩)
theorem ef_6 (m : MethodId) (s_RequestType_FENCE : Addr) : entryFrame m #[(.ref s_RequestType_FENCE)] 1 = mkF m 0 #[.val (.ref s_RequestType_FENCE)] [] := by first | (simp [entryFrame, mkF, argsToLocals, Value.category, maxLocals]; done) | rfl
def Q6 (Z : State) (s_RequestType_FENCE : Addr) (h0 : Heap) (n0 : Nat) (v : Option Value) (h : Heap) (L : List Loc) : Prop := (v = some (.int (4 : Int32)) ∧ Fr n0 L ∧ h = h0)
set_option maxRecDepth 65536 in
set_option maxHeartbeats 40000000 in
theorem rm6 (l : Launch) (Z : State) (a0 : Array Value) (hw : ∀ d ∈ tables_1, d.before a0 Z = true) (ws : List Jvm.Cond) (s_RequestType_FENCE : Addr) (h0 : Heap) (n0 : Nat) (Z0 : n0 ≤ h0.size) (F_s_RequestType_FENCE_code : Fld Z h0 s_RequestType_FENCE "com/example/hale_ledger/haleledger/protocol/RequestType" "code" "I" (.int (4 : Int32))) :
    Con l Z (⟨"com/example/hale_ledger/haleledger/protocol/RequestType", "code", "()I"⟩ : MethodName) prog_30_method_4_code 1 (some .int) ws ({ frames := 0, cells := 0, slots := 0, locals := 0 } : Room) #[(.ref s_RequestType_FENCE)] h0 0 0 (Q6 Z s_RequestType_FENCE h0 n0) := by
  refine MetFree.of_bodySF (plainFor_of_name pn_0) hisR ?_
  intro p e s m args below meth c s₁ Bd hml0 hP hK
  obtain ⟨rfl, hZ, hh⟩ := hP
  have hx := Bd.exec
  have hby := Bd.bytes
  have hml : c.maxLocals = 1 := hml0
  have hown : s.vm.findClass "com/example/hale_ledger/haleledger/protocol/RequestType" = some m.cls := findClass_of_methodNamed Bd.named
  have hnm := (name_of_methodNamed Bd.named Bd.method).1
  have X0 : Stand p l e ({ frames := 0, cells := 0, slots := 0, locals := 0 } : Room) s m #[(.ref s_RequestType_FENCE)] below meth c s₁ [] 0 0 := Stand.of_body Bd
  have e0 : s₁.heap = h0 := by rw [← hh, Bd.state]; rfl
  have N0 := Fr.nil n0
  refine Go.of ?_
  refine Go.st (S' := s₁.setTop (mkF m 0 #[.val (.ref s_RequestType_FENCE)] [])) (fun t k => castTop (ef_6 m s_RequestType_FENCE) k) ?_
  refine Go.st (S' := s₁.setTop (mkF m 1 #[.val (.ref s_RequestType_FENCE)] [(.ref s_RequestType_FENCE)])) (fun t k => XS.aloadN X0.here hx rfl (hb hby dprog_30_method_4_code_0) rfl rfl k) ?_
  obtain ⟨T1053, X1053, e1053, st1053⟩ := getF X0 hx hZ hown (host := "") (Or.inl (hw _ (List.mem_of_getElem? (i := 7) rfl))) Via.refl e0 F_s_RequestType_FENCE_code (g := (mkF m 1 #[.val (.ref s_RequestType_FENCE)] [(.ref s_RequestType_FENCE)])) rfl rfl (hb hby dprog_30_method_4_code_1)
  refine Go.st (S' := T1053.setTop (mkF m 4 #[.val (.ref s_RequestType_FENCE)] [(.int (4 : Int32))])) st1053 ?_
  exact Go.ret X1053 (v := some (.int (4 : Int32))) (fun h => by rw [Bd.returns] at h; cases h) Bd.notSynchronized (fun fs hr => retI X1053 hx Bd.returns (hb hby dprog_30_method_4_code_4) hr) (by decide) (by decide) (⟨rfl, N0, (e1053)⟩)
theorem ef_7 (m : MethodId) (s_RequestType_RECOVERY_READ : Addr) : entryFrame m #[(.ref s_RequestType_RECOVERY_READ)] 1 = mkF m 0 #[.val (.ref s_RequestType_RECOVERY_READ)] [] := by first | (simp [entryFrame, mkF, argsToLocals, Value.category, maxLocals]; done) | rfl
def Q7 (Z : State) (s_RequestType_RECOVERY_READ : Addr) (h0 : Heap) (n0 : Nat) (v : Option Value) (h : Heap) (L : List Loc) : Prop := (v = some (.int (5 : Int32)) ∧ Fr n0 L ∧ h = h0)
set_option maxRecDepth 65536 in
set_option maxHeartbeats 40000000 in
theorem rm7 (l : Launch) (Z : State) (a0 : Array Value) (hw : ∀ d ∈ tables_1, d.before a0 Z = true) (ws : List Jvm.Cond) (s_RequestType_RECOVERY_READ : Addr) (h0 : Heap) (n0 : Nat) (Z0 : n0 ≤ h0.size) (F_s_RequestType_RECOVERY_READ_code : Fld Z h0 s_RequestType_RECOVERY_READ "com/example/hale_ledger/haleledger/protocol/RequestType" "code" "I" (.int (5 : Int32))) :
    Con l Z (⟨"com/example/hale_ledger/haleledger/protocol/RequestType", "code", "()I"⟩ : MethodName) prog_30_method_4_code 1 (some .int) ws ({ frames := 0, cells := 0, slots := 0, locals := 0 } : Room) #[(.ref s_RequestType_RECOVERY_READ)] h0 0 0 (Q7 Z s_RequestType_RECOVERY_READ h0 n0) := by
  refine MetFree.of_bodySF (plainFor_of_name pn_0) hisR ?_
  intro p e s m args below meth c s₁ Bd hml0 hP hK
  obtain ⟨rfl, hZ, hh⟩ := hP
  have hx := Bd.exec
  have hby := Bd.bytes
  have hml : c.maxLocals = 1 := hml0
  have hown : s.vm.findClass "com/example/hale_ledger/haleledger/protocol/RequestType" = some m.cls := findClass_of_methodNamed Bd.named
  have hnm := (name_of_methodNamed Bd.named Bd.method).1
  have X0 : Stand p l e ({ frames := 0, cells := 0, slots := 0, locals := 0 } : Room) s m #[(.ref s_RequestType_RECOVERY_READ)] below meth c s₁ [] 0 0 := Stand.of_body Bd
  have e0 : s₁.heap = h0 := by rw [← hh, Bd.state]; rfl
  have N0 := Fr.nil n0
  refine Go.of ?_
  refine Go.st (S' := s₁.setTop (mkF m 0 #[.val (.ref s_RequestType_RECOVERY_READ)] [])) (fun t k => castTop (ef_7 m s_RequestType_RECOVERY_READ) k) ?_
  refine Go.st (S' := s₁.setTop (mkF m 1 #[.val (.ref s_RequestType_RECOVERY_READ)] [(.ref s_RequestType_RECOVERY_READ)])) (fun t k => XS.aloadN X0.here hx rfl (hb hby dprog_30_method_4_code_0) rfl rfl k) ?_
  obtain ⟨T1133, X1133, e1133, st1133⟩ := getF X0 hx hZ hown (host := "") (Or.inl (hw _ (List.mem_of_getElem? (i := 7) rfl))) Via.refl e0 F_s_RequestType_RECOVERY_READ_code (g := (mkF m 1 #[.val (.ref s_RequestType_RECOVERY_READ)] [(.ref s_RequestType_RECOVERY_READ)])) rfl rfl (hb hby dprog_30_method_4_code_1)
  refine Go.st (S' := T1133.setTop (mkF m 4 #[.val (.ref s_RequestType_RECOVERY_READ)] [(.int (5 : Int32))])) st1133 ?_
  exact Go.ret X1133 (v := some (.int (5 : Int32))) (fun h => by rw [Bd.returns] at h; cases h) Bd.notSynchronized (fun fs hr => retI X1133 hx Bd.returns (hb hby dprog_30_method_4_code_4) hr) (by decide) (by decide) (⟨rfl, N0, (e1133)⟩)
theorem ef_8 (m : MethodId) (s_RequestType_RECOVERY_ADD : Addr) : entryFrame m #[(.ref s_RequestType_RECOVERY_ADD)] 1 = mkF m 0 #[.val (.ref s_RequestType_RECOVERY_ADD)] [] := by first | (simp [entryFrame, mkF, argsToLocals, Value.category, maxLocals]; done) | rfl
def Q8 (Z : State) (s_RequestType_RECOVERY_ADD : Addr) (h0 : Heap) (n0 : Nat) (v : Option Value) (h : Heap) (L : List Loc) : Prop := (v = some (.int (6 : Int32)) ∧ Fr n0 L ∧ h = h0)
set_option maxRecDepth 65536 in
set_option maxHeartbeats 40000000 in
theorem rm8 (l : Launch) (Z : State) (a0 : Array Value) (hw : ∀ d ∈ tables_1, d.before a0 Z = true) (ws : List Jvm.Cond) (s_RequestType_RECOVERY_ADD : Addr) (h0 : Heap) (n0 : Nat) (Z0 : n0 ≤ h0.size) (F_s_RequestType_RECOVERY_ADD_code : Fld Z h0 s_RequestType_RECOVERY_ADD "com/example/hale_ledger/haleledger/protocol/RequestType" "code" "I" (.int (6 : Int32))) :
    Con l Z (⟨"com/example/hale_ledger/haleledger/protocol/RequestType", "code", "()I"⟩ : MethodName) prog_30_method_4_code 1 (some .int) ws ({ frames := 0, cells := 0, slots := 0, locals := 0 } : Room) #[(.ref s_RequestType_RECOVERY_ADD)] h0 0 0 (Q8 Z s_RequestType_RECOVERY_ADD h0 n0) := by
  refine MetFree.of_bodySF (plainFor_of_name pn_0) hisR ?_
  intro p e s m args below meth c s₁ Bd hml0 hP hK
  obtain ⟨rfl, hZ, hh⟩ := hP
  have hx := Bd.exec
  have hby := Bd.bytes
  have hml : c.maxLocals = 1 := hml0
  have hown : s.vm.findClass "com/example/hale_ledger/haleledger/protocol/RequestType" = some m.cls := findClass_of_methodNamed Bd.named
  have hnm := (name_of_methodNamed Bd.named Bd.method).1
  have X0 : Stand p l e ({ frames := 0, cells := 0, slots := 0, locals := 0 } : Room) s m #[(.ref s_RequestType_RECOVERY_ADD)] below meth c s₁ [] 0 0 := Stand.of_body Bd
  have e0 : s₁.heap = h0 := by rw [← hh, Bd.state]; rfl
  have N0 := Fr.nil n0
  refine Go.of ?_
  refine Go.st (S' := s₁.setTop (mkF m 0 #[.val (.ref s_RequestType_RECOVERY_ADD)] [])) (fun t k => castTop (ef_8 m s_RequestType_RECOVERY_ADD) k) ?_
  refine Go.st (S' := s₁.setTop (mkF m 1 #[.val (.ref s_RequestType_RECOVERY_ADD)] [(.ref s_RequestType_RECOVERY_ADD)])) (fun t k => XS.aloadN X0.here hx rfl (hb hby dprog_30_method_4_code_0) rfl rfl k) ?_
  obtain ⟨T1215, X1215, e1215, st1215⟩ := getF X0 hx hZ hown (host := "") (Or.inl (hw _ (List.mem_of_getElem? (i := 7) rfl))) Via.refl e0 F_s_RequestType_RECOVERY_ADD_code (g := (mkF m 1 #[.val (.ref s_RequestType_RECOVERY_ADD)] [(.ref s_RequestType_RECOVERY_ADD)])) rfl rfl (hb hby dprog_30_method_4_code_1)
  refine Go.st (S' := T1215.setTop (mkF m 4 #[.val (.ref s_RequestType_RECOVERY_ADD)] [(.int (6 : Int32))])) st1215 ?_
  exact Go.ret X1215 (v := some (.int (6 : Int32))) (fun h => by rw [Bd.returns] at h; cases h) Bd.notSynchronized (fun fs hr => retI X1215 hx Bd.returns (hb hby dprog_30_method_4_code_4) hr) (by decide) (by decide) (⟨rfl, N0, (e1215)⟩)
theorem ef_9 (m : MethodId) (s_RequestType_READ_LAC : Addr) : entryFrame m #[(.ref s_RequestType_READ_LAC)] 1 = mkF m 0 #[.val (.ref s_RequestType_READ_LAC)] [] := by first | (simp [entryFrame, mkF, argsToLocals, Value.category, maxLocals]; done) | rfl
def Q9 (Z : State) (s_RequestType_READ_LAC : Addr) (h0 : Heap) (n0 : Nat) (v : Option Value) (h : Heap) (L : List Loc) : Prop := (v = some (.int (7 : Int32)) ∧ Fr n0 L ∧ h = h0)
set_option maxRecDepth 65536 in
set_option maxHeartbeats 40000000 in
theorem rm9 (l : Launch) (Z : State) (a0 : Array Value) (hw : ∀ d ∈ tables_1, d.before a0 Z = true) (ws : List Jvm.Cond) (s_RequestType_READ_LAC : Addr) (h0 : Heap) (n0 : Nat) (Z0 : n0 ≤ h0.size) (F_s_RequestType_READ_LAC_code : Fld Z h0 s_RequestType_READ_LAC "com/example/hale_ledger/haleledger/protocol/RequestType" "code" "I" (.int (7 : Int32))) :
    Con l Z (⟨"com/example/hale_ledger/haleledger/protocol/RequestType", "code", "()I"⟩ : MethodName) prog_30_method_4_code 1 (some .int) ws ({ frames := 0, cells := 0, slots := 0, locals := 0 } : Room) #[(.ref s_RequestType_READ_LAC)] h0 0 0 (Q9 Z s_RequestType_READ_LAC h0 n0) := by
  refine MetFree.of_bodySF (plainFor_of_name pn_0) hisR ?_
  intro p e s m args below meth c s₁ Bd hml0 hP hK
  obtain ⟨rfl, hZ, hh⟩ := hP
  have hx := Bd.exec
  have hby := Bd.bytes
  have hml : c.maxLocals = 1 := hml0
  have hown : s.vm.findClass "com/example/hale_ledger/haleledger/protocol/RequestType" = some m.cls := findClass_of_methodNamed Bd.named
  have hnm := (name_of_methodNamed Bd.named Bd.method).1
  have X0 : Stand p l e ({ frames := 0, cells := 0, slots := 0, locals := 0 } : Room) s m #[(.ref s_RequestType_READ_LAC)] below meth c s₁ [] 0 0 := Stand.of_body Bd
  have e0 : s₁.heap = h0 := by rw [← hh, Bd.state]; rfl
  have N0 := Fr.nil n0
  refine Go.of ?_
  refine Go.st (S' := s₁.setTop (mkF m 0 #[.val (.ref s_RequestType_READ_LAC)] [])) (fun t k => castTop (ef_9 m s_RequestType_READ_LAC) k) ?_
  refine Go.st (S' := s₁.setTop (mkF m 1 #[.val (.ref s_RequestType_READ_LAC)] [(.ref s_RequestType_READ_LAC)])) (fun t k => XS.aloadN X0.here hx rfl (hb hby dprog_30_method_4_code_0) rfl rfl k) ?_
  obtain ⟨T1299, X1299, e1299, st1299⟩ := getF X0 hx hZ hown (host := "") (Or.inl (hw _ (List.mem_of_getElem? (i := 7) rfl))) Via.refl e0 F_s_RequestType_READ_LAC_code (g := (mkF m 1 #[.val (.ref s_RequestType_READ_LAC)] [(.ref s_RequestType_READ_LAC)])) rfl rfl (hb hby dprog_30_method_4_code_1)
  refine Go.st (S' := T1299.setTop (mkF m 4 #[.val (.ref s_RequestType_READ_LAC)] [(.int (7 : Int32))])) st1299 ?_
  exact Go.ret X1299 (v := some (.int (7 : Int32))) (fun h => by rw [Bd.returns] at h; cases h) Bd.notSynchronized (fun fs hr => retI X1299 hx Bd.returns (hb hby dprog_30_method_4_code_4) hr) (by decide) (by decide) (⟨rfl, N0, (e1299)⟩)
theorem ef_10 (m : MethodId) (s_RequestType_WRITE_LAC : Addr) : entryFrame m #[(.ref s_RequestType_WRITE_LAC)] 1 = mkF m 0 #[.val (.ref s_RequestType_WRITE_LAC)] [] := by first | (simp [entryFrame, mkF, argsToLocals, Value.category, maxLocals]; done) | rfl
def Q10 (Z : State) (s_RequestType_WRITE_LAC : Addr) (h0 : Heap) (n0 : Nat) (v : Option Value) (h : Heap) (L : List Loc) : Prop := (v = some (.int (8 : Int32)) ∧ Fr n0 L ∧ h = h0)
set_option maxRecDepth 65536 in
set_option maxHeartbeats 40000000 in
theorem rm10 (l : Launch) (Z : State) (a0 : Array Value) (hw : ∀ d ∈ tables_1, d.before a0 Z = true) (ws : List Jvm.Cond) (s_RequestType_WRITE_LAC : Addr) (h0 : Heap) (n0 : Nat) (Z0 : n0 ≤ h0.size) (F_s_RequestType_WRITE_LAC_code : Fld Z h0 s_RequestType_WRITE_LAC "com/example/hale_ledger/haleledger/protocol/RequestType" "code" "I" (.int (8 : Int32))) :
    Con l Z (⟨"com/example/hale_ledger/haleledger/protocol/RequestType", "code", "()I"⟩ : MethodName) prog_30_method_4_code 1 (some .int) ws ({ frames := 0, cells := 0, slots := 0, locals := 0 } : Room) #[(.ref s_RequestType_WRITE_LAC)] h0 0 0 (Q10 Z s_RequestType_WRITE_LAC h0 n0) := by
  refine MetFree.of_bodySF (plainFor_of_name pn_0) hisR ?_
  intro p e s m args below meth c s₁ Bd hml0 hP hK
  obtain ⟨rfl, hZ, hh⟩ := hP
  have hx := Bd.exec
  have hby := Bd.bytes
  have hml : c.maxLocals = 1 := hml0
  have hown : s.vm.findClass "com/example/hale_ledger/haleledger/protocol/RequestType" = some m.cls := findClass_of_methodNamed Bd.named
  have hnm := (name_of_methodNamed Bd.named Bd.method).1
  have X0 : Stand p l e ({ frames := 0, cells := 0, slots := 0, locals := 0 } : Room) s m #[(.ref s_RequestType_WRITE_LAC)] below meth c s₁ [] 0 0 := Stand.of_body Bd
  have e0 : s₁.heap = h0 := by rw [← hh, Bd.state]; rfl
  have N0 := Fr.nil n0
  refine Go.of ?_
  refine Go.st (S' := s₁.setTop (mkF m 0 #[.val (.ref s_RequestType_WRITE_LAC)] [])) (fun t k => castTop (ef_10 m s_RequestType_WRITE_LAC) k) ?_
  refine Go.st (S' := s₁.setTop (mkF m 1 #[.val (.ref s_RequestType_WRITE_LAC)] [(.ref s_RequestType_WRITE_LAC)])) (fun t k => XS.aloadN X0.here hx rfl (hb hby dprog_30_method_4_code_0) rfl rfl k) ?_
  obtain ⟨T1385, X1385, e1385, st1385⟩ := getF X0 hx hZ hown (host := "") (Or.inl (hw _ (List.mem_of_getElem? (i := 7) rfl))) Via.refl e0 F_s_RequestType_WRITE_LAC_code (g := (mkF m 1 #[.val (.ref s_RequestType_WRITE_LAC)] [(.ref s_RequestType_WRITE_LAC)])) rfl rfl (hb hby dprog_30_method_4_code_1)
  refine Go.st (S' := T1385.setTop (mkF m 4 #[.val (.ref s_RequestType_WRITE_LAC)] [(.int (8 : Int32))])) st1385 ?_
  exact Go.ret X1385 (v := some (.int (8 : Int32))) (fun h => by rw [Bd.returns] at h; cases h) Bd.notSynchronized (fun fs hr => retI X1385 hx Bd.returns (hb hby dprog_30_method_4_code_4) hr) (by decide) (by decide) (⟨rfl, N0, (e1385)⟩)
theorem ef_11 (m : MethodId) (s_RequestType_WAIT_LAC : Addr) : entryFrame m #[(.ref s_RequestType_WAIT_LAC)] 1 = mkF m 0 #[.val (.ref s_RequestType_WAIT_LAC)] [] := by first | (simp [entryFrame, mkF, argsToLocals, Value.category, maxLocals]; done) | rfl
def Q11 (Z : State) (s_RequestType_WAIT_LAC : Addr) (h0 : Heap) (n0 : Nat) (v : Option Value) (h : Heap) (L : List Loc) : Prop := (v = some (.int (9 : Int32)) ∧ Fr n0 L ∧ h = h0)
set_option maxRecDepth 65536 in
set_option maxHeartbeats 40000000 in
theorem rm11 (l : Launch) (Z : State) (a0 : Array Value) (hw : ∀ d ∈ tables_1, d.before a0 Z = true) (ws : List Jvm.Cond) (s_RequestType_WAIT_LAC : Addr) (h0 : Heap) (n0 : Nat) (Z0 : n0 ≤ h0.size) (F_s_RequestType_WAIT_LAC_code : Fld Z h0 s_RequestType_WAIT_LAC "com/example/hale_ledger/haleledger/protocol/RequestType" "code" "I" (.int (9 : Int32))) :
    Con l Z (⟨"com/example/hale_ledger/haleledger/protocol/RequestType", "code", "()I"⟩ : MethodName) prog_30_method_4_code 1 (some .int) ws ({ frames := 0, cells := 0, slots := 0, locals := 0 } : Room) #[(.ref s_RequestType_WAIT_LAC)] h0 0 0 (Q11 Z s_RequestType_WAIT_LAC h0 n0) := by
  refine MetFree.of_bodySF (plainFor_of_name pn_0) hisR ?_
  intro p e s m args below meth c s₁ Bd hml0 hP hK
  obtain ⟨rfl, hZ, hh⟩ := hP
  have hx := Bd.exec
  have hby := Bd.bytes
  have hml : c.maxLocals = 1 := hml0
  have hown : s.vm.findClass "com/example/hale_ledger/haleledger/protocol/RequestType" = some m.cls := findClass_of_methodNamed Bd.named
  have hnm := (name_of_methodNamed Bd.named Bd.method).1
  have X0 : Stand p l e ({ frames := 0, cells := 0, slots := 0, locals := 0 } : Room) s m #[(.ref s_RequestType_WAIT_LAC)] below meth c s₁ [] 0 0 := Stand.of_body Bd
  have e0 : s₁.heap = h0 := by rw [← hh, Bd.state]; rfl
  have N0 := Fr.nil n0
  refine Go.of ?_
  refine Go.st (S' := s₁.setTop (mkF m 0 #[.val (.ref s_RequestType_WAIT_LAC)] [])) (fun t k => castTop (ef_11 m s_RequestType_WAIT_LAC) k) ?_
  refine Go.st (S' := s₁.setTop (mkF m 1 #[.val (.ref s_RequestType_WAIT_LAC)] [(.ref s_RequestType_WAIT_LAC)])) (fun t k => XS.aloadN X0.here hx rfl (hb hby dprog_30_method_4_code_0) rfl rfl k) ?_
  obtain ⟨T1473, X1473, e1473, st1473⟩ := getF X0 hx hZ hown (host := "") (Or.inl (hw _ (List.mem_of_getElem? (i := 7) rfl))) Via.refl e0 F_s_RequestType_WAIT_LAC_code (g := (mkF m 1 #[.val (.ref s_RequestType_WAIT_LAC)] [(.ref s_RequestType_WAIT_LAC)])) rfl rfl (hb hby dprog_30_method_4_code_1)
  refine Go.st (S' := T1473.setTop (mkF m 4 #[.val (.ref s_RequestType_WAIT_LAC)] [(.int (9 : Int32))])) st1473 ?_
  exact Go.ret X1473 (v := some (.int (9 : Int32))) (fun h => by rw [Bd.returns] at h; cases h) Bd.notSynchronized (fun fs hr => retI X1473 hx Bd.returns (hb hby dprog_30_method_4_code_4) hr) (by decide) (by decide) (⟨rfl, N0, (e1473)⟩)
theorem ef_12 (m : MethodId) (s_RequestType_READ_RANGE : Addr) : entryFrame m #[(.ref s_RequestType_READ_RANGE)] 1 = mkF m 0 #[.val (.ref s_RequestType_READ_RANGE)] [] := by first | (simp [entryFrame, mkF, argsToLocals, Value.category, maxLocals]; done) | rfl
def Q12 (Z : State) (s_RequestType_READ_RANGE : Addr) (h0 : Heap) (n0 : Nat) (v : Option Value) (h : Heap) (L : List Loc) : Prop := (v = some (.int (10 : Int32)) ∧ Fr n0 L ∧ h = h0)
set_option maxRecDepth 65536 in
set_option maxHeartbeats 40000000 in
theorem rm12 (l : Launch) (Z : State) (a0 : Array Value) (hw : ∀ d ∈ tables_1, d.before a0 Z = true) (ws : List Jvm.Cond) (s_RequestType_READ_RANGE : Addr) (h0 : Heap) (n0 : Nat) (Z0 : n0 ≤ h0.size) (F_s_RequestType_READ_RANGE_code : Fld Z h0 s_RequestType_READ_RANGE "com/example/hale_ledger/haleledger/protocol/RequestType" "code" "I" (.int (10 : Int32))) :
    Con l Z (⟨"com/example/hale_ledger/haleledger/protocol/RequestType", "code", "()I"⟩ : MethodName) prog_30_method_4_code 1 (some .int) ws ({ frames := 0, cells := 0, slots := 0, locals := 0 } : Room) #[(.ref s_RequestType_READ_RANGE)] h0 0 0 (Q12 Z s_RequestType_READ_RANGE h0 n0) := by
  refine MetFree.of_bodySF (plainFor_of_name pn_0) hisR ?_
  intro p e s m args below meth c s₁ Bd hml0 hP hK
  obtain ⟨rfl, hZ, hh⟩ := hP
  have hx := Bd.exec
  have hby := Bd.bytes
  have hml : c.maxLocals = 1 := hml0
  have hown : s.vm.findClass "com/example/hale_ledger/haleledger/protocol/RequestType" = some m.cls := findClass_of_methodNamed Bd.named
  have hnm := (name_of_methodNamed Bd.named Bd.method).1
  have X0 : Stand p l e ({ frames := 0, cells := 0, slots := 0, locals := 0 } : Room) s m #[(.ref s_RequestType_READ_RANGE)] below meth c s₁ [] 0 0 := Stand.of_body Bd
  have e0 : s₁.heap = h0 := by rw [← hh, Bd.state]; rfl
  have N0 := Fr.nil n0
  refine Go.of ?_
  refine Go.st (S' := s₁.setTop (mkF m 0 #[.val (.ref s_RequestType_READ_RANGE)] [])) (fun t k => castTop (ef_12 m s_RequestType_READ_RANGE) k) ?_
  refine Go.st (S' := s₁.setTop (mkF m 1 #[.val (.ref s_RequestType_READ_RANGE)] [(.ref s_RequestType_READ_RANGE)])) (fun t k => XS.aloadN X0.here hx rfl (hb hby dprog_30_method_4_code_0) rfl rfl k) ?_
  obtain ⟨T1563, X1563, e1563, st1563⟩ := getF X0 hx hZ hown (host := "") (Or.inl (hw _ (List.mem_of_getElem? (i := 7) rfl))) Via.refl e0 F_s_RequestType_READ_RANGE_code (g := (mkF m 1 #[.val (.ref s_RequestType_READ_RANGE)] [(.ref s_RequestType_READ_RANGE)])) rfl rfl (hb hby dprog_30_method_4_code_1)
  refine Go.st (S' := T1563.setTop (mkF m 4 #[.val (.ref s_RequestType_READ_RANGE)] [(.int (10 : Int32))])) st1563 ?_
  exact Go.ret X1563 (v := some (.int (10 : Int32))) (fun h => by rw [Bd.returns] at h; cases h) Bd.notSynchronized (fun fs hr => retI X1563 hx Bd.returns (hb hby dprog_30_method_4_code_4) hr) (by decide) (by decide) (⟨rfl, N0, (e1563)⟩)
theorem ef_13 (m : MethodId) (p0 : Int32) (p1 : Int32) : entryFrame m #[(.int p0), (.int p1)] maxLocals = mkF m 0 #[.val (.int p0), .val (.int p1), .unset, .unset, .unset] [] := by first | (simp [entryFrame, mkF, argsToLocals, Value.category, maxLocals]; done) | rfl
def Q13 (Z : State) (p0 : Int32) (p1 : Int32) (s_RequestType_VALUES : Addr) (k_s_RequestType_VALUES : ClassId) (s_RequestType_ADD : Addr) (s_RequestType_READ : Addr) (s_RequestType_STATS : Addr) (s_RequestType_FENCE : Addr) (s_RequestType_RECOVERY_READ : Addr) (s_RequestType_RECOVERY_ADD : Addr) (s_RequestType_READ_LAC : Addr) (s_RequestType_WRITE_LAC : Addr) (s_RequestType_WAIT_LAC : Addr) (s_RequestType_READ_RANGE : Addr) (h0 : Heap) (n0 : Nat) (v : Option Value) (h : Heap) (L : List Loc) : Prop := v = some (.int 1) ∧ Fr n0 L
set_option maxRecDepth 65536 in
set_option maxHeartbeats 40000000 in
theorem rm13 (l : Launch) (Z : State) (a0 : Array Value) (hw : ∀ d ∈ tables_1, d.before a0 Z = true) (ws : List Jvm.Cond) (p0 : Int32) (p1 : Int32) (s_RequestType_VALUES : Addr) (k_s_RequestType_VALUES : ClassId) (s_RequestType_ADD : Addr) (s_RequestType_READ : Addr) (s_RequestType_STATS : Addr) (s_RequestType_FENCE : Addr) (s_RequestType_RECOVERY_READ : Addr) (s_RequestType_RECOVERY_ADD : Addr) (s_RequestType_READ_LAC : Addr) (s_RequestType_WRITE_LAC : Addr) (s_RequestType_WAIT_LAC : Addr) (s_RequestType_READ_RANGE : Addr) (h0 : Heap) (n0 : Nat) (Z0 : n0 ≤ h0.size) (S_s_RequestType_VALUES : Sta Z h0 "com/example/hale_ledger/haleledger/protocol/RequestType" "VALUES" "[Lcom/example/hale_ledger/haleledger/protocol/RequestType;" (.ref s_RequestType_VALUES)) (V_s_RequestType_VALUES : Arv Z h0 s_RequestType_VALUES k_s_RequestType_VALUES (.object "com/example/hale_ledger/haleledger/protocol/RequestType") (10 : Int32) [(.ref s_RequestType_ADD), (.ref s_RequestType_READ), (.ref s_RequestType_STATS), (.ref s_RequestType_FENCE), (.ref s_RequestType_RECOVERY_READ), (.ref s_RequestType_RECOVERY_ADD), (.ref s_RequestType_READ_LAC), (.ref s_RequestType_WRITE_LAC), (.ref s_RequestType_WAIT_LAC), (.ref s_RequestType_READ_RANGE)] .null) (F_s_RequestType_ADD_code : Fld Z h0 s_RequestType_ADD "com/example/hale_ledger/haleledger/protocol/RequestType" "code" "I" (.int (1 : Int32))) (F_s_RequestType_READ_code : Fld Z h0 s_RequestType_READ "com/example/hale_ledger/haleledger/protocol/RequestType" "code" "I" (.int (2 : Int32))) (F_s_RequestType_STATS_code : Fld Z h0 s_RequestType_STATS "com/example/hale_ledger/haleledger/protocol/RequestType" "code" "I" (.int (3 : Int32))) (F_s_RequestType_FENCE_code : Fld Z h0 s_RequestType_FENCE "com/example/hale_ledger/haleledger/protocol/RequestType" "code" "I" (.int (4 : Int32))) (F_s_RequestType_RECOVERY_READ_code : Fld Z h0 s_RequestType_RECOVERY_READ "com/example/hale_ledger/haleledger/protocol/RequestType" "code" "I" (.int (5 : Int32))) (F_s_RequestType_RECOVERY_ADD_code : Fld Z h0 s_RequestType_RECOVERY_ADD "com/example/hale_ledger/haleledger/protocol/RequestType" "code" "I" (.int (6 : Int32))) (F_s_RequestType_READ_LAC_code : Fld Z h0 s_RequestType_READ_LAC "com/example/hale_ledger/haleledger/protocol/RequestType" "code" "I" (.int (7 : Int32))) (F_s_RequestType_WRITE_LAC_code : Fld Z h0 s_RequestType_WRITE_LAC "com/example/hale_ledger/haleledger/protocol/RequestType" "code" "I" (.int (8 : Int32))) (F_s_RequestType_WAIT_LAC_code : Fld Z h0 s_RequestType_WAIT_LAC "com/example/hale_ledger/haleledger/protocol/RequestType" "code" "I" (.int (9 : Int32))) (F_s_RequestType_READ_RANGE_code : Fld Z h0 s_RequestType_READ_RANGE "com/example/hale_ledger/haleledger/protocol/RequestType" "code" "I" (.int (10 : Int32))) (S_s_RequestType_ADD : Sta Z h0 "com/example/hale_ledger/haleledger/protocol/RequestType" "ADD" "Lcom/example/hale_ledger/haleledger/protocol/RequestType;" (.ref s_RequestType_ADD)) (S_s_RequestType_READ : Sta Z h0 "com/example/hale_ledger/haleledger/protocol/RequestType" "READ" "Lcom/example/hale_ledger/haleledger/protocol/RequestType;" (.ref s_RequestType_READ)) (S_s_RequestType_STATS : Sta Z h0 "com/example/hale_ledger/haleledger/protocol/RequestType" "STATS" "Lcom/example/hale_ledger/haleledger/protocol/RequestType;" (.ref s_RequestType_STATS)) (S_s_RequestType_FENCE : Sta Z h0 "com/example/hale_ledger/haleledger/protocol/RequestType" "FENCE" "Lcom/example/hale_ledger/haleledger/protocol/RequestType;" (.ref s_RequestType_FENCE)) (S_s_RequestType_RECOVERY_READ : Sta Z h0 "com/example/hale_ledger/haleledger/protocol/RequestType" "RECOVERY_READ" "Lcom/example/hale_ledger/haleledger/protocol/RequestType;" (.ref s_RequestType_RECOVERY_READ)) (S_s_RequestType_RECOVERY_ADD : Sta Z h0 "com/example/hale_ledger/haleledger/protocol/RequestType" "RECOVERY_ADD" "Lcom/example/hale_ledger/haleledger/protocol/RequestType;" (.ref s_RequestType_RECOVERY_ADD)) (S_s_RequestType_READ_LAC : Sta Z h0 "com/example/hale_ledger/haleledger/protocol/RequestType" "READ_LAC" "Lcom/example/hale_ledger/haleledger/protocol/RequestType;" (.ref s_RequestType_READ_LAC)) (S_s_RequestType_WRITE_LAC : Sta Z h0 "com/example/hale_ledger/haleledger/protocol/RequestType" "WRITE_LAC" "Lcom/example/hale_ledger/haleledger/protocol/RequestType;" (.ref s_RequestType_WRITE_LAC)) (S_s_RequestType_WAIT_LAC : Sta Z h0 "com/example/hale_ledger/haleledger/protocol/RequestType" "WAIT_LAC" "Lcom/example/hale_ledger/haleledger/protocol/RequestType;" (.ref s_RequestType_WAIT_LAC)) (S_s_RequestType_READ_RANGE : Sta Z h0 "com/example/hale_ledger/haleledger/protocol/RequestType" "READ_RANGE" "Lcom/example/hale_ledger/haleledger/protocol/RequestType;" (.ref s_RequestType_READ_RANGE)) (E_s_RequestType_ADD : Exa Z h0 s_RequestType_ADD "com/example/hale_ledger/haleledger/protocol/RequestType") (E_s_RequestType_READ : Exa Z h0 s_RequestType_READ "com/example/hale_ledger/haleledger/protocol/RequestType") (E_s_RequestType_STATS : Exa Z h0 s_RequestType_STATS "com/example/hale_ledger/haleledger/protocol/RequestType") (E_s_RequestType_FENCE : Exa Z h0 s_RequestType_FENCE "com/example/hale_ledger/haleledger/protocol/RequestType") (E_s_RequestType_RECOVERY_READ : Exa Z h0 s_RequestType_RECOVERY_READ "com/example/hale_ledger/haleledger/protocol/RequestType") (E_s_RequestType_RECOVERY_ADD : Exa Z h0 s_RequestType_RECOVERY_ADD "com/example/hale_ledger/haleledger/protocol/RequestType") (E_s_RequestType_READ_LAC : Exa Z h0 s_RequestType_READ_LAC "com/example/hale_ledger/haleledger/protocol/RequestType") (E_s_RequestType_WRITE_LAC : Exa Z h0 s_RequestType_WRITE_LAC "com/example/hale_ledger/haleledger/protocol/RequestType") (E_s_RequestType_WAIT_LAC : Exa Z h0 s_RequestType_WAIT_LAC "com/example/hale_ledger/haleledger/protocol/RequestType") (E_s_RequestType_READ_RANGE : Exa Z h0 s_RequestType_READ_RANGE "com/example/hale_ledger/haleledger/protocol/RequestType") :
    Con l Z x code maxLocals ret ws room_1 #[(.int p0), (.int p1)] h0 0 0 (Q13 Z p0 p1 s_RequestType_VALUES k_s_RequestType_VALUES s_RequestType_ADD s_RequestType_READ s_RequestType_STATS s_RequestType_FENCE s_RequestType_RECOVERY_READ s_RequestType_RECOVERY_ADD s_RequestType_READ_LAC s_RequestType_WRITE_LAC s_RequestType_WAIT_LAC s_RequestType_READ_RANGE h0 n0) := by
  refine MetFree.of_bodySF (plainFor_of_name pn_1) hisR ?_
  intro p e s m args below meth c s₁ Bd hml0 hP hK
  obtain ⟨rfl, hZ, hh⟩ := hP
  have hx := Bd.exec
  have hby := Bd.bytes
  have hml : c.maxLocals = 5 := hml0
  have hown : s.vm.findClass "com/example/hale_ledger/haleledger/protocol/RequestTypeOfCodePinLaw" = some m.cls := findClass_of_methodNamed Bd.named
  have hnm := (name_of_methodNamed Bd.named Bd.method).1
  have X0 : Stand p l e room_1 s m #[(.int p0), (.int p1)] below meth c s₁ [] 0 0 := Stand.of_body Bd
  have e0 : s₁.heap = h0 := by rw [← hh, Bd.state]; rfl
  have N0 := Fr.nil n0
  refine Go.of ?_
  refine Go.st (S' := s₁.setTop (mkF m 0 #[.val (.int p0), .val (.int p1), .unset, .unset, .unset] [])) (fun t k => castTop (ef_13 m p0 p1) k) ?_
  refine Go.st (S' := s₁.setTop (mkF m 1 #[.val (.int p0), .val (.int p1), .unset, .unset, .unset] [(.int p1)])) (fun t k => XS.iloadN X0.here hx rfl (hb hby at_0) rfl k) ?_
  refine Go.st (S' := s₁.setTop (mkF m 2 #[.val (.int p0), .val (.int p1), .unset, .unset, .unset] [(.int (1 : Int32)), (.int p1)])) (fun t k => XS.iconst X0.here hx rfl (hb hby at_1) k) ?_
  refine Go.op (F := fun z => s₁.setTop (mkF m 3 #[.val (.int p0), .val (.int p1), .unset, .unset, .unset] [(.int z)])) (x := (p1 &&& (1 : Int32))) (fun t k => XS.iand X0.here hx rfl (hb hby at_2) rfl k) ?_
  intro v1 hv1
  obtain ⟨v5, hv5⟩ : ∃ z, z = (p0 &&& (15 : Int32)) := ⟨_, rfl⟩
  obtain ⟨v6, hv6⟩ : ∃ z, z = (v5 - (2 : Int32)) := ⟨_, rfl⟩
  refine Go.join (α := Int32) (fun r => (((v1 = (0 : Int32)) ∧ (r = v6)) ∨ ((¬ (v1 = (0 : Int32))) ∧ (r = p0)))) (fun r => s₁.setTop (mkF m 16 #[.val (.int p0), .val (.int p1), .unset, .unset, .unset] [(.int r)])) ?_ ?_
  · intro r10 hc11
    let A12 : Array Slot := #[.val (.int p0), .val (.int p1), .val (.int r10), .unset, .unset]
    refine Go.st (S' := s₁.setTop (mkF m 17 A12 [])) (fun t k => XS.istoreN X0.here hx rfl (hb hby at_16) rfl (l' := A12) rfl k) ?_
    refine Go.st (S' := s₁.setTop (mkF m 18 A12 [(.int r10)])) (fun t k => XS.iloadN X0.here hx rfl (hb hby at_17) rfl k) ?_
    obtain ⟨r799, T799, L799, X799, hQ799, st799⟩ := own_callS (W := 0) X0 hx hZ e0 hown (y := (⟨"com/example/hale_ledger/haleledger/protocol/RequestType", "ofCode", "(I)Lcom/example/hale_ledger/haleledger/protocol/RequestType;"⟩ : MethodName)) (hw _ (List.mem_of_getElem? (i := 0) rfl)) (hw _ (List.mem_of_getElem? (i := 1) rfl)) (hw _ (List.mem_of_getElem? (i := 2) rfl)) (hw _ (List.mem_of_getElem? (i := 3) rfl)) (by decide) (rm1 l Z a0 hw [] r10 s_RequestType_VALUES k_s_RequestType_VALUES s_RequestType_ADD s_RequestType_READ s_RequestType_STATS s_RequestType_FENCE s_RequestType_RECOVERY_READ s_RequestType_RECOVERY_ADD s_RequestType_READ_LAC s_RequestType_WRITE_LAC s_RequestType_WAIT_LAC s_RequestType_READ_RANGE h0 n0 Z0 (S_s_RequestType_VALUES) (V_s_RequestType_VALUES) (F_s_RequestType_ADD_code) (F_s_RequestType_READ_code) (F_s_RequestType_STATS_code) (F_s_RequestType_FENCE_code) (F_s_RequestType_RECOVERY_READ_code) (F_s_RequestType_RECOVERY_ADD_code) (F_s_RequestType_READ_LAC_code) (F_s_RequestType_WRITE_LAC_code) (F_s_RequestType_WAIT_LAC_code) (F_s_RequestType_READ_RANGE_code)) (by decide) (by decide) (by decide) (by decide) (g := (mkF m 18 A12 [(.int r10)])) rfl (by rw [hml]; rfl) (argsL := [(.int r10)]) (rest := []) rfl (lenOf pd_0 rfl) rfl (by show 2 * 0 + _ ≤ _; exact Nat.le_of_eq rfl) (hb hby at_18)
    rcases hQ799 with hQ799 | hQ799 | hQ799 | hQ799 | hQ799 | hQ799 | hQ799 | hQ799 | hQ799 | hQ799 | hQ799
    · obtain ⟨hc800, rfl, N799, e799⟩ := hQ799
      have N799_ := Fr.app N0 N799
      refine Go.st (S' := T799.setTop (mkF m 21 A12 [(.ref s_RequestType_ADD)])) st799 ?_
      let A801 : Array Slot := #[.val (.int p0), .val (.int p1), .val (.int r10), .val (.ref s_RequestType_ADD), .unset]
      refine Go.st (S' := T799.setTop (mkF m 22 A801 [])) (fun t k => XS.astoreN X799.here hx rfl (hb hby at_21) rfl rfl (l' := A801) rfl k) ?_
      refine Go.st (S' := T799.setTop (mkF m 23 A801 [(.int r10)])) (fun t k => XS.iloadN X799.here hx rfl (hb hby at_22) rfl k) ?_
      obtain ⟨r822, T822, L822, X822, hQ822, st822⟩ := own_callS (W := 0) X799 hx hZ e799 hown (y := (⟨"com/example/hale_ledger/haleledger/protocol/RequestTypeOfCodePinLaw", "expected", "(I)Lcom/example/hale_ledger/haleledger/protocol/RequestType;"⟩ : MethodName)) (hw _ (List.mem_of_getElem? (i := 18) rfl)) (hw _ (List.mem_of_getElem? (i := 19) rfl)) (hw _ (List.mem_of_getElem? (i := 20) rfl)) (hw _ (List.mem_of_getElem? (i := 21) rfl)) (by decide) (rm2 l Z a0 hw [] r10 s_RequestType_ADD s_RequestType_READ s_RequestType_STATS s_RequestType_FENCE s_RequestType_RECOVERY_READ s_RequestType_RECOVERY_ADD s_RequestType_READ_LAC s_RequestType_WRITE_LAC s_RequestType_WAIT_LAC s_RequestType_READ_RANGE h0 n0 Z0 (S_s_RequestType_ADD) (S_s_RequestType_READ) (S_s_RequestType_STATS) (S_s_RequestType_FENCE) (S_s_RequestType_RECOVERY_READ) (S_s_RequestType_RECOVERY_ADD) (S_s_RequestType_READ_LAC) (S_s_RequestType_WRITE_LAC) (S_s_RequestType_WAIT_LAC) (S_s_RequestType_READ_RANGE)) (by decide) (by decide) (by decide) (by decide) (g := (mkF m 23 A801 [(.int r10)])) rfl (by rw [hml]; rfl) (argsL := [(.int r10)]) (rest := []) rfl (lenOf pd_0 rfl) rfl (by show 2 * 0 + _ ≤ _; exact Nat.le_of_eq rfl) (hb hby at_23)
      rcases hQ822 with hQ822 | hQ822 | hQ822 | hQ822 | hQ822 | hQ822 | hQ822 | hQ822 | hQ822 | hQ822 | hQ822
      · obtain ⟨hc823, rfl, N822, e822⟩ := hQ822
        have N822_ := Fr.app N799_ N822
        refine Go.st (S' := T822.setTop (mkF m 26 A801 [(.ref s_RequestType_ADD)])) st822 ?_
        let A824 : Array Slot := #[.val (.int p0), .val (.int p1), .val (.int r10), .val (.ref s_RequestType_ADD), .val (.ref s_RequestType_ADD)]
        refine Go.st (S' := T822.setTop (mkF m 28 A824 [])) (fun t k => XS.astore X822.here hx rfl (hb hby at_26) rfl rfl (l' := A824) rfl k) ?_
        refine Go.st (S' := T822.setTop (mkF m 30 A824 [(.ref s_RequestType_ADD)])) (fun t k => XS.aload X822.here hx rfl (hb hby at_28) rfl rfl k) ?_
        refine Go.st (S' := T822.setTop (mkF m 43 A824 [])) (fun t k => XS.ifnonnullYes X822.here hx rfl (pc0 := 30) (pc' := 43) rfl (hb hby at_30) rfl (by decide) (by decide) k) ?_
        refine Go.st (S' := T822.setTop (mkF m 44 A824 [(.ref s_RequestType_ADD)])) (fun t k => XS.aloadN X822.here hx rfl (hb hby at_43) rfl rfl k) ?_
        refine Go.st (S' := T822.setTop (mkF m 46 A824 [(.ref s_RequestType_ADD), (.ref s_RequestType_ADD)])) (fun t k => XS.aload X822.here hx rfl (hb hby at_44) rfl rfl k) ?_
        refine Go.st (S' := T822.setTop (mkF m 49 A824 [])) (fun t k => acmp X822 hx rfl rfl rfl (pc0 := 46) (pc' := 49) (same := true) rfl (hb hby at_46) rfl (by simp) (by decide) (by decide) k) ?_
        refine Go.st (S' := T822.setTop (mkF m 50 A824 [(.ref s_RequestType_ADD)])) (fun t k => XS.aloadN X822.here hx rfl (hb hby at_49) rfl rfl k) ?_
        obtain ⟨r826, T826, L826, X826, hQ826, st826⟩ := own_callV (W := 0) (a := s_RequestType_ADD) (C := "com/example/hale_ledger/haleledger/protocol/RequestType") X822 hx hZ e822 hown (y := (⟨"com/example/hale_ledger/haleledger/protocol/RequestType", "code", "()I"⟩ : MethodName)) (z := (⟨"com/example/hale_ledger/haleledger/protocol/RequestType", "code", "()I"⟩ : MethodName)) (hw _ (List.mem_of_getElem? (i := 23) rfl)) (hw _ (List.mem_of_getElem? (i := 24) rfl)) (notFace_of_selects (args := #[]) (mvT hZ (hw _ (List.mem_of_getElem? (i := 26) rfl)))) (hw _ (List.mem_of_getElem? (i := 26) rfl)) (hw _ (List.mem_of_getElem? (i := 25) rfl)) (hw _ (List.mem_of_getElem? (i := 2) rfl)) (hw _ (List.mem_of_getElem? (i := 27) rfl)) (by decide) (E_s_RequestType_ADD) (rm3 l Z a0 hw [] s_RequestType_ADD h0 n0 Z0 (F_s_RequestType_ADD_code)) (by decide) (by decide) (by decide) (by decide) (g := (mkF m 50 A824 [(.ref s_RequestType_ADD)])) rfl (by rw [hml]; rfl) (argsL := []) (rest := []) rfl (lenOf pd_1 rfl) rfl (by show 2 * 0 + _ ≤ _; exact Nat.le_of_eq rfl) (hb hby at_50)
        obtain ⟨rfl, N826, e826⟩ := hQ826
        have N826_ := Fr.app N822_ N826
        refine Go.st (S' := T826.setTop (mkF m 53 A824 [(.int (1 : Int32))])) st826 ?_
        refine Go.st (S' := T826.setTop (mkF m 54 A824 [(.int r10), (.int (1 : Int32))])) (fun t k => XS.iloadN X826.here hx rfl (hb hby at_53) rfl k) ?_
        refine Go.st (S' := T826.setTop (mkF m 57 A824 [])) (fun t k => XS.icmpNo X826.here hx rfl (hb hby at_54) rfl (teq hc800).2 k) ?_
        refine Go.st (S' := T826.setTop (mkF m 58 A824 [(.int (1 : Int32))])) (fun t k => XS.iconst X826.here hx rfl (hb hby at_57) k) ?_
        refine Go.st (S' := T826.setTop (mkF m 62 A824 [(.int (1 : Int32))])) (fun t k => XS.goto X826.here hx rfl (pc0 := 58) (pc' := 62) rfl (hb hby at_58) (by decide) (by decide) k) ?_
        exact Go.ret X826 (v := some (.int (1 : Int32))) (fun h => by rw [Bd.returns] at h; cases h) Bd.notSynchronized (fun fs hr => retN X826 hx (t := .boolean) Bd.returns (by simp) (hb hby at_62) hr) (by decide) (by decide) ⟨rfl, N826_⟩
      · obtain ⟨hc827, hc828, rfl, N822, e822⟩ := hQ822
        have N822_ := Fr.app N799_ N822
        exfalso
        have rv1 := rng32 v1
        have wv1 := c_mask p1 (1 : Int32) 1 (by decide) (by decide)
        rw [← hv1] at wv1
        have rv5 := rng32 v5
        have wv5 := c_mask p0 (15 : Int32) 4 (by decide) (by decide)
        rw [← hv5] at wv5
        have rv6 := rng32 v6
        have wv6 := c_isub v5 (2 : Int32)
        rw [← hv6] at wv6
        have rp0 := rng32 p0
        have rp1 := rng32 p1
        have rr10 := rng32 r10
        have lI0 : (0 : Int32).toInt = 0 := by decide
        have lI1 : (1 : Int32).toInt = 1 := by decide
        have lI2 : (2 : Int32).toInt = 2 := by decide
        have lI15 : (15 : Int32).toInt = 15 := by decide
        simp only [Int32.lt_iff_toInt_lt, Int64.lt_iff_toInt_lt, ← Int32.toInt_inj, ← Int64.toInt_inj] at hc11 hc800 hc827 hc828
        omega
      · obtain ⟨hc829, hc830, hc831, rfl, N822, e822⟩ := hQ822
        have N822_ := Fr.app N799_ N822
        exfalso
        have rv1 := rng32 v1
        have wv1 := c_mask p1 (1 : Int32) 1 (by decide) (by decide)
        rw [← hv1] at wv1
        have rv5 := rng32 v5
        have wv5 := c_mask p0 (15 : Int32) 4 (by decide) (by decide)
        rw [← hv5] at wv5
        have rv6 := rng32 v6
        have wv6 := c_isub v5 (2 : Int32)
        rw [← hv6] at wv6
        have rp0 := rng32 p0
        have rp1 := rng32 p1
        have rr10 := rng32 r10
        have lI0 : (0 : Int32).toInt = 0 := by decide
        have lI1 : (1 : Int32).toInt = 1 := by decide
        have lI2 : (2 : Int32).toInt = 2 := by decide
        have lI3 : (3 : Int32).toInt = 3 := by decide
        have lI15 : (15 : Int32).toInt = 15 := by decide
        simp only [Int32.lt_iff_toInt_lt, Int64.lt_iff_toInt_lt, ← Int32.toInt_inj, ← Int64.toInt_inj] at hc11 hc800 hc829 hc830 hc831
        omega
      · obtain ⟨hc832, hc833, hc834, hc835, rfl, N822, e822⟩ := hQ822
        have N822_ := Fr.app N799_ N822
        exfalso
        have rv1 := rng32 v1
        have wv1 := c_mask p1 (1 : Int32) 1 (by decide) (by decide)
        rw [← hv1] at wv1
        have rv5 := rng32 v5
        have wv5 := c_mask p0 (15 : Int32) 4 (by decide) (by decide)
        rw [← hv5] at wv5
        have rv6 := rng32 v6
        have wv6 := c_isub v5 (2 : Int32)
        rw [← hv6] at wv6
        have rp0 := rng32 p0
        have rp1 := rng32 p1
        have rr10 := rng32 r10
        have lI0 : (0 : Int32).toInt = 0 := by decide
        have lI1 : (1 : Int32).toInt = 1 := by decide
        have lI2 : (2 : Int32).toInt = 2 := by decide
        have lI3 : (3 : Int32).toInt = 3 := by decide
        have lI4 : (4 : Int32).toInt = 4 := by decide
        have lI15 : (15 : Int32).toInt = 15 := by decide
        simp only [Int32.lt_iff_toInt_lt, Int64.lt_iff_toInt_lt, ← Int32.toInt_inj, ← Int64.toInt_inj] at hc11 hc800 hc832 hc833 hc834 hc835
        omega
      · obtain ⟨hc836, hc837, hc838, hc839, hc840, rfl, N822, e822⟩ := hQ822
        have N822_ := Fr.app N799_ N822
        exfalso
        have rv1 := rng32 v1
        have wv1 := c_mask p1 (1 : Int32) 1 (by decide) (by decide)
        rw [← hv1] at wv1
        have rv5 := rng32 v5
        have wv5 := c_mask p0 (15 : Int32) 4 (by decide) (by decide)
        rw [← hv5] at wv5
        have rv6 := rng32 v6
        have wv6 := c_isub v5 (2 : Int32)
        rw [← hv6] at wv6
        have rp0 := rng32 p0
        have rp1 := rng32 p1
        have rr10 := rng32 r10
        have lI0 : (0 : Int32).toInt = 0 := by decide
        have lI1 : (1 : Int32).toInt = 1 := by decide
        have lI2 : (2 : Int32).toInt = 2 := by decide
        have lI3 : (3 : Int32).toInt = 3 := by decide
        have lI4 : (4 : Int32).toInt = 4 := by decide
        have lI5 : (5 : Int32).toInt = 5 := by decide
        have lI15 : (15 : Int32).toInt = 15 := by decide
        simp only [Int32.lt_iff_toInt_lt, Int64.lt_iff_toInt_lt, ← Int32.toInt_inj, ← Int64.toInt_inj] at hc11 hc800 hc836 hc837 hc838 hc839 hc840
        omega
      · obtain ⟨hc841, hc842, hc843, hc844, hc845, hc846, rfl, N822, e822⟩ := hQ822
        have N822_ := Fr.app N799_ N822
        exfalso
        have rv1 := rng32 v1
        have wv1 := c_mask p1 (1 : Int32) 1 (by decide) (by decide)
        rw [← hv1] at wv1
        have rv5 := rng32 v5
        have wv5 := c_mask p0 (15 : Int32) 4 (by decide) (by decide)
        rw [← hv5] at wv5
        have rv6 := rng32 v6
        have wv6 := c_isub v5 (2 : Int32)
        rw [← hv6] at wv6
        have rp0 := rng32 p0
        have rp1 := rng32 p1
        have rr10 := rng32 r10
        have lI0 : (0 : Int32).toInt = 0 := by decide
        have lI1 : (1 : Int32).toInt = 1 := by decide
        have lI2 : (2 : Int32).toInt = 2 := by decide
        have lI3 : (3 : Int32).toInt = 3 := by decide
        have lI4 : (4 : Int32).toInt = 4 := by decide
        have lI5 : (5 : Int32).toInt = 5 := by decide
        have lI6 : (6 : Int32).toInt = 6 := by decide
        have lI15 : (15 : Int32).toInt = 15 := by decide
        simp only [Int32.lt_iff_toInt_lt, Int64.lt_iff_toInt_lt, ← Int32.toInt_inj, ← Int64.toInt_inj] at hc11 hc800 hc841 hc842 hc843 hc844 hc845 hc846
        omega
      · obtain ⟨hc847, hc848, hc849, hc850, hc851, hc852, hc853, rfl, N822, e822⟩ := hQ822
        have N822_ := Fr.app N799_ N822
        exfalso
        have rv1 := rng32 v1
        have wv1 := c_mask p1 (1 : Int32) 1 (by decide) (by decide)
        rw [← hv1] at wv1
        have rv5 := rng32 v5
        have wv5 := c_mask p0 (15 : Int32) 4 (by decide) (by decide)
        rw [← hv5] at wv5
        have rv6 := rng32 v6
        have wv6 := c_isub v5 (2 : Int32)
        rw [← hv6] at wv6
        have rp0 := rng32 p0
        have rp1 := rng32 p1
        have rr10 := rng32 r10
        have lI0 : (0 : Int32).toInt = 0 := by decide
        have lI1 : (1 : Int32).toInt = 1 := by decide
        have lI2 : (2 : Int32).toInt = 2 := by decide
        have lI3 : (3 : Int32).toInt = 3 := by decide
        have lI4 : (4 : Int32).toInt = 4 := by decide
        have lI5 : (5 : Int32).toInt = 5 := by decide
        have lI6 : (6 : Int32).toInt = 6 := by decide
        have lI7 : (7 : Int32).toInt = 7 := by decide
        have lI15 : (15 : Int32).toInt = 15 := by decide
        simp only [Int32.lt_iff_toInt_lt, Int64.lt_iff_toInt_lt, ← Int32.toInt_inj, ← Int64.toInt_inj] at hc11 hc800 hc847 hc848 hc849 hc850 hc851 hc852 hc853
        omega
      · obtain ⟨hc854, hc855, hc856, hc857, hc858, hc859, hc860, hc861, rfl, N822, e822⟩ := hQ822
        have N822_ := Fr.app N799_ N822
        exfalso
        have rv1 := rng32 v1
        have wv1 := c_mask p1 (1 : Int32) 1 (by decide) (by decide)
        rw [← hv1] at wv1
        have rv5 := rng32 v5
        have wv5 := c_mask p0 (15 : Int32) 4 (by decide) (by decide)
        rw [← hv5] at wv5
        have rv6 := rng32 v6
        have wv6 := c_isub v5 (2 : Int32)
        rw [← hv6] at wv6
        have rp0 := rng32 p0
        have rp1 := rng32 p1
        have rr10 := rng32 r10
        have lI0 : (0 : Int32).toInt = 0 := by decide
        have lI1 : (1 : Int32).toInt = 1 := by decide
        have lI2 : (2 : Int32).toInt = 2 := by decide
        have lI3 : (3 : Int32).toInt = 3 := by decide
        have lI4 : (4 : Int32).toInt = 4 := by decide
        have lI5 : (5 : Int32).toInt = 5 := by decide
        have lI6 : (6 : Int32).toInt = 6 := by decide
        have lI7 : (7 : Int32).toInt = 7 := by decide
        have lI8 : (8 : Int32).toInt = 8 := by decide
        have lI15 : (15 : Int32).toInt = 15 := by decide
        simp only [Int32.lt_iff_toInt_lt, Int64.lt_iff_toInt_lt, ← Int32.toInt_inj, ← Int64.toInt_inj] at hc11 hc800 hc854 hc855 hc856 hc857 hc858 hc859 hc860 hc861
        omega
      · obtain ⟨hc862, hc863, hc864, hc865, hc866, hc867, hc868, hc869, hc870, rfl, N822, e822⟩ := hQ822
        have N822_ := Fr.app N799_ N822
        exfalso
        have rv1 := rng32 v1
        have wv1 := c_mask p1 (1 : Int32) 1 (by decide) (by decide)
        rw [← hv1] at wv1
        have rv5 := rng32 v5
        have wv5 := c_mask p0 (15 : Int32) 4 (by decide) (by decide)
        rw [← hv5] at wv5
        have rv6 := rng32 v6
        have wv6 := c_isub v5 (2 : Int32)
        rw [← hv6] at wv6
        have rp0 := rng32 p0
        have rp1 := rng32 p1
        have rr10 := rng32 r10
        have lI0 : (0 : Int32).toInt = 0 := by decide
        have lI1 : (1 : Int32).toInt = 1 := by decide
        have lI2 : (2 : Int32).toInt = 2 := by decide
        have lI3 : (3 : Int32).toInt = 3 := by decide
        have lI4 : (4 : Int32).toInt = 4 := by decide
        have lI5 : (5 : Int32).toInt = 5 := by decide
        have lI6 : (6 : Int32).toInt = 6 := by decide
        have lI7 : (7 : Int32).toInt = 7 := by decide
        have lI8 : (8 : Int32).toInt = 8 := by decide
        have lI9 : (9 : Int32).toInt = 9 := by decide
        have lI15 : (15 : Int32).toInt = 15 := by decide
        simp only [Int32.lt_iff_toInt_lt, Int64.lt_iff_toInt_lt, ← Int32.toInt_inj, ← Int64.toInt_inj] at hc11 hc800 hc862 hc863 hc864 hc865 hc866 hc867 hc868 hc869 hc870
        omega
      · obtain ⟨hc871, hc872, hc873, hc874, hc875, hc876, hc877, hc878, hc879, hc880, rfl, N822, e822⟩ := hQ822
        have N822_ := Fr.app N799_ N822
        exfalso
        have rv1 := rng32 v1
        have wv1 := c_mask p1 (1 : Int32) 1 (by decide) (by decide)
        rw [← hv1] at wv1
        have rv5 := rng32 v5
        have wv5 := c_mask p0 (15 : Int32) 4 (by decide) (by decide)
        rw [← hv5] at wv5
        have rv6 := rng32 v6
        have wv6 := c_isub v5 (2 : Int32)
        rw [← hv6] at wv6
        have rp0 := rng32 p0
        have rp1 := rng32 p1
        have rr10 := rng32 r10
        have lI0 : (0 : Int32).toInt = 0 := by decide
        have lI1 : (1 : Int32).toInt = 1 := by decide
        have lI2 : (2 : Int32).toInt = 2 := by decide
        have lI3 : (3 : Int32).toInt = 3 := by decide
        have lI4 : (4 : Int32).toInt = 4 := by decide
        have lI5 : (5 : Int32).toInt = 5 := by decide
        have lI6 : (6 : Int32).toInt = 6 := by decide
        have lI7 : (7 : Int32).toInt = 7 := by decide
        have lI8 : (8 : Int32).toInt = 8 := by decide
        have lI9 : (9 : Int32).toInt = 9 := by decide
        have lI10 : (10 : Int32).toInt = 10 := by decide
        have lI15 : (15 : Int32).toInt = 15 := by decide
        simp only [Int32.lt_iff_toInt_lt, Int64.lt_iff_toInt_lt, ← Int32.toInt_inj, ← Int64.toInt_inj] at hc11 hc800 hc871 hc872 hc873 hc874 hc875 hc876 hc877 hc878 hc879 hc880
        omega
      · obtain ⟨hc881, hc882, hc883, hc884, hc885, hc886, hc887, hc888, hc889, hc890, rfl, N822, e822⟩ := hQ822
        have N822_ := Fr.app N799_ N822
        exfalso
        have rv1 := rng32 v1
        have wv1 := c_mask p1 (1 : Int32) 1 (by decide) (by decide)
        rw [← hv1] at wv1
        have rv5 := rng32 v5
        have wv5 := c_mask p0 (15 : Int32) 4 (by decide) (by decide)
        rw [← hv5] at wv5
        have rv6 := rng32 v6
        have wv6 := c_isub v5 (2 : Int32)
        rw [← hv6] at wv6
        have rp0 := rng32 p0
        have rp1 := rng32 p1
        have rr10 := rng32 r10
        have lI0 : (0 : Int32).toInt = 0 := by decide
        have lI1 : (1 : Int32).toInt = 1 := by decide
        have lI2 : (2 : Int32).toInt = 2 := by decide
        have lI3 : (3 : Int32).toInt = 3 := by decide
        have lI4 : (4 : Int32).toInt = 4 := by decide
        have lI5 : (5 : Int32).toInt = 5 := by decide
        have lI6 : (6 : Int32).toInt = 6 := by decide
        have lI7 : (7 : Int32).toInt = 7 := by decide
        have lI8 : (8 : Int32).toInt = 8 := by decide
        have lI9 : (9 : Int32).toInt = 9 := by decide
        have lI10 : (10 : Int32).toInt = 10 := by decide
        have lI15 : (15 : Int32).toInt = 15 := by decide
        simp only [Int32.lt_iff_toInt_lt, Int64.lt_iff_toInt_lt, ← Int32.toInt_inj, ← Int64.toInt_inj] at hc11 hc800 hc881 hc882 hc883 hc884 hc885 hc886 hc887 hc888 hc889 hc890
        omega
    · obtain ⟨hc891, hc892, rfl, N799, e799⟩ := hQ799
      have N799_ := Fr.app N0 N799
      refine Go.st (S' := T799.setTop (mkF m 21 A12 [(.ref s_RequestType_READ)])) st799 ?_
      let A893 : Array Slot := #[.val (.int p0), .val (.int p1), .val (.int r10), .val (.ref s_RequestType_READ), .unset]
      refine Go.st (S' := T799.setTop (mkF m 22 A893 [])) (fun t k => XS.astoreN X799.here hx rfl (hb hby at_21) rfl rfl (l' := A893) rfl k) ?_
      refine Go.st (S' := T799.setTop (mkF m 23 A893 [(.int r10)])) (fun t k => XS.iloadN X799.here hx rfl (hb hby at_22) rfl k) ?_
      obtain ⟨r894, T894, L894, X894, hQ894, st894⟩ := own_callS (W := 0) X799 hx hZ e799 hown (y := (⟨"com/example/hale_ledger/haleledger/protocol/RequestTypeOfCodePinLaw", "expected", "(I)Lcom/example/hale_ledger/haleledger/protocol/RequestType;"⟩ : MethodName)) (hw _ (List.mem_of_getElem? (i := 18) rfl)) (hw _ (List.mem_of_getElem? (i := 19) rfl)) (hw _ (List.mem_of_getElem? (i := 20) rfl)) (hw _ (List.mem_of_getElem? (i := 21) rfl)) (by decide) (rm2 l Z a0 hw [] r10 s_RequestType_ADD s_RequestType_READ s_RequestType_STATS s_RequestType_FENCE s_RequestType_RECOVERY_READ s_RequestType_RECOVERY_ADD s_RequestType_READ_LAC s_RequestType_WRITE_LAC s_RequestType_WAIT_LAC s_RequestType_READ_RANGE h0 n0 Z0 (S_s_RequestType_ADD) (S_s_RequestType_READ) (S_s_RequestType_STATS) (S_s_RequestType_FENCE) (S_s_RequestType_RECOVERY_READ) (S_s_RequestType_RECOVERY_ADD) (S_s_RequestType_READ_LAC) (S_s_RequestType_WRITE_LAC) (S_s_RequestType_WAIT_LAC) (S_s_RequestType_READ_RANGE)) (by decide) (by decide) (by decide) (by decide) (g := (mkF m 23 A893 [(.int r10)])) rfl (by rw [hml]; rfl) (argsL := [(.int r10)]) (rest := []) rfl (lenOf pd_0 rfl) rfl (by show 2 * 0 + _ ≤ _; exact Nat.le_of_eq rfl) (hb hby at_23)
      rcases hQ894 with hQ894 | hQ894 | hQ894 | hQ894 | hQ894 | hQ894 | hQ894 | hQ894 | hQ894 | hQ894 | hQ894
      · obtain ⟨hc895, rfl, N894, e894⟩ := hQ894
        have N894_ := Fr.app N799_ N894
        exfalso
        have rv1 := rng32 v1
        have wv1 := c_mask p1 (1 : Int32) 1 (by decide) (by decide)
        rw [← hv1] at wv1
        have rv5 := rng32 v5
        have wv5 := c_mask p0 (15 : Int32) 4 (by decide) (by decide)
        rw [← hv5] at wv5
        have rv6 := rng32 v6
        have wv6 := c_isub v5 (2 : Int32)
        rw [← hv6] at wv6
        have rp0 := rng32 p0
        have rp1 := rng32 p1
        have rr10 := rng32 r10
        have lI0 : (0 : Int32).toInt = 0 := by decide
        have lI1 : (1 : Int32).toInt = 1 := by decide
        have lI2 : (2 : Int32).toInt = 2 := by decide
        have lI15 : (15 : Int32).toInt = 15 := by decide
        simp only [Int32.lt_iff_toInt_lt, Int64.lt_iff_toInt_lt, ← Int32.toInt_inj, ← Int64.toInt_inj] at hc11 hc891 hc892 hc895
        omega
      · obtain ⟨hc896, hc897, rfl, N894, e894⟩ := hQ894
        have N894_ := Fr.app N799_ N894
        refine Go.st (S' := T894.setTop (mkF m 26 A893 [(.ref s_RequestType_READ)])) st894 ?_
        let A898 : Array Slot := #[.val (.int p0), .val (.int p1), .val (.int r10), .val (.ref s_RequestType_READ), .val (.ref s_RequestType_READ)]
        refine Go.st (S' := T894.setTop (mkF m 28 A898 [])) (fun t k => XS.astore X894.here hx rfl (hb hby at_26) rfl rfl (l' := A898) rfl k) ?_
        refine Go.st (S' := T894.setTop (mkF m 30 A898 [(.ref s_RequestType_READ)])) (fun t k => XS.aload X894.here hx rfl (hb hby at_28) rfl rfl k) ?_
        refine Go.st (S' := T894.setTop (mkF m 43 A898 [])) (fun t k => XS.ifnonnullYes X894.here hx rfl (pc0 := 30) (pc' := 43) rfl (hb hby at_30) rfl (by decide) (by decide) k) ?_
        refine Go.st (S' := T894.setTop (mkF m 44 A898 [(.ref s_RequestType_READ)])) (fun t k => XS.aloadN X894.here hx rfl (hb hby at_43) rfl rfl k) ?_
        refine Go.st (S' := T894.setTop (mkF m 46 A898 [(.ref s_RequestType_READ), (.ref s_RequestType_READ)])) (fun t k => XS.aload X894.here hx rfl (hb hby at_44) rfl rfl k) ?_
        refine Go.st (S' := T894.setTop (mkF m 49 A898 [])) (fun t k => acmp X894 hx rfl rfl rfl (pc0 := 46) (pc' := 49) (same := true) rfl (hb hby at_46) rfl (by simp) (by decide) (by decide) k) ?_
        refine Go.st (S' := T894.setTop (mkF m 50 A898 [(.ref s_RequestType_READ)])) (fun t k => XS.aloadN X894.here hx rfl (hb hby at_49) rfl rfl k) ?_
        obtain ⟨r900, T900, L900, X900, hQ900, st900⟩ := own_callV (W := 0) (a := s_RequestType_READ) (C := "com/example/hale_ledger/haleledger/protocol/RequestType") X894 hx hZ e894 hown (y := (⟨"com/example/hale_ledger/haleledger/protocol/RequestType", "code", "()I"⟩ : MethodName)) (z := (⟨"com/example/hale_ledger/haleledger/protocol/RequestType", "code", "()I"⟩ : MethodName)) (hw _ (List.mem_of_getElem? (i := 23) rfl)) (hw _ (List.mem_of_getElem? (i := 24) rfl)) (notFace_of_selects (args := #[]) (mvT hZ (hw _ (List.mem_of_getElem? (i := 26) rfl)))) (hw _ (List.mem_of_getElem? (i := 26) rfl)) (hw _ (List.mem_of_getElem? (i := 25) rfl)) (hw _ (List.mem_of_getElem? (i := 2) rfl)) (hw _ (List.mem_of_getElem? (i := 27) rfl)) (by decide) (E_s_RequestType_READ) (rm4 l Z a0 hw [] s_RequestType_READ h0 n0 Z0 (F_s_RequestType_READ_code)) (by decide) (by decide) (by decide) (by decide) (g := (mkF m 50 A898 [(.ref s_RequestType_READ)])) rfl (by rw [hml]; rfl) (argsL := []) (rest := []) rfl (lenOf pd_1 rfl) rfl (by show 2 * 0 + _ ≤ _; exact Nat.le_of_eq rfl) (hb hby at_50)
        obtain ⟨rfl, N900, e900⟩ := hQ900
        have N900_ := Fr.app N894_ N900
        refine Go.st (S' := T900.setTop (mkF m 53 A898 [(.int (2 : Int32))])) st900 ?_
        refine Go.st (S' := T900.setTop (mkF m 54 A898 [(.int r10), (.int (2 : Int32))])) (fun t k => XS.iloadN X900.here hx rfl (hb hby at_53) rfl k) ?_
        refine Go.st (S' := T900.setTop (mkF m 57 A898 [])) (fun t k => XS.icmpNo X900.here hx rfl (hb hby at_54) rfl (teq hc892).2 k) ?_
        refine Go.st (S' := T900.setTop (mkF m 58 A898 [(.int (1 : Int32))])) (fun t k => XS.iconst X900.here hx rfl (hb hby at_57) k) ?_
        refine Go.st (S' := T900.setTop (mkF m 62 A898 [(.int (1 : Int32))])) (fun t k => XS.goto X900.here hx rfl (pc0 := 58) (pc' := 62) rfl (hb hby at_58) (by decide) (by decide) k) ?_
        exact Go.ret X900 (v := some (.int (1 : Int32))) (fun h => by rw [Bd.returns] at h; cases h) Bd.notSynchronized (fun fs hr => retN X900 hx (t := .boolean) Bd.returns (by simp) (hb hby at_62) hr) (by decide) (by decide) ⟨rfl, N900_⟩
      · obtain ⟨hc901, hc902, hc903, rfl, N894, e894⟩ := hQ894
        have N894_ := Fr.app N799_ N894
        exfalso
        have rv1 := rng32 v1
        have wv1 := c_mask p1 (1 : Int32) 1 (by decide) (by decide)
        rw [← hv1] at wv1
        have rv5 := rng32 v5
        have wv5 := c_mask p0 (15 : Int32) 4 (by decide) (by decide)
        rw [← hv5] at wv5
        have rv6 := rng32 v6
        have wv6 := c_isub v5 (2 : Int32)
        rw [← hv6] at wv6
        have rp0 := rng32 p0
        have rp1 := rng32 p1
        have rr10 := rng32 r10
        have lI0 : (0 : Int32).toInt = 0 := by decide
        have lI1 : (1 : Int32).toInt = 1 := by decide
        have lI2 : (2 : Int32).toInt = 2 := by decide
        have lI3 : (3 : Int32).toInt = 3 := by decide
        have lI15 : (15 : Int32).toInt = 15 := by decide
        simp only [Int32.lt_iff_toInt_lt, Int64.lt_iff_toInt_lt, ← Int32.toInt_inj, ← Int64.toInt_inj] at hc11 hc891 hc892 hc901 hc902 hc903
        omega
      · obtain ⟨hc904, hc905, hc906, hc907, rfl, N894, e894⟩ := hQ894
        have N894_ := Fr.app N799_ N894
        exfalso
        have rv1 := rng32 v1
        have wv1 := c_mask p1 (1 : Int32) 1 (by decide) (by decide)
        rw [← hv1] at wv1
        have rv5 := rng32 v5
        have wv5 := c_mask p0 (15 : Int32) 4 (by decide) (by decide)
        rw [← hv5] at wv5
        have rv6 := rng32 v6
        have wv6 := c_isub v5 (2 : Int32)
        rw [← hv6] at wv6
        have rp0 := rng32 p0
        have rp1 := rng32 p1
        have rr10 := rng32 r10
        have lI0 : (0 : Int32).toInt = 0 := by decide
        have lI1 : (1 : Int32).toInt = 1 := by decide
        have lI2 : (2 : Int32).toInt = 2 := by decide
        have lI3 : (3 : Int32).toInt = 3 := by decide
        have lI4 : (4 : Int32).toInt = 4 := by decide
        have lI15 : (15 : Int32).toInt = 15 := by decide
        simp only [Int32.lt_iff_toInt_lt, Int64.lt_iff_toInt_lt, ← Int32.toInt_inj, ← Int64.toInt_inj] at hc11 hc891 hc892 hc904 hc905 hc906 hc907
        omega
      · obtain ⟨hc908, hc909, hc910, hc911, hc912, rfl, N894, e894⟩ := hQ894
        have N894_ := Fr.app N799_ N894
        exfalso
        have rv1 := rng32 v1
        have wv1 := c_mask p1 (1 : Int32) 1 (by decide) (by decide)
        rw [← hv1] at wv1
        have rv5 := rng32 v5
        have wv5 := c_mask p0 (15 : Int32) 4 (by decide) (by decide)
        rw [← hv5] at wv5
        have rv6 := rng32 v6
        have wv6 := c_isub v5 (2 : Int32)
        rw [← hv6] at wv6
        have rp0 := rng32 p0
        have rp1 := rng32 p1
        have rr10 := rng32 r10
        have lI0 : (0 : Int32).toInt = 0 := by decide
        have lI1 : (1 : Int32).toInt = 1 := by decide
        have lI2 : (2 : Int32).toInt = 2 := by decide
        have lI3 : (3 : Int32).toInt = 3 := by decide
        have lI4 : (4 : Int32).toInt = 4 := by decide
        have lI5 : (5 : Int32).toInt = 5 := by decide
        have lI15 : (15 : Int32).toInt = 15 := by decide
        simp only [Int32.lt_iff_toInt_lt, Int64.lt_iff_toInt_lt, ← Int32.toInt_inj, ← Int64.toInt_inj] at hc11 hc891 hc892 hc908 hc909 hc910 hc911 hc912
        omega
      · obtain ⟨hc913, hc914, hc915, hc916, hc917, hc918, rfl, N894, e894⟩ := hQ894
        have N894_ := Fr.app N799_ N894
        exfalso
        have rv1 := rng32 v1
        have wv1 := c_mask p1 (1 : Int32) 1 (by decide) (by decide)
        rw [← hv1] at wv1
        have rv5 := rng32 v5
        have wv5 := c_mask p0 (15 : Int32) 4 (by decide) (by decide)
        rw [← hv5] at wv5
        have rv6 := rng32 v6
        have wv6 := c_isub v5 (2 : Int32)
        rw [← hv6] at wv6
        have rp0 := rng32 p0
        have rp1 := rng32 p1
        have rr10 := rng32 r10
        have lI0 : (0 : Int32).toInt = 0 := by decide
        have lI1 : (1 : Int32).toInt = 1 := by decide
        have lI2 : (2 : Int32).toInt = 2 := by decide
        have lI3 : (3 : Int32).toInt = 3 := by decide
        have lI4 : (4 : Int32).toInt = 4 := by decide
        have lI5 : (5 : Int32).toInt = 5 := by decide
        have lI6 : (6 : Int32).toInt = 6 := by decide
        have lI15 : (15 : Int32).toInt = 15 := by decide
        simp only [Int32.lt_iff_toInt_lt, Int64.lt_iff_toInt_lt, ← Int32.toInt_inj, ← Int64.toInt_inj] at hc11 hc891 hc892 hc913 hc914 hc915 hc916 hc917 hc918
        omega
      · obtain ⟨hc919, hc920, hc921, hc922, hc923, hc924, hc925, rfl, N894, e894⟩ := hQ894
        have N894_ := Fr.app N799_ N894
        exfalso
        have rv1 := rng32 v1
        have wv1 := c_mask p1 (1 : Int32) 1 (by decide) (by decide)
        rw [← hv1] at wv1
        have rv5 := rng32 v5
        have wv5 := c_mask p0 (15 : Int32) 4 (by decide) (by decide)
        rw [← hv5] at wv5
        have rv6 := rng32 v6
        have wv6 := c_isub v5 (2 : Int32)
        rw [← hv6] at wv6
        have rp0 := rng32 p0
        have rp1 := rng32 p1
        have rr10 := rng32 r10
        have lI0 : (0 : Int32).toInt = 0 := by decide
        have lI1 : (1 : Int32).toInt = 1 := by decide
        have lI2 : (2 : Int32).toInt = 2 := by decide
        have lI3 : (3 : Int32).toInt = 3 := by decide
        have lI4 : (4 : Int32).toInt = 4 := by decide
        have lI5 : (5 : Int32).toInt = 5 := by decide
        have lI6 : (6 : Int32).toInt = 6 := by decide
        have lI7 : (7 : Int32).toInt = 7 := by decide
        have lI15 : (15 : Int32).toInt = 15 := by decide
        simp only [Int32.lt_iff_toInt_lt, Int64.lt_iff_toInt_lt, ← Int32.toInt_inj, ← Int64.toInt_inj] at hc11 hc891 hc892 hc919 hc920 hc921 hc922 hc923 hc924 hc925
        omega
      · obtain ⟨hc926, hc927, hc928, hc929, hc930, hc931, hc932, hc933, rfl, N894, e894⟩ := hQ894
        have N894_ := Fr.app N799_ N894
        exfalso
        have rv1 := rng32 v1
        have wv1 := c_mask p1 (1 : Int32) 1 (by decide) (by decide)
        rw [← hv1] at wv1
        have rv5 := rng32 v5
        have wv5 := c_mask p0 (15 : Int32) 4 (by decide) (by decide)
        rw [← hv5] at wv5
        have rv6 := rng32 v6
        have wv6 := c_isub v5 (2 : Int32)
        rw [← hv6] at wv6
        have rp0 := rng32 p0
        have rp1 := rng32 p1
        have rr10 := rng32 r10
        have lI0 : (0 : Int32).toInt = 0 := by decide
        have lI1 : (1 : Int32).toInt = 1 := by decide
        have lI2 : (2 : Int32).toInt = 2 := by decide
        have lI3 : (3 : Int32).toInt = 3 := by decide
        have lI4 : (4 : Int32).toInt = 4 := by decide
        have lI5 : (5 : Int32).toInt = 5 := by decide
        have lI6 : (6 : Int32).toInt = 6 := by decide
        have lI7 : (7 : Int32).toInt = 7 := by decide
        have lI8 : (8 : Int32).toInt = 8 := by decide
        have lI15 : (15 : Int32).toInt = 15 := by decide
        simp only [Int32.lt_iff_toInt_lt, Int64.lt_iff_toInt_lt, ← Int32.toInt_inj, ← Int64.toInt_inj] at hc11 hc891 hc892 hc926 hc927 hc928 hc929 hc930 hc931 hc932 hc933
        omega
      · obtain ⟨hc934, hc935, hc936, hc937, hc938, hc939, hc940, hc941, hc942, rfl, N894, e894⟩ := hQ894
        have N894_ := Fr.app N799_ N894
        exfalso
        have rv1 := rng32 v1
        have wv1 := c_mask p1 (1 : Int32) 1 (by decide) (by decide)
        rw [← hv1] at wv1
        have rv5 := rng32 v5
        have wv5 := c_mask p0 (15 : Int32) 4 (by decide) (by decide)
        rw [← hv5] at wv5
        have rv6 := rng32 v6
        have wv6 := c_isub v5 (2 : Int32)
        rw [← hv6] at wv6
        have rp0 := rng32 p0
        have rp1 := rng32 p1
        have rr10 := rng32 r10
        have lI0 : (0 : Int32).toInt = 0 := by decide
        have lI1 : (1 : Int32).toInt = 1 := by decide
        have lI2 : (2 : Int32).toInt = 2 := by decide
        have lI3 : (3 : Int32).toInt = 3 := by decide
        have lI4 : (4 : Int32).toInt = 4 := by decide
        have lI5 : (5 : Int32).toInt = 5 := by decide
        have lI6 : (6 : Int32).toInt = 6 := by decide
        have lI7 : (7 : Int32).toInt = 7 := by decide
        have lI8 : (8 : Int32).toInt = 8 := by decide
        have lI9 : (9 : Int32).toInt = 9 := by decide
        have lI15 : (15 : Int32).toInt = 15 := by decide
        simp only [Int32.lt_iff_toInt_lt, Int64.lt_iff_toInt_lt, ← Int32.toInt_inj, ← Int64.toInt_inj] at hc11 hc891 hc892 hc934 hc935 hc936 hc937 hc938 hc939 hc940 hc941 hc942
        omega
      · obtain ⟨hc943, hc944, hc945, hc946, hc947, hc948, hc949, hc950, hc951, hc952, rfl, N894, e894⟩ := hQ894
        have N894_ := Fr.app N799_ N894
        exfalso
        have rv1 := rng32 v1
        have wv1 := c_mask p1 (1 : Int32) 1 (by decide) (by decide)
        rw [← hv1] at wv1
        have rv5 := rng32 v5
        have wv5 := c_mask p0 (15 : Int32) 4 (by decide) (by decide)
        rw [← hv5] at wv5
        have rv6 := rng32 v6
        have wv6 := c_isub v5 (2 : Int32)
        rw [← hv6] at wv6
        have rp0 := rng32 p0
        have rp1 := rng32 p1
        have rr10 := rng32 r10
        have lI0 : (0 : Int32).toInt = 0 := by decide
        have lI1 : (1 : Int32).toInt = 1 := by decide
        have lI2 : (2 : Int32).toInt = 2 := by decide
        have lI3 : (3 : Int32).toInt = 3 := by decide
        have lI4 : (4 : Int32).toInt = 4 := by decide
        have lI5 : (5 : Int32).toInt = 5 := by decide
        have lI6 : (6 : Int32).toInt = 6 := by decide
        have lI7 : (7 : Int32).toInt = 7 := by decide
        have lI8 : (8 : Int32).toInt = 8 := by decide
        have lI9 : (9 : Int32).toInt = 9 := by decide
        have lI10 : (10 : Int32).toInt = 10 := by decide
        have lI15 : (15 : Int32).toInt = 15 := by decide
        simp only [Int32.lt_iff_toInt_lt, Int64.lt_iff_toInt_lt, ← Int32.toInt_inj, ← Int64.toInt_inj] at hc11 hc891 hc892 hc943 hc944 hc945 hc946 hc947 hc948 hc949 hc950 hc951 hc952
        omega
      · obtain ⟨hc953, hc954, hc955, hc956, hc957, hc958, hc959, hc960, hc961, hc962, rfl, N894, e894⟩ := hQ894
        have N894_ := Fr.app N799_ N894
        exfalso
        have rv1 := rng32 v1
        have wv1 := c_mask p1 (1 : Int32) 1 (by decide) (by decide)
        rw [← hv1] at wv1
        have rv5 := rng32 v5
        have wv5 := c_mask p0 (15 : Int32) 4 (by decide) (by decide)
        rw [← hv5] at wv5
        have rv6 := rng32 v6
        have wv6 := c_isub v5 (2 : Int32)
        rw [← hv6] at wv6
        have rp0 := rng32 p0
        have rp1 := rng32 p1
        have rr10 := rng32 r10
        have lI0 : (0 : Int32).toInt = 0 := by decide
        have lI1 : (1 : Int32).toInt = 1 := by decide
        have lI2 : (2 : Int32).toInt = 2 := by decide
        have lI3 : (3 : Int32).toInt = 3 := by decide
        have lI4 : (4 : Int32).toInt = 4 := by decide
        have lI5 : (5 : Int32).toInt = 5 := by decide
        have lI6 : (6 : Int32).toInt = 6 := by decide
        have lI7 : (7 : Int32).toInt = 7 := by decide
        have lI8 : (8 : Int32).toInt = 8 := by decide
        have lI9 : (9 : Int32).toInt = 9 := by decide
        have lI10 : (10 : Int32).toInt = 10 := by decide
        have lI15 : (15 : Int32).toInt = 15 := by decide
        simp only [Int32.lt_iff_toInt_lt, Int64.lt_iff_toInt_lt, ← Int32.toInt_inj, ← Int64.toInt_inj] at hc11 hc891 hc892 hc953 hc954 hc955 hc956 hc957 hc958 hc959 hc960 hc961 hc962
        omega
    · obtain ⟨hc963, hc964, hc965, rfl, N799, e799⟩ := hQ799
      have N799_ := Fr.app N0 N799
      refine Go.st (S' := T799.setTop (mkF m 21 A12 [(.ref s_RequestType_STATS)])) st799 ?_
      let A966 : Array Slot := #[.val (.int p0), .val (.int p1), .val (.int r10), .val (.ref s_RequestType_STATS), .unset]
      refine Go.st (S' := T799.setTop (mkF m 22 A966 [])) (fun t k => XS.astoreN X799.here hx rfl (hb hby at_21) rfl rfl (l' := A966) rfl k) ?_
      refine Go.st (S' := T799.setTop (mkF m 23 A966 [(.int r10)])) (fun t k => XS.iloadN X799.here hx rfl (hb hby at_22) rfl k) ?_
      obtain ⟨r967, T967, L967, X967, hQ967, st967⟩ := own_callS (W := 0) X799 hx hZ e799 hown (y := (⟨"com/example/hale_ledger/haleledger/protocol/RequestTypeOfCodePinLaw", "expected", "(I)Lcom/example/hale_ledger/haleledger/protocol/RequestType;"⟩ : MethodName)) (hw _ (List.mem_of_getElem? (i := 18) rfl)) (hw _ (List.mem_of_getElem? (i := 19) rfl)) (hw _ (List.mem_of_getElem? (i := 20) rfl)) (hw _ (List.mem_of_getElem? (i := 21) rfl)) (by decide) (rm2 l Z a0 hw [] r10 s_RequestType_ADD s_RequestType_READ s_RequestType_STATS s_RequestType_FENCE s_RequestType_RECOVERY_READ s_RequestType_RECOVERY_ADD s_RequestType_READ_LAC s_RequestType_WRITE_LAC s_RequestType_WAIT_LAC s_RequestType_READ_RANGE h0 n0 Z0 (S_s_RequestType_ADD) (S_s_RequestType_READ) (S_s_RequestType_STATS) (S_s_RequestType_FENCE) (S_s_RequestType_RECOVERY_READ) (S_s_RequestType_RECOVERY_ADD) (S_s_RequestType_READ_LAC) (S_s_RequestType_WRITE_LAC) (S_s_RequestType_WAIT_LAC) (S_s_RequestType_READ_RANGE)) (by decide) (by decide) (by decide) (by decide) (g := (mkF m 23 A966 [(.int r10)])) rfl (by rw [hml]; rfl) (argsL := [(.int r10)]) (rest := []) rfl (lenOf pd_0 rfl) rfl (by show 2 * 0 + _ ≤ _; exact Nat.le_of_eq rfl) (hb hby at_23)
      rcases hQ967 with hQ967 | hQ967 | hQ967 | hQ967 | hQ967 | hQ967 | hQ967 | hQ967 | hQ967 | hQ967 | hQ967
      · obtain ⟨hc968, rfl, N967, e967⟩ := hQ967
        have N967_ := Fr.app N799_ N967
        exfalso
        have rv1 := rng32 v1
        have wv1 := c_mask p1 (1 : Int32) 1 (by decide) (by decide)
        rw [← hv1] at wv1
        have rv5 := rng32 v5
        have wv5 := c_mask p0 (15 : Int32) 4 (by decide) (by decide)
        rw [← hv5] at wv5
        have rv6 := rng32 v6
        have wv6 := c_isub v5 (2 : Int32)
        rw [← hv6] at wv6
        have rp0 := rng32 p0
        have rp1 := rng32 p1
        have rr10 := rng32 r10
        have lI0 : (0 : Int32).toInt = 0 := by decide
        have lI1 : (1 : Int32).toInt = 1 := by decide
        have lI2 : (2 : Int32).toInt = 2 := by decide
        have lI3 : (3 : Int32).toInt = 3 := by decide
        have lI15 : (15 : Int32).toInt = 15 := by decide
        simp only [Int32.lt_iff_toInt_lt, Int64.lt_iff_toInt_lt, ← Int32.toInt_inj, ← Int64.toInt_inj] at hc11 hc963 hc964 hc965 hc968
        omega
      · obtain ⟨hc969, hc970, rfl, N967, e967⟩ := hQ967
        have N967_ := Fr.app N799_ N967
        exfalso
        have rv1 := rng32 v1
        have wv1 := c_mask p1 (1 : Int32) 1 (by decide) (by decide)
        rw [← hv1] at wv1
        have rv5 := rng32 v5
        have wv5 := c_mask p0 (15 : Int32) 4 (by decide) (by decide)
        rw [← hv5] at wv5
        have rv6 := rng32 v6
        have wv6 := c_isub v5 (2 : Int32)
        rw [← hv6] at wv6
        have rp0 := rng32 p0
        have rp1 := rng32 p1
        have rr10 := rng32 r10
        have lI0 : (0 : Int32).toInt = 0 := by decide
        have lI1 : (1 : Int32).toInt = 1 := by decide
        have lI2 : (2 : Int32).toInt = 2 := by decide
        have lI3 : (3 : Int32).toInt = 3 := by decide
        have lI15 : (15 : Int32).toInt = 15 := by decide
        simp only [Int32.lt_iff_toInt_lt, Int64.lt_iff_toInt_lt, ← Int32.toInt_inj, ← Int64.toInt_inj] at hc11 hc963 hc964 hc965 hc969 hc970
        omega
      · obtain ⟨hc971, hc972, hc973, rfl, N967, e967⟩ := hQ967
        have N967_ := Fr.app N799_ N967
        refine Go.st (S' := T967.setTop (mkF m 26 A966 [(.ref s_RequestType_STATS)])) st967 ?_
        let A974 : Array Slot := #[.val (.int p0), .val (.int p1), .val (.int r10), .val (.ref s_RequestType_STATS), .val (.ref s_RequestType_STATS)]
        refine Go.st (S' := T967.setTop (mkF m 28 A974 [])) (fun t k => XS.astore X967.here hx rfl (hb hby at_26) rfl rfl (l' := A974) rfl k) ?_
        refine Go.st (S' := T967.setTop (mkF m 30 A974 [(.ref s_RequestType_STATS)])) (fun t k => XS.aload X967.here hx rfl (hb hby at_28) rfl rfl k) ?_
        refine Go.st (S' := T967.setTop (mkF m 43 A974 [])) (fun t k => XS.ifnonnullYes X967.here hx rfl (pc0 := 30) (pc' := 43) rfl (hb hby at_30) rfl (by decide) (by decide) k) ?_
        refine Go.st (S' := T967.setTop (mkF m 44 A974 [(.ref s_RequestType_STATS)])) (fun t k => XS.aloadN X967.here hx rfl (hb hby at_43) rfl rfl k) ?_
        refine Go.st (S' := T967.setTop (mkF m 46 A974 [(.ref s_RequestType_STATS), (.ref s_RequestType_STATS)])) (fun t k => XS.aload X967.here hx rfl (hb hby at_44) rfl rfl k) ?_
        refine Go.st (S' := T967.setTop (mkF m 49 A974 [])) (fun t k => acmp X967 hx rfl rfl rfl (pc0 := 46) (pc' := 49) (same := true) rfl (hb hby at_46) rfl (by simp) (by decide) (by decide) k) ?_
        refine Go.st (S' := T967.setTop (mkF m 50 A974 [(.ref s_RequestType_STATS)])) (fun t k => XS.aloadN X967.here hx rfl (hb hby at_49) rfl rfl k) ?_
        obtain ⟨r976, T976, L976, X976, hQ976, st976⟩ := own_callV (W := 0) (a := s_RequestType_STATS) (C := "com/example/hale_ledger/haleledger/protocol/RequestType") X967 hx hZ e967 hown (y := (⟨"com/example/hale_ledger/haleledger/protocol/RequestType", "code", "()I"⟩ : MethodName)) (z := (⟨"com/example/hale_ledger/haleledger/protocol/RequestType", "code", "()I"⟩ : MethodName)) (hw _ (List.mem_of_getElem? (i := 23) rfl)) (hw _ (List.mem_of_getElem? (i := 24) rfl)) (notFace_of_selects (args := #[]) (mvT hZ (hw _ (List.mem_of_getElem? (i := 26) rfl)))) (hw _ (List.mem_of_getElem? (i := 26) rfl)) (hw _ (List.mem_of_getElem? (i := 25) rfl)) (hw _ (List.mem_of_getElem? (i := 2) rfl)) (hw _ (List.mem_of_getElem? (i := 27) rfl)) (by decide) (E_s_RequestType_STATS) (rm5 l Z a0 hw [] s_RequestType_STATS h0 n0 Z0 (F_s_RequestType_STATS_code)) (by decide) (by decide) (by decide) (by decide) (g := (mkF m 50 A974 [(.ref s_RequestType_STATS)])) rfl (by rw [hml]; rfl) (argsL := []) (rest := []) rfl (lenOf pd_1 rfl) rfl (by show 2 * 0 + _ ≤ _; exact Nat.le_of_eq rfl) (hb hby at_50)
        obtain ⟨rfl, N976, e976⟩ := hQ976
        have N976_ := Fr.app N967_ N976
        refine Go.st (S' := T976.setTop (mkF m 53 A974 [(.int (3 : Int32))])) st976 ?_
        refine Go.st (S' := T976.setTop (mkF m 54 A974 [(.int r10), (.int (3 : Int32))])) (fun t k => XS.iloadN X976.here hx rfl (hb hby at_53) rfl k) ?_
        refine Go.st (S' := T976.setTop (mkF m 57 A974 [])) (fun t k => XS.icmpNo X976.here hx rfl (hb hby at_54) rfl (teq hc965).2 k) ?_
        refine Go.st (S' := T976.setTop (mkF m 58 A974 [(.int (1 : Int32))])) (fun t k => XS.iconst X976.here hx rfl (hb hby at_57) k) ?_
        refine Go.st (S' := T976.setTop (mkF m 62 A974 [(.int (1 : Int32))])) (fun t k => XS.goto X976.here hx rfl (pc0 := 58) (pc' := 62) rfl (hb hby at_58) (by decide) (by decide) k) ?_
        exact Go.ret X976 (v := some (.int (1 : Int32))) (fun h => by rw [Bd.returns] at h; cases h) Bd.notSynchronized (fun fs hr => retN X976 hx (t := .boolean) Bd.returns (by simp) (hb hby at_62) hr) (by decide) (by decide) ⟨rfl, N976_⟩
      · obtain ⟨hc977, hc978, hc979, hc980, rfl, N967, e967⟩ := hQ967
        have N967_ := Fr.app N799_ N967
        exfalso
        have rv1 := rng32 v1
        have wv1 := c_mask p1 (1 : Int32) 1 (by decide) (by decide)
        rw [← hv1] at wv1
        have rv5 := rng32 v5
        have wv5 := c_mask p0 (15 : Int32) 4 (by decide) (by decide)
        rw [← hv5] at wv5
        have rv6 := rng32 v6
        have wv6 := c_isub v5 (2 : Int32)
        rw [← hv6] at wv6
        have rp0 := rng32 p0
        have rp1 := rng32 p1
        have rr10 := rng32 r10
        have lI0 : (0 : Int32).toInt = 0 := by decide
        have lI1 : (1 : Int32).toInt = 1 := by decide
        have lI2 : (2 : Int32).toInt = 2 := by decide
        have lI3 : (3 : Int32).toInt = 3 := by decide
        have lI4 : (4 : Int32).toInt = 4 := by decide
        have lI15 : (15 : Int32).toInt = 15 := by decide
        simp only [Int32.lt_iff_toInt_lt, Int64.lt_iff_toInt_lt, ← Int32.toInt_inj, ← Int64.toInt_inj] at hc11 hc963 hc964 hc965 hc977 hc978 hc979 hc980
        omega
      · obtain ⟨hc981, hc982, hc983, hc984, hc985, rfl, N967, e967⟩ := hQ967
        have N967_ := Fr.app N799_ N967
        exfalso
        have rv1 := rng32 v1
        have wv1 := c_mask p1 (1 : Int32) 1 (by decide) (by decide)
        rw [← hv1] at wv1
        have rv5 := rng32 v5
        have wv5 := c_mask p0 (15 : Int32) 4 (by decide) (by decide)
        rw [← hv5] at wv5
        have rv6 := rng32 v6
        have wv6 := c_isub v5 (2 : Int32)
        rw [← hv6] at wv6
        have rp0 := rng32 p0
        have rp1 := rng32 p1
        have rr10 := rng32 r10
        have lI0 : (0 : Int32).toInt = 0 := by decide
        have lI1 : (1 : Int32).toInt = 1 := by decide
        have lI2 : (2 : Int32).toInt = 2 := by decide
        have lI3 : (3 : Int32).toInt = 3 := by decide
        have lI4 : (4 : Int32).toInt = 4 := by decide
        have lI5 : (5 : Int32).toInt = 5 := by decide
        have lI15 : (15 : Int32).toInt = 15 := by decide
        simp only [Int32.lt_iff_toInt_lt, Int64.lt_iff_toInt_lt, ← Int32.toInt_inj, ← Int64.toInt_inj] at hc11 hc963 hc964 hc965 hc981 hc982 hc983 hc984 hc985
        omega
      · obtain ⟨hc986, hc987, hc988, hc989, hc990, hc991, rfl, N967, e967⟩ := hQ967
        have N967_ := Fr.app N799_ N967
        exfalso
        have rv1 := rng32 v1
        have wv1 := c_mask p1 (1 : Int32) 1 (by decide) (by decide)
        rw [← hv1] at wv1
        have rv5 := rng32 v5
        have wv5 := c_mask p0 (15 : Int32) 4 (by decide) (by decide)
        rw [← hv5] at wv5
        have rv6 := rng32 v6
        have wv6 := c_isub v5 (2 : Int32)
        rw [← hv6] at wv6
        have rp0 := rng32 p0
        have rp1 := rng32 p1
        have rr10 := rng32 r10
        have lI0 : (0 : Int32).toInt = 0 := by decide
        have lI1 : (1 : Int32).toInt = 1 := by decide
        have lI2 : (2 : Int32).toInt = 2 := by decide
        have lI3 : (3 : Int32).toInt = 3 := by decide
        have lI4 : (4 : Int32).toInt = 4 := by decide
        have lI5 : (5 : Int32).toInt = 5 := by decide
        have lI6 : (6 : Int32).toInt = 6 := by decide
        have lI15 : (15 : Int32).toInt = 15 := by decide
        simp only [Int32.lt_iff_toInt_lt, Int64.lt_iff_toInt_lt, ← Int32.toInt_inj, ← Int64.toInt_inj] at hc11 hc963 hc964 hc965 hc986 hc987 hc988 hc989 hc990 hc991
        omega
      · obtain ⟨hc992, hc993, hc994, hc995, hc996, hc997, hc998, rfl, N967, e967⟩ := hQ967
        have N967_ := Fr.app N799_ N967
        exfalso
        have rv1 := rng32 v1
        have wv1 := c_mask p1 (1 : Int32) 1 (by decide) (by decide)
        rw [← hv1] at wv1
        have rv5 := rng32 v5
        have wv5 := c_mask p0 (15 : Int32) 4 (by decide) (by decide)
        rw [← hv5] at wv5
        have rv6 := rng32 v6
        have wv6 := c_isub v5 (2 : Int32)
        rw [← hv6] at wv6
        have rp0 := rng32 p0
        have rp1 := rng32 p1
        have rr10 := rng32 r10
        have lI0 : (0 : Int32).toInt = 0 := by decide
        have lI1 : (1 : Int32).toInt = 1 := by decide
        have lI2 : (2 : Int32).toInt = 2 := by decide
        have lI3 : (3 : Int32).toInt = 3 := by decide
        have lI4 : (4 : Int32).toInt = 4 := by decide
        have lI5 : (5 : Int32).toInt = 5 := by decide
        have lI6 : (6 : Int32).toInt = 6 := by decide
        have lI7 : (7 : Int32).toInt = 7 := by decide
        have lI15 : (15 : Int32).toInt = 15 := by decide
        simp only [Int32.lt_iff_toInt_lt, Int64.lt_iff_toInt_lt, ← Int32.toInt_inj, ← Int64.toInt_inj] at hc11 hc963 hc964 hc965 hc992 hc993 hc994 hc995 hc996 hc997 hc998
        omega
      · obtain ⟨hc999, hc1000, hc1001, hc1002, hc1003, hc1004, hc1005, hc1006, rfl, N967, e967⟩ := hQ967
        have N967_ := Fr.app N799_ N967
        exfalso
        have rv1 := rng32 v1
        have wv1 := c_mask p1 (1 : Int32) 1 (by decide) (by decide)
        rw [← hv1] at wv1
        have rv5 := rng32 v5
        have wv5 := c_mask p0 (15 : Int32) 4 (by decide) (by decide)
        rw [← hv5] at wv5
        have rv6 := rng32 v6
        have wv6 := c_isub v5 (2 : Int32)
        rw [← hv6] at wv6
        have rp0 := rng32 p0
        have rp1 := rng32 p1
        have rr10 := rng32 r10
        have lI0 : (0 : Int32).toInt = 0 := by decide
        have lI1 : (1 : Int32).toInt = 1 := by decide
        have lI2 : (2 : Int32).toInt = 2 := by decide
        have lI3 : (3 : Int32).toInt = 3 := by decide
        have lI4 : (4 : Int32).toInt = 4 := by decide
        have lI5 : (5 : Int32).toInt = 5 := by decide
        have lI6 : (6 : Int32).toInt = 6 := by decide
        have lI7 : (7 : Int32).toInt = 7 := by decide
        have lI8 : (8 : Int32).toInt = 8 := by decide
        have lI15 : (15 : Int32).toInt = 15 := by decide
        simp only [Int32.lt_iff_toInt_lt, Int64.lt_iff_toInt_lt, ← Int32.toInt_inj, ← Int64.toInt_inj] at hc11 hc963 hc964 hc965 hc999 hc1000 hc1001 hc1002 hc1003 hc1004 hc1005 hc1006
        omega
      · obtain ⟨hc1007, hc1008, hc1009, hc1010, hc1011, hc1012, hc1013, hc1014, hc1015, rfl, N967, e967⟩ := hQ967
        have N967_ := Fr.app N799_ N967
        exfalso
        have rv1 := rng32 v1
        have wv1 := c_mask p1 (1 : Int32) 1 (by decide) (by decide)
        rw [← hv1] at wv1
        have rv5 := rng32 v5
        have wv5 := c_mask p0 (15 : Int32) 4 (by decide) (by decide)
        rw [← hv5] at wv5
        have rv6 := rng32 v6
        have wv6 := c_isub v5 (2 : Int32)
        rw [← hv6] at wv6
        have rp0 := rng32 p0
        have rp1 := rng32 p1
        have rr10 := rng32 r10
        have lI0 : (0 : Int32).toInt = 0 := by decide
        have lI1 : (1 : Int32).toInt = 1 := by decide
        have lI2 : (2 : Int32).toInt = 2 := by decide
        have lI3 : (3 : Int32).toInt = 3 := by decide
        have lI4 : (4 : Int32).toInt = 4 := by decide
        have lI5 : (5 : Int32).toInt = 5 := by decide
        have lI6 : (6 : Int32).toInt = 6 := by decide
        have lI7 : (7 : Int32).toInt = 7 := by decide
        have lI8 : (8 : Int32).toInt = 8 := by decide
        have lI9 : (9 : Int32).toInt = 9 := by decide
        have lI15 : (15 : Int32).toInt = 15 := by decide
        simp only [Int32.lt_iff_toInt_lt, Int64.lt_iff_toInt_lt, ← Int32.toInt_inj, ← Int64.toInt_inj] at hc11 hc963 hc964 hc965 hc1007 hc1008 hc1009 hc1010 hc1011 hc1012 hc1013 hc1014 hc1015
        omega
      · obtain ⟨hc1016, hc1017, hc1018, hc1019, hc1020, hc1021, hc1022, hc1023, hc1024, hc1025, rfl, N967, e967⟩ := hQ967
        have N967_ := Fr.app N799_ N967
        exfalso
        have rv1 := rng32 v1
        have wv1 := c_mask p1 (1 : Int32) 1 (by decide) (by decide)
        rw [← hv1] at wv1
        have rv5 := rng32 v5
        have wv5 := c_mask p0 (15 : Int32) 4 (by decide) (by decide)
        rw [← hv5] at wv5
        have rv6 := rng32 v6
        have wv6 := c_isub v5 (2 : Int32)
        rw [← hv6] at wv6
        have rp0 := rng32 p0
        have rp1 := rng32 p1
        have rr10 := rng32 r10
        have lI0 : (0 : Int32).toInt = 0 := by decide
        have lI1 : (1 : Int32).toInt = 1 := by decide
        have lI2 : (2 : Int32).toInt = 2 := by decide
        have lI3 : (3 : Int32).toInt = 3 := by decide
        have lI4 : (4 : Int32).toInt = 4 := by decide
        have lI5 : (5 : Int32).toInt = 5 := by decide
        have lI6 : (6 : Int32).toInt = 6 := by decide
        have lI7 : (7 : Int32).toInt = 7 := by decide
        have lI8 : (8 : Int32).toInt = 8 := by decide
        have lI9 : (9 : Int32).toInt = 9 := by decide
        have lI10 : (10 : Int32).toInt = 10 := by decide
        have lI15 : (15 : Int32).toInt = 15 := by decide
        simp only [Int32.lt_iff_toInt_lt, Int64.lt_iff_toInt_lt, ← Int32.toInt_inj, ← Int64.toInt_inj] at hc11 hc963 hc964 hc965 hc1016 hc1017 hc1018 hc1019 hc1020 hc1021 hc1022 hc1023 hc1024 hc1025
        omega
      · obtain ⟨hc1026, hc1027, hc1028, hc1029, hc1030, hc1031, hc1032, hc1033, hc1034, hc1035, rfl, N967, e967⟩ := hQ967
        have N967_ := Fr.app N799_ N967
        exfalso
        have rv1 := rng32 v1
        have wv1 := c_mask p1 (1 : Int32) 1 (by decide) (by decide)
        rw [← hv1] at wv1
        have rv5 := rng32 v5
        have wv5 := c_mask p0 (15 : Int32) 4 (by decide) (by decide)
        rw [← hv5] at wv5
        have rv6 := rng32 v6
        have wv6 := c_isub v5 (2 : Int32)
        rw [← hv6] at wv6
        have rp0 := rng32 p0
        have rp1 := rng32 p1
        have rr10 := rng32 r10
        have lI0 : (0 : Int32).toInt = 0 := by decide
        have lI1 : (1 : Int32).toInt = 1 := by decide
        have lI2 : (2 : Int32).toInt = 2 := by decide
        have lI3 : (3 : Int32).toInt = 3 := by decide
        have lI4 : (4 : Int32).toInt = 4 := by decide
        have lI5 : (5 : Int32).toInt = 5 := by decide
        have lI6 : (6 : Int32).toInt = 6 := by decide
        have lI7 : (7 : Int32).toInt = 7 := by decide
        have lI8 : (8 : Int32).toInt = 8 := by decide
        have lI9 : (9 : Int32).toInt = 9 := by decide
        have lI10 : (10 : Int32).toInt = 10 := by decide
        have lI15 : (15 : Int32).toInt = 15 := by decide
        simp only [Int32.lt_iff_toInt_lt, Int64.lt_iff_toInt_lt, ← Int32.toInt_inj, ← Int64.toInt_inj] at hc11 hc963 hc964 hc965 hc1026 hc1027 hc1028 hc1029 hc1030 hc1031 hc1032 hc1033 hc1034 hc1035
        omega
    · obtain ⟨hc1036, hc1037, hc1038, hc1039, rfl, N799, e799⟩ := hQ799
      have N799_ := Fr.app N0 N799
      refine Go.st (S' := T799.setTop (mkF m 21 A12 [(.ref s_RequestType_FENCE)])) st799 ?_
      let A1040 : Array Slot := #[.val (.int p0), .val (.int p1), .val (.int r10), .val (.ref s_RequestType_FENCE), .unset]
      refine Go.st (S' := T799.setTop (mkF m 22 A1040 [])) (fun t k => XS.astoreN X799.here hx rfl (hb hby at_21) rfl rfl (l' := A1040) rfl k) ?_
      refine Go.st (S' := T799.setTop (mkF m 23 A1040 [(.int r10)])) (fun t k => XS.iloadN X799.here hx rfl (hb hby at_22) rfl k) ?_
      obtain ⟨r1041, T1041, L1041, X1041, hQ1041, st1041⟩ := own_callS (W := 0) X799 hx hZ e799 hown (y := (⟨"com/example/hale_ledger/haleledger/protocol/RequestTypeOfCodePinLaw", "expected", "(I)Lcom/example/hale_ledger/haleledger/protocol/RequestType;"⟩ : MethodName)) (hw _ (List.mem_of_getElem? (i := 18) rfl)) (hw _ (List.mem_of_getElem? (i := 19) rfl)) (hw _ (List.mem_of_getElem? (i := 20) rfl)) (hw _ (List.mem_of_getElem? (i := 21) rfl)) (by decide) (rm2 l Z a0 hw [] r10 s_RequestType_ADD s_RequestType_READ s_RequestType_STATS s_RequestType_FENCE s_RequestType_RECOVERY_READ s_RequestType_RECOVERY_ADD s_RequestType_READ_LAC s_RequestType_WRITE_LAC s_RequestType_WAIT_LAC s_RequestType_READ_RANGE h0 n0 Z0 (S_s_RequestType_ADD) (S_s_RequestType_READ) (S_s_RequestType_STATS) (S_s_RequestType_FENCE) (S_s_RequestType_RECOVERY_READ) (S_s_RequestType_RECOVERY_ADD) (S_s_RequestType_READ_LAC) (S_s_RequestType_WRITE_LAC) (S_s_RequestType_WAIT_LAC) (S_s_RequestType_READ_RANGE)) (by decide) (by decide) (by decide) (by decide) (g := (mkF m 23 A1040 [(.int r10)])) rfl (by rw [hml]; rfl) (argsL := [(.int r10)]) (rest := []) rfl (lenOf pd_0 rfl) rfl (by show 2 * 0 + _ ≤ _; exact Nat.le_of_eq rfl) (hb hby at_23)
      rcases hQ1041 with hQ1041 | hQ1041 | hQ1041 | hQ1041 | hQ1041 | hQ1041 | hQ1041 | hQ1041 | hQ1041 | hQ1041 | hQ1041
      · obtain ⟨hc1042, rfl, N1041, e1041⟩ := hQ1041
        have N1041_ := Fr.app N799_ N1041
        exfalso
        have rv1 := rng32 v1
        have wv1 := c_mask p1 (1 : Int32) 1 (by decide) (by decide)
        rw [← hv1] at wv1
        have rv5 := rng32 v5
        have wv5 := c_mask p0 (15 : Int32) 4 (by decide) (by decide)
        rw [← hv5] at wv5
        have rv6 := rng32 v6
        have wv6 := c_isub v5 (2 : Int32)
        rw [← hv6] at wv6
        have rp0 := rng32 p0
        have rp1 := rng32 p1
        have rr10 := rng32 r10
        have lI0 : (0 : Int32).toInt = 0 := by decide
        have lI1 : (1 : Int32).toInt = 1 := by decide
        have lI2 : (2 : Int32).toInt = 2 := by decide
        have lI3 : (3 : Int32).toInt = 3 := by decide
        have lI4 : (4 : Int32).toInt = 4 := by decide
        have lI15 : (15 : Int32).toInt = 15 := by decide
        simp only [Int32.lt_iff_toInt_lt, Int64.lt_iff_toInt_lt, ← Int32.toInt_inj, ← Int64.toInt_inj] at hc11 hc1036 hc1037 hc1038 hc1039 hc1042
        omega
      · obtain ⟨hc1043, hc1044, rfl, N1041, e1041⟩ := hQ1041
        have N1041_ := Fr.app N799_ N1041
        exfalso
        have rv1 := rng32 v1
        have wv1 := c_mask p1 (1 : Int32) 1 (by decide) (by decide)
        rw [← hv1] at wv1
        have rv5 := rng32 v5
        have wv5 := c_mask p0 (15 : Int32) 4 (by decide) (by decide)
        rw [← hv5] at wv5
        have rv6 := rng32 v6
        have wv6 := c_isub v5 (2 : Int32)
        rw [← hv6] at wv6
        have rp0 := rng32 p0
        have rp1 := rng32 p1
        have rr10 := rng32 r10
        have lI0 : (0 : Int32).toInt = 0 := by decide
        have lI1 : (1 : Int32).toInt = 1 := by decide
        have lI2 : (2 : Int32).toInt = 2 := by decide
        have lI3 : (3 : Int32).toInt = 3 := by decide
        have lI4 : (4 : Int32).toInt = 4 := by decide
        have lI15 : (15 : Int32).toInt = 15 := by decide
        simp only [Int32.lt_iff_toInt_lt, Int64.lt_iff_toInt_lt, ← Int32.toInt_inj, ← Int64.toInt_inj] at hc11 hc1036 hc1037 hc1038 hc1039 hc1043 hc1044
        omega
      · obtain ⟨hc1045, hc1046, hc1047, rfl, N1041, e1041⟩ := hQ1041
        have N1041_ := Fr.app N799_ N1041
        exfalso
        have rv1 := rng32 v1
        have wv1 := c_mask p1 (1 : Int32) 1 (by decide) (by decide)
        rw [← hv1] at wv1
        have rv5 := rng32 v5
        have wv5 := c_mask p0 (15 : Int32) 4 (by decide) (by decide)
        rw [← hv5] at wv5
        have rv6 := rng32 v6
        have wv6 := c_isub v5 (2 : Int32)
        rw [← hv6] at wv6
        have rp0 := rng32 p0
        have rp1 := rng32 p1
        have rr10 := rng32 r10
        have lI0 : (0 : Int32).toInt = 0 := by decide
        have lI1 : (1 : Int32).toInt = 1 := by decide
        have lI2 : (2 : Int32).toInt = 2 := by decide
        have lI3 : (3 : Int32).toInt = 3 := by decide
        have lI4 : (4 : Int32).toInt = 4 := by decide
        have lI15 : (15 : Int32).toInt = 15 := by decide
        simp only [Int32.lt_iff_toInt_lt, Int64.lt_iff_toInt_lt, ← Int32.toInt_inj, ← Int64.toInt_inj] at hc11 hc1036 hc1037 hc1038 hc1039 hc1045 hc1046 hc1047
        omega
      · obtain ⟨hc1048, hc1049, hc1050, hc1051, rfl, N1041, e1041⟩ := hQ1041
        have N1041_ := Fr.app N799_ N1041
        refine Go.st (S' := T1041.setTop (mkF m 26 A1040 [(.ref s_RequestType_FENCE)])) st1041 ?_
        let A1052 : Array Slot := #[.val (.int p0), .val (.int p1), .val (.int r10), .val (.ref s_RequestType_FENCE), .val (.ref s_RequestType_FENCE)]
        refine Go.st (S' := T1041.setTop (mkF m 28 A1052 [])) (fun t k => XS.astore X1041.here hx rfl (hb hby at_26) rfl rfl (l' := A1052) rfl k) ?_
        refine Go.st (S' := T1041.setTop (mkF m 30 A1052 [(.ref s_RequestType_FENCE)])) (fun t k => XS.aload X1041.here hx rfl (hb hby at_28) rfl rfl k) ?_
        refine Go.st (S' := T1041.setTop (mkF m 43 A1052 [])) (fun t k => XS.ifnonnullYes X1041.here hx rfl (pc0 := 30) (pc' := 43) rfl (hb hby at_30) rfl (by decide) (by decide) k) ?_
        refine Go.st (S' := T1041.setTop (mkF m 44 A1052 [(.ref s_RequestType_FENCE)])) (fun t k => XS.aloadN X1041.here hx rfl (hb hby at_43) rfl rfl k) ?_
        refine Go.st (S' := T1041.setTop (mkF m 46 A1052 [(.ref s_RequestType_FENCE), (.ref s_RequestType_FENCE)])) (fun t k => XS.aload X1041.here hx rfl (hb hby at_44) rfl rfl k) ?_
        refine Go.st (S' := T1041.setTop (mkF m 49 A1052 [])) (fun t k => acmp X1041 hx rfl rfl rfl (pc0 := 46) (pc' := 49) (same := true) rfl (hb hby at_46) rfl (by simp) (by decide) (by decide) k) ?_
        refine Go.st (S' := T1041.setTop (mkF m 50 A1052 [(.ref s_RequestType_FENCE)])) (fun t k => XS.aloadN X1041.here hx rfl (hb hby at_49) rfl rfl k) ?_
        obtain ⟨r1054, T1054, L1054, X1054, hQ1054, st1054⟩ := own_callV (W := 0) (a := s_RequestType_FENCE) (C := "com/example/hale_ledger/haleledger/protocol/RequestType") X1041 hx hZ e1041 hown (y := (⟨"com/example/hale_ledger/haleledger/protocol/RequestType", "code", "()I"⟩ : MethodName)) (z := (⟨"com/example/hale_ledger/haleledger/protocol/RequestType", "code", "()I"⟩ : MethodName)) (hw _ (List.mem_of_getElem? (i := 23) rfl)) (hw _ (List.mem_of_getElem? (i := 24) rfl)) (notFace_of_selects (args := #[]) (mvT hZ (hw _ (List.mem_of_getElem? (i := 26) rfl)))) (hw _ (List.mem_of_getElem? (i := 26) rfl)) (hw _ (List.mem_of_getElem? (i := 25) rfl)) (hw _ (List.mem_of_getElem? (i := 2) rfl)) (hw _ (List.mem_of_getElem? (i := 27) rfl)) (by decide) (E_s_RequestType_FENCE) (rm6 l Z a0 hw [] s_RequestType_FENCE h0 n0 Z0 (F_s_RequestType_FENCE_code)) (by decide) (by decide) (by decide) (by decide) (g := (mkF m 50 A1052 [(.ref s_RequestType_FENCE)])) rfl (by rw [hml]; rfl) (argsL := []) (rest := []) rfl (lenOf pd_1 rfl) rfl (by show 2 * 0 + _ ≤ _; exact Nat.le_of_eq rfl) (hb hby at_50)
        obtain ⟨rfl, N1054, e1054⟩ := hQ1054
        have N1054_ := Fr.app N1041_ N1054
        refine Go.st (S' := T1054.setTop (mkF m 53 A1052 [(.int (4 : Int32))])) st1054 ?_
        refine Go.st (S' := T1054.setTop (mkF m 54 A1052 [(.int r10), (.int (4 : Int32))])) (fun t k => XS.iloadN X1054.here hx rfl (hb hby at_53) rfl k) ?_
        refine Go.st (S' := T1054.setTop (mkF m 57 A1052 [])) (fun t k => XS.icmpNo X1054.here hx rfl (hb hby at_54) rfl (teq hc1039).2 k) ?_
        refine Go.st (S' := T1054.setTop (mkF m 58 A1052 [(.int (1 : Int32))])) (fun t k => XS.iconst X1054.here hx rfl (hb hby at_57) k) ?_
        refine Go.st (S' := T1054.setTop (mkF m 62 A1052 [(.int (1 : Int32))])) (fun t k => XS.goto X1054.here hx rfl (pc0 := 58) (pc' := 62) rfl (hb hby at_58) (by decide) (by decide) k) ?_
        exact Go.ret X1054 (v := some (.int (1 : Int32))) (fun h => by rw [Bd.returns] at h; cases h) Bd.notSynchronized (fun fs hr => retN X1054 hx (t := .boolean) Bd.returns (by simp) (hb hby at_62) hr) (by decide) (by decide) ⟨rfl, N1054_⟩
      · obtain ⟨hc1055, hc1056, hc1057, hc1058, hc1059, rfl, N1041, e1041⟩ := hQ1041
        have N1041_ := Fr.app N799_ N1041
        exfalso
        have rv1 := rng32 v1
        have wv1 := c_mask p1 (1 : Int32) 1 (by decide) (by decide)
        rw [← hv1] at wv1
        have rv5 := rng32 v5
        have wv5 := c_mask p0 (15 : Int32) 4 (by decide) (by decide)
        rw [← hv5] at wv5
        have rv6 := rng32 v6
        have wv6 := c_isub v5 (2 : Int32)
        rw [← hv6] at wv6
        have rp0 := rng32 p0
        have rp1 := rng32 p1
        have rr10 := rng32 r10
        have lI0 : (0 : Int32).toInt = 0 := by decide
        have lI1 : (1 : Int32).toInt = 1 := by decide
        have lI2 : (2 : Int32).toInt = 2 := by decide
        have lI3 : (3 : Int32).toInt = 3 := by decide
        have lI4 : (4 : Int32).toInt = 4 := by decide
        have lI5 : (5 : Int32).toInt = 5 := by decide
        have lI15 : (15 : Int32).toInt = 15 := by decide
        simp only [Int32.lt_iff_toInt_lt, Int64.lt_iff_toInt_lt, ← Int32.toInt_inj, ← Int64.toInt_inj] at hc11 hc1036 hc1037 hc1038 hc1039 hc1055 hc1056 hc1057 hc1058 hc1059
        omega
      · obtain ⟨hc1060, hc1061, hc1062, hc1063, hc1064, hc1065, rfl, N1041, e1041⟩ := hQ1041
        have N1041_ := Fr.app N799_ N1041
        exfalso
        have rv1 := rng32 v1
        have wv1 := c_mask p1 (1 : Int32) 1 (by decide) (by decide)
        rw [← hv1] at wv1
        have rv5 := rng32 v5
        have wv5 := c_mask p0 (15 : Int32) 4 (by decide) (by decide)
        rw [← hv5] at wv5
        have rv6 := rng32 v6
        have wv6 := c_isub v5 (2 : Int32)
        rw [← hv6] at wv6
        have rp0 := rng32 p0
        have rp1 := rng32 p1
        have rr10 := rng32 r10
        have lI0 : (0 : Int32).toInt = 0 := by decide
        have lI1 : (1 : Int32).toInt = 1 := by decide
        have lI2 : (2 : Int32).toInt = 2 := by decide
        have lI3 : (3 : Int32).toInt = 3 := by decide
        have lI4 : (4 : Int32).toInt = 4 := by decide
        have lI5 : (5 : Int32).toInt = 5 := by decide
        have lI6 : (6 : Int32).toInt = 6 := by decide
        have lI15 : (15 : Int32).toInt = 15 := by decide
        simp only [Int32.lt_iff_toInt_lt, Int64.lt_iff_toInt_lt, ← Int32.toInt_inj, ← Int64.toInt_inj] at hc11 hc1036 hc1037 hc1038 hc1039 hc1060 hc1061 hc1062 hc1063 hc1064 hc1065
        omega
      · obtain ⟨hc1066, hc1067, hc1068, hc1069, hc1070, hc1071, hc1072, rfl, N1041, e1041⟩ := hQ1041
        have N1041_ := Fr.app N799_ N1041
        exfalso
        have rv1 := rng32 v1
        have wv1 := c_mask p1 (1 : Int32) 1 (by decide) (by decide)
        rw [← hv1] at wv1
        have rv5 := rng32 v5
        have wv5 := c_mask p0 (15 : Int32) 4 (by decide) (by decide)
        rw [← hv5] at wv5
        have rv6 := rng32 v6
        have wv6 := c_isub v5 (2 : Int32)
        rw [← hv6] at wv6
        have rp0 := rng32 p0
        have rp1 := rng32 p1
        have rr10 := rng32 r10
        have lI0 : (0 : Int32).toInt = 0 := by decide
        have lI1 : (1 : Int32).toInt = 1 := by decide
        have lI2 : (2 : Int32).toInt = 2 := by decide
        have lI3 : (3 : Int32).toInt = 3 := by decide
        have lI4 : (4 : Int32).toInt = 4 := by decide
        have lI5 : (5 : Int32).toInt = 5 := by decide
        have lI6 : (6 : Int32).toInt = 6 := by decide
        have lI7 : (7 : Int32).toInt = 7 := by decide
        have lI15 : (15 : Int32).toInt = 15 := by decide
        simp only [Int32.lt_iff_toInt_lt, Int64.lt_iff_toInt_lt, ← Int32.toInt_inj, ← Int64.toInt_inj] at hc11 hc1036 hc1037 hc1038 hc1039 hc1066 hc1067 hc1068 hc1069 hc1070 hc1071 hc1072
        omega
      · obtain ⟨hc1073, hc1074, hc1075, hc1076, hc1077, hc1078, hc1079, hc1080, rfl, N1041, e1041⟩ := hQ1041
        have N1041_ := Fr.app N799_ N1041
        exfalso
        have rv1 := rng32 v1
        have wv1 := c_mask p1 (1 : Int32) 1 (by decide) (by decide)
        rw [← hv1] at wv1
        have rv5 := rng32 v5
        have wv5 := c_mask p0 (15 : Int32) 4 (by decide) (by decide)
        rw [← hv5] at wv5
        have rv6 := rng32 v6
        have wv6 := c_isub v5 (2 : Int32)
        rw [← hv6] at wv6
        have rp0 := rng32 p0
        have rp1 := rng32 p1
        have rr10 := rng32 r10
        have lI0 : (0 : Int32).toInt = 0 := by decide
        have lI1 : (1 : Int32).toInt = 1 := by decide
        have lI2 : (2 : Int32).toInt = 2 := by decide
        have lI3 : (3 : Int32).toInt = 3 := by decide
        have lI4 : (4 : Int32).toInt = 4 := by decide
        have lI5 : (5 : Int32).toInt = 5 := by decide
        have lI6 : (6 : Int32).toInt = 6 := by decide
        have lI7 : (7 : Int32).toInt = 7 := by decide
        have lI8 : (8 : Int32).toInt = 8 := by decide
        have lI15 : (15 : Int32).toInt = 15 := by decide
        simp only [Int32.lt_iff_toInt_lt, Int64.lt_iff_toInt_lt, ← Int32.toInt_inj, ← Int64.toInt_inj] at hc11 hc1036 hc1037 hc1038 hc1039 hc1073 hc1074 hc1075 hc1076 hc1077 hc1078 hc1079 hc1080
        omega
      · obtain ⟨hc1081, hc1082, hc1083, hc1084, hc1085, hc1086, hc1087, hc1088, hc1089, rfl, N1041, e1041⟩ := hQ1041
        have N1041_ := Fr.app N799_ N1041
        exfalso
        have rv1 := rng32 v1
        have wv1 := c_mask p1 (1 : Int32) 1 (by decide) (by decide)
        rw [← hv1] at wv1
        have rv5 := rng32 v5
        have wv5 := c_mask p0 (15 : Int32) 4 (by decide) (by decide)
        rw [← hv5] at wv5
        have rv6 := rng32 v6
        have wv6 := c_isub v5 (2 : Int32)
        rw [← hv6] at wv6
        have rp0 := rng32 p0
        have rp1 := rng32 p1
        have rr10 := rng32 r10
        have lI0 : (0 : Int32).toInt = 0 := by decide
        have lI1 : (1 : Int32).toInt = 1 := by decide
        have lI2 : (2 : Int32).toInt = 2 := by decide
        have lI3 : (3 : Int32).toInt = 3 := by decide
        have lI4 : (4 : Int32).toInt = 4 := by decide
        have lI5 : (5 : Int32).toInt = 5 := by decide
        have lI6 : (6 : Int32).toInt = 6 := by decide
        have lI7 : (7 : Int32).toInt = 7 := by decide
        have lI8 : (8 : Int32).toInt = 8 := by decide
        have lI9 : (9 : Int32).toInt = 9 := by decide
        have lI15 : (15 : Int32).toInt = 15 := by decide
        simp only [Int32.lt_iff_toInt_lt, Int64.lt_iff_toInt_lt, ← Int32.toInt_inj, ← Int64.toInt_inj] at hc11 hc1036 hc1037 hc1038 hc1039 hc1081 hc1082 hc1083 hc1084 hc1085 hc1086 hc1087 hc1088 hc1089
        omega
      · obtain ⟨hc1090, hc1091, hc1092, hc1093, hc1094, hc1095, hc1096, hc1097, hc1098, hc1099, rfl, N1041, e1041⟩ := hQ1041
        have N1041_ := Fr.app N799_ N1041
        exfalso
        have rv1 := rng32 v1
        have wv1 := c_mask p1 (1 : Int32) 1 (by decide) (by decide)
        rw [← hv1] at wv1
        have rv5 := rng32 v5
        have wv5 := c_mask p0 (15 : Int32) 4 (by decide) (by decide)
        rw [← hv5] at wv5
        have rv6 := rng32 v6
        have wv6 := c_isub v5 (2 : Int32)
        rw [← hv6] at wv6
        have rp0 := rng32 p0
        have rp1 := rng32 p1
        have rr10 := rng32 r10
        have lI0 : (0 : Int32).toInt = 0 := by decide
        have lI1 : (1 : Int32).toInt = 1 := by decide
        have lI2 : (2 : Int32).toInt = 2 := by decide
        have lI3 : (3 : Int32).toInt = 3 := by decide
        have lI4 : (4 : Int32).toInt = 4 := by decide
        have lI5 : (5 : Int32).toInt = 5 := by decide
        have lI6 : (6 : Int32).toInt = 6 := by decide
        have lI7 : (7 : Int32).toInt = 7 := by decide
        have lI8 : (8 : Int32).toInt = 8 := by decide
        have lI9 : (9 : Int32).toInt = 9 := by decide
        have lI10 : (10 : Int32).toInt = 10 := by decide
        have lI15 : (15 : Int32).toInt = 15 := by decide
        simp only [Int32.lt_iff_toInt_lt, Int64.lt_iff_toInt_lt, ← Int32.toInt_inj, ← Int64.toInt_inj] at hc11 hc1036 hc1037 hc1038 hc1039 hc1090 hc1091 hc1092 hc1093 hc1094 hc1095 hc1096 hc1097 hc1098 hc1099
        omega
      · obtain ⟨hc1100, hc1101, hc1102, hc1103, hc1104, hc1105, hc1106, hc1107, hc1108, hc1109, rfl, N1041, e1041⟩ := hQ1041
        have N1041_ := Fr.app N799_ N1041
        exfalso
        have rv1 := rng32 v1
        have wv1 := c_mask p1 (1 : Int32) 1 (by decide) (by decide)
        rw [← hv1] at wv1
        have rv5 := rng32 v5
        have wv5 := c_mask p0 (15 : Int32) 4 (by decide) (by decide)
        rw [← hv5] at wv5
        have rv6 := rng32 v6
        have wv6 := c_isub v5 (2 : Int32)
        rw [← hv6] at wv6
        have rp0 := rng32 p0
        have rp1 := rng32 p1
        have rr10 := rng32 r10
        have lI0 : (0 : Int32).toInt = 0 := by decide
        have lI1 : (1 : Int32).toInt = 1 := by decide
        have lI2 : (2 : Int32).toInt = 2 := by decide
        have lI3 : (3 : Int32).toInt = 3 := by decide
        have lI4 : (4 : Int32).toInt = 4 := by decide
        have lI5 : (5 : Int32).toInt = 5 := by decide
        have lI6 : (6 : Int32).toInt = 6 := by decide
        have lI7 : (7 : Int32).toInt = 7 := by decide
        have lI8 : (8 : Int32).toInt = 8 := by decide
        have lI9 : (9 : Int32).toInt = 9 := by decide
        have lI10 : (10 : Int32).toInt = 10 := by decide
        have lI15 : (15 : Int32).toInt = 15 := by decide
        simp only [Int32.lt_iff_toInt_lt, Int64.lt_iff_toInt_lt, ← Int32.toInt_inj, ← Int64.toInt_inj] at hc11 hc1036 hc1037 hc1038 hc1039 hc1100 hc1101 hc1102 hc1103 hc1104 hc1105 hc1106 hc1107 hc1108 hc1109
        omega
    · obtain ⟨hc1110, hc1111, hc1112, hc1113, hc1114, rfl, N799, e799⟩ := hQ799
      have N799_ := Fr.app N0 N799
      refine Go.st (S' := T799.setTop (mkF m 21 A12 [(.ref s_RequestType_RECOVERY_READ)])) st799 ?_
      let A1115 : Array Slot := #[.val (.int p0), .val (.int p1), .val (.int r10), .val (.ref s_RequestType_RECOVERY_READ), .unset]
      refine Go.st (S' := T799.setTop (mkF m 22 A1115 [])) (fun t k => XS.astoreN X799.here hx rfl (hb hby at_21) rfl rfl (l' := A1115) rfl k) ?_
      refine Go.st (S' := T799.setTop (mkF m 23 A1115 [(.int r10)])) (fun t k => XS.iloadN X799.here hx rfl (hb hby at_22) rfl k) ?_
      obtain ⟨r1116, T1116, L1116, X1116, hQ1116, st1116⟩ := own_callS (W := 0) X799 hx hZ e799 hown (y := (⟨"com/example/hale_ledger/haleledger/protocol/RequestTypeOfCodePinLaw", "expected", "(I)Lcom/example/hale_ledger/haleledger/protocol/RequestType;"⟩ : MethodName)) (hw _ (List.mem_of_getElem? (i := 18) rfl)) (hw _ (List.mem_of_getElem? (i := 19) rfl)) (hw _ (List.mem_of_getElem? (i := 20) rfl)) (hw _ (List.mem_of_getElem? (i := 21) rfl)) (by decide) (rm2 l Z a0 hw [] r10 s_RequestType_ADD s_RequestType_READ s_RequestType_STATS s_RequestType_FENCE s_RequestType_RECOVERY_READ s_RequestType_RECOVERY_ADD s_RequestType_READ_LAC s_RequestType_WRITE_LAC s_RequestType_WAIT_LAC s_RequestType_READ_RANGE h0 n0 Z0 (S_s_RequestType_ADD) (S_s_RequestType_READ) (S_s_RequestType_STATS) (S_s_RequestType_FENCE) (S_s_RequestType_RECOVERY_READ) (S_s_RequestType_RECOVERY_ADD) (S_s_RequestType_READ_LAC) (S_s_RequestType_WRITE_LAC) (S_s_RequestType_WAIT_LAC) (S_s_RequestType_READ_RANGE)) (by decide) (by decide) (by decide) (by decide) (g := (mkF m 23 A1115 [(.int r10)])) rfl (by rw [hml]; rfl) (argsL := [(.int r10)]) (rest := []) rfl (lenOf pd_0 rfl) rfl (by show 2 * 0 + _ ≤ _; exact Nat.le_of_eq rfl) (hb hby at_23)
      rcases hQ1116 with hQ1116 | hQ1116 | hQ1116 | hQ1116 | hQ1116 | hQ1116 | hQ1116 | hQ1116 | hQ1116 | hQ1116 | hQ1116
      · obtain ⟨hc1117, rfl, N1116, e1116⟩ := hQ1116
        have N1116_ := Fr.app N799_ N1116
        exfalso
        have rv1 := rng32 v1
        have wv1 := c_mask p1 (1 : Int32) 1 (by decide) (by decide)
        rw [← hv1] at wv1
        have rv5 := rng32 v5
        have wv5 := c_mask p0 (15 : Int32) 4 (by decide) (by decide)
        rw [← hv5] at wv5
        have rv6 := rng32 v6
        have wv6 := c_isub v5 (2 : Int32)
        rw [← hv6] at wv6
        have rp0 := rng32 p0
        have rp1 := rng32 p1
        have rr10 := rng32 r10
        have lI0 : (0 : Int32).toInt = 0 := by decide
        have lI1 : (1 : Int32).toInt = 1 := by decide
        have lI2 : (2 : Int32).toInt = 2 := by decide
        have lI3 : (3 : Int32).toInt = 3 := by decide
        have lI4 : (4 : Int32).toInt = 4 := by decide
        have lI5 : (5 : Int32).toInt = 5 := by decide
        have lI15 : (15 : Int32).toInt = 15 := by decide
        simp only [Int32.lt_iff_toInt_lt, Int64.lt_iff_toInt_lt, ← Int32.toInt_inj, ← Int64.toInt_inj] at hc11 hc1110 hc1111 hc1112 hc1113 hc1114 hc1117
        omega
      · obtain ⟨hc1118, hc1119, rfl, N1116, e1116⟩ := hQ1116
        have N1116_ := Fr.app N799_ N1116
        exfalso
        have rv1 := rng32 v1
        have wv1 := c_mask p1 (1 : Int32) 1 (by decide) (by decide)
        rw [← hv1] at wv1
        have rv5 := rng32 v5
        have wv5 := c_mask p0 (15 : Int32) 4 (by decide) (by decide)
        rw [← hv5] at wv5
        have rv6 := rng32 v6
        have wv6 := c_isub v5 (2 : Int32)
        rw [← hv6] at wv6
        have rp0 := rng32 p0
        have rp1 := rng32 p1
        have rr10 := rng32 r10
        have lI0 : (0 : Int32).toInt = 0 := by decide
        have lI1 : (1 : Int32).toInt = 1 := by decide
        have lI2 : (2 : Int32).toInt = 2 := by decide
        have lI3 : (3 : Int32).toInt = 3 := by decide
        have lI4 : (4 : Int32).toInt = 4 := by decide
        have lI5 : (5 : Int32).toInt = 5 := by decide
        have lI15 : (15 : Int32).toInt = 15 := by decide
        simp only [Int32.lt_iff_toInt_lt, Int64.lt_iff_toInt_lt, ← Int32.toInt_inj, ← Int64.toInt_inj] at hc11 hc1110 hc1111 hc1112 hc1113 hc1114 hc1118 hc1119
        omega
      · obtain ⟨hc1120, hc1121, hc1122, rfl, N1116, e1116⟩ := hQ1116
        have N1116_ := Fr.app N799_ N1116
        exfalso
        have rv1 := rng32 v1
        have wv1 := c_mask p1 (1 : Int32) 1 (by decide) (by decide)
        rw [← hv1] at wv1
        have rv5 := rng32 v5
        have wv5 := c_mask p0 (15 : Int32) 4 (by decide) (by decide)
        rw [← hv5] at wv5
        have rv6 := rng32 v6
        have wv6 := c_isub v5 (2 : Int32)
        rw [← hv6] at wv6
        have rp0 := rng32 p0
        have rp1 := rng32 p1
        have rr10 := rng32 r10
        have lI0 : (0 : Int32).toInt = 0 := by decide
        have lI1 : (1 : Int32).toInt = 1 := by decide
        have lI2 : (2 : Int32).toInt = 2 := by decide
        have lI3 : (3 : Int32).toInt = 3 := by decide
        have lI4 : (4 : Int32).toInt = 4 := by decide
        have lI5 : (5 : Int32).toInt = 5 := by decide
        have lI15 : (15 : Int32).toInt = 15 := by decide
        simp only [Int32.lt_iff_toInt_lt, Int64.lt_iff_toInt_lt, ← Int32.toInt_inj, ← Int64.toInt_inj] at hc11 hc1110 hc1111 hc1112 hc1113 hc1114 hc1120 hc1121 hc1122
        omega
      · obtain ⟨hc1123, hc1124, hc1125, hc1126, rfl, N1116, e1116⟩ := hQ1116
        have N1116_ := Fr.app N799_ N1116
        exfalso
        have rv1 := rng32 v1
        have wv1 := c_mask p1 (1 : Int32) 1 (by decide) (by decide)
        rw [← hv1] at wv1
        have rv5 := rng32 v5
        have wv5 := c_mask p0 (15 : Int32) 4 (by decide) (by decide)
        rw [← hv5] at wv5
        have rv6 := rng32 v6
        have wv6 := c_isub v5 (2 : Int32)
        rw [← hv6] at wv6
        have rp0 := rng32 p0
        have rp1 := rng32 p1
        have rr10 := rng32 r10
        have lI0 : (0 : Int32).toInt = 0 := by decide
        have lI1 : (1 : Int32).toInt = 1 := by decide
        have lI2 : (2 : Int32).toInt = 2 := by decide
        have lI3 : (3 : Int32).toInt = 3 := by decide
        have lI4 : (4 : Int32).toInt = 4 := by decide
        have lI5 : (5 : Int32).toInt = 5 := by decide
        have lI15 : (15 : Int32).toInt = 15 := by decide
        simp only [Int32.lt_iff_toInt_lt, Int64.lt_iff_toInt_lt, ← Int32.toInt_inj, ← Int64.toInt_inj] at hc11 hc1110 hc1111 hc1112 hc1113 hc1114 hc1123 hc1124 hc1125 hc1126
        omega
      · obtain ⟨hc1127, hc1128, hc1129, hc1130, hc1131, rfl, N1116, e1116⟩ := hQ1116
        have N1116_ := Fr.app N799_ N1116
        refine Go.st (S' := T1116.setTop (mkF m 26 A1115 [(.ref s_RequestType_RECOVERY_READ)])) st1116 ?_
        let A1132 : Array Slot := #[.val (.int p0), .val (.int p1), .val (.int r10), .val (.ref s_RequestType_RECOVERY_READ), .val (.ref s_RequestType_RECOVERY_READ)]
        refine Go.st (S' := T1116.setTop (mkF m 28 A1132 [])) (fun t k => XS.astore X1116.here hx rfl (hb hby at_26) rfl rfl (l' := A1132) rfl k) ?_
        refine Go.st (S' := T1116.setTop (mkF m 30 A1132 [(.ref s_RequestType_RECOVERY_READ)])) (fun t k => XS.aload X1116.here hx rfl (hb hby at_28) rfl rfl k) ?_
        refine Go.st (S' := T1116.setTop (mkF m 43 A1132 [])) (fun t k => XS.ifnonnullYes X1116.here hx rfl (pc0 := 30) (pc' := 43) rfl (hb hby at_30) rfl (by decide) (by decide) k) ?_
        refine Go.st (S' := T1116.setTop (mkF m 44 A1132 [(.ref s_RequestType_RECOVERY_READ)])) (fun t k => XS.aloadN X1116.here hx rfl (hb hby at_43) rfl rfl k) ?_
        refine Go.st (S' := T1116.setTop (mkF m 46 A1132 [(.ref s_RequestType_RECOVERY_READ), (.ref s_RequestType_RECOVERY_READ)])) (fun t k => XS.aload X1116.here hx rfl (hb hby at_44) rfl rfl k) ?_
        refine Go.st (S' := T1116.setTop (mkF m 49 A1132 [])) (fun t k => acmp X1116 hx rfl rfl rfl (pc0 := 46) (pc' := 49) (same := true) rfl (hb hby at_46) rfl (by simp) (by decide) (by decide) k) ?_
        refine Go.st (S' := T1116.setTop (mkF m 50 A1132 [(.ref s_RequestType_RECOVERY_READ)])) (fun t k => XS.aloadN X1116.here hx rfl (hb hby at_49) rfl rfl k) ?_
        obtain ⟨r1134, T1134, L1134, X1134, hQ1134, st1134⟩ := own_callV (W := 0) (a := s_RequestType_RECOVERY_READ) (C := "com/example/hale_ledger/haleledger/protocol/RequestType") X1116 hx hZ e1116 hown (y := (⟨"com/example/hale_ledger/haleledger/protocol/RequestType", "code", "()I"⟩ : MethodName)) (z := (⟨"com/example/hale_ledger/haleledger/protocol/RequestType", "code", "()I"⟩ : MethodName)) (hw _ (List.mem_of_getElem? (i := 23) rfl)) (hw _ (List.mem_of_getElem? (i := 24) rfl)) (notFace_of_selects (args := #[]) (mvT hZ (hw _ (List.mem_of_getElem? (i := 26) rfl)))) (hw _ (List.mem_of_getElem? (i := 26) rfl)) (hw _ (List.mem_of_getElem? (i := 25) rfl)) (hw _ (List.mem_of_getElem? (i := 2) rfl)) (hw _ (List.mem_of_getElem? (i := 27) rfl)) (by decide) (E_s_RequestType_RECOVERY_READ) (rm7 l Z a0 hw [] s_RequestType_RECOVERY_READ h0 n0 Z0 (F_s_RequestType_RECOVERY_READ_code)) (by decide) (by decide) (by decide) (by decide) (g := (mkF m 50 A1132 [(.ref s_RequestType_RECOVERY_READ)])) rfl (by rw [hml]; rfl) (argsL := []) (rest := []) rfl (lenOf pd_1 rfl) rfl (by show 2 * 0 + _ ≤ _; exact Nat.le_of_eq rfl) (hb hby at_50)
        obtain ⟨rfl, N1134, e1134⟩ := hQ1134
        have N1134_ := Fr.app N1116_ N1134
        refine Go.st (S' := T1134.setTop (mkF m 53 A1132 [(.int (5 : Int32))])) st1134 ?_
        refine Go.st (S' := T1134.setTop (mkF m 54 A1132 [(.int r10), (.int (5 : Int32))])) (fun t k => XS.iloadN X1134.here hx rfl (hb hby at_53) rfl k) ?_
        refine Go.st (S' := T1134.setTop (mkF m 57 A1132 [])) (fun t k => XS.icmpNo X1134.here hx rfl (hb hby at_54) rfl (teq hc1114).2 k) ?_
        refine Go.st (S' := T1134.setTop (mkF m 58 A1132 [(.int (1 : Int32))])) (fun t k => XS.iconst X1134.here hx rfl (hb hby at_57) k) ?_
        refine Go.st (S' := T1134.setTop (mkF m 62 A1132 [(.int (1 : Int32))])) (fun t k => XS.goto X1134.here hx rfl (pc0 := 58) (pc' := 62) rfl (hb hby at_58) (by decide) (by decide) k) ?_
        exact Go.ret X1134 (v := some (.int (1 : Int32))) (fun h => by rw [Bd.returns] at h; cases h) Bd.notSynchronized (fun fs hr => retN X1134 hx (t := .boolean) Bd.returns (by simp) (hb hby at_62) hr) (by decide) (by decide) ⟨rfl, N1134_⟩
      · obtain ⟨hc1135, hc1136, hc1137, hc1138, hc1139, hc1140, rfl, N1116, e1116⟩ := hQ1116
        have N1116_ := Fr.app N799_ N1116
        exfalso
        have rv1 := rng32 v1
        have wv1 := c_mask p1 (1 : Int32) 1 (by decide) (by decide)
        rw [← hv1] at wv1
        have rv5 := rng32 v5
        have wv5 := c_mask p0 (15 : Int32) 4 (by decide) (by decide)
        rw [← hv5] at wv5
        have rv6 := rng32 v6
        have wv6 := c_isub v5 (2 : Int32)
        rw [← hv6] at wv6
        have rp0 := rng32 p0
        have rp1 := rng32 p1
        have rr10 := rng32 r10
        have lI0 : (0 : Int32).toInt = 0 := by decide
        have lI1 : (1 : Int32).toInt = 1 := by decide
        have lI2 : (2 : Int32).toInt = 2 := by decide
        have lI3 : (3 : Int32).toInt = 3 := by decide
        have lI4 : (4 : Int32).toInt = 4 := by decide
        have lI5 : (5 : Int32).toInt = 5 := by decide
        have lI6 : (6 : Int32).toInt = 6 := by decide
        have lI15 : (15 : Int32).toInt = 15 := by decide
        simp only [Int32.lt_iff_toInt_lt, Int64.lt_iff_toInt_lt, ← Int32.toInt_inj, ← Int64.toInt_inj] at hc11 hc1110 hc1111 hc1112 hc1113 hc1114 hc1135 hc1136 hc1137 hc1138 hc1139 hc1140
        omega
      · obtain ⟨hc1141, hc1142, hc1143, hc1144, hc1145, hc1146, hc1147, rfl, N1116, e1116⟩ := hQ1116
        have N1116_ := Fr.app N799_ N1116
        exfalso
        have rv1 := rng32 v1
        have wv1 := c_mask p1 (1 : Int32) 1 (by decide) (by decide)
        rw [← hv1] at wv1
        have rv5 := rng32 v5
        have wv5 := c_mask p0 (15 : Int32) 4 (by decide) (by decide)
        rw [← hv5] at wv5
        have rv6 := rng32 v6
        have wv6 := c_isub v5 (2 : Int32)
        rw [← hv6] at wv6
        have rp0 := rng32 p0
        have rp1 := rng32 p1
        have rr10 := rng32 r10
        have lI0 : (0 : Int32).toInt = 0 := by decide
        have lI1 : (1 : Int32).toInt = 1 := by decide
        have lI2 : (2 : Int32).toInt = 2 := by decide
        have lI3 : (3 : Int32).toInt = 3 := by decide
        have lI4 : (4 : Int32).toInt = 4 := by decide
        have lI5 : (5 : Int32).toInt = 5 := by decide
        have lI6 : (6 : Int32).toInt = 6 := by decide
        have lI7 : (7 : Int32).toInt = 7 := by decide
        have lI15 : (15 : Int32).toInt = 15 := by decide
        simp only [Int32.lt_iff_toInt_lt, Int64.lt_iff_toInt_lt, ← Int32.toInt_inj, ← Int64.toInt_inj] at hc11 hc1110 hc1111 hc1112 hc1113 hc1114 hc1141 hc1142 hc1143 hc1144 hc1145 hc1146 hc1147
        omega
      · obtain ⟨hc1148, hc1149, hc1150, hc1151, hc1152, hc1153, hc1154, hc1155, rfl, N1116, e1116⟩ := hQ1116
        have N1116_ := Fr.app N799_ N1116
        exfalso
        have rv1 := rng32 v1
        have wv1 := c_mask p1 (1 : Int32) 1 (by decide) (by decide)
        rw [← hv1] at wv1
        have rv5 := rng32 v5
        have wv5 := c_mask p0 (15 : Int32) 4 (by decide) (by decide)
        rw [← hv5] at wv5
        have rv6 := rng32 v6
        have wv6 := c_isub v5 (2 : Int32)
        rw [← hv6] at wv6
        have rp0 := rng32 p0
        have rp1 := rng32 p1
        have rr10 := rng32 r10
        have lI0 : (0 : Int32).toInt = 0 := by decide
        have lI1 : (1 : Int32).toInt = 1 := by decide
        have lI2 : (2 : Int32).toInt = 2 := by decide
        have lI3 : (3 : Int32).toInt = 3 := by decide
        have lI4 : (4 : Int32).toInt = 4 := by decide
        have lI5 : (5 : Int32).toInt = 5 := by decide
        have lI6 : (6 : Int32).toInt = 6 := by decide
        have lI7 : (7 : Int32).toInt = 7 := by decide
        have lI8 : (8 : Int32).toInt = 8 := by decide
        have lI15 : (15 : Int32).toInt = 15 := by decide
        simp only [Int32.lt_iff_toInt_lt, Int64.lt_iff_toInt_lt, ← Int32.toInt_inj, ← Int64.toInt_inj] at hc11 hc1110 hc1111 hc1112 hc1113 hc1114 hc1148 hc1149 hc1150 hc1151 hc1152 hc1153 hc1154 hc1155
        omega
      · obtain ⟨hc1156, hc1157, hc1158, hc1159, hc1160, hc1161, hc1162, hc1163, hc1164, rfl, N1116, e1116⟩ := hQ1116
        have N1116_ := Fr.app N799_ N1116
        exfalso
        have rv1 := rng32 v1
        have wv1 := c_mask p1 (1 : Int32) 1 (by decide) (by decide)
        rw [← hv1] at wv1
        have rv5 := rng32 v5
        have wv5 := c_mask p0 (15 : Int32) 4 (by decide) (by decide)
        rw [← hv5] at wv5
        have rv6 := rng32 v6
        have wv6 := c_isub v5 (2 : Int32)
        rw [← hv6] at wv6
        have rp0 := rng32 p0
        have rp1 := rng32 p1
        have rr10 := rng32 r10
        have lI0 : (0 : Int32).toInt = 0 := by decide
        have lI1 : (1 : Int32).toInt = 1 := by decide
        have lI2 : (2 : Int32).toInt = 2 := by decide
        have lI3 : (3 : Int32).toInt = 3 := by decide
        have lI4 : (4 : Int32).toInt = 4 := by decide
        have lI5 : (5 : Int32).toInt = 5 := by decide
        have lI6 : (6 : Int32).toInt = 6 := by decide
        have lI7 : (7 : Int32).toInt = 7 := by decide
        have lI8 : (8 : Int32).toInt = 8 := by decide
        have lI9 : (9 : Int32).toInt = 9 := by decide
        have lI15 : (15 : Int32).toInt = 15 := by decide
        simp only [Int32.lt_iff_toInt_lt, Int64.lt_iff_toInt_lt, ← Int32.toInt_inj, ← Int64.toInt_inj] at hc11 hc1110 hc1111 hc1112 hc1113 hc1114 hc1156 hc1157 hc1158 hc1159 hc1160 hc1161 hc1162 hc1163 hc1164
        omega
      · obtain ⟨hc1165, hc1166, hc1167, hc1168, hc1169, hc1170, hc1171, hc1172, hc1173, hc1174, rfl, N1116, e1116⟩ := hQ1116
        have N1116_ := Fr.app N799_ N1116
        exfalso
        have rv1 := rng32 v1
        have wv1 := c_mask p1 (1 : Int32) 1 (by decide) (by decide)
        rw [← hv1] at wv1
        have rv5 := rng32 v5
        have wv5 := c_mask p0 (15 : Int32) 4 (by decide) (by decide)
        rw [← hv5] at wv5
        have rv6 := rng32 v6
        have wv6 := c_isub v5 (2 : Int32)
        rw [← hv6] at wv6
        have rp0 := rng32 p0
        have rp1 := rng32 p1
        have rr10 := rng32 r10
        have lI0 : (0 : Int32).toInt = 0 := by decide
        have lI1 : (1 : Int32).toInt = 1 := by decide
        have lI2 : (2 : Int32).toInt = 2 := by decide
        have lI3 : (3 : Int32).toInt = 3 := by decide
        have lI4 : (4 : Int32).toInt = 4 := by decide
        have lI5 : (5 : Int32).toInt = 5 := by decide
        have lI6 : (6 : Int32).toInt = 6 := by decide
        have lI7 : (7 : Int32).toInt = 7 := by decide
        have lI8 : (8 : Int32).toInt = 8 := by decide
        have lI9 : (9 : Int32).toInt = 9 := by decide
        have lI10 : (10 : Int32).toInt = 10 := by decide
        have lI15 : (15 : Int32).toInt = 15 := by decide
        simp only [Int32.lt_iff_toInt_lt, Int64.lt_iff_toInt_lt, ← Int32.toInt_inj, ← Int64.toInt_inj] at hc11 hc1110 hc1111 hc1112 hc1113 hc1114 hc1165 hc1166 hc1167 hc1168 hc1169 hc1170 hc1171 hc1172 hc1173 hc1174
        omega
      · obtain ⟨hc1175, hc1176, hc1177, hc1178, hc1179, hc1180, hc1181, hc1182, hc1183, hc1184, rfl, N1116, e1116⟩ := hQ1116
        have N1116_ := Fr.app N799_ N1116
        exfalso
        have rv1 := rng32 v1
        have wv1 := c_mask p1 (1 : Int32) 1 (by decide) (by decide)
        rw [← hv1] at wv1
        have rv5 := rng32 v5
        have wv5 := c_mask p0 (15 : Int32) 4 (by decide) (by decide)
        rw [← hv5] at wv5
        have rv6 := rng32 v6
        have wv6 := c_isub v5 (2 : Int32)
        rw [← hv6] at wv6
        have rp0 := rng32 p0
        have rp1 := rng32 p1
        have rr10 := rng32 r10
        have lI0 : (0 : Int32).toInt = 0 := by decide
        have lI1 : (1 : Int32).toInt = 1 := by decide
        have lI2 : (2 : Int32).toInt = 2 := by decide
        have lI3 : (3 : Int32).toInt = 3 := by decide
        have lI4 : (4 : Int32).toInt = 4 := by decide
        have lI5 : (5 : Int32).toInt = 5 := by decide
        have lI6 : (6 : Int32).toInt = 6 := by decide
        have lI7 : (7 : Int32).toInt = 7 := by decide
        have lI8 : (8 : Int32).toInt = 8 := by decide
        have lI9 : (9 : Int32).toInt = 9 := by decide
        have lI10 : (10 : Int32).toInt = 10 := by decide
        have lI15 : (15 : Int32).toInt = 15 := by decide
        simp only [Int32.lt_iff_toInt_lt, Int64.lt_iff_toInt_lt, ← Int32.toInt_inj, ← Int64.toInt_inj] at hc11 hc1110 hc1111 hc1112 hc1113 hc1114 hc1175 hc1176 hc1177 hc1178 hc1179 hc1180 hc1181 hc1182 hc1183 hc1184
        omega
    · obtain ⟨hc1185, hc1186, hc1187, hc1188, hc1189, hc1190, rfl, N799, e799⟩ := hQ799
      have N799_ := Fr.app N0 N799
      refine Go.st (S' := T799.setTop (mkF m 21 A12 [(.ref s_RequestType_RECOVERY_ADD)])) st799 ?_
      let A1191 : Array Slot := #[.val (.int p0), .val (.int p1), .val (.int r10), .val (.ref s_RequestType_RECOVERY_ADD), .unset]
      refine Go.st (S' := T799.setTop (mkF m 22 A1191 [])) (fun t k => XS.astoreN X799.here hx rfl (hb hby at_21) rfl rfl (l' := A1191) rfl k) ?_
      refine Go.st (S' := T799.setTop (mkF m 23 A1191 [(.int r10)])) (fun t k => XS.iloadN X799.here hx rfl (hb hby at_22) rfl k) ?_
      obtain ⟨r1192, T1192, L1192, X1192, hQ1192, st1192⟩ := own_callS (W := 0) X799 hx hZ e799 hown (y := (⟨"com/example/hale_ledger/haleledger/protocol/RequestTypeOfCodePinLaw", "expected", "(I)Lcom/example/hale_ledger/haleledger/protocol/RequestType;"⟩ : MethodName)) (hw _ (List.mem_of_getElem? (i := 18) rfl)) (hw _ (List.mem_of_getElem? (i := 19) rfl)) (hw _ (List.mem_of_getElem? (i := 20) rfl)) (hw _ (List.mem_of_getElem? (i := 21) rfl)) (by decide) (rm2 l Z a0 hw [] r10 s_RequestType_ADD s_RequestType_READ s_RequestType_STATS s_RequestType_FENCE s_RequestType_RECOVERY_READ s_RequestType_RECOVERY_ADD s_RequestType_READ_LAC s_RequestType_WRITE_LAC s_RequestType_WAIT_LAC s_RequestType_READ_RANGE h0 n0 Z0 (S_s_RequestType_ADD) (S_s_RequestType_READ) (S_s_RequestType_STATS) (S_s_RequestType_FENCE) (S_s_RequestType_RECOVERY_READ) (S_s_RequestType_RECOVERY_ADD) (S_s_RequestType_READ_LAC) (S_s_RequestType_WRITE_LAC) (S_s_RequestType_WAIT_LAC) (S_s_RequestType_READ_RANGE)) (by decide) (by decide) (by decide) (by decide) (g := (mkF m 23 A1191 [(.int r10)])) rfl (by rw [hml]; rfl) (argsL := [(.int r10)]) (rest := []) rfl (lenOf pd_0 rfl) rfl (by show 2 * 0 + _ ≤ _; exact Nat.le_of_eq rfl) (hb hby at_23)
      rcases hQ1192 with hQ1192 | hQ1192 | hQ1192 | hQ1192 | hQ1192 | hQ1192 | hQ1192 | hQ1192 | hQ1192 | hQ1192 | hQ1192
      · obtain ⟨hc1193, rfl, N1192, e1192⟩ := hQ1192
        have N1192_ := Fr.app N799_ N1192
        exfalso
        have rv1 := rng32 v1
        have wv1 := c_mask p1 (1 : Int32) 1 (by decide) (by decide)
        rw [← hv1] at wv1
        have rv5 := rng32 v5
        have wv5 := c_mask p0 (15 : Int32) 4 (by decide) (by decide)
        rw [← hv5] at wv5
        have rv6 := rng32 v6
        have wv6 := c_isub v5 (2 : Int32)
        rw [← hv6] at wv6
        have rp0 := rng32 p0
        have rp1 := rng32 p1
        have rr10 := rng32 r10
        have lI0 : (0 : Int32).toInt = 0 := by decide
        have lI1 : (1 : Int32).toInt = 1 := by decide
        have lI2 : (2 : Int32).toInt = 2 := by decide
        have lI3 : (3 : Int32).toInt = 3 := by decide
        have lI4 : (4 : Int32).toInt = 4 := by decide
        have lI5 : (5 : Int32).toInt = 5 := by decide
        have lI6 : (6 : Int32).toInt = 6 := by decide
        have lI15 : (15 : Int32).toInt = 15 := by decide
        simp only [Int32.lt_iff_toInt_lt, Int64.lt_iff_toInt_lt, ← Int32.toInt_inj, ← Int64.toInt_inj] at hc11 hc1185 hc1186 hc1187 hc1188 hc1189 hc1190 hc1193
        omega
      · obtain ⟨hc1194, hc1195, rfl, N1192, e1192⟩ := hQ1192
        have N1192_ := Fr.app N799_ N1192
        exfalso
        have rv1 := rng32 v1
        have wv1 := c_mask p1 (1 : Int32) 1 (by decide) (by decide)
        rw [← hv1] at wv1
        have rv5 := rng32 v5
        have wv5 := c_mask p0 (15 : Int32) 4 (by decide) (by decide)
        rw [← hv5] at wv5
        have rv6 := rng32 v6
        have wv6 := c_isub v5 (2 : Int32)
        rw [← hv6] at wv6
        have rp0 := rng32 p0
        have rp1 := rng32 p1
        have rr10 := rng32 r10
        have lI0 : (0 : Int32).toInt = 0 := by decide
        have lI1 : (1 : Int32).toInt = 1 := by decide
        have lI2 : (2 : Int32).toInt = 2 := by decide
        have lI3 : (3 : Int32).toInt = 3 := by decide
        have lI4 : (4 : Int32).toInt = 4 := by decide
        have lI5 : (5 : Int32).toInt = 5 := by decide
        have lI6 : (6 : Int32).toInt = 6 := by decide
        have lI15 : (15 : Int32).toInt = 15 := by decide
        simp only [Int32.lt_iff_toInt_lt, Int64.lt_iff_toInt_lt, ← Int32.toInt_inj, ← Int64.toInt_inj] at hc11 hc1185 hc1186 hc1187 hc1188 hc1189 hc1190 hc1194 hc1195
        omega
      · obtain ⟨hc1196, hc1197, hc1198, rfl, N1192, e1192⟩ := hQ1192
        have N1192_ := Fr.app N799_ N1192
        exfalso
        have rv1 := rng32 v1
        have wv1 := c_mask p1 (1 : Int32) 1 (by decide) (by decide)
        rw [← hv1] at wv1
        have rv5 := rng32 v5
        have wv5 := c_mask p0 (15 : Int32) 4 (by decide) (by decide)
        rw [← hv5] at wv5
        have rv6 := rng32 v6
        have wv6 := c_isub v5 (2 : Int32)
        rw [← hv6] at wv6
        have rp0 := rng32 p0
        have rp1 := rng32 p1
        have rr10 := rng32 r10
        have lI0 : (0 : Int32).toInt = 0 := by decide
        have lI1 : (1 : Int32).toInt = 1 := by decide
        have lI2 : (2 : Int32).toInt = 2 := by decide
        have lI3 : (3 : Int32).toInt = 3 := by decide
        have lI4 : (4 : Int32).toInt = 4 := by decide
        have lI5 : (5 : Int32).toInt = 5 := by decide
        have lI6 : (6 : Int32).toInt = 6 := by decide
        have lI15 : (15 : Int32).toInt = 15 := by decide
        simp only [Int32.lt_iff_toInt_lt, Int64.lt_iff_toInt_lt, ← Int32.toInt_inj, ← Int64.toInt_inj] at hc11 hc1185 hc1186 hc1187 hc1188 hc1189 hc1190 hc1196 hc1197 hc1198
        omega
      · obtain ⟨hc1199, hc1200, hc1201, hc1202, rfl, N1192, e1192⟩ := hQ1192
        have N1192_ := Fr.app N799_ N1192
        exfalso
        have rv1 := rng32 v1
        have wv1 := c_mask p1 (1 : Int32) 1 (by decide) (by decide)
        rw [← hv1] at wv1
        have rv5 := rng32 v5
        have wv5 := c_mask p0 (15 : Int32) 4 (by decide) (by decide)
        rw [← hv5] at wv5
        have rv6 := rng32 v6
        have wv6 := c_isub v5 (2 : Int32)
        rw [← hv6] at wv6
        have rp0 := rng32 p0
        have rp1 := rng32 p1
        have rr10 := rng32 r10
        have lI0 : (0 : Int32).toInt = 0 := by decide
        have lI1 : (1 : Int32).toInt = 1 := by decide
        have lI2 : (2 : Int32).toInt = 2 := by decide
        have lI3 : (3 : Int32).toInt = 3 := by decide
        have lI4 : (4 : Int32).toInt = 4 := by decide
        have lI5 : (5 : Int32).toInt = 5 := by decide
        have lI6 : (6 : Int32).toInt = 6 := by decide
        have lI15 : (15 : Int32).toInt = 15 := by decide
        simp only [Int32.lt_iff_toInt_lt, Int64.lt_iff_toInt_lt, ← Int32.toInt_inj, ← Int64.toInt_inj] at hc11 hc1185 hc1186 hc1187 hc1188 hc1189 hc1190 hc1199 hc1200 hc1201 hc1202
        omega
      · obtain ⟨hc1203, hc1204, hc1205, hc1206, hc1207, rfl, N1192, e1192⟩ := hQ1192
        have N1192_ := Fr.app N799_ N1192
        exfalso
        have rv1 := rng32 v1
        have wv1 := c_mask p1 (1 : Int32) 1 (by decide) (by decide)
        rw [← hv1] at wv1
        have rv5 := rng32 v5
        have wv5 := c_mask p0 (15 : Int32) 4 (by decide) (by decide)
        rw [← hv5] at wv5
        have rv6 := rng32 v6
        have wv6 := c_isub v5 (2 : Int32)
        rw [← hv6] at wv6
        have rp0 := rng32 p0
        have rp1 := rng32 p1
        have rr10 := rng32 r10
        have lI0 : (0 : Int32).toInt = 0 := by decide
        have lI1 : (1 : Int32).toInt = 1 := by decide
        have lI2 : (2 : Int32).toInt = 2 := by decide
        have lI3 : (3 : Int32).toInt = 3 := by decide
        have lI4 : (4 : Int32).toInt = 4 := by decide
        have lI5 : (5 : Int32).toInt = 5 := by decide
        have lI6 : (6 : Int32).toInt = 6 := by decide
        have lI15 : (15 : Int32).toInt = 15 := by decide
        simp only [Int32.lt_iff_toInt_lt, Int64.lt_iff_toInt_lt, ← Int32.toInt_inj, ← Int64.toInt_inj] at hc11 hc1185 hc1186 hc1187 hc1188 hc1189 hc1190 hc1203 hc1204 hc1205 hc1206 hc1207
        omega
      · obtain ⟨hc1208, hc1209, hc1210, hc1211, hc1212, hc1213, rfl, N1192, e1192⟩ := hQ1192
        have N1192_ := Fr.app N799_ N1192
        refine Go.st (S' := T1192.setTop (mkF m 26 A1191 [(.ref s_RequestType_RECOVERY_ADD)])) st1192 ?_
        let A1214 : Array Slot := #[.val (.int p0), .val (.int p1), .val (.int r10), .val (.ref s_RequestType_RECOVERY_ADD), .val (.ref s_RequestType_RECOVERY_ADD)]
        refine Go.st (S' := T1192.setTop (mkF m 28 A1214 [])) (fun t k => XS.astore X1192.here hx rfl (hb hby at_26) rfl rfl (l' := A1214) rfl k) ?_
        refine Go.st (S' := T1192.setTop (mkF m 30 A1214 [(.ref s_RequestType_RECOVERY_ADD)])) (fun t k => XS.aload X1192.here hx rfl (hb hby at_28) rfl rfl k) ?_
        refine Go.st (S' := T1192.setTop (mkF m 43 A1214 [])) (fun t k => XS.ifnonnullYes X1192.here hx rfl (pc0 := 30) (pc' := 43) rfl (hb hby at_30) rfl (by decide) (by decide) k) ?_
        refine Go.st (S' := T1192.setTop (mkF m 44 A1214 [(.ref s_RequestType_RECOVERY_ADD)])) (fun t k => XS.aloadN X1192.here hx rfl (hb hby at_43) rfl rfl k) ?_
        refine Go.st (S' := T1192.setTop (mkF m 46 A1214 [(.ref s_RequestType_RECOVERY_ADD), (.ref s_RequestType_RECOVERY_ADD)])) (fun t k => XS.aload X1192.here hx rfl (hb hby at_44) rfl rfl k) ?_
        refine Go.st (S' := T1192.setTop (mkF m 49 A1214 [])) (fun t k => acmp X1192 hx rfl rfl rfl (pc0 := 46) (pc' := 49) (same := true) rfl (hb hby at_46) rfl (by simp) (by decide) (by decide) k) ?_
        refine Go.st (S' := T1192.setTop (mkF m 50 A1214 [(.ref s_RequestType_RECOVERY_ADD)])) (fun t k => XS.aloadN X1192.here hx rfl (hb hby at_49) rfl rfl k) ?_
        obtain ⟨r1216, T1216, L1216, X1216, hQ1216, st1216⟩ := own_callV (W := 0) (a := s_RequestType_RECOVERY_ADD) (C := "com/example/hale_ledger/haleledger/protocol/RequestType") X1192 hx hZ e1192 hown (y := (⟨"com/example/hale_ledger/haleledger/protocol/RequestType", "code", "()I"⟩ : MethodName)) (z := (⟨"com/example/hale_ledger/haleledger/protocol/RequestType", "code", "()I"⟩ : MethodName)) (hw _ (List.mem_of_getElem? (i := 23) rfl)) (hw _ (List.mem_of_getElem? (i := 24) rfl)) (notFace_of_selects (args := #[]) (mvT hZ (hw _ (List.mem_of_getElem? (i := 26) rfl)))) (hw _ (List.mem_of_getElem? (i := 26) rfl)) (hw _ (List.mem_of_getElem? (i := 25) rfl)) (hw _ (List.mem_of_getElem? (i := 2) rfl)) (hw _ (List.mem_of_getElem? (i := 27) rfl)) (by decide) (E_s_RequestType_RECOVERY_ADD) (rm8 l Z a0 hw [] s_RequestType_RECOVERY_ADD h0 n0 Z0 (F_s_RequestType_RECOVERY_ADD_code)) (by decide) (by decide) (by decide) (by decide) (g := (mkF m 50 A1214 [(.ref s_RequestType_RECOVERY_ADD)])) rfl (by rw [hml]; rfl) (argsL := []) (rest := []) rfl (lenOf pd_1 rfl) rfl (by show 2 * 0 + _ ≤ _; exact Nat.le_of_eq rfl) (hb hby at_50)
        obtain ⟨rfl, N1216, e1216⟩ := hQ1216
        have N1216_ := Fr.app N1192_ N1216
        refine Go.st (S' := T1216.setTop (mkF m 53 A1214 [(.int (6 : Int32))])) st1216 ?_
        refine Go.st (S' := T1216.setTop (mkF m 54 A1214 [(.int r10), (.int (6 : Int32))])) (fun t k => XS.iloadN X1216.here hx rfl (hb hby at_53) rfl k) ?_
        refine Go.st (S' := T1216.setTop (mkF m 57 A1214 [])) (fun t k => XS.icmpNo X1216.here hx rfl (hb hby at_54) rfl (teq hc1190).2 k) ?_
        refine Go.st (S' := T1216.setTop (mkF m 58 A1214 [(.int (1 : Int32))])) (fun t k => XS.iconst X1216.here hx rfl (hb hby at_57) k) ?_
        refine Go.st (S' := T1216.setTop (mkF m 62 A1214 [(.int (1 : Int32))])) (fun t k => XS.goto X1216.here hx rfl (pc0 := 58) (pc' := 62) rfl (hb hby at_58) (by decide) (by decide) k) ?_
        exact Go.ret X1216 (v := some (.int (1 : Int32))) (fun h => by rw [Bd.returns] at h; cases h) Bd.notSynchronized (fun fs hr => retN X1216 hx (t := .boolean) Bd.returns (by simp) (hb hby at_62) hr) (by decide) (by decide) ⟨rfl, N1216_⟩
      · obtain ⟨hc1217, hc1218, hc1219, hc1220, hc1221, hc1222, hc1223, rfl, N1192, e1192⟩ := hQ1192
        have N1192_ := Fr.app N799_ N1192
        exfalso
        have rv1 := rng32 v1
        have wv1 := c_mask p1 (1 : Int32) 1 (by decide) (by decide)
        rw [← hv1] at wv1
        have rv5 := rng32 v5
        have wv5 := c_mask p0 (15 : Int32) 4 (by decide) (by decide)
        rw [← hv5] at wv5
        have rv6 := rng32 v6
        have wv6 := c_isub v5 (2 : Int32)
        rw [← hv6] at wv6
        have rp0 := rng32 p0
        have rp1 := rng32 p1
        have rr10 := rng32 r10
        have lI0 : (0 : Int32).toInt = 0 := by decide
        have lI1 : (1 : Int32).toInt = 1 := by decide
        have lI2 : (2 : Int32).toInt = 2 := by decide
        have lI3 : (3 : Int32).toInt = 3 := by decide
        have lI4 : (4 : Int32).toInt = 4 := by decide
        have lI5 : (5 : Int32).toInt = 5 := by decide
        have lI6 : (6 : Int32).toInt = 6 := by decide
        have lI7 : (7 : Int32).toInt = 7 := by decide
        have lI15 : (15 : Int32).toInt = 15 := by decide
        simp only [Int32.lt_iff_toInt_lt, Int64.lt_iff_toInt_lt, ← Int32.toInt_inj, ← Int64.toInt_inj] at hc11 hc1185 hc1186 hc1187 hc1188 hc1189 hc1190 hc1217 hc1218 hc1219 hc1220 hc1221 hc1222 hc1223
        omega
      · obtain ⟨hc1224, hc1225, hc1226, hc1227, hc1228, hc1229, hc1230, hc1231, rfl, N1192, e1192⟩ := hQ1192
        have N1192_ := Fr.app N799_ N1192
        exfalso
        have rv1 := rng32 v1
        have wv1 := c_mask p1 (1 : Int32) 1 (by decide) (by decide)
        rw [← hv1] at wv1
        have rv5 := rng32 v5
        have wv5 := c_mask p0 (15 : Int32) 4 (by decide) (by decide)
        rw [← hv5] at wv5
        have rv6 := rng32 v6
        have wv6 := c_isub v5 (2 : Int32)
        rw [← hv6] at wv6
        have rp0 := rng32 p0
        have rp1 := rng32 p1
        have rr10 := rng32 r10
        have lI0 : (0 : Int32).toInt = 0 := by decide
        have lI1 : (1 : Int32).toInt = 1 := by decide
        have lI2 : (2 : Int32).toInt = 2 := by decide
        have lI3 : (3 : Int32).toInt = 3 := by decide
        have lI4 : (4 : Int32).toInt = 4 := by decide
        have lI5 : (5 : Int32).toInt = 5 := by decide
        have lI6 : (6 : Int32).toInt = 6 := by decide
        have lI7 : (7 : Int32).toInt = 7 := by decide
        have lI8 : (8 : Int32).toInt = 8 := by decide
        have lI15 : (15 : Int32).toInt = 15 := by decide
        simp only [Int32.lt_iff_toInt_lt, Int64.lt_iff_toInt_lt, ← Int32.toInt_inj, ← Int64.toInt_inj] at hc11 hc1185 hc1186 hc1187 hc1188 hc1189 hc1190 hc1224 hc1225 hc1226 hc1227 hc1228 hc1229 hc1230 hc1231
        omega
      · obtain ⟨hc1232, hc1233, hc1234, hc1235, hc1236, hc1237, hc1238, hc1239, hc1240, rfl, N1192, e1192⟩ := hQ1192
        have N1192_ := Fr.app N799_ N1192
        exfalso
        have rv1 := rng32 v1
        have wv1 := c_mask p1 (1 : Int32) 1 (by decide) (by decide)
        rw [← hv1] at wv1
        have rv5 := rng32 v5
        have wv5 := c_mask p0 (15 : Int32) 4 (by decide) (by decide)
        rw [← hv5] at wv5
        have rv6 := rng32 v6
        have wv6 := c_isub v5 (2 : Int32)
        rw [← hv6] at wv6
        have rp0 := rng32 p0
        have rp1 := rng32 p1
        have rr10 := rng32 r10
        have lI0 : (0 : Int32).toInt = 0 := by decide
        have lI1 : (1 : Int32).toInt = 1 := by decide
        have lI2 : (2 : Int32).toInt = 2 := by decide
        have lI3 : (3 : Int32).toInt = 3 := by decide
        have lI4 : (4 : Int32).toInt = 4 := by decide
        have lI5 : (5 : Int32).toInt = 5 := by decide
        have lI6 : (6 : Int32).toInt = 6 := by decide
        have lI7 : (7 : Int32).toInt = 7 := by decide
        have lI8 : (8 : Int32).toInt = 8 := by decide
        have lI9 : (9 : Int32).toInt = 9 := by decide
        have lI15 : (15 : Int32).toInt = 15 := by decide
        simp only [Int32.lt_iff_toInt_lt, Int64.lt_iff_toInt_lt, ← Int32.toInt_inj, ← Int64.toInt_inj] at hc11 hc1185 hc1186 hc1187 hc1188 hc1189 hc1190 hc1232 hc1233 hc1234 hc1235 hc1236 hc1237 hc1238 hc1239 hc1240
        omega
      · obtain ⟨hc1241, hc1242, hc1243, hc1244, hc1245, hc1246, hc1247, hc1248, hc1249, hc1250, rfl, N1192, e1192⟩ := hQ1192
        have N1192_ := Fr.app N799_ N1192
        exfalso
        have rv1 := rng32 v1
        have wv1 := c_mask p1 (1 : Int32) 1 (by decide) (by decide)
        rw [← hv1] at wv1
        have rv5 := rng32 v5
        have wv5 := c_mask p0 (15 : Int32) 4 (by decide) (by decide)
        rw [← hv5] at wv5
        have rv6 := rng32 v6
        have wv6 := c_isub v5 (2 : Int32)
        rw [← hv6] at wv6
        have rp0 := rng32 p0
        have rp1 := rng32 p1
        have rr10 := rng32 r10
        have lI0 : (0 : Int32).toInt = 0 := by decide
        have lI1 : (1 : Int32).toInt = 1 := by decide
        have lI2 : (2 : Int32).toInt = 2 := by decide
        have lI3 : (3 : Int32).toInt = 3 := by decide
        have lI4 : (4 : Int32).toInt = 4 := by decide
        have lI5 : (5 : Int32).toInt = 5 := by decide
        have lI6 : (6 : Int32).toInt = 6 := by decide
        have lI7 : (7 : Int32).toInt = 7 := by decide
        have lI8 : (8 : Int32).toInt = 8 := by decide
        have lI9 : (9 : Int32).toInt = 9 := by decide
        have lI10 : (10 : Int32).toInt = 10 := by decide
        have lI15 : (15 : Int32).toInt = 15 := by decide
        simp only [Int32.lt_iff_toInt_lt, Int64.lt_iff_toInt_lt, ← Int32.toInt_inj, ← Int64.toInt_inj] at hc11 hc1185 hc1186 hc1187 hc1188 hc1189 hc1190 hc1241 hc1242 hc1243 hc1244 hc1245 hc1246 hc1247 hc1248 hc1249 hc1250
        omega
      · obtain ⟨hc1251, hc1252, hc1253, hc1254, hc1255, hc1256, hc1257, hc1258, hc1259, hc1260, rfl, N1192, e1192⟩ := hQ1192
        have N1192_ := Fr.app N799_ N1192
        exfalso
        have rv1 := rng32 v1
        have wv1 := c_mask p1 (1 : Int32) 1 (by decide) (by decide)
        rw [← hv1] at wv1
        have rv5 := rng32 v5
        have wv5 := c_mask p0 (15 : Int32) 4 (by decide) (by decide)
        rw [← hv5] at wv5
        have rv6 := rng32 v6
        have wv6 := c_isub v5 (2 : Int32)
        rw [← hv6] at wv6
        have rp0 := rng32 p0
        have rp1 := rng32 p1
        have rr10 := rng32 r10
        have lI0 : (0 : Int32).toInt = 0 := by decide
        have lI1 : (1 : Int32).toInt = 1 := by decide
        have lI2 : (2 : Int32).toInt = 2 := by decide
        have lI3 : (3 : Int32).toInt = 3 := by decide
        have lI4 : (4 : Int32).toInt = 4 := by decide
        have lI5 : (5 : Int32).toInt = 5 := by decide
        have lI6 : (6 : Int32).toInt = 6 := by decide
        have lI7 : (7 : Int32).toInt = 7 := by decide
        have lI8 : (8 : Int32).toInt = 8 := by decide
        have lI9 : (9 : Int32).toInt = 9 := by decide
        have lI10 : (10 : Int32).toInt = 10 := by decide
        have lI15 : (15 : Int32).toInt = 15 := by decide
        simp only [Int32.lt_iff_toInt_lt, Int64.lt_iff_toInt_lt, ← Int32.toInt_inj, ← Int64.toInt_inj] at hc11 hc1185 hc1186 hc1187 hc1188 hc1189 hc1190 hc1251 hc1252 hc1253 hc1254 hc1255 hc1256 hc1257 hc1258 hc1259 hc1260
        omega
    · obtain ⟨hc1261, hc1262, hc1263, hc1264, hc1265, hc1266, hc1267, rfl, N799, e799⟩ := hQ799
      have N799_ := Fr.app N0 N799
      refine Go.st (S' := T799.setTop (mkF m 21 A12 [(.ref s_RequestType_READ_LAC)])) st799 ?_
      let A1268 : Array Slot := #[.val (.int p0), .val (.int p1), .val (.int r10), .val (.ref s_RequestType_READ_LAC), .unset]
      refine Go.st (S' := T799.setTop (mkF m 22 A1268 [])) (fun t k => XS.astoreN X799.here hx rfl (hb hby at_21) rfl rfl (l' := A1268) rfl k) ?_
      refine Go.st (S' := T799.setTop (mkF m 23 A1268 [(.int r10)])) (fun t k => XS.iloadN X799.here hx rfl (hb hby at_22) rfl k) ?_
      obtain ⟨r1269, T1269, L1269, X1269, hQ1269, st1269⟩ := own_callS (W := 0) X799 hx hZ e799 hown (y := (⟨"com/example/hale_ledger/haleledger/protocol/RequestTypeOfCodePinLaw", "expected", "(I)Lcom/example/hale_ledger/haleledger/protocol/RequestType;"⟩ : MethodName)) (hw _ (List.mem_of_getElem? (i := 18) rfl)) (hw _ (List.mem_of_getElem? (i := 19) rfl)) (hw _ (List.mem_of_getElem? (i := 20) rfl)) (hw _ (List.mem_of_getElem? (i := 21) rfl)) (by decide) (rm2 l Z a0 hw [] r10 s_RequestType_ADD s_RequestType_READ s_RequestType_STATS s_RequestType_FENCE s_RequestType_RECOVERY_READ s_RequestType_RECOVERY_ADD s_RequestType_READ_LAC s_RequestType_WRITE_LAC s_RequestType_WAIT_LAC s_RequestType_READ_RANGE h0 n0 Z0 (S_s_RequestType_ADD) (S_s_RequestType_READ) (S_s_RequestType_STATS) (S_s_RequestType_FENCE) (S_s_RequestType_RECOVERY_READ) (S_s_RequestType_RECOVERY_ADD) (S_s_RequestType_READ_LAC) (S_s_RequestType_WRITE_LAC) (S_s_RequestType_WAIT_LAC) (S_s_RequestType_READ_RANGE)) (by decide) (by decide) (by decide) (by decide) (g := (mkF m 23 A1268 [(.int r10)])) rfl (by rw [hml]; rfl) (argsL := [(.int r10)]) (rest := []) rfl (lenOf pd_0 rfl) rfl (by show 2 * 0 + _ ≤ _; exact Nat.le_of_eq rfl) (hb hby at_23)
      rcases hQ1269 with hQ1269 | hQ1269 | hQ1269 | hQ1269 | hQ1269 | hQ1269 | hQ1269 | hQ1269 | hQ1269 | hQ1269 | hQ1269
      · obtain ⟨hc1270, rfl, N1269, e1269⟩ := hQ1269
        have N1269_ := Fr.app N799_ N1269
        exfalso
        have rv1 := rng32 v1
        have wv1 := c_mask p1 (1 : Int32) 1 (by decide) (by decide)
        rw [← hv1] at wv1
        have rv5 := rng32 v5
        have wv5 := c_mask p0 (15 : Int32) 4 (by decide) (by decide)
        rw [← hv5] at wv5
        have rv6 := rng32 v6
        have wv6 := c_isub v5 (2 : Int32)
        rw [← hv6] at wv6
        have rp0 := rng32 p0
        have rp1 := rng32 p1
        have rr10 := rng32 r10
        have lI0 : (0 : Int32).toInt = 0 := by decide
        have lI1 : (1 : Int32).toInt = 1 := by decide
        have lI2 : (2 : Int32).toInt = 2 := by decide
        have lI3 : (3 : Int32).toInt = 3 := by decide
        have lI4 : (4 : Int32).toInt = 4 := by decide
        have lI5 : (5 : Int32).toInt = 5 := by decide
        have lI6 : (6 : Int32).toInt = 6 := by decide
        have lI7 : (7 : Int32).toInt = 7 := by decide
        have lI15 : (15 : Int32).toInt = 15 := by decide
        simp only [Int32.lt_iff_toInt_lt, Int64.lt_iff_toInt_lt, ← Int32.toInt_inj, ← Int64.toInt_inj] at hc11 hc1261 hc1262 hc1263 hc1264 hc1265 hc1266 hc1267 hc1270
        omega
      · obtain ⟨hc1271, hc1272, rfl, N1269, e1269⟩ := hQ1269
        have N1269_ := Fr.app N799_ N1269
        exfalso
        have rv1 := rng32 v1
        have wv1 := c_mask p1 (1 : Int32) 1 (by decide) (by decide)
        rw [← hv1] at wv1
        have rv5 := rng32 v5
        have wv5 := c_mask p0 (15 : Int32) 4 (by decide) (by decide)
        rw [← hv5] at wv5
        have rv6 := rng32 v6
        have wv6 := c_isub v5 (2 : Int32)
        rw [← hv6] at wv6
        have rp0 := rng32 p0
        have rp1 := rng32 p1
        have rr10 := rng32 r10
        have lI0 : (0 : Int32).toInt = 0 := by decide
        have lI1 : (1 : Int32).toInt = 1 := by decide
        have lI2 : (2 : Int32).toInt = 2 := by decide
        have lI3 : (3 : Int32).toInt = 3 := by decide
        have lI4 : (4 : Int32).toInt = 4 := by decide
        have lI5 : (5 : Int32).toInt = 5 := by decide
        have lI6 : (6 : Int32).toInt = 6 := by decide
        have lI7 : (7 : Int32).toInt = 7 := by decide
        have lI15 : (15 : Int32).toInt = 15 := by decide
        simp only [Int32.lt_iff_toInt_lt, Int64.lt_iff_toInt_lt, ← Int32.toInt_inj, ← Int64.toInt_inj] at hc11 hc1261 hc1262 hc1263 hc1264 hc1265 hc1266 hc1267 hc1271 hc1272
        omega
      · obtain ⟨hc1273, hc1274, hc1275, rfl, N1269, e1269⟩ := hQ1269
        have N1269_ := Fr.app N799_ N1269
        exfalso
        have rv1 := rng32 v1
        have wv1 := c_mask p1 (1 : Int32) 1 (by decide) (by decide)
        rw [← hv1] at wv1
        have rv5 := rng32 v5
        have wv5 := c_mask p0 (15 : Int32) 4 (by decide) (by decide)
        rw [← hv5] at wv5
        have rv6 := rng32 v6
        have wv6 := c_isub v5 (2 : Int32)
        rw [← hv6] at wv6
        have rp0 := rng32 p0
        have rp1 := rng32 p1
        have rr10 := rng32 r10
        have lI0 : (0 : Int32).toInt = 0 := by decide
        have lI1 : (1 : Int32).toInt = 1 := by decide
        have lI2 : (2 : Int32).toInt = 2 := by decide
        have lI3 : (3 : Int32).toInt = 3 := by decide
        have lI4 : (4 : Int32).toInt = 4 := by decide
        have lI5 : (5 : Int32).toInt = 5 := by decide
        have lI6 : (6 : Int32).toInt = 6 := by decide
        have lI7 : (7 : Int32).toInt = 7 := by decide
        have lI15 : (15 : Int32).toInt = 15 := by decide
        simp only [Int32.lt_iff_toInt_lt, Int64.lt_iff_toInt_lt, ← Int32.toInt_inj, ← Int64.toInt_inj] at hc11 hc1261 hc1262 hc1263 hc1264 hc1265 hc1266 hc1267 hc1273 hc1274 hc1275
        omega
      · obtain ⟨hc1276, hc1277, hc1278, hc1279, rfl, N1269, e1269⟩ := hQ1269
        have N1269_ := Fr.app N799_ N1269
        exfalso
        have rv1 := rng32 v1
        have wv1 := c_mask p1 (1 : Int32) 1 (by decide) (by decide)
        rw [← hv1] at wv1
        have rv5 := rng32 v5
        have wv5 := c_mask p0 (15 : Int32) 4 (by decide) (by decide)
        rw [← hv5] at wv5
        have rv6 := rng32 v6
        have wv6 := c_isub v5 (2 : Int32)
        rw [← hv6] at wv6
        have rp0 := rng32 p0
        have rp1 := rng32 p1
        have rr10 := rng32 r10
        have lI0 : (0 : Int32).toInt = 0 := by decide
        have lI1 : (1 : Int32).toInt = 1 := by decide
        have lI2 : (2 : Int32).toInt = 2 := by decide
        have lI3 : (3 : Int32).toInt = 3 := by decide
        have lI4 : (4 : Int32).toInt = 4 := by decide
        have lI5 : (5 : Int32).toInt = 5 := by decide
        have lI6 : (6 : Int32).toInt = 6 := by decide
        have lI7 : (7 : Int32).toInt = 7 := by decide
        have lI15 : (15 : Int32).toInt = 15 := by decide
        simp only [Int32.lt_iff_toInt_lt, Int64.lt_iff_toInt_lt, ← Int32.toInt_inj, ← Int64.toInt_inj] at hc11 hc1261 hc1262 hc1263 hc1264 hc1265 hc1266 hc1267 hc1276 hc1277 hc1278 hc1279
        omega
      · obtain ⟨hc1280, hc1281, hc1282, hc1283, hc1284, rfl, N1269, e1269⟩ := hQ1269
        have N1269_ := Fr.app N799_ N1269
        exfalso
        have rv1 := rng32 v1
        have wv1 := c_mask p1 (1 : Int32) 1 (by decide) (by decide)
        rw [← hv1] at wv1
        have rv5 := rng32 v5
        have wv5 := c_mask p0 (15 : Int32) 4 (by decide) (by decide)
        rw [← hv5] at wv5
        have rv6 := rng32 v6
        have wv6 := c_isub v5 (2 : Int32)
        rw [← hv6] at wv6
        have rp0 := rng32 p0
        have rp1 := rng32 p1
        have rr10 := rng32 r10
        have lI0 : (0 : Int32).toInt = 0 := by decide
        have lI1 : (1 : Int32).toInt = 1 := by decide
        have lI2 : (2 : Int32).toInt = 2 := by decide
        have lI3 : (3 : Int32).toInt = 3 := by decide
        have lI4 : (4 : Int32).toInt = 4 := by decide
        have lI5 : (5 : Int32).toInt = 5 := by decide
        have lI6 : (6 : Int32).toInt = 6 := by decide
        have lI7 : (7 : Int32).toInt = 7 := by decide
        have lI15 : (15 : Int32).toInt = 15 := by decide
        simp only [Int32.lt_iff_toInt_lt, Int64.lt_iff_toInt_lt, ← Int32.toInt_inj, ← Int64.toInt_inj] at hc11 hc1261 hc1262 hc1263 hc1264 hc1265 hc1266 hc1267 hc1280 hc1281 hc1282 hc1283 hc1284
        omega
      · obtain ⟨hc1285, hc1286, hc1287, hc1288, hc1289, hc1290, rfl, N1269, e1269⟩ := hQ1269
        have N1269_ := Fr.app N799_ N1269
        exfalso
        have rv1 := rng32 v1
        have wv1 := c_mask p1 (1 : Int32) 1 (by decide) (by decide)
        rw [← hv1] at wv1
        have rv5 := rng32 v5
        have wv5 := c_mask p0 (15 : Int32) 4 (by decide) (by decide)
        rw [← hv5] at wv5
        have rv6 := rng32 v6
        have wv6 := c_isub v5 (2 : Int32)
        rw [← hv6] at wv6
        have rp0 := rng32 p0
        have rp1 := rng32 p1
        have rr10 := rng32 r10
        have lI0 : (0 : Int32).toInt = 0 := by decide
        have lI1 : (1 : Int32).toInt = 1 := by decide
        have lI2 : (2 : Int32).toInt = 2 := by decide
        have lI3 : (3 : Int32).toInt = 3 := by decide
        have lI4 : (4 : Int32).toInt = 4 := by decide
        have lI5 : (5 : Int32).toInt = 5 := by decide
        have lI6 : (6 : Int32).toInt = 6 := by decide
        have lI7 : (7 : Int32).toInt = 7 := by decide
        have lI15 : (15 : Int32).toInt = 15 := by decide
        simp only [Int32.lt_iff_toInt_lt, Int64.lt_iff_toInt_lt, ← Int32.toInt_inj, ← Int64.toInt_inj] at hc11 hc1261 hc1262 hc1263 hc1264 hc1265 hc1266 hc1267 hc1285 hc1286 hc1287 hc1288 hc1289 hc1290
        omega
      · obtain ⟨hc1291, hc1292, hc1293, hc1294, hc1295, hc1296, hc1297, rfl, N1269, e1269⟩ := hQ1269
        have N1269_ := Fr.app N799_ N1269
        refine Go.st (S' := T1269.setTop (mkF m 26 A1268 [(.ref s_RequestType_READ_LAC)])) st1269 ?_
        let A1298 : Array Slot := #[.val (.int p0), .val (.int p1), .val (.int r10), .val (.ref s_RequestType_READ_LAC), .val (.ref s_RequestType_READ_LAC)]
        refine Go.st (S' := T1269.setTop (mkF m 28 A1298 [])) (fun t k => XS.astore X1269.here hx rfl (hb hby at_26) rfl rfl (l' := A1298) rfl k) ?_
        refine Go.st (S' := T1269.setTop (mkF m 30 A1298 [(.ref s_RequestType_READ_LAC)])) (fun t k => XS.aload X1269.here hx rfl (hb hby at_28) rfl rfl k) ?_
        refine Go.st (S' := T1269.setTop (mkF m 43 A1298 [])) (fun t k => XS.ifnonnullYes X1269.here hx rfl (pc0 := 30) (pc' := 43) rfl (hb hby at_30) rfl (by decide) (by decide) k) ?_
        refine Go.st (S' := T1269.setTop (mkF m 44 A1298 [(.ref s_RequestType_READ_LAC)])) (fun t k => XS.aloadN X1269.here hx rfl (hb hby at_43) rfl rfl k) ?_
        refine Go.st (S' := T1269.setTop (mkF m 46 A1298 [(.ref s_RequestType_READ_LAC), (.ref s_RequestType_READ_LAC)])) (fun t k => XS.aload X1269.here hx rfl (hb hby at_44) rfl rfl k) ?_
        refine Go.st (S' := T1269.setTop (mkF m 49 A1298 [])) (fun t k => acmp X1269 hx rfl rfl rfl (pc0 := 46) (pc' := 49) (same := true) rfl (hb hby at_46) rfl (by simp) (by decide) (by decide) k) ?_
        refine Go.st (S' := T1269.setTop (mkF m 50 A1298 [(.ref s_RequestType_READ_LAC)])) (fun t k => XS.aloadN X1269.here hx rfl (hb hby at_49) rfl rfl k) ?_
        obtain ⟨r1300, T1300, L1300, X1300, hQ1300, st1300⟩ := own_callV (W := 0) (a := s_RequestType_READ_LAC) (C := "com/example/hale_ledger/haleledger/protocol/RequestType") X1269 hx hZ e1269 hown (y := (⟨"com/example/hale_ledger/haleledger/protocol/RequestType", "code", "()I"⟩ : MethodName)) (z := (⟨"com/example/hale_ledger/haleledger/protocol/RequestType", "code", "()I"⟩ : MethodName)) (hw _ (List.mem_of_getElem? (i := 23) rfl)) (hw _ (List.mem_of_getElem? (i := 24) rfl)) (notFace_of_selects (args := #[]) (mvT hZ (hw _ (List.mem_of_getElem? (i := 26) rfl)))) (hw _ (List.mem_of_getElem? (i := 26) rfl)) (hw _ (List.mem_of_getElem? (i := 25) rfl)) (hw _ (List.mem_of_getElem? (i := 2) rfl)) (hw _ (List.mem_of_getElem? (i := 27) rfl)) (by decide) (E_s_RequestType_READ_LAC) (rm9 l Z a0 hw [] s_RequestType_READ_LAC h0 n0 Z0 (F_s_RequestType_READ_LAC_code)) (by decide) (by decide) (by decide) (by decide) (g := (mkF m 50 A1298 [(.ref s_RequestType_READ_LAC)])) rfl (by rw [hml]; rfl) (argsL := []) (rest := []) rfl (lenOf pd_1 rfl) rfl (by show 2 * 0 + _ ≤ _; exact Nat.le_of_eq rfl) (hb hby at_50)
        obtain ⟨rfl, N1300, e1300⟩ := hQ1300
        have N1300_ := Fr.app N1269_ N1300
        refine Go.st (S' := T1300.setTop (mkF m 53 A1298 [(.int (7 : Int32))])) st1300 ?_
        refine Go.st (S' := T1300.setTop (mkF m 54 A1298 [(.int r10), (.int (7 : Int32))])) (fun t k => XS.iloadN X1300.here hx rfl (hb hby at_53) rfl k) ?_
        refine Go.st (S' := T1300.setTop (mkF m 57 A1298 [])) (fun t k => XS.icmpNo X1300.here hx rfl (hb hby at_54) rfl (teq hc1267).2 k) ?_
        refine Go.st (S' := T1300.setTop (mkF m 58 A1298 [(.int (1 : Int32))])) (fun t k => XS.iconst X1300.here hx rfl (hb hby at_57) k) ?_
        refine Go.st (S' := T1300.setTop (mkF m 62 A1298 [(.int (1 : Int32))])) (fun t k => XS.goto X1300.here hx rfl (pc0 := 58) (pc' := 62) rfl (hb hby at_58) (by decide) (by decide) k) ?_
        exact Go.ret X1300 (v := some (.int (1 : Int32))) (fun h => by rw [Bd.returns] at h; cases h) Bd.notSynchronized (fun fs hr => retN X1300 hx (t := .boolean) Bd.returns (by simp) (hb hby at_62) hr) (by decide) (by decide) ⟨rfl, N1300_⟩
      · obtain ⟨hc1301, hc1302, hc1303, hc1304, hc1305, hc1306, hc1307, hc1308, rfl, N1269, e1269⟩ := hQ1269
        have N1269_ := Fr.app N799_ N1269
        exfalso
        have rv1 := rng32 v1
        have wv1 := c_mask p1 (1 : Int32) 1 (by decide) (by decide)
        rw [← hv1] at wv1
        have rv5 := rng32 v5
        have wv5 := c_mask p0 (15 : Int32) 4 (by decide) (by decide)
        rw [← hv5] at wv5
        have rv6 := rng32 v6
        have wv6 := c_isub v5 (2 : Int32)
        rw [← hv6] at wv6
        have rp0 := rng32 p0
        have rp1 := rng32 p1
        have rr10 := rng32 r10
        have lI0 : (0 : Int32).toInt = 0 := by decide
        have lI1 : (1 : Int32).toInt = 1 := by decide
        have lI2 : (2 : Int32).toInt = 2 := by decide
        have lI3 : (3 : Int32).toInt = 3 := by decide
        have lI4 : (4 : Int32).toInt = 4 := by decide
        have lI5 : (5 : Int32).toInt = 5 := by decide
        have lI6 : (6 : Int32).toInt = 6 := by decide
        have lI7 : (7 : Int32).toInt = 7 := by decide
        have lI8 : (8 : Int32).toInt = 8 := by decide
        have lI15 : (15 : Int32).toInt = 15 := by decide
        simp only [Int32.lt_iff_toInt_lt, Int64.lt_iff_toInt_lt, ← Int32.toInt_inj, ← Int64.toInt_inj] at hc11 hc1261 hc1262 hc1263 hc1264 hc1265 hc1266 hc1267 hc1301 hc1302 hc1303 hc1304 hc1305 hc1306 hc1307 hc1308
        omega
      · obtain ⟨hc1309, hc1310, hc1311, hc1312, hc1313, hc1314, hc1315, hc1316, hc1317, rfl, N1269, e1269⟩ := hQ1269
        have N1269_ := Fr.app N799_ N1269
        exfalso
        have rv1 := rng32 v1
        have wv1 := c_mask p1 (1 : Int32) 1 (by decide) (by decide)
        rw [← hv1] at wv1
        have rv5 := rng32 v5
        have wv5 := c_mask p0 (15 : Int32) 4 (by decide) (by decide)
        rw [← hv5] at wv5
        have rv6 := rng32 v6
        have wv6 := c_isub v5 (2 : Int32)
        rw [← hv6] at wv6
        have rp0 := rng32 p0
        have rp1 := rng32 p1
        have rr10 := rng32 r10
        have lI0 : (0 : Int32).toInt = 0 := by decide
        have lI1 : (1 : Int32).toInt = 1 := by decide
        have lI2 : (2 : Int32).toInt = 2 := by decide
        have lI3 : (3 : Int32).toInt = 3 := by decide
        have lI4 : (4 : Int32).toInt = 4 := by decide
        have lI5 : (5 : Int32).toInt = 5 := by decide
        have lI6 : (6 : Int32).toInt = 6 := by decide
        have lI7 : (7 : Int32).toInt = 7 := by decide
        have lI8 : (8 : Int32).toInt = 8 := by decide
        have lI9 : (9 : Int32).toInt = 9 := by decide
        have lI15 : (15 : Int32).toInt = 15 := by decide
        simp only [Int32.lt_iff_toInt_lt, Int64.lt_iff_toInt_lt, ← Int32.toInt_inj, ← Int64.toInt_inj] at hc11 hc1261 hc1262 hc1263 hc1264 hc1265 hc1266 hc1267 hc1309 hc1310 hc1311 hc1312 hc1313 hc1314 hc1315 hc1316 hc1317
        omega
      · obtain ⟨hc1318, hc1319, hc1320, hc1321, hc1322, hc1323, hc1324, hc1325, hc1326, hc1327, rfl, N1269, e1269⟩ := hQ1269
        have N1269_ := Fr.app N799_ N1269
        exfalso
        have rv1 := rng32 v1
        have wv1 := c_mask p1 (1 : Int32) 1 (by decide) (by decide)
        rw [← hv1] at wv1
        have rv5 := rng32 v5
        have wv5 := c_mask p0 (15 : Int32) 4 (by decide) (by decide)
        rw [← hv5] at wv5
        have rv6 := rng32 v6
        have wv6 := c_isub v5 (2 : Int32)
        rw [← hv6] at wv6
        have rp0 := rng32 p0
        have rp1 := rng32 p1
        have rr10 := rng32 r10
        have lI0 : (0 : Int32).toInt = 0 := by decide
        have lI1 : (1 : Int32).toInt = 1 := by decide
        have lI2 : (2 : Int32).toInt = 2 := by decide
        have lI3 : (3 : Int32).toInt = 3 := by decide
        have lI4 : (4 : Int32).toInt = 4 := by decide
        have lI5 : (5 : Int32).toInt = 5 := by decide
        have lI6 : (6 : Int32).toInt = 6 := by decide
        have lI7 : (7 : Int32).toInt = 7 := by decide
        have lI8 : (8 : Int32).toInt = 8 := by decide
        have lI9 : (9 : Int32).toInt = 9 := by decide
        have lI10 : (10 : Int32).toInt = 10 := by decide
        have lI15 : (15 : Int32).toInt = 15 := by decide
        simp only [Int32.lt_iff_toInt_lt, Int64.lt_iff_toInt_lt, ← Int32.toInt_inj, ← Int64.toInt_inj] at hc11 hc1261 hc1262 hc1263 hc1264 hc1265 hc1266 hc1267 hc1318 hc1319 hc1320 hc1321 hc1322 hc1323 hc1324 hc1325 hc1326 hc1327
        omega
      · obtain ⟨hc1328, hc1329, hc1330, hc1331, hc1332, hc1333, hc1334, hc1335, hc1336, hc1337, rfl, N1269, e1269⟩ := hQ1269
        have N1269_ := Fr.app N799_ N1269
        exfalso
        have rv1 := rng32 v1
        have wv1 := c_mask p1 (1 : Int32) 1 (by decide) (by decide)
        rw [← hv1] at wv1
        have rv5 := rng32 v5
        have wv5 := c_mask p0 (15 : Int32) 4 (by decide) (by decide)
        rw [← hv5] at wv5
        have rv6 := rng32 v6
        have wv6 := c_isub v5 (2 : Int32)
        rw [← hv6] at wv6
        have rp0 := rng32 p0
        have rp1 := rng32 p1
        have rr10 := rng32 r10
        have lI0 : (0 : Int32).toInt = 0 := by decide
        have lI1 : (1 : Int32).toInt = 1 := by decide
        have lI2 : (2 : Int32).toInt = 2 := by decide
        have lI3 : (3 : Int32).toInt = 3 := by decide
        have lI4 : (4 : Int32).toInt = 4 := by decide
        have lI5 : (5 : Int32).toInt = 5 := by decide
        have lI6 : (6 : Int32).toInt = 6 := by decide
        have lI7 : (7 : Int32).toInt = 7 := by decide
        have lI8 : (8 : Int32).toInt = 8 := by decide
        have lI9 : (9 : Int32).toInt = 9 := by decide
        have lI10 : (10 : Int32).toInt = 10 := by decide
        have lI15 : (15 : Int32).toInt = 15 := by decide
        simp only [Int32.lt_iff_toInt_lt, Int64.lt_iff_toInt_lt, ← Int32.toInt_inj, ← Int64.toInt_inj] at hc11 hc1261 hc1262 hc1263 hc1264 hc1265 hc1266 hc1267 hc1328 hc1329 hc1330 hc1331 hc1332 hc1333 hc1334 hc1335 hc1336 hc1337
        omega
    · obtain ⟨hc1338, hc1339, hc1340, hc1341, hc1342, hc1343, hc1344, hc1345, rfl, N799, e799⟩ := hQ799
      have N799_ := Fr.app N0 N799
      refine Go.st (S' := T799.setTop (mkF m 21 A12 [(.ref s_RequestType_WRITE_LAC)])) st799 ?_
      let A1346 : Array Slot := #[.val (.int p0), .val (.int p1), .val (.int r10), .val (.ref s_RequestType_WRITE_LAC), .unset]
      refine Go.st (S' := T799.setTop (mkF m 22 A1346 [])) (fun t k => XS.astoreN X799.here hx rfl (hb hby at_21) rfl rfl (l' := A1346) rfl k) ?_
      refine Go.st (S' := T799.setTop (mkF m 23 A1346 [(.int r10)])) (fun t k => XS.iloadN X799.here hx rfl (hb hby at_22) rfl k) ?_
      obtain ⟨r1347, T1347, L1347, X1347, hQ1347, st1347⟩ := own_callS (W := 0) X799 hx hZ e799 hown (y := (⟨"com/example/hale_ledger/haleledger/protocol/RequestTypeOfCodePinLaw", "expected", "(I)Lcom/example/hale_ledger/haleledger/protocol/RequestType;"⟩ : MethodName)) (hw _ (List.mem_of_getElem? (i := 18) rfl)) (hw _ (List.mem_of_getElem? (i := 19) rfl)) (hw _ (List.mem_of_getElem? (i := 20) rfl)) (hw _ (List.mem_of_getElem? (i := 21) rfl)) (by decide) (rm2 l Z a0 hw [] r10 s_RequestType_ADD s_RequestType_READ s_RequestType_STATS s_RequestType_FENCE s_RequestType_RECOVERY_READ s_RequestType_RECOVERY_ADD s_RequestType_READ_LAC s_RequestType_WRITE_LAC s_RequestType_WAIT_LAC s_RequestType_READ_RANGE h0 n0 Z0 (S_s_RequestType_ADD) (S_s_RequestType_READ) (S_s_RequestType_STATS) (S_s_RequestType_FENCE) (S_s_RequestType_RECOVERY_READ) (S_s_RequestType_RECOVERY_ADD) (S_s_RequestType_READ_LAC) (S_s_RequestType_WRITE_LAC) (S_s_RequestType_WAIT_LAC) (S_s_RequestType_READ_RANGE)) (by decide) (by decide) (by decide) (by decide) (g := (mkF m 23 A1346 [(.int r10)])) rfl (by rw [hml]; rfl) (argsL := [(.int r10)]) (rest := []) rfl (lenOf pd_0 rfl) rfl (by show 2 * 0 + _ ≤ _; exact Nat.le_of_eq rfl) (hb hby at_23)
      rcases hQ1347 with hQ1347 | hQ1347 | hQ1347 | hQ1347 | hQ1347 | hQ1347 | hQ1347 | hQ1347 | hQ1347 | hQ1347 | hQ1347
      · obtain ⟨hc1348, rfl, N1347, e1347⟩ := hQ1347
        have N1347_ := Fr.app N799_ N1347
        exfalso
        have rv1 := rng32 v1
        have wv1 := c_mask p1 (1 : Int32) 1 (by decide) (by decide)
        rw [← hv1] at wv1
        have rv5 := rng32 v5
        have wv5 := c_mask p0 (15 : Int32) 4 (by decide) (by decide)
        rw [← hv5] at wv5
        have rv6 := rng32 v6
        have wv6 := c_isub v5 (2 : Int32)
        rw [← hv6] at wv6
        have rp0 := rng32 p0
        have rp1 := rng32 p1
        have rr10 := rng32 r10
        have lI0 : (0 : Int32).toInt = 0 := by decide
        have lI1 : (1 : Int32).toInt = 1 := by decide
        have lI2 : (2 : Int32).toInt = 2 := by decide
        have lI3 : (3 : Int32).toInt = 3 := by decide
        have lI4 : (4 : Int32).toInt = 4 := by decide
        have lI5 : (5 : Int32).toInt = 5 := by decide
        have lI6 : (6 : Int32).toInt = 6 := by decide
        have lI7 : (7 : Int32).toInt = 7 := by decide
        have lI8 : (8 : Int32).toInt = 8 := by decide
        have lI15 : (15 : Int32).toInt = 15 := by decide
        simp only [Int32.lt_iff_toInt_lt, Int64.lt_iff_toInt_lt, ← Int32.toInt_inj, ← Int64.toInt_inj] at hc11 hc1338 hc1339 hc1340 hc1341 hc1342 hc1343 hc1344 hc1345 hc1348
        omega
      · obtain ⟨hc1349, hc1350, rfl, N1347, e1347⟩ := hQ1347
        have N1347_ := Fr.app N799_ N1347
        exfalso
        have rv1 := rng32 v1
        have wv1 := c_mask p1 (1 : Int32) 1 (by decide) (by decide)
        rw [← hv1] at wv1
        have rv5 := rng32 v5
        have wv5 := c_mask p0 (15 : Int32) 4 (by decide) (by decide)
        rw [← hv5] at wv5
        have rv6 := rng32 v6
        have wv6 := c_isub v5 (2 : Int32)
        rw [← hv6] at wv6
        have rp0 := rng32 p0
        have rp1 := rng32 p1
        have rr10 := rng32 r10
        have lI0 : (0 : Int32).toInt = 0 := by decide
        have lI1 : (1 : Int32).toInt = 1 := by decide
        have lI2 : (2 : Int32).toInt = 2 := by decide
        have lI3 : (3 : Int32).toInt = 3 := by decide
        have lI4 : (4 : Int32).toInt = 4 := by decide
        have lI5 : (5 : Int32).toInt = 5 := by decide
        have lI6 : (6 : Int32).toInt = 6 := by decide
        have lI7 : (7 : Int32).toInt = 7 := by decide
        have lI8 : (8 : Int32).toInt = 8 := by decide
        have lI15 : (15 : Int32).toInt = 15 := by decide
        simp only [Int32.lt_iff_toInt_lt, Int64.lt_iff_toInt_lt, ← Int32.toInt_inj, ← Int64.toInt_inj] at hc11 hc1338 hc1339 hc1340 hc1341 hc1342 hc1343 hc1344 hc1345 hc1349 hc1350
        omega
      · obtain ⟨hc1351, hc1352, hc1353, rfl, N1347, e1347⟩ := hQ1347
        have N1347_ := Fr.app N799_ N1347
        exfalso
        have rv1 := rng32 v1
        have wv1 := c_mask p1 (1 : Int32) 1 (by decide) (by decide)
        rw [← hv1] at wv1
        have rv5 := rng32 v5
        have wv5 := c_mask p0 (15 : Int32) 4 (by decide) (by decide)
        rw [← hv5] at wv5
        have rv6 := rng32 v6
        have wv6 := c_isub v5 (2 : Int32)
        rw [← hv6] at wv6
        have rp0 := rng32 p0
        have rp1 := rng32 p1
        have rr10 := rng32 r10
        have lI0 : (0 : Int32).toInt = 0 := by decide
        have lI1 : (1 : Int32).toInt = 1 := by decide
        have lI2 : (2 : Int32).toInt = 2 := by decide
        have lI3 : (3 : Int32).toInt = 3 := by decide
        have lI4 : (4 : Int32).toInt = 4 := by decide
        have lI5 : (5 : Int32).toInt = 5 := by decide
        have lI6 : (6 : Int32).toInt = 6 := by decide
        have lI7 : (7 : Int32).toInt = 7 := by decide
        have lI8 : (8 : Int32).toInt = 8 := by decide
        have lI15 : (15 : Int32).toInt = 15 := by decide
        simp only [Int32.lt_iff_toInt_lt, Int64.lt_iff_toInt_lt, ← Int32.toInt_inj, ← Int64.toInt_inj] at hc11 hc1338 hc1339 hc1340 hc1341 hc1342 hc1343 hc1344 hc1345 hc1351 hc1352 hc1353
        omega
      · obtain ⟨hc1354, hc1355, hc1356, hc1357, rfl, N1347, e1347⟩ := hQ1347
        have N1347_ := Fr.app N799_ N1347
        exfalso
        have rv1 := rng32 v1
        have wv1 := c_mask p1 (1 : Int32) 1 (by decide) (by decide)
        rw [← hv1] at wv1
        have rv5 := rng32 v5
        have wv5 := c_mask p0 (15 : Int32) 4 (by decide) (by decide)
        rw [← hv5] at wv5
        have rv6 := rng32 v6
        have wv6 := c_isub v5 (2 : Int32)
        rw [← hv6] at wv6
        have rp0 := rng32 p0
        have rp1 := rng32 p1
        have rr10 := rng32 r10
        have lI0 : (0 : Int32).toInt = 0 := by decide
        have lI1 : (1 : Int32).toInt = 1 := by decide
        have lI2 : (2 : Int32).toInt = 2 := by decide
        have lI3 : (3 : Int32).toInt = 3 := by decide
        have lI4 : (4 : Int32).toInt = 4 := by decide
        have lI5 : (5 : Int32).toInt = 5 := by decide
        have lI6 : (6 : Int32).toInt = 6 := by decide
        have lI7 : (7 : Int32).toInt = 7 := by decide
        have lI8 : (8 : Int32).toInt = 8 := by decide
        have lI15 : (15 : Int32).toInt = 15 := by decide
        simp only [Int32.lt_iff_toInt_lt, Int64.lt_iff_toInt_lt, ← Int32.toInt_inj, ← Int64.toInt_inj] at hc11 hc1338 hc1339 hc1340 hc1341 hc1342 hc1343 hc1344 hc1345 hc1354 hc1355 hc1356 hc1357
        omega
      · obtain ⟨hc1358, hc1359, hc1360, hc1361, hc1362, rfl, N1347, e1347⟩ := hQ1347
        have N1347_ := Fr.app N799_ N1347
        exfalso
        have rv1 := rng32 v1
        have wv1 := c_mask p1 (1 : Int32) 1 (by decide) (by decide)
        rw [← hv1] at wv1
        have rv5 := rng32 v5
        have wv5 := c_mask p0 (15 : Int32) 4 (by decide) (by decide)
        rw [← hv5] at wv5
        have rv6 := rng32 v6
        have wv6 := c_isub v5 (2 : Int32)
        rw [← hv6] at wv6
        have rp0 := rng32 p0
        have rp1 := rng32 p1
        have rr10 := rng32 r10
        have lI0 : (0 : Int32).toInt = 0 := by decide
        have lI1 : (1 : Int32).toInt = 1 := by decide
        have lI2 : (2 : Int32).toInt = 2 := by decide
        have lI3 : (3 : Int32).toInt = 3 := by decide
        have lI4 : (4 : Int32).toInt = 4 := by decide
        have lI5 : (5 : Int32).toInt = 5 := by decide
        have lI6 : (6 : Int32).toInt = 6 := by decide
        have lI7 : (7 : Int32).toInt = 7 := by decide
        have lI8 : (8 : Int32).toInt = 8 := by decide
        have lI15 : (15 : Int32).toInt = 15 := by decide
        simp only [Int32.lt_iff_toInt_lt, Int64.lt_iff_toInt_lt, ← Int32.toInt_inj, ← Int64.toInt_inj] at hc11 hc1338 hc1339 hc1340 hc1341 hc1342 hc1343 hc1344 hc1345 hc1358 hc1359 hc1360 hc1361 hc1362
        omega
      · obtain ⟨hc1363, hc1364, hc1365, hc1366, hc1367, hc1368, rfl, N1347, e1347⟩ := hQ1347
        have N1347_ := Fr.app N799_ N1347
        exfalso
        have rv1 := rng32 v1
        have wv1 := c_mask p1 (1 : Int32) 1 (by decide) (by decide)
        rw [← hv1] at wv1
        have rv5 := rng32 v5
        have wv5 := c_mask p0 (15 : Int32) 4 (by decide) (by decide)
        rw [← hv5] at wv5
        have rv6 := rng32 v6
        have wv6 := c_isub v5 (2 : Int32)
        rw [← hv6] at wv6
        have rp0 := rng32 p0
        have rp1 := rng32 p1
        have rr10 := rng32 r10
        have lI0 : (0 : Int32).toInt = 0 := by decide
        have lI1 : (1 : Int32).toInt = 1 := by decide
        have lI2 : (2 : Int32).toInt = 2 := by decide
        have lI3 : (3 : Int32).toInt = 3 := by decide
        have lI4 : (4 : Int32).toInt = 4 := by decide
        have lI5 : (5 : Int32).toInt = 5 := by decide
        have lI6 : (6 : Int32).toInt = 6 := by decide
        have lI7 : (7 : Int32).toInt = 7 := by decide
        have lI8 : (8 : Int32).toInt = 8 := by decide
        have lI15 : (15 : Int32).toInt = 15 := by decide
        simp only [Int32.lt_iff_toInt_lt, Int64.lt_iff_toInt_lt, ← Int32.toInt_inj, ← Int64.toInt_inj] at hc11 hc1338 hc1339 hc1340 hc1341 hc1342 hc1343 hc1344 hc1345 hc1363 hc1364 hc1365 hc1366 hc1367 hc1368
        omega
      · obtain ⟨hc1369, hc1370, hc1371, hc1372, hc1373, hc1374, hc1375, rfl, N1347, e1347⟩ := hQ1347
        have N1347_ := Fr.app N799_ N1347
        exfalso
        have rv1 := rng32 v1
        have wv1 := c_mask p1 (1 : Int32) 1 (by decide) (by decide)
        rw [← hv1] at wv1
        have rv5 := rng32 v5
        have wv5 := c_mask p0 (15 : Int32) 4 (by decide) (by decide)
        rw [← hv5] at wv5
        have rv6 := rng32 v6
        have wv6 := c_isub v5 (2 : Int32)
        rw [← hv6] at wv6
        have rp0 := rng32 p0
        have rp1 := rng32 p1
        have rr10 := rng32 r10
        have lI0 : (0 : Int32).toInt = 0 := by decide
        have lI1 : (1 : Int32).toInt = 1 := by decide
        have lI2 : (2 : Int32).toInt = 2 := by decide
        have lI3 : (3 : Int32).toInt = 3 := by decide
        have lI4 : (4 : Int32).toInt = 4 := by decide
        have lI5 : (5 : Int32).toInt = 5 := by decide
        have lI6 : (6 : Int32).toInt = 6 := by decide
        have lI7 : (7 : Int32).toInt = 7 := by decide
        have lI8 : (8 : Int32).toInt = 8 := by decide
        have lI15 : (15 : Int32).toInt = 15 := by decide
        simp only [Int32.lt_iff_toInt_lt, Int64.lt_iff_toInt_lt, ← Int32.toInt_inj, ← Int64.toInt_inj] at hc11 hc1338 hc1339 hc1340 hc1341 hc1342 hc1343 hc1344 hc1345 hc1369 hc1370 hc1371 hc1372 hc1373 hc1374 hc1375
        omega
      · obtain ⟨hc1376, hc1377, hc1378, hc1379, hc1380, hc1381, hc1382, hc1383, rfl, N1347, e1347⟩ := hQ1347
        have N1347_ := Fr.app N799_ N1347
        refine Go.st (S' := T1347.setTop (mkF m 26 A1346 [(.ref s_RequestType_WRITE_LAC)])) st1347 ?_
        let A1384 : Array Slot := #[.val (.int p0), .val (.int p1), .val (.int r10), .val (.ref s_RequestType_WRITE_LAC), .val (.ref s_RequestType_WRITE_LAC)]
        refine Go.st (S' := T1347.setTop (mkF m 28 A1384 [])) (fun t k => XS.astore X1347.here hx rfl (hb hby at_26) rfl rfl (l' := A1384) rfl k) ?_
        refine Go.st (S' := T1347.setTop (mkF m 30 A1384 [(.ref s_RequestType_WRITE_LAC)])) (fun t k => XS.aload X1347.here hx rfl (hb hby at_28) rfl rfl k) ?_
        refine Go.st (S' := T1347.setTop (mkF m 43 A1384 [])) (fun t k => XS.ifnonnullYes X1347.here hx rfl (pc0 := 30) (pc' := 43) rfl (hb hby at_30) rfl (by decide) (by decide) k) ?_
        refine Go.st (S' := T1347.setTop (mkF m 44 A1384 [(.ref s_RequestType_WRITE_LAC)])) (fun t k => XS.aloadN X1347.here hx rfl (hb hby at_43) rfl rfl k) ?_
        refine Go.st (S' := T1347.setTop (mkF m 46 A1384 [(.ref s_RequestType_WRITE_LAC), (.ref s_RequestType_WRITE_LAC)])) (fun t k => XS.aload X1347.here hx rfl (hb hby at_44) rfl rfl k) ?_
        refine Go.st (S' := T1347.setTop (mkF m 49 A1384 [])) (fun t k => acmp X1347 hx rfl rfl rfl (pc0 := 46) (pc' := 49) (same := true) rfl (hb hby at_46) rfl (by simp) (by decide) (by decide) k) ?_
        refine Go.st (S' := T1347.setTop (mkF m 50 A1384 [(.ref s_RequestType_WRITE_LAC)])) (fun t k => XS.aloadN X1347.here hx rfl (hb hby at_49) rfl rfl k) ?_
        obtain ⟨r1386, T1386, L1386, X1386, hQ1386, st1386⟩ := own_callV (W := 0) (a := s_RequestType_WRITE_LAC) (C := "com/example/hale_ledger/haleledger/protocol/RequestType") X1347 hx hZ e1347 hown (y := (⟨"com/example/hale_ledger/haleledger/protocol/RequestType", "code", "()I"⟩ : MethodName)) (z := (⟨"com/example/hale_ledger/haleledger/protocol/RequestType", "code", "()I"⟩ : MethodName)) (hw _ (List.mem_of_getElem? (i := 23) rfl)) (hw _ (List.mem_of_getElem? (i := 24) rfl)) (notFace_of_selects (args := #[]) (mvT hZ (hw _ (List.mem_of_getElem? (i := 26) rfl)))) (hw _ (List.mem_of_getElem? (i := 26) rfl)) (hw _ (List.mem_of_getElem? (i := 25) rfl)) (hw _ (List.mem_of_getElem? (i := 2) rfl)) (hw _ (List.mem_of_getElem? (i := 27) rfl)) (by decide) (E_s_RequestType_WRITE_LAC) (rm10 l Z a0 hw [] s_RequestType_WRITE_LAC h0 n0 Z0 (F_s_RequestType_WRITE_LAC_code)) (by decide) (by decide) (by decide) (by decide) (g := (mkF m 50 A1384 [(.ref s_RequestType_WRITE_LAC)])) rfl (by rw [hml]; rfl) (argsL := []) (rest := []) rfl (lenOf pd_1 rfl) rfl (by show 2 * 0 + _ ≤ _; exact Nat.le_of_eq rfl) (hb hby at_50)
        obtain ⟨rfl, N1386, e1386⟩ := hQ1386
        have N1386_ := Fr.app N1347_ N1386
        refine Go.st (S' := T1386.setTop (mkF m 53 A1384 [(.int (8 : Int32))])) st1386 ?_
        refine Go.st (S' := T1386.setTop (mkF m 54 A1384 [(.int r10), (.int (8 : Int32))])) (fun t k => XS.iloadN X1386.here hx rfl (hb hby at_53) rfl k) ?_
        refine Go.st (S' := T1386.setTop (mkF m 57 A1384 [])) (fun t k => XS.icmpNo X1386.here hx rfl (hb hby at_54) rfl (teq hc1345).2 k) ?_
        refine Go.st (S' := T1386.setTop (mkF m 58 A1384 [(.int (1 : Int32))])) (fun t k => XS.iconst X1386.here hx rfl (hb hby at_57) k) ?_
        refine Go.st (S' := T1386.setTop (mkF m 62 A1384 [(.int (1 : Int32))])) (fun t k => XS.goto X1386.here hx rfl (pc0 := 58) (pc' := 62) rfl (hb hby at_58) (by decide) (by decide) k) ?_
        exact Go.ret X1386 (v := some (.int (1 : Int32))) (fun h => by rw [Bd.returns] at h; cases h) Bd.notSynchronized (fun fs hr => retN X1386 hx (t := .boolean) Bd.returns (by simp) (hb hby at_62) hr) (by decide) (by decide) ⟨rfl, N1386_⟩
      · obtain ⟨hc1387, hc1388, hc1389, hc1390, hc1391, hc1392, hc1393, hc1394, hc1395, rfl, N1347, e1347⟩ := hQ1347
        have N1347_ := Fr.app N799_ N1347
        exfalso
        have rv1 := rng32 v1
        have wv1 := c_mask p1 (1 : Int32) 1 (by decide) (by decide)
        rw [← hv1] at wv1
        have rv5 := rng32 v5
        have wv5 := c_mask p0 (15 : Int32) 4 (by decide) (by decide)
        rw [← hv5] at wv5
        have rv6 := rng32 v6
        have wv6 := c_isub v5 (2 : Int32)
        rw [← hv6] at wv6
        have rp0 := rng32 p0
        have rp1 := rng32 p1
        have rr10 := rng32 r10
        have lI0 : (0 : Int32).toInt = 0 := by decide
        have lI1 : (1 : Int32).toInt = 1 := by decide
        have lI2 : (2 : Int32).toInt = 2 := by decide
        have lI3 : (3 : Int32).toInt = 3 := by decide
        have lI4 : (4 : Int32).toInt = 4 := by decide
        have lI5 : (5 : Int32).toInt = 5 := by decide
        have lI6 : (6 : Int32).toInt = 6 := by decide
        have lI7 : (7 : Int32).toInt = 7 := by decide
        have lI8 : (8 : Int32).toInt = 8 := by decide
        have lI9 : (9 : Int32).toInt = 9 := by decide
        have lI15 : (15 : Int32).toInt = 15 := by decide
        simp only [Int32.lt_iff_toInt_lt, Int64.lt_iff_toInt_lt, ← Int32.toInt_inj, ← Int64.toInt_inj] at hc11 hc1338 hc1339 hc1340 hc1341 hc1342 hc1343 hc1344 hc1345 hc1387 hc1388 hc1389 hc1390 hc1391 hc1392 hc1393 hc1394 hc1395
        omega
      · obtain ⟨hc1396, hc1397, hc1398, hc1399, hc1400, hc1401, hc1402, hc1403, hc1404, hc1405, rfl, N1347, e1347⟩ := hQ1347
        have N1347_ := Fr.app N799_ N1347
        exfalso
        have rv1 := rng32 v1
        have wv1 := c_mask p1 (1 : Int32) 1 (by decide) (by decide)
        rw [← hv1] at wv1
        have rv5 := rng32 v5
        have wv5 := c_mask p0 (15 : Int32) 4 (by decide) (by decide)
        rw [← hv5] at wv5
        have rv6 := rng32 v6
        have wv6 := c_isub v5 (2 : Int32)
        rw [← hv6] at wv6
        have rp0 := rng32 p0
        have rp1 := rng32 p1
        have rr10 := rng32 r10
        have lI0 : (0 : Int32).toInt = 0 := by decide
        have lI1 : (1 : Int32).toInt = 1 := by decide
        have lI2 : (2 : Int32).toInt = 2 := by decide
        have lI3 : (3 : Int32).toInt = 3 := by decide
        have lI4 : (4 : Int32).toInt = 4 := by decide
        have lI5 : (5 : Int32).toInt = 5 := by decide
        have lI6 : (6 : Int32).toInt = 6 := by decide
        have lI7 : (7 : Int32).toInt = 7 := by decide
        have lI8 : (8 : Int32).toInt = 8 := by decide
        have lI9 : (9 : Int32).toInt = 9 := by decide
        have lI10 : (10 : Int32).toInt = 10 := by decide
        have lI15 : (15 : Int32).toInt = 15 := by decide
        simp only [Int32.lt_iff_toInt_lt, Int64.lt_iff_toInt_lt, ← Int32.toInt_inj, ← Int64.toInt_inj] at hc11 hc1338 hc1339 hc1340 hc1341 hc1342 hc1343 hc1344 hc1345 hc1396 hc1397 hc1398 hc1399 hc1400 hc1401 hc1402 hc1403 hc1404 hc1405
        omega
      · obtain ⟨hc1406, hc1407, hc1408, hc1409, hc1410, hc1411, hc1412, hc1413, hc1414, hc1415, rfl, N1347, e1347⟩ := hQ1347
        have N1347_ := Fr.app N799_ N1347
        exfalso
        have rv1 := rng32 v1
        have wv1 := c_mask p1 (1 : Int32) 1 (by decide) (by decide)
        rw [← hv1] at wv1
        have rv5 := rng32 v5
        have wv5 := c_mask p0 (15 : Int32) 4 (by decide) (by decide)
        rw [← hv5] at wv5
        have rv6 := rng32 v6
        have wv6 := c_isub v5 (2 : Int32)
        rw [← hv6] at wv6
        have rp0 := rng32 p0
        have rp1 := rng32 p1
        have rr10 := rng32 r10
        have lI0 : (0 : Int32).toInt = 0 := by decide
        have lI1 : (1 : Int32).toInt = 1 := by decide
        have lI2 : (2 : Int32).toInt = 2 := by decide
        have lI3 : (3 : Int32).toInt = 3 := by decide
        have lI4 : (4 : Int32).toInt = 4 := by decide
        have lI5 : (5 : Int32).toInt = 5 := by decide
        have lI6 : (6 : Int32).toInt = 6 := by decide
        have lI7 : (7 : Int32).toInt = 7 := by decide
        have lI8 : (8 : Int32).toInt = 8 := by decide
        have lI9 : (9 : Int32).toInt = 9 := by decide
        have lI10 : (10 : Int32).toInt = 10 := by decide
        have lI15 : (15 : Int32).toInt = 15 := by decide
        simp only [Int32.lt_iff_toInt_lt, Int64.lt_iff_toInt_lt, ← Int32.toInt_inj, ← Int64.toInt_inj] at hc11 hc1338 hc1339 hc1340 hc1341 hc1342 hc1343 hc1344 hc1345 hc1406 hc1407 hc1408 hc1409 hc1410 hc1411 hc1412 hc1413 hc1414 hc1415
        omega
    · obtain ⟨hc1416, hc1417, hc1418, hc1419, hc1420, hc1421, hc1422, hc1423, hc1424, rfl, N799, e799⟩ := hQ799
      have N799_ := Fr.app N0 N799
      refine Go.st (S' := T799.setTop (mkF m 21 A12 [(.ref s_RequestType_WAIT_LAC)])) st799 ?_
      let A1425 : Array Slot := #[.val (.int p0), .val (.int p1), .val (.int r10), .val (.ref s_RequestType_WAIT_LAC), .unset]
      refine Go.st (S' := T799.setTop (mkF m 22 A1425 [])) (fun t k => XS.astoreN X799.here hx rfl (hb hby at_21) rfl rfl (l' := A1425) rfl k) ?_
      refine Go.st (S' := T799.setTop (mkF m 23 A1425 [(.int r10)])) (fun t k => XS.iloadN X799.here hx rfl (hb hby at_22) rfl k) ?_
      obtain ⟨r1426, T1426, L1426, X1426, hQ1426, st1426⟩ := own_callS (W := 0) X799 hx hZ e799 hown (y := (⟨"com/example/hale_ledger/haleledger/protocol/RequestTypeOfCodePinLaw", "expected", "(I)Lcom/example/hale_ledger/haleledger/protocol/RequestType;"⟩ : MethodName)) (hw _ (List.mem_of_getElem? (i := 18) rfl)) (hw _ (List.mem_of_getElem? (i := 19) rfl)) (hw _ (List.mem_of_getElem? (i := 20) rfl)) (hw _ (List.mem_of_getElem? (i := 21) rfl)) (by decide) (rm2 l Z a0 hw [] r10 s_RequestType_ADD s_RequestType_READ s_RequestType_STATS s_RequestType_FENCE s_RequestType_RECOVERY_READ s_RequestType_RECOVERY_ADD s_RequestType_READ_LAC s_RequestType_WRITE_LAC s_RequestType_WAIT_LAC s_RequestType_READ_RANGE h0 n0 Z0 (S_s_RequestType_ADD) (S_s_RequestType_READ) (S_s_RequestType_STATS) (S_s_RequestType_FENCE) (S_s_RequestType_RECOVERY_READ) (S_s_RequestType_RECOVERY_ADD) (S_s_RequestType_READ_LAC) (S_s_RequestType_WRITE_LAC) (S_s_RequestType_WAIT_LAC) (S_s_RequestType_READ_RANGE)) (by decide) (by decide) (by decide) (by decide) (g := (mkF m 23 A1425 [(.int r10)])) rfl (by rw [hml]; rfl) (argsL := [(.int r10)]) (rest := []) rfl (lenOf pd_0 rfl) rfl (by show 2 * 0 + _ ≤ _; exact Nat.le_of_eq rfl) (hb hby at_23)
      rcases hQ1426 with hQ1426 | hQ1426 | hQ1426 | hQ1426 | hQ1426 | hQ1426 | hQ1426 | hQ1426 | hQ1426 | hQ1426 | hQ1426
      · obtain ⟨hc1427, rfl, N1426, e1426⟩ := hQ1426
        have N1426_ := Fr.app N799_ N1426
        exfalso
        have rv1 := rng32 v1
        have wv1 := c_mask p1 (1 : Int32) 1 (by decide) (by decide)
        rw [← hv1] at wv1
        have rv5 := rng32 v5
        have wv5 := c_mask p0 (15 : Int32) 4 (by decide) (by decide)
        rw [← hv5] at wv5
        have rv6 := rng32 v6
        have wv6 := c_isub v5 (2 : Int32)
        rw [← hv6] at wv6
        have rp0 := rng32 p0
        have rp1 := rng32 p1
        have rr10 := rng32 r10
        have lI0 : (0 : Int32).toInt = 0 := by decide
        have lI1 : (1 : Int32).toInt = 1 := by decide
        have lI2 : (2 : Int32).toInt = 2 := by decide
        have lI3 : (3 : Int32).toInt = 3 := by decide
        have lI4 : (4 : Int32).toInt = 4 := by decide
        have lI5 : (5 : Int32).toInt = 5 := by decide
        have lI6 : (6 : Int32).toInt = 6 := by decide
        have lI7 : (7 : Int32).toInt = 7 := by decide
        have lI8 : (8 : Int32).toInt = 8 := by decide
        have lI9 : (9 : Int32).toInt = 9 := by decide
        have lI15 : (15 : Int32).toInt = 15 := by decide
        simp only [Int32.lt_iff_toInt_lt, Int64.lt_iff_toInt_lt, ← Int32.toInt_inj, ← Int64.toInt_inj] at hc11 hc1416 hc1417 hc1418 hc1419 hc1420 hc1421 hc1422 hc1423 hc1424 hc1427
        omega
      · obtain ⟨hc1428, hc1429, rfl, N1426, e1426⟩ := hQ1426
        have N1426_ := Fr.app N799_ N1426
        exfalso
        have rv1 := rng32 v1
        have wv1 := c_mask p1 (1 : Int32) 1 (by decide) (by decide)
        rw [← hv1] at wv1
        have rv5 := rng32 v5
        have wv5 := c_mask p0 (15 : Int32) 4 (by decide) (by decide)
        rw [← hv5] at wv5
        have rv6 := rng32 v6
        have wv6 := c_isub v5 (2 : Int32)
        rw [← hv6] at wv6
        have rp0 := rng32 p0
        have rp1 := rng32 p1
        have rr10 := rng32 r10
        have lI0 : (0 : Int32).toInt = 0 := by decide
        have lI1 : (1 : Int32).toInt = 1 := by decide
        have lI2 : (2 : Int32).toInt = 2 := by decide
        have lI3 : (3 : Int32).toInt = 3 := by decide
        have lI4 : (4 : Int32).toInt = 4 := by decide
        have lI5 : (5 : Int32).toInt = 5 := by decide
        have lI6 : (6 : Int32).toInt = 6 := by decide
        have lI7 : (7 : Int32).toInt = 7 := by decide
        have lI8 : (8 : Int32).toInt = 8 := by decide
        have lI9 : (9 : Int32).toInt = 9 := by decide
        have lI15 : (15 : Int32).toInt = 15 := by decide
        simp only [Int32.lt_iff_toInt_lt, Int64.lt_iff_toInt_lt, ← Int32.toInt_inj, ← Int64.toInt_inj] at hc11 hc1416 hc1417 hc1418 hc1419 hc1420 hc1421 hc1422 hc1423 hc1424 hc1428 hc1429
        omega
      · obtain ⟨hc1430, hc1431, hc1432, rfl, N1426, e1426⟩ := hQ1426
        have N1426_ := Fr.app N799_ N1426
        exfalso
        have rv1 := rng32 v1
        have wv1 := c_mask p1 (1 : Int32) 1 (by decide) (by decide)
        rw [← hv1] at wv1
        have rv5 := rng32 v5
        have wv5 := c_mask p0 (15 : Int32) 4 (by decide) (by decide)
        rw [← hv5] at wv5
        have rv6 := rng32 v6
        have wv6 := c_isub v5 (2 : Int32)
        rw [← hv6] at wv6
        have rp0 := rng32 p0
        have rp1 := rng32 p1
        have rr10 := rng32 r10
        have lI0 : (0 : Int32).toInt = 0 := by decide
        have lI1 : (1 : Int32).toInt = 1 := by decide
        have lI2 : (2 : Int32).toInt = 2 := by decide
        have lI3 : (3 : Int32).toInt = 3 := by decide
        have lI4 : (4 : Int32).toInt = 4 := by decide
        have lI5 : (5 : Int32).toInt = 5 := by decide
        have lI6 : (6 : Int32).toInt = 6 := by decide
        have lI7 : (7 : Int32).toInt = 7 := by decide
        have lI8 : (8 : Int32).toInt = 8 := by decide
        have lI9 : (9 : Int32).toInt = 9 := by decide
        have lI15 : (15 : Int32).toInt = 15 := by decide
        simp only [Int32.lt_iff_toInt_lt, Int64.lt_iff_toInt_lt, ← Int32.toInt_inj, ← Int64.toInt_inj] at hc11 hc1416 hc1417 hc1418 hc1419 hc1420 hc1421 hc1422 hc1423 hc1424 hc1430 hc1431 hc1432
        omega
      · obtain ⟨hc1433, hc1434, hc1435, hc1436, rfl, N1426, e1426⟩ := hQ1426
        have N1426_ := Fr.app N799_ N1426
        exfalso
        have rv1 := rng32 v1
        have wv1 := c_mask p1 (1 : Int32) 1 (by decide) (by decide)
        rw [← hv1] at wv1
        have rv5 := rng32 v5
        have wv5 := c_mask p0 (15 : Int32) 4 (by decide) (by decide)
        rw [← hv5] at wv5
        have rv6 := rng32 v6
        have wv6 := c_isub v5 (2 : Int32)
        rw [← hv6] at wv6
        have rp0 := rng32 p0
        have rp1 := rng32 p1
        have rr10 := rng32 r10
        have lI0 : (0 : Int32).toInt = 0 := by decide
        have lI1 : (1 : Int32).toInt = 1 := by decide
        have lI2 : (2 : Int32).toInt = 2 := by decide
        have lI3 : (3 : Int32).toInt = 3 := by decide
        have lI4 : (4 : Int32).toInt = 4 := by decide
        have lI5 : (5 : Int32).toInt = 5 := by decide
        have lI6 : (6 : Int32).toInt = 6 := by decide
        have lI7 : (7 : Int32).toInt = 7 := by decide
        have lI8 : (8 : Int32).toInt = 8 := by decide
        have lI9 : (9 : Int32).toInt = 9 := by decide
        have lI15 : (15 : Int32).toInt = 15 := by decide
        simp only [Int32.lt_iff_toInt_lt, Int64.lt_iff_toInt_lt, ← Int32.toInt_inj, ← Int64.toInt_inj] at hc11 hc1416 hc1417 hc1418 hc1419 hc1420 hc1421 hc1422 hc1423 hc1424 hc1433 hc1434 hc1435 hc1436
        omega
      · obtain ⟨hc1437, hc1438, hc1439, hc1440, hc1441, rfl, N1426, e1426⟩ := hQ1426
        have N1426_ := Fr.app N799_ N1426
        exfalso
        have rv1 := rng32 v1
        have wv1 := c_mask p1 (1 : Int32) 1 (by decide) (by decide)
        rw [← hv1] at wv1
        have rv5 := rng32 v5
        have wv5 := c_mask p0 (15 : Int32) 4 (by decide) (by decide)
        rw [← hv5] at wv5
        have rv6 := rng32 v6
        have wv6 := c_isub v5 (2 : Int32)
        rw [← hv6] at wv6
        have rp0 := rng32 p0
        have rp1 := rng32 p1
        have rr10 := rng32 r10
        have lI0 : (0 : Int32).toInt = 0 := by decide
        have lI1 : (1 : Int32).toInt = 1 := by decide
        have lI2 : (2 : Int32).toInt = 2 := by decide
        have lI3 : (3 : Int32).toInt = 3 := by decide
        have lI4 : (4 : Int32).toInt = 4 := by decide
        have lI5 : (5 : Int32).toInt = 5 := by decide
        have lI6 : (6 : Int32).toInt = 6 := by decide
        have lI7 : (7 : Int32).toInt = 7 := by decide
        have lI8 : (8 : Int32).toInt = 8 := by decide
        have lI9 : (9 : Int32).toInt = 9 := by decide
        have lI15 : (15 : Int32).toInt = 15 := by decide
        simp only [Int32.lt_iff_toInt_lt, Int64.lt_iff_toInt_lt, ← Int32.toInt_inj, ← Int64.toInt_inj] at hc11 hc1416 hc1417 hc1418 hc1419 hc1420 hc1421 hc1422 hc1423 hc1424 hc1437 hc1438 hc1439 hc1440 hc1441
        omega
      · obtain ⟨hc1442, hc1443, hc1444, hc1445, hc1446, hc1447, rfl, N1426, e1426⟩ := hQ1426
        have N1426_ := Fr.app N799_ N1426
        exfalso
        have rv1 := rng32 v1
        have wv1 := c_mask p1 (1 : Int32) 1 (by decide) (by decide)
        rw [← hv1] at wv1
        have rv5 := rng32 v5
        have wv5 := c_mask p0 (15 : Int32) 4 (by decide) (by decide)
        rw [← hv5] at wv5
        have rv6 := rng32 v6
        have wv6 := c_isub v5 (2 : Int32)
        rw [← hv6] at wv6
        have rp0 := rng32 p0
        have rp1 := rng32 p1
        have rr10 := rng32 r10
        have lI0 : (0 : Int32).toInt = 0 := by decide
        have lI1 : (1 : Int32).toInt = 1 := by decide
        have lI2 : (2 : Int32).toInt = 2 := by decide
        have lI3 : (3 : Int32).toInt = 3 := by decide
        have lI4 : (4 : Int32).toInt = 4 := by decide
        have lI5 : (5 : Int32).toInt = 5 := by decide
        have lI6 : (6 : Int32).toInt = 6 := by decide
        have lI7 : (7 : Int32).toInt = 7 := by decide
        have lI8 : (8 : Int32).toInt = 8 := by decide
        have lI9 : (9 : Int32).toInt = 9 := by decide
        have lI15 : (15 : Int32).toInt = 15 := by decide
        simp only [Int32.lt_iff_toInt_lt, Int64.lt_iff_toInt_lt, ← Int32.toInt_inj, ← Int64.toInt_inj] at hc11 hc1416 hc1417 hc1418 hc1419 hc1420 hc1421 hc1422 hc1423 hc1424 hc1442 hc1443 hc1444 hc1445 hc1446 hc1447
        omega
      · obtain ⟨hc1448, hc1449, hc1450, hc1451, hc1452, hc1453, hc1454, rfl, N1426, e1426⟩ := hQ1426
        have N1426_ := Fr.app N799_ N1426
        exfalso
        have rv1 := rng32 v1
        have wv1 := c_mask p1 (1 : Int32) 1 (by decide) (by decide)
        rw [← hv1] at wv1
        have rv5 := rng32 v5
        have wv5 := c_mask p0 (15 : Int32) 4 (by decide) (by decide)
        rw [← hv5] at wv5
        have rv6 := rng32 v6
        have wv6 := c_isub v5 (2 : Int32)
        rw [← hv6] at wv6
        have rp0 := rng32 p0
        have rp1 := rng32 p1
        have rr10 := rng32 r10
        have lI0 : (0 : Int32).toInt = 0 := by decide
        have lI1 : (1 : Int32).toInt = 1 := by decide
        have lI2 : (2 : Int32).toInt = 2 := by decide
        have lI3 : (3 : Int32).toInt = 3 := by decide
        have lI4 : (4 : Int32).toInt = 4 := by decide
        have lI5 : (5 : Int32).toInt = 5 := by decide
        have lI6 : (6 : Int32).toInt = 6 := by decide
        have lI7 : (7 : Int32).toInt = 7 := by decide
        have lI8 : (8 : Int32).toInt = 8 := by decide
        have lI9 : (9 : Int32).toInt = 9 := by decide
        have lI15 : (15 : Int32).toInt = 15 := by decide
        simp only [Int32.lt_iff_toInt_lt, Int64.lt_iff_toInt_lt, ← Int32.toInt_inj, ← Int64.toInt_inj] at hc11 hc1416 hc1417 hc1418 hc1419 hc1420 hc1421 hc1422 hc1423 hc1424 hc1448 hc1449 hc1450 hc1451 hc1452 hc1453 hc1454
        omega
      · obtain ⟨hc1455, hc1456, hc1457, hc1458, hc1459, hc1460, hc1461, hc1462, rfl, N1426, e1426⟩ := hQ1426
        have N1426_ := Fr.app N799_ N1426
        exfalso
        have rv1 := rng32 v1
        have wv1 := c_mask p1 (1 : Int32) 1 (by decide) (by decide)
        rw [← hv1] at wv1
        have rv5 := rng32 v5
        have wv5 := c_mask p0 (15 : Int32) 4 (by decide) (by decide)
        rw [← hv5] at wv5
        have rv6 := rng32 v6
        have wv6 := c_isub v5 (2 : Int32)
        rw [← hv6] at wv6
        have rp0 := rng32 p0
        have rp1 := rng32 p1
        have rr10 := rng32 r10
        have lI0 : (0 : Int32).toInt = 0 := by decide
        have lI1 : (1 : Int32).toInt = 1 := by decide
        have lI2 : (2 : Int32).toInt = 2 := by decide
        have lI3 : (3 : Int32).toInt = 3 := by decide
        have lI4 : (4 : Int32).toInt = 4 := by decide
        have lI5 : (5 : Int32).toInt = 5 := by decide
        have lI6 : (6 : Int32).toInt = 6 := by decide
        have lI7 : (7 : Int32).toInt = 7 := by decide
        have lI8 : (8 : Int32).toInt = 8 := by decide
        have lI9 : (9 : Int32).toInt = 9 := by decide
        have lI15 : (15 : Int32).toInt = 15 := by decide
        simp only [Int32.lt_iff_toInt_lt, Int64.lt_iff_toInt_lt, ← Int32.toInt_inj, ← Int64.toInt_inj] at hc11 hc1416 hc1417 hc1418 hc1419 hc1420 hc1421 hc1422 hc1423 hc1424 hc1455 hc1456 hc1457 hc1458 hc1459 hc1460 hc1461 hc1462
        omega
      · obtain ⟨hc1463, hc1464, hc1465, hc1466, hc1467, hc1468, hc1469, hc1470, hc1471, rfl, N1426, e1426⟩ := hQ1426
        have N1426_ := Fr.app N799_ N1426
        refine Go.st (S' := T1426.setTop (mkF m 26 A1425 [(.ref s_RequestType_WAIT_LAC)])) st1426 ?_
        let A1472 : Array Slot := #[.val (.int p0), .val (.int p1), .val (.int r10), .val (.ref s_RequestType_WAIT_LAC), .val (.ref s_RequestType_WAIT_LAC)]
        refine Go.st (S' := T1426.setTop (mkF m 28 A1472 [])) (fun t k => XS.astore X1426.here hx rfl (hb hby at_26) rfl rfl (l' := A1472) rfl k) ?_
        refine Go.st (S' := T1426.setTop (mkF m 30 A1472 [(.ref s_RequestType_WAIT_LAC)])) (fun t k => XS.aload X1426.here hx rfl (hb hby at_28) rfl rfl k) ?_
        refine Go.st (S' := T1426.setTop (mkF m 43 A1472 [])) (fun t k => XS.ifnonnullYes X1426.here hx rfl (pc0 := 30) (pc' := 43) rfl (hb hby at_30) rfl (by decide) (by decide) k) ?_
        refine Go.st (S' := T1426.setTop (mkF m 44 A1472 [(.ref s_RequestType_WAIT_LAC)])) (fun t k => XS.aloadN X1426.here hx rfl (hb hby at_43) rfl rfl k) ?_
        refine Go.st (S' := T1426.setTop (mkF m 46 A1472 [(.ref s_RequestType_WAIT_LAC), (.ref s_RequestType_WAIT_LAC)])) (fun t k => XS.aload X1426.here hx rfl (hb hby at_44) rfl rfl k) ?_
        refine Go.st (S' := T1426.setTop (mkF m 49 A1472 [])) (fun t k => acmp X1426 hx rfl rfl rfl (pc0 := 46) (pc' := 49) (same := true) rfl (hb hby at_46) rfl (by simp) (by decide) (by decide) k) ?_
        refine Go.st (S' := T1426.setTop (mkF m 50 A1472 [(.ref s_RequestType_WAIT_LAC)])) (fun t k => XS.aloadN X1426.here hx rfl (hb hby at_49) rfl rfl k) ?_
        obtain ⟨r1474, T1474, L1474, X1474, hQ1474, st1474⟩ := own_callV (W := 0) (a := s_RequestType_WAIT_LAC) (C := "com/example/hale_ledger/haleledger/protocol/RequestType") X1426 hx hZ e1426 hown (y := (⟨"com/example/hale_ledger/haleledger/protocol/RequestType", "code", "()I"⟩ : MethodName)) (z := (⟨"com/example/hale_ledger/haleledger/protocol/RequestType", "code", "()I"⟩ : MethodName)) (hw _ (List.mem_of_getElem? (i := 23) rfl)) (hw _ (List.mem_of_getElem? (i := 24) rfl)) (notFace_of_selects (args := #[]) (mvT hZ (hw _ (List.mem_of_getElem? (i := 26) rfl)))) (hw _ (List.mem_of_getElem? (i := 26) rfl)) (hw _ (List.mem_of_getElem? (i := 25) rfl)) (hw _ (List.mem_of_getElem? (i := 2) rfl)) (hw _ (List.mem_of_getElem? (i := 27) rfl)) (by decide) (E_s_RequestType_WAIT_LAC) (rm11 l Z a0 hw [] s_RequestType_WAIT_LAC h0 n0 Z0 (F_s_RequestType_WAIT_LAC_code)) (by decide) (by decide) (by decide) (by decide) (g := (mkF m 50 A1472 [(.ref s_RequestType_WAIT_LAC)])) rfl (by rw [hml]; rfl) (argsL := []) (rest := []) rfl (lenOf pd_1 rfl) rfl (by show 2 * 0 + _ ≤ _; exact Nat.le_of_eq rfl) (hb hby at_50)
        obtain ⟨rfl, N1474, e1474⟩ := hQ1474
        have N1474_ := Fr.app N1426_ N1474
        refine Go.st (S' := T1474.setTop (mkF m 53 A1472 [(.int (9 : Int32))])) st1474 ?_
        refine Go.st (S' := T1474.setTop (mkF m 54 A1472 [(.int r10), (.int (9 : Int32))])) (fun t k => XS.iloadN X1474.here hx rfl (hb hby at_53) rfl k) ?_
        refine Go.st (S' := T1474.setTop (mkF m 57 A1472 [])) (fun t k => XS.icmpNo X1474.here hx rfl (hb hby at_54) rfl (teq hc1424).2 k) ?_
        refine Go.st (S' := T1474.setTop (mkF m 58 A1472 [(.int (1 : Int32))])) (fun t k => XS.iconst X1474.here hx rfl (hb hby at_57) k) ?_
        refine Go.st (S' := T1474.setTop (mkF m 62 A1472 [(.int (1 : Int32))])) (fun t k => XS.goto X1474.here hx rfl (pc0 := 58) (pc' := 62) rfl (hb hby at_58) (by decide) (by decide) k) ?_
        exact Go.ret X1474 (v := some (.int (1 : Int32))) (fun h => by rw [Bd.returns] at h; cases h) Bd.notSynchronized (fun fs hr => retN X1474 hx (t := .boolean) Bd.returns (by simp) (hb hby at_62) hr) (by decide) (by decide) ⟨rfl, N1474_⟩
      · obtain ⟨hc1475, hc1476, hc1477, hc1478, hc1479, hc1480, hc1481, hc1482, hc1483, hc1484, rfl, N1426, e1426⟩ := hQ1426
        have N1426_ := Fr.app N799_ N1426
        exfalso
        have rv1 := rng32 v1
        have wv1 := c_mask p1 (1 : Int32) 1 (by decide) (by decide)
        rw [← hv1] at wv1
        have rv5 := rng32 v5
        have wv5 := c_mask p0 (15 : Int32) 4 (by decide) (by decide)
        rw [← hv5] at wv5
        have rv6 := rng32 v6
        have wv6 := c_isub v5 (2 : Int32)
        rw [← hv6] at wv6
        have rp0 := rng32 p0
        have rp1 := rng32 p1
        have rr10 := rng32 r10
        have lI0 : (0 : Int32).toInt = 0 := by decide
        have lI1 : (1 : Int32).toInt = 1 := by decide
        have lI2 : (2 : Int32).toInt = 2 := by decide
        have lI3 : (3 : Int32).toInt = 3 := by decide
        have lI4 : (4 : Int32).toInt = 4 := by decide
        have lI5 : (5 : Int32).toInt = 5 := by decide
        have lI6 : (6 : Int32).toInt = 6 := by decide
        have lI7 : (7 : Int32).toInt = 7 := by decide
        have lI8 : (8 : Int32).toInt = 8 := by decide
        have lI9 : (9 : Int32).toInt = 9 := by decide
        have lI10 : (10 : Int32).toInt = 10 := by decide
        have lI15 : (15 : Int32).toInt = 15 := by decide
        simp only [Int32.lt_iff_toInt_lt, Int64.lt_iff_toInt_lt, ← Int32.toInt_inj, ← Int64.toInt_inj] at hc11 hc1416 hc1417 hc1418 hc1419 hc1420 hc1421 hc1422 hc1423 hc1424 hc1475 hc1476 hc1477 hc1478 hc1479 hc1480 hc1481 hc1482 hc1483 hc1484
        omega
      · obtain ⟨hc1485, hc1486, hc1487, hc1488, hc1489, hc1490, hc1491, hc1492, hc1493, hc1494, rfl, N1426, e1426⟩ := hQ1426
        have N1426_ := Fr.app N799_ N1426
        exfalso
        have rv1 := rng32 v1
        have wv1 := c_mask p1 (1 : Int32) 1 (by decide) (by decide)
        rw [← hv1] at wv1
        have rv5 := rng32 v5
        have wv5 := c_mask p0 (15 : Int32) 4 (by decide) (by decide)
        rw [← hv5] at wv5
        have rv6 := rng32 v6
        have wv6 := c_isub v5 (2 : Int32)
        rw [← hv6] at wv6
        have rp0 := rng32 p0
        have rp1 := rng32 p1
        have rr10 := rng32 r10
        have lI0 : (0 : Int32).toInt = 0 := by decide
        have lI1 : (1 : Int32).toInt = 1 := by decide
        have lI2 : (2 : Int32).toInt = 2 := by decide
        have lI3 : (3 : Int32).toInt = 3 := by decide
        have lI4 : (4 : Int32).toInt = 4 := by decide
        have lI5 : (5 : Int32).toInt = 5 := by decide
        have lI6 : (6 : Int32).toInt = 6 := by decide
        have lI7 : (7 : Int32).toInt = 7 := by decide
        have lI8 : (8 : Int32).toInt = 8 := by decide
        have lI9 : (9 : Int32).toInt = 9 := by decide
        have lI10 : (10 : Int32).toInt = 10 := by decide
        have lI15 : (15 : Int32).toInt = 15 := by decide
        simp only [Int32.lt_iff_toInt_lt, Int64.lt_iff_toInt_lt, ← Int32.toInt_inj, ← Int64.toInt_inj] at hc11 hc1416 hc1417 hc1418 hc1419 hc1420 hc1421 hc1422 hc1423 hc1424 hc1485 hc1486 hc1487 hc1488 hc1489 hc1490 hc1491 hc1492 hc1493 hc1494
        omega
    · obtain ⟨hc1495, hc1496, hc1497, hc1498, hc1499, hc1500, hc1501, hc1502, hc1503, hc1504, rfl, N799, e799⟩ := hQ799
      have N799_ := Fr.app N0 N799
      refine Go.st (S' := T799.setTop (mkF m 21 A12 [(.ref s_RequestType_READ_RANGE)])) st799 ?_
      let A1505 : Array Slot := #[.val (.int p0), .val (.int p1), .val (.int r10), .val (.ref s_RequestType_READ_RANGE), .unset]
      refine Go.st (S' := T799.setTop (mkF m 22 A1505 [])) (fun t k => XS.astoreN X799.here hx rfl (hb hby at_21) rfl rfl (l' := A1505) rfl k) ?_
      refine Go.st (S' := T799.setTop (mkF m 23 A1505 [(.int r10)])) (fun t k => XS.iloadN X799.here hx rfl (hb hby at_22) rfl k) ?_
      obtain ⟨r1506, T1506, L1506, X1506, hQ1506, st1506⟩ := own_callS (W := 0) X799 hx hZ e799 hown (y := (⟨"com/example/hale_ledger/haleledger/protocol/RequestTypeOfCodePinLaw", "expected", "(I)Lcom/example/hale_ledger/haleledger/protocol/RequestType;"⟩ : MethodName)) (hw _ (List.mem_of_getElem? (i := 18) rfl)) (hw _ (List.mem_of_getElem? (i := 19) rfl)) (hw _ (List.mem_of_getElem? (i := 20) rfl)) (hw _ (List.mem_of_getElem? (i := 21) rfl)) (by decide) (rm2 l Z a0 hw [] r10 s_RequestType_ADD s_RequestType_READ s_RequestType_STATS s_RequestType_FENCE s_RequestType_RECOVERY_READ s_RequestType_RECOVERY_ADD s_RequestType_READ_LAC s_RequestType_WRITE_LAC s_RequestType_WAIT_LAC s_RequestType_READ_RANGE h0 n0 Z0 (S_s_RequestType_ADD) (S_s_RequestType_READ) (S_s_RequestType_STATS) (S_s_RequestType_FENCE) (S_s_RequestType_RECOVERY_READ) (S_s_RequestType_RECOVERY_ADD) (S_s_RequestType_READ_LAC) (S_s_RequestType_WRITE_LAC) (S_s_RequestType_WAIT_LAC) (S_s_RequestType_READ_RANGE)) (by decide) (by decide) (by decide) (by decide) (g := (mkF m 23 A1505 [(.int r10)])) rfl (by rw [hml]; rfl) (argsL := [(.int r10)]) (rest := []) rfl (lenOf pd_0 rfl) rfl (by show 2 * 0 + _ ≤ _; exact Nat.le_of_eq rfl) (hb hby at_23)
      rcases hQ1506 with hQ1506 | hQ1506 | hQ1506 | hQ1506 | hQ1506 | hQ1506 | hQ1506 | hQ1506 | hQ1506 | hQ1506 | hQ1506
      · obtain ⟨hc1507, rfl, N1506, e1506⟩ := hQ1506
        have N1506_ := Fr.app N799_ N1506
        exfalso
        have rv1 := rng32 v1
        have wv1 := c_mask p1 (1 : Int32) 1 (by decide) (by decide)
        rw [← hv1] at wv1
        have rv5 := rng32 v5
        have wv5 := c_mask p0 (15 : Int32) 4 (by decide) (by decide)
        rw [← hv5] at wv5
        have rv6 := rng32 v6
        have wv6 := c_isub v5 (2 : Int32)
        rw [← hv6] at wv6
        have rp0 := rng32 p0
        have rp1 := rng32 p1
        have rr10 := rng32 r10
        have lI0 : (0 : Int32).toInt = 0 := by decide
        have lI1 : (1 : Int32).toInt = 1 := by decide
        have lI2 : (2 : Int32).toInt = 2 := by decide
        have lI3 : (3 : Int32).toInt = 3 := by decide
        have lI4 : (4 : Int32).toInt = 4 := by decide
        have lI5 : (5 : Int32).toInt = 5 := by decide
        have lI6 : (6 : Int32).toInt = 6 := by decide
        have lI7 : (7 : Int32).toInt = 7 := by decide
        have lI8 : (8 : Int32).toInt = 8 := by decide
        have lI9 : (9 : Int32).toInt = 9 := by decide
        have lI10 : (10 : Int32).toInt = 10 := by decide
        have lI15 : (15 : Int32).toInt = 15 := by decide
        simp only [Int32.lt_iff_toInt_lt, Int64.lt_iff_toInt_lt, ← Int32.toInt_inj, ← Int64.toInt_inj] at hc11 hc1495 hc1496 hc1497 hc1498 hc1499 hc1500 hc1501 hc1502 hc1503 hc1504 hc1507
        omega
      · obtain ⟨hc1508, hc1509, rfl, N1506, e1506⟩ := hQ1506
        have N1506_ := Fr.app N799_ N1506
        exfalso
        have rv1 := rng32 v1
        have wv1 := c_mask p1 (1 : Int32) 1 (by decide) (by decide)
        rw [← hv1] at wv1
        have rv5 := rng32 v5
        have wv5 := c_mask p0 (15 : Int32) 4 (by decide) (by decide)
        rw [← hv5] at wv5
        have rv6 := rng32 v6
        have wv6 := c_isub v5 (2 : Int32)
        rw [← hv6] at wv6
        have rp0 := rng32 p0
        have rp1 := rng32 p1
        have rr10 := rng32 r10
        have lI0 : (0 : Int32).toInt = 0 := by decide
        have lI1 : (1 : Int32).toInt = 1 := by decide
        have lI2 : (2 : Int32).toInt = 2 := by decide
        have lI3 : (3 : Int32).toInt = 3 := by decide
        have lI4 : (4 : Int32).toInt = 4 := by decide
        have lI5 : (5 : Int32).toInt = 5 := by decide
        have lI6 : (6 : Int32).toInt = 6 := by decide
        have lI7 : (7 : Int32).toInt = 7 := by decide
        have lI8 : (8 : Int32).toInt = 8 := by decide
        have lI9 : (9 : Int32).toInt = 9 := by decide
        have lI10 : (10 : Int32).toInt = 10 := by decide
        have lI15 : (15 : Int32).toInt = 15 := by decide
        simp only [Int32.lt_iff_toInt_lt, Int64.lt_iff_toInt_lt, ← Int32.toInt_inj, ← Int64.toInt_inj] at hc11 hc1495 hc1496 hc1497 hc1498 hc1499 hc1500 hc1501 hc1502 hc1503 hc1504 hc1508 hc1509
        omega
      · obtain ⟨hc1510, hc1511, hc1512, rfl, N1506, e1506⟩ := hQ1506
        have N1506_ := Fr.app N799_ N1506
        exfalso
        have rv1 := rng32 v1
        have wv1 := c_mask p1 (1 : Int32) 1 (by decide) (by decide)
        rw [← hv1] at wv1
        have rv5 := rng32 v5
        have wv5 := c_mask p0 (15 : Int32) 4 (by decide) (by decide)
        rw [← hv5] at wv5
        have rv6 := rng32 v6
        have wv6 := c_isub v5 (2 : Int32)
        rw [← hv6] at wv6
        have rp0 := rng32 p0
        have rp1 := rng32 p1
        have rr10 := rng32 r10
        have lI0 : (0 : Int32).toInt = 0 := by decide
        have lI1 : (1 : Int32).toInt = 1 := by decide
        have lI2 : (2 : Int32).toInt = 2 := by decide
        have lI3 : (3 : Int32).toInt = 3 := by decide
        have lI4 : (4 : Int32).toInt = 4 := by decide
        have lI5 : (5 : Int32).toInt = 5 := by decide
        have lI6 : (6 : Int32).toInt = 6 := by decide
        have lI7 : (7 : Int32).toInt = 7 := by decide
        have lI8 : (8 : Int32).toInt = 8 := by decide
        have lI9 : (9 : Int32).toInt = 9 := by decide
        have lI10 : (10 : Int32).toInt = 10 := by decide
        have lI15 : (15 : Int32).toInt = 15 := by decide
        simp only [Int32.lt_iff_toInt_lt, Int64.lt_iff_toInt_lt, ← Int32.toInt_inj, ← Int64.toInt_inj] at hc11 hc1495 hc1496 hc1497 hc1498 hc1499 hc1500 hc1501 hc1502 hc1503 hc1504 hc1510 hc1511 hc1512
        omega
      · obtain ⟨hc1513, hc1514, hc1515, hc1516, rfl, N1506, e1506⟩ := hQ1506
        have N1506_ := Fr.app N799_ N1506
        exfalso
        have rv1 := rng32 v1
        have wv1 := c_mask p1 (1 : Int32) 1 (by decide) (by decide)
        rw [← hv1] at wv1
        have rv5 := rng32 v5
        have wv5 := c_mask p0 (15 : Int32) 4 (by decide) (by decide)
        rw [← hv5] at wv5
        have rv6 := rng32 v6
        have wv6 := c_isub v5 (2 : Int32)
        rw [← hv6] at wv6
        have rp0 := rng32 p0
        have rp1 := rng32 p1
        have rr10 := rng32 r10
        have lI0 : (0 : Int32).toInt = 0 := by decide
        have lI1 : (1 : Int32).toInt = 1 := by decide
        have lI2 : (2 : Int32).toInt = 2 := by decide
        have lI3 : (3 : Int32).toInt = 3 := by decide
        have lI4 : (4 : Int32).toInt = 4 := by decide
        have lI5 : (5 : Int32).toInt = 5 := by decide
        have lI6 : (6 : Int32).toInt = 6 := by decide
        have lI7 : (7 : Int32).toInt = 7 := by decide
        have lI8 : (8 : Int32).toInt = 8 := by decide
        have lI9 : (9 : Int32).toInt = 9 := by decide
        have lI10 : (10 : Int32).toInt = 10 := by decide
        have lI15 : (15 : Int32).toInt = 15 := by decide
        simp only [Int32.lt_iff_toInt_lt, Int64.lt_iff_toInt_lt, ← Int32.toInt_inj, ← Int64.toInt_inj] at hc11 hc1495 hc1496 hc1497 hc1498 hc1499 hc1500 hc1501 hc1502 hc1503 hc1504 hc1513 hc1514 hc1515 hc1516
        omega
      · obtain ⟨hc1517, hc1518, hc1519, hc1520, hc1521, rfl, N1506, e1506⟩ := hQ1506
        have N1506_ := Fr.app N799_ N1506
        exfalso
        have rv1 := rng32 v1
        have wv1 := c_mask p1 (1 : Int32) 1 (by decide) (by decide)
        rw [← hv1] at wv1
        have rv5 := rng32 v5
        have wv5 := c_mask p0 (15 : Int32) 4 (by decide) (by decide)
        rw [← hv5] at wv5
        have rv6 := rng32 v6
        have wv6 := c_isub v5 (2 : Int32)
        rw [← hv6] at wv6
        have rp0 := rng32 p0
        have rp1 := rng32 p1
        have rr10 := rng32 r10
        have lI0 : (0 : Int32).toInt = 0 := by decide
        have lI1 : (1 : Int32).toInt = 1 := by decide
        have lI2 : (2 : Int32).toInt = 2 := by decide
        have lI3 : (3 : Int32).toInt = 3 := by decide
        have lI4 : (4 : Int32).toInt = 4 := by decide
        have lI5 : (5 : Int32).toInt = 5 := by decide
        have lI6 : (6 : Int32).toInt = 6 := by decide
        have lI7 : (7 : Int32).toInt = 7 := by decide
        have lI8 : (8 : Int32).toInt = 8 := by decide
        have lI9 : (9 : Int32).toInt = 9 := by decide
        have lI10 : (10 : Int32).toInt = 10 := by decide
        have lI15 : (15 : Int32).toInt = 15 := by decide
        simp only [Int32.lt_iff_toInt_lt, Int64.lt_iff_toInt_lt, ← Int32.toInt_inj, ← Int64.toInt_inj] at hc11 hc1495 hc1496 hc1497 hc1498 hc1499 hc1500 hc1501 hc1502 hc1503 hc1504 hc1517 hc1518 hc1519 hc1520 hc1521
        omega
      · obtain ⟨hc1522, hc1523, hc1524, hc1525, hc1526, hc1527, rfl, N1506, e1506⟩ := hQ1506
        have N1506_ := Fr.app N799_ N1506
        exfalso
        have rv1 := rng32 v1
        have wv1 := c_mask p1 (1 : Int32) 1 (by decide) (by decide)
        rw [← hv1] at wv1
        have rv5 := rng32 v5
        have wv5 := c_mask p0 (15 : Int32) 4 (by decide) (by decide)
        rw [← hv5] at wv5
        have rv6 := rng32 v6
        have wv6 := c_isub v5 (2 : Int32)
        rw [← hv6] at wv6
        have rp0 := rng32 p0
        have rp1 := rng32 p1
        have rr10 := rng32 r10
        have lI0 : (0 : Int32).toInt = 0 := by decide
        have lI1 : (1 : Int32).toInt = 1 := by decide
        have lI2 : (2 : Int32).toInt = 2 := by decide
        have lI3 : (3 : Int32).toInt = 3 := by decide
        have lI4 : (4 : Int32).toInt = 4 := by decide
        have lI5 : (5 : Int32).toInt = 5 := by decide
        have lI6 : (6 : Int32).toInt = 6 := by decide
        have lI7 : (7 : Int32).toInt = 7 := by decide
        have lI8 : (8 : Int32).toInt = 8 := by decide
        have lI9 : (9 : Int32).toInt = 9 := by decide
        have lI10 : (10 : Int32).toInt = 10 := by decide
        have lI15 : (15 : Int32).toInt = 15 := by decide
        simp only [Int32.lt_iff_toInt_lt, Int64.lt_iff_toInt_lt, ← Int32.toInt_inj, ← Int64.toInt_inj] at hc11 hc1495 hc1496 hc1497 hc1498 hc1499 hc1500 hc1501 hc1502 hc1503 hc1504 hc1522 hc1523 hc1524 hc1525 hc1526 hc1527
        omega
      · obtain ⟨hc1528, hc1529, hc1530, hc1531, hc1532, hc1533, hc1534, rfl, N1506, e1506⟩ := hQ1506
        have N1506_ := Fr.app N799_ N1506
        exfalso
        have rv1 := rng32 v1
        have wv1 := c_mask p1 (1 : Int32) 1 (by decide) (by decide)
        rw [← hv1] at wv1
        have rv5 := rng32 v5
        have wv5 := c_mask p0 (15 : Int32) 4 (by decide) (by decide)
        rw [← hv5] at wv5
        have rv6 := rng32 v6
        have wv6 := c_isub v5 (2 : Int32)
        rw [← hv6] at wv6
        have rp0 := rng32 p0
        have rp1 := rng32 p1
        have rr10 := rng32 r10
        have lI0 : (0 : Int32).toInt = 0 := by decide
        have lI1 : (1 : Int32).toInt = 1 := by decide
        have lI2 : (2 : Int32).toInt = 2 := by decide
        have lI3 : (3 : Int32).toInt = 3 := by decide
        have lI4 : (4 : Int32).toInt = 4 := by decide
        have lI5 : (5 : Int32).toInt = 5 := by decide
        have lI6 : (6 : Int32).toInt = 6 := by decide
        have lI7 : (7 : Int32).toInt = 7 := by decide
        have lI8 : (8 : Int32).toInt = 8 := by decide
        have lI9 : (9 : Int32).toInt = 9 := by decide
        have lI10 : (10 : Int32).toInt = 10 := by decide
        have lI15 : (15 : Int32).toInt = 15 := by decide
        simp only [Int32.lt_iff_toInt_lt, Int64.lt_iff_toInt_lt, ← Int32.toInt_inj, ← Int64.toInt_inj] at hc11 hc1495 hc1496 hc1497 hc1498 hc1499 hc1500 hc1501 hc1502 hc1503 hc1504 hc1528 hc1529 hc1530 hc1531 hc1532 hc1533 hc1534
        omega
      · obtain ⟨hc1535, hc1536, hc1537, hc1538, hc1539, hc1540, hc1541, hc1542, rfl, N1506, e1506⟩ := hQ1506
        have N1506_ := Fr.app N799_ N1506
        exfalso
        have rv1 := rng32 v1
        have wv1 := c_mask p1 (1 : Int32) 1 (by decide) (by decide)
        rw [← hv1] at wv1
        have rv5 := rng32 v5
        have wv5 := c_mask p0 (15 : Int32) 4 (by decide) (by decide)
        rw [← hv5] at wv5
        have rv6 := rng32 v6
        have wv6 := c_isub v5 (2 : Int32)
        rw [← hv6] at wv6
        have rp0 := rng32 p0
        have rp1 := rng32 p1
        have rr10 := rng32 r10
        have lI0 : (0 : Int32).toInt = 0 := by decide
        have lI1 : (1 : Int32).toInt = 1 := by decide
        have lI2 : (2 : Int32).toInt = 2 := by decide
        have lI3 : (3 : Int32).toInt = 3 := by decide
        have lI4 : (4 : Int32).toInt = 4 := by decide
        have lI5 : (5 : Int32).toInt = 5 := by decide
        have lI6 : (6 : Int32).toInt = 6 := by decide
        have lI7 : (7 : Int32).toInt = 7 := by decide
        have lI8 : (8 : Int32).toInt = 8 := by decide
        have lI9 : (9 : Int32).toInt = 9 := by decide
        have lI10 : (10 : Int32).toInt = 10 := by decide
        have lI15 : (15 : Int32).toInt = 15 := by decide
        simp only [Int32.lt_iff_toInt_lt, Int64.lt_iff_toInt_lt, ← Int32.toInt_inj, ← Int64.toInt_inj] at hc11 hc1495 hc1496 hc1497 hc1498 hc1499 hc1500 hc1501 hc1502 hc1503 hc1504 hc1535 hc1536 hc1537 hc1538 hc1539 hc1540 hc1541 hc1542
        omega
      · obtain ⟨hc1543, hc1544, hc1545, hc1546, hc1547, hc1548, hc1549, hc1550, hc1551, rfl, N1506, e1506⟩ := hQ1506
        have N1506_ := Fr.app N799_ N1506
        exfalso
        have rv1 := rng32 v1
        have wv1 := c_mask p1 (1 : Int32) 1 (by decide) (by decide)
        rw [← hv1] at wv1
        have rv5 := rng32 v5
        have wv5 := c_mask p0 (15 : Int32) 4 (by decide) (by decide)
        rw [← hv5] at wv5
        have rv6 := rng32 v6
        have wv6 := c_isub v5 (2 : Int32)
        rw [← hv6] at wv6
        have rp0 := rng32 p0
        have rp1 := rng32 p1
        have rr10 := rng32 r10
        have lI0 : (0 : Int32).toInt = 0 := by decide
        have lI1 : (1 : Int32).toInt = 1 := by decide
        have lI2 : (2 : Int32).toInt = 2 := by decide
        have lI3 : (3 : Int32).toInt = 3 := by decide
        have lI4 : (4 : Int32).toInt = 4 := by decide
        have lI5 : (5 : Int32).toInt = 5 := by decide
        have lI6 : (6 : Int32).toInt = 6 := by decide
        have lI7 : (7 : Int32).toInt = 7 := by decide
        have lI8 : (8 : Int32).toInt = 8 := by decide
        have lI9 : (9 : Int32).toInt = 9 := by decide
        have lI10 : (10 : Int32).toInt = 10 := by decide
        have lI15 : (15 : Int32).toInt = 15 := by decide
        simp only [Int32.lt_iff_toInt_lt, Int64.lt_iff_toInt_lt, ← Int32.toInt_inj, ← Int64.toInt_inj] at hc11 hc1495 hc1496 hc1497 hc1498 hc1499 hc1500 hc1501 hc1502 hc1503 hc1504 hc1543 hc1544 hc1545 hc1546 hc1547 hc1548 hc1549 hc1550 hc1551
        omega
      · obtain ⟨hc1552, hc1553, hc1554, hc1555, hc1556, hc1557, hc1558, hc1559, hc1560, hc1561, rfl, N1506, e1506⟩ := hQ1506
        have N1506_ := Fr.app N799_ N1506
        refine Go.st (S' := T1506.setTop (mkF m 26 A1505 [(.ref s_RequestType_READ_RANGE)])) st1506 ?_
        let A1562 : Array Slot := #[.val (.int p0), .val (.int p1), .val (.int r10), .val (.ref s_RequestType_READ_RANGE), .val (.ref s_RequestType_READ_RANGE)]
        refine Go.st (S' := T1506.setTop (mkF m 28 A1562 [])) (fun t k => XS.astore X1506.here hx rfl (hb hby at_26) rfl rfl (l' := A1562) rfl k) ?_
        refine Go.st (S' := T1506.setTop (mkF m 30 A1562 [(.ref s_RequestType_READ_RANGE)])) (fun t k => XS.aload X1506.here hx rfl (hb hby at_28) rfl rfl k) ?_
        refine Go.st (S' := T1506.setTop (mkF m 43 A1562 [])) (fun t k => XS.ifnonnullYes X1506.here hx rfl (pc0 := 30) (pc' := 43) rfl (hb hby at_30) rfl (by decide) (by decide) k) ?_
        refine Go.st (S' := T1506.setTop (mkF m 44 A1562 [(.ref s_RequestType_READ_RANGE)])) (fun t k => XS.aloadN X1506.here hx rfl (hb hby at_43) rfl rfl k) ?_
        refine Go.st (S' := T1506.setTop (mkF m 46 A1562 [(.ref s_RequestType_READ_RANGE), (.ref s_RequestType_READ_RANGE)])) (fun t k => XS.aload X1506.here hx rfl (hb hby at_44) rfl rfl k) ?_
        refine Go.st (S' := T1506.setTop (mkF m 49 A1562 [])) (fun t k => acmp X1506 hx rfl rfl rfl (pc0 := 46) (pc' := 49) (same := true) rfl (hb hby at_46) rfl (by simp) (by decide) (by decide) k) ?_
        refine Go.st (S' := T1506.setTop (mkF m 50 A1562 [(.ref s_RequestType_READ_RANGE)])) (fun t k => XS.aloadN X1506.here hx rfl (hb hby at_49) rfl rfl k) ?_
        obtain ⟨r1564, T1564, L1564, X1564, hQ1564, st1564⟩ := own_callV (W := 0) (a := s_RequestType_READ_RANGE) (C := "com/example/hale_ledger/haleledger/protocol/RequestType") X1506 hx hZ e1506 hown (y := (⟨"com/example/hale_ledger/haleledger/protocol/RequestType", "code", "()I"⟩ : MethodName)) (z := (⟨"com/example/hale_ledger/haleledger/protocol/RequestType", "code", "()I"⟩ : MethodName)) (hw _ (List.mem_of_getElem? (i := 23) rfl)) (hw _ (List.mem_of_getElem? (i := 24) rfl)) (notFace_of_selects (args := #[]) (mvT hZ (hw _ (List.mem_of_getElem? (i := 26) rfl)))) (hw _ (List.mem_of_getElem? (i := 26) rfl)) (hw _ (List.mem_of_getElem? (i := 25) rfl)) (hw _ (List.mem_of_getElem? (i := 2) rfl)) (hw _ (List.mem_of_getElem? (i := 27) rfl)) (by decide) (E_s_RequestType_READ_RANGE) (rm12 l Z a0 hw [] s_RequestType_READ_RANGE h0 n0 Z0 (F_s_RequestType_READ_RANGE_code)) (by decide) (by decide) (by decide) (by decide) (g := (mkF m 50 A1562 [(.ref s_RequestType_READ_RANGE)])) rfl (by rw [hml]; rfl) (argsL := []) (rest := []) rfl (lenOf pd_1 rfl) rfl (by show 2 * 0 + _ ≤ _; exact Nat.le_of_eq rfl) (hb hby at_50)
        obtain ⟨rfl, N1564, e1564⟩ := hQ1564
        have N1564_ := Fr.app N1506_ N1564
        refine Go.st (S' := T1564.setTop (mkF m 53 A1562 [(.int (10 : Int32))])) st1564 ?_
        refine Go.st (S' := T1564.setTop (mkF m 54 A1562 [(.int r10), (.int (10 : Int32))])) (fun t k => XS.iloadN X1564.here hx rfl (hb hby at_53) rfl k) ?_
        refine Go.st (S' := T1564.setTop (mkF m 57 A1562 [])) (fun t k => XS.icmpNo X1564.here hx rfl (hb hby at_54) rfl (teq hc1504).2 k) ?_
        refine Go.st (S' := T1564.setTop (mkF m 58 A1562 [(.int (1 : Int32))])) (fun t k => XS.iconst X1564.here hx rfl (hb hby at_57) k) ?_
        refine Go.st (S' := T1564.setTop (mkF m 62 A1562 [(.int (1 : Int32))])) (fun t k => XS.goto X1564.here hx rfl (pc0 := 58) (pc' := 62) rfl (hb hby at_58) (by decide) (by decide) k) ?_
        exact Go.ret X1564 (v := some (.int (1 : Int32))) (fun h => by rw [Bd.returns] at h; cases h) Bd.notSynchronized (fun fs hr => retN X1564 hx (t := .boolean) Bd.returns (by simp) (hb hby at_62) hr) (by decide) (by decide) ⟨rfl, N1564_⟩
      · obtain ⟨hc1565, hc1566, hc1567, hc1568, hc1569, hc1570, hc1571, hc1572, hc1573, hc1574, rfl, N1506, e1506⟩ := hQ1506
        have N1506_ := Fr.app N799_ N1506
        exfalso
        have rv1 := rng32 v1
        have wv1 := c_mask p1 (1 : Int32) 1 (by decide) (by decide)
        rw [← hv1] at wv1
        have rv5 := rng32 v5
        have wv5 := c_mask p0 (15 : Int32) 4 (by decide) (by decide)
        rw [← hv5] at wv5
        have rv6 := rng32 v6
        have wv6 := c_isub v5 (2 : Int32)
        rw [← hv6] at wv6
        have rp0 := rng32 p0
        have rp1 := rng32 p1
        have rr10 := rng32 r10
        have lI0 : (0 : Int32).toInt = 0 := by decide
        have lI1 : (1 : Int32).toInt = 1 := by decide
        have lI2 : (2 : Int32).toInt = 2 := by decide
        have lI3 : (3 : Int32).toInt = 3 := by decide
        have lI4 : (4 : Int32).toInt = 4 := by decide
        have lI5 : (5 : Int32).toInt = 5 := by decide
        have lI6 : (6 : Int32).toInt = 6 := by decide
        have lI7 : (7 : Int32).toInt = 7 := by decide
        have lI8 : (8 : Int32).toInt = 8 := by decide
        have lI9 : (9 : Int32).toInt = 9 := by decide
        have lI10 : (10 : Int32).toInt = 10 := by decide
        have lI15 : (15 : Int32).toInt = 15 := by decide
        simp only [Int32.lt_iff_toInt_lt, Int64.lt_iff_toInt_lt, ← Int32.toInt_inj, ← Int64.toInt_inj] at hc11 hc1495 hc1496 hc1497 hc1498 hc1499 hc1500 hc1501 hc1502 hc1503 hc1504 hc1565 hc1566 hc1567 hc1568 hc1569 hc1570 hc1571 hc1572 hc1573 hc1574
        omega
    · obtain ⟨hc1575, hc1576, hc1577, hc1578, hc1579, hc1580, hc1581, hc1582, hc1583, hc1584, rfl, N799, e799⟩ := hQ799
      have N799_ := Fr.app N0 N799
      refine Go.st (S' := T799.setTop (mkF m 21 A12 [.null])) st799 ?_
      let A1585 : Array Slot := #[.val (.int p0), .val (.int p1), .val (.int r10), .val .null, .unset]
      refine Go.st (S' := T799.setTop (mkF m 22 A1585 [])) (fun t k => XS.astoreN X799.here hx rfl (hb hby at_21) rfl rfl (l' := A1585) rfl k) ?_
      refine Go.st (S' := T799.setTop (mkF m 23 A1585 [(.int r10)])) (fun t k => XS.iloadN X799.here hx rfl (hb hby at_22) rfl k) ?_
      obtain ⟨r1586, T1586, L1586, X1586, hQ1586, st1586⟩ := own_callS (W := 0) X799 hx hZ e799 hown (y := (⟨"com/example/hale_ledger/haleledger/protocol/RequestTypeOfCodePinLaw", "expected", "(I)Lcom/example/hale_ledger/haleledger/protocol/RequestType;"⟩ : MethodName)) (hw _ (List.mem_of_getElem? (i := 18) rfl)) (hw _ (List.mem_of_getElem? (i := 19) rfl)) (hw _ (List.mem_of_getElem? (i := 20) rfl)) (hw _ (List.mem_of_getElem? (i := 21) rfl)) (by decide) (rm2 l Z a0 hw [] r10 s_RequestType_ADD s_RequestType_READ s_RequestType_STATS s_RequestType_FENCE s_RequestType_RECOVERY_READ s_RequestType_RECOVERY_ADD s_RequestType_READ_LAC s_RequestType_WRITE_LAC s_RequestType_WAIT_LAC s_RequestType_READ_RANGE h0 n0 Z0 (S_s_RequestType_ADD) (S_s_RequestType_READ) (S_s_RequestType_STATS) (S_s_RequestType_FENCE) (S_s_RequestType_RECOVERY_READ) (S_s_RequestType_RECOVERY_ADD) (S_s_RequestType_READ_LAC) (S_s_RequestType_WRITE_LAC) (S_s_RequestType_WAIT_LAC) (S_s_RequestType_READ_RANGE)) (by decide) (by decide) (by decide) (by decide) (g := (mkF m 23 A1585 [(.int r10)])) rfl (by rw [hml]; rfl) (argsL := [(.int r10)]) (rest := []) rfl (lenOf pd_0 rfl) rfl (by show 2 * 0 + _ ≤ _; exact Nat.le_of_eq rfl) (hb hby at_23)
      rcases hQ1586 with hQ1586 | hQ1586 | hQ1586 | hQ1586 | hQ1586 | hQ1586 | hQ1586 | hQ1586 | hQ1586 | hQ1586 | hQ1586
      · obtain ⟨hc1587, rfl, N1586, e1586⟩ := hQ1586
        have N1586_ := Fr.app N799_ N1586
        exfalso
        have rv1 := rng32 v1
        have wv1 := c_mask p1 (1 : Int32) 1 (by decide) (by decide)
        rw [← hv1] at wv1
        have rv5 := rng32 v5
        have wv5 := c_mask p0 (15 : Int32) 4 (by decide) (by decide)
        rw [← hv5] at wv5
        have rv6 := rng32 v6
        have wv6 := c_isub v5 (2 : Int32)
        rw [← hv6] at wv6
        have rp0 := rng32 p0
        have rp1 := rng32 p1
        have rr10 := rng32 r10
        have lI0 : (0 : Int32).toInt = 0 := by decide
        have lI1 : (1 : Int32).toInt = 1 := by decide
        have lI2 : (2 : Int32).toInt = 2 := by decide
        have lI3 : (3 : Int32).toInt = 3 := by decide
        have lI4 : (4 : Int32).toInt = 4 := by decide
        have lI5 : (5 : Int32).toInt = 5 := by decide
        have lI6 : (6 : Int32).toInt = 6 := by decide
        have lI7 : (7 : Int32).toInt = 7 := by decide
        have lI8 : (8 : Int32).toInt = 8 := by decide
        have lI9 : (9 : Int32).toInt = 9 := by decide
        have lI10 : (10 : Int32).toInt = 10 := by decide
        have lI15 : (15 : Int32).toInt = 15 := by decide
        simp only [Int32.lt_iff_toInt_lt, Int64.lt_iff_toInt_lt, ← Int32.toInt_inj, ← Int64.toInt_inj] at hc11 hc1575 hc1576 hc1577 hc1578 hc1579 hc1580 hc1581 hc1582 hc1583 hc1584 hc1587
        omega
      · obtain ⟨hc1588, hc1589, rfl, N1586, e1586⟩ := hQ1586
        have N1586_ := Fr.app N799_ N1586
        exfalso
        have rv1 := rng32 v1
        have wv1 := c_mask p1 (1 : Int32) 1 (by decide) (by decide)
        rw [← hv1] at wv1
        have rv5 := rng32 v5
        have wv5 := c_mask p0 (15 : Int32) 4 (by decide) (by decide)
        rw [← hv5] at wv5
        have rv6 := rng32 v6
        have wv6 := c_isub v5 (2 : Int32)
        rw [← hv6] at wv6
        have rp0 := rng32 p0
        have rp1 := rng32 p1
        have rr10 := rng32 r10
        have lI0 : (0 : Int32).toInt = 0 := by decide
        have lI1 : (1 : Int32).toInt = 1 := by decide
        have lI2 : (2 : Int32).toInt = 2 := by decide
        have lI3 : (3 : Int32).toInt = 3 := by decide
        have lI4 : (4 : Int32).toInt = 4 := by decide
        have lI5 : (5 : Int32).toInt = 5 := by decide
        have lI6 : (6 : Int32).toInt = 6 := by decide
        have lI7 : (7 : Int32).toInt = 7 := by decide
        have lI8 : (8 : Int32).toInt = 8 := by decide
        have lI9 : (9 : Int32).toInt = 9 := by decide
        have lI10 : (10 : Int32).toInt = 10 := by decide
        have lI15 : (15 : Int32).toInt = 15 := by decide
        simp only [Int32.lt_iff_toInt_lt, Int64.lt_iff_toInt_lt, ← Int32.toInt_inj, ← Int64.toInt_inj] at hc11 hc1575 hc1576 hc1577 hc1578 hc1579 hc1580 hc1581 hc1582 hc1583 hc1584 hc1588 hc1589
        omega
      · obtain ⟨hc1590, hc1591, hc1592, rfl, N1586, e1586⟩ := hQ1586
        have N1586_ := Fr.app N799_ N1586
        exfalso
        have rv1 := rng32 v1
        have wv1 := c_mask p1 (1 : Int32) 1 (by decide) (by decide)
        rw [← hv1] at wv1
        have rv5 := rng32 v5
        have wv5 := c_mask p0 (15 : Int32) 4 (by decide) (by decide)
        rw [← hv5] at wv5
        have rv6 := rng32 v6
        have wv6 := c_isub v5 (2 : Int32)
        rw [← hv6] at wv6
        have rp0 := rng32 p0
        have rp1 := rng32 p1
        have rr10 := rng32 r10
        have lI0 : (0 : Int32).toInt = 0 := by decide
        have lI1 : (1 : Int32).toInt = 1 := by decide
        have lI2 : (2 : Int32).toInt = 2 := by decide
        have lI3 : (3 : Int32).toInt = 3 := by decide
        have lI4 : (4 : Int32).toInt = 4 := by decide
        have lI5 : (5 : Int32).toInt = 5 := by decide
        have lI6 : (6 : Int32).toInt = 6 := by decide
        have lI7 : (7 : Int32).toInt = 7 := by decide
        have lI8 : (8 : Int32).toInt = 8 := by decide
        have lI9 : (9 : Int32).toInt = 9 := by decide
        have lI10 : (10 : Int32).toInt = 10 := by decide
        have lI15 : (15 : Int32).toInt = 15 := by decide
        simp only [Int32.lt_iff_toInt_lt, Int64.lt_iff_toInt_lt, ← Int32.toInt_inj, ← Int64.toInt_inj] at hc11 hc1575 hc1576 hc1577 hc1578 hc1579 hc1580 hc1581 hc1582 hc1583 hc1584 hc1590 hc1591 hc1592
        omega
      · obtain ⟨hc1593, hc1594, hc1595, hc1596, rfl, N1586, e1586⟩ := hQ1586
        have N1586_ := Fr.app N799_ N1586
        exfalso
        have rv1 := rng32 v1
        have wv1 := c_mask p1 (1 : Int32) 1 (by decide) (by decide)
        rw [← hv1] at wv1
        have rv5 := rng32 v5
        have wv5 := c_mask p0 (15 : Int32) 4 (by decide) (by decide)
        rw [← hv5] at wv5
        have rv6 := rng32 v6
        have wv6 := c_isub v5 (2 : Int32)
        rw [← hv6] at wv6
        have rp0 := rng32 p0
        have rp1 := rng32 p1
        have rr10 := rng32 r10
        have lI0 : (0 : Int32).toInt = 0 := by decide
        have lI1 : (1 : Int32).toInt = 1 := by decide
        have lI2 : (2 : Int32).toInt = 2 := by decide
        have lI3 : (3 : Int32).toInt = 3 := by decide
        have lI4 : (4 : Int32).toInt = 4 := by decide
        have lI5 : (5 : Int32).toInt = 5 := by decide
        have lI6 : (6 : Int32).toInt = 6 := by decide
        have lI7 : (7 : Int32).toInt = 7 := by decide
        have lI8 : (8 : Int32).toInt = 8 := by decide
        have lI9 : (9 : Int32).toInt = 9 := by decide
        have lI10 : (10 : Int32).toInt = 10 := by decide
        have lI15 : (15 : Int32).toInt = 15 := by decide
        simp only [Int32.lt_iff_toInt_lt, Int64.lt_iff_toInt_lt, ← Int32.toInt_inj, ← Int64.toInt_inj] at hc11 hc1575 hc1576 hc1577 hc1578 hc1579 hc1580 hc1581 hc1582 hc1583 hc1584 hc1593 hc1594 hc1595 hc1596
        omega
      · obtain ⟨hc1597, hc1598, hc1599, hc1600, hc1601, rfl, N1586, e1586⟩ := hQ1586
        have N1586_ := Fr.app N799_ N1586
        exfalso
        have rv1 := rng32 v1
        have wv1 := c_mask p1 (1 : Int32) 1 (by decide) (by decide)
        rw [← hv1] at wv1
        have rv5 := rng32 v5
        have wv5 := c_mask p0 (15 : Int32) 4 (by decide) (by decide)
        rw [← hv5] at wv5
        have rv6 := rng32 v6
        have wv6 := c_isub v5 (2 : Int32)
        rw [← hv6] at wv6
        have rp0 := rng32 p0
        have rp1 := rng32 p1
        have rr10 := rng32 r10
        have lI0 : (0 : Int32).toInt = 0 := by decide
        have lI1 : (1 : Int32).toInt = 1 := by decide
        have lI2 : (2 : Int32).toInt = 2 := by decide
        have lI3 : (3 : Int32).toInt = 3 := by decide
        have lI4 : (4 : Int32).toInt = 4 := by decide
        have lI5 : (5 : Int32).toInt = 5 := by decide
        have lI6 : (6 : Int32).toInt = 6 := by decide
        have lI7 : (7 : Int32).toInt = 7 := by decide
        have lI8 : (8 : Int32).toInt = 8 := by decide
        have lI9 : (9 : Int32).toInt = 9 := by decide
        have lI10 : (10 : Int32).toInt = 10 := by decide
        have lI15 : (15 : Int32).toInt = 15 := by decide
        simp only [Int32.lt_iff_toInt_lt, Int64.lt_iff_toInt_lt, ← Int32.toInt_inj, ← Int64.toInt_inj] at hc11 hc1575 hc1576 hc1577 hc1578 hc1579 hc1580 hc1581 hc1582 hc1583 hc1584 hc1597 hc1598 hc1599 hc1600 hc1601
        omega
      · obtain ⟨hc1602, hc1603, hc1604, hc1605, hc1606, hc1607, rfl, N1586, e1586⟩ := hQ1586
        have N1586_ := Fr.app N799_ N1586
        exfalso
        have rv1 := rng32 v1
        have wv1 := c_mask p1 (1 : Int32) 1 (by decide) (by decide)
        rw [← hv1] at wv1
        have rv5 := rng32 v5
        have wv5 := c_mask p0 (15 : Int32) 4 (by decide) (by decide)
        rw [← hv5] at wv5
        have rv6 := rng32 v6
        have wv6 := c_isub v5 (2 : Int32)
        rw [← hv6] at wv6
        have rp0 := rng32 p0
        have rp1 := rng32 p1
        have rr10 := rng32 r10
        have lI0 : (0 : Int32).toInt = 0 := by decide
        have lI1 : (1 : Int32).toInt = 1 := by decide
        have lI2 : (2 : Int32).toInt = 2 := by decide
        have lI3 : (3 : Int32).toInt = 3 := by decide
        have lI4 : (4 : Int32).toInt = 4 := by decide
        have lI5 : (5 : Int32).toInt = 5 := by decide
        have lI6 : (6 : Int32).toInt = 6 := by decide
        have lI7 : (7 : Int32).toInt = 7 := by decide
        have lI8 : (8 : Int32).toInt = 8 := by decide
        have lI9 : (9 : Int32).toInt = 9 := by decide
        have lI10 : (10 : Int32).toInt = 10 := by decide
        have lI15 : (15 : Int32).toInt = 15 := by decide
        simp only [Int32.lt_iff_toInt_lt, Int64.lt_iff_toInt_lt, ← Int32.toInt_inj, ← Int64.toInt_inj] at hc11 hc1575 hc1576 hc1577 hc1578 hc1579 hc1580 hc1581 hc1582 hc1583 hc1584 hc1602 hc1603 hc1604 hc1605 hc1606 hc1607
        omega
      · obtain ⟨hc1608, hc1609, hc1610, hc1611, hc1612, hc1613, hc1614, rfl, N1586, e1586⟩ := hQ1586
        have N1586_ := Fr.app N799_ N1586
        exfalso
        have rv1 := rng32 v1
        have wv1 := c_mask p1 (1 : Int32) 1 (by decide) (by decide)
        rw [← hv1] at wv1
        have rv5 := rng32 v5
        have wv5 := c_mask p0 (15 : Int32) 4 (by decide) (by decide)
        rw [← hv5] at wv5
        have rv6 := rng32 v6
        have wv6 := c_isub v5 (2 : Int32)
        rw [← hv6] at wv6
        have rp0 := rng32 p0
        have rp1 := rng32 p1
        have rr10 := rng32 r10
        have lI0 : (0 : Int32).toInt = 0 := by decide
        have lI1 : (1 : Int32).toInt = 1 := by decide
        have lI2 : (2 : Int32).toInt = 2 := by decide
        have lI3 : (3 : Int32).toInt = 3 := by decide
        have lI4 : (4 : Int32).toInt = 4 := by decide
        have lI5 : (5 : Int32).toInt = 5 := by decide
        have lI6 : (6 : Int32).toInt = 6 := by decide
        have lI7 : (7 : Int32).toInt = 7 := by decide
        have lI8 : (8 : Int32).toInt = 8 := by decide
        have lI9 : (9 : Int32).toInt = 9 := by decide
        have lI10 : (10 : Int32).toInt = 10 := by decide
        have lI15 : (15 : Int32).toInt = 15 := by decide
        simp only [Int32.lt_iff_toInt_lt, Int64.lt_iff_toInt_lt, ← Int32.toInt_inj, ← Int64.toInt_inj] at hc11 hc1575 hc1576 hc1577 hc1578 hc1579 hc1580 hc1581 hc1582 hc1583 hc1584 hc1608 hc1609 hc1610 hc1611 hc1612 hc1613 hc1614
        omega
      · obtain ⟨hc1615, hc1616, hc1617, hc1618, hc1619, hc1620, hc1621, hc1622, rfl, N1586, e1586⟩ := hQ1586
        have N1586_ := Fr.app N799_ N1586
        exfalso
        have rv1 := rng32 v1
        have wv1 := c_mask p1 (1 : Int32) 1 (by decide) (by decide)
        rw [← hv1] at wv1
        have rv5 := rng32 v5
        have wv5 := c_mask p0 (15 : Int32) 4 (by decide) (by decide)
        rw [← hv5] at wv5
        have rv6 := rng32 v6
        have wv6 := c_isub v5 (2 : Int32)
        rw [← hv6] at wv6
        have rp0 := rng32 p0
        have rp1 := rng32 p1
        have rr10 := rng32 r10
        have lI0 : (0 : Int32).toInt = 0 := by decide
        have lI1 : (1 : Int32).toInt = 1 := by decide
        have lI2 : (2 : Int32).toInt = 2 := by decide
        have lI3 : (3 : Int32).toInt = 3 := by decide
        have lI4 : (4 : Int32).toInt = 4 := by decide
        have lI5 : (5 : Int32).toInt = 5 := by decide
        have lI6 : (6 : Int32).toInt = 6 := by decide
        have lI7 : (7 : Int32).toInt = 7 := by decide
        have lI8 : (8 : Int32).toInt = 8 := by decide
        have lI9 : (9 : Int32).toInt = 9 := by decide
        have lI10 : (10 : Int32).toInt = 10 := by decide
        have lI15 : (15 : Int32).toInt = 15 := by decide
        simp only [Int32.lt_iff_toInt_lt, Int64.lt_iff_toInt_lt, ← Int32.toInt_inj, ← Int64.toInt_inj] at hc11 hc1575 hc1576 hc1577 hc1578 hc1579 hc1580 hc1581 hc1582 hc1583 hc1584 hc1615 hc1616 hc1617 hc1618 hc1619 hc1620 hc1621 hc1622
        omega
      · obtain ⟨hc1623, hc1624, hc1625, hc1626, hc1627, hc1628, hc1629, hc1630, hc1631, rfl, N1586, e1586⟩ := hQ1586
        have N1586_ := Fr.app N799_ N1586
        exfalso
        have rv1 := rng32 v1
        have wv1 := c_mask p1 (1 : Int32) 1 (by decide) (by decide)
        rw [← hv1] at wv1
        have rv5 := rng32 v5
        have wv5 := c_mask p0 (15 : Int32) 4 (by decide) (by decide)
        rw [← hv5] at wv5
        have rv6 := rng32 v6
        have wv6 := c_isub v5 (2 : Int32)
        rw [← hv6] at wv6
        have rp0 := rng32 p0
        have rp1 := rng32 p1
        have rr10 := rng32 r10
        have lI0 : (0 : Int32).toInt = 0 := by decide
        have lI1 : (1 : Int32).toInt = 1 := by decide
        have lI2 : (2 : Int32).toInt = 2 := by decide
        have lI3 : (3 : Int32).toInt = 3 := by decide
        have lI4 : (4 : Int32).toInt = 4 := by decide
        have lI5 : (5 : Int32).toInt = 5 := by decide
        have lI6 : (6 : Int32).toInt = 6 := by decide
        have lI7 : (7 : Int32).toInt = 7 := by decide
        have lI8 : (8 : Int32).toInt = 8 := by decide
        have lI9 : (9 : Int32).toInt = 9 := by decide
        have lI10 : (10 : Int32).toInt = 10 := by decide
        have lI15 : (15 : Int32).toInt = 15 := by decide
        simp only [Int32.lt_iff_toInt_lt, Int64.lt_iff_toInt_lt, ← Int32.toInt_inj, ← Int64.toInt_inj] at hc11 hc1575 hc1576 hc1577 hc1578 hc1579 hc1580 hc1581 hc1582 hc1583 hc1584 hc1623 hc1624 hc1625 hc1626 hc1627 hc1628 hc1629 hc1630 hc1631
        omega
      · obtain ⟨hc1632, hc1633, hc1634, hc1635, hc1636, hc1637, hc1638, hc1639, hc1640, hc1641, rfl, N1586, e1586⟩ := hQ1586
        have N1586_ := Fr.app N799_ N1586
        exfalso
        have rv1 := rng32 v1
        have wv1 := c_mask p1 (1 : Int32) 1 (by decide) (by decide)
        rw [← hv1] at wv1
        have rv5 := rng32 v5
        have wv5 := c_mask p0 (15 : Int32) 4 (by decide) (by decide)
        rw [← hv5] at wv5
        have rv6 := rng32 v6
        have wv6 := c_isub v5 (2 : Int32)
        rw [← hv6] at wv6
        have rp0 := rng32 p0
        have rp1 := rng32 p1
        have rr10 := rng32 r10
        have lI0 : (0 : Int32).toInt = 0 := by decide
        have lI1 : (1 : Int32).toInt = 1 := by decide
        have lI2 : (2 : Int32).toInt = 2 := by decide
        have lI3 : (3 : Int32).toInt = 3 := by decide
        have lI4 : (4 : Int32).toInt = 4 := by decide
        have lI5 : (5 : Int32).toInt = 5 := by decide
        have lI6 : (6 : Int32).toInt = 6 := by decide
        have lI7 : (7 : Int32).toInt = 7 := by decide
        have lI8 : (8 : Int32).toInt = 8 := by decide
        have lI9 : (9 : Int32).toInt = 9 := by decide
        have lI10 : (10 : Int32).toInt = 10 := by decide
        have lI15 : (15 : Int32).toInt = 15 := by decide
        simp only [Int32.lt_iff_toInt_lt, Int64.lt_iff_toInt_lt, ← Int32.toInt_inj, ← Int64.toInt_inj] at hc11 hc1575 hc1576 hc1577 hc1578 hc1579 hc1580 hc1581 hc1582 hc1583 hc1584 hc1632 hc1633 hc1634 hc1635 hc1636 hc1637 hc1638 hc1639 hc1640 hc1641
        omega
      · obtain ⟨hc1642, hc1643, hc1644, hc1645, hc1646, hc1647, hc1648, hc1649, hc1650, hc1651, rfl, N1586, e1586⟩ := hQ1586
        have N1586_ := Fr.app N799_ N1586
        refine Go.st (S' := T1586.setTop (mkF m 26 A1585 [.null])) st1586 ?_
        let A1652 : Array Slot := #[.val (.int p0), .val (.int p1), .val (.int r10), .val .null, .val .null]
        refine Go.st (S' := T1586.setTop (mkF m 28 A1652 [])) (fun t k => XS.astore X1586.here hx rfl (hb hby at_26) rfl rfl (l' := A1652) rfl k) ?_
        refine Go.st (S' := T1586.setTop (mkF m 30 A1652 [.null])) (fun t k => XS.aload X1586.here hx rfl (hb hby at_28) rfl rfl k) ?_
        refine Go.st (S' := T1586.setTop (mkF m 33 A1652 [])) (fun t k => XS.ifnonnullNo X1586.here hx rfl (hb hby at_30) rfl k) ?_
        refine Go.st (S' := T1586.setTop (mkF m 34 A1652 [.null])) (fun t k => XS.aloadN X1586.here hx rfl (hb hby at_33) rfl rfl k) ?_
        refine Go.st (S' := T1586.setTop (mkF m 37 A1652 [])) (fun t k => XS.ifnonnullNo X1586.here hx rfl (hb hby at_34) rfl k) ?_
        refine Go.st (S' := T1586.setTop (mkF m 38 A1652 [(.int (1 : Int32))])) (fun t k => XS.iconst X1586.here hx rfl (hb hby at_37) k) ?_
        refine Go.st (S' := T1586.setTop (mkF m 42 A1652 [(.int (1 : Int32))])) (fun t k => XS.goto X1586.here hx rfl (pc0 := 38) (pc' := 42) rfl (hb hby at_38) (by decide) (by decide) k) ?_
        exact Go.ret X1586 (v := some (.int (1 : Int32))) (fun h => by rw [Bd.returns] at h; cases h) Bd.notSynchronized (fun fs hr => retN X1586 hx (t := .boolean) Bd.returns (by simp) (hb hby at_42) hr) (by decide) (by decide) ⟨rfl, N1586_⟩
  · intro J1653
    by_cases hc1654 : (v1 = (0 : Int32))
    · refine Go.st (S' := s₁.setTop (mkF m 10 #[.val (.int p0), .val (.int p1), .unset, .unset, .unset] [])) (fun t k => XS.ifYes X0.here hx rfl (pc0 := 3) (pc' := 10) rfl (hb hby at_3) rfl ((if0 _ _).trans (teq hc1654).1) (by decide) (by decide) k) ?_
      refine Go.st (S' := s₁.setTop (mkF m 11 #[.val (.int p0), .val (.int p1), .unset, .unset, .unset] [(.int p0)])) (fun t k => XS.iloadN X0.here hx rfl (hb hby at_10) rfl k) ?_
      refine Go.st (S' := s₁.setTop (mkF m 13 #[.val (.int p0), .val (.int p1), .unset, .unset, .unset] [(.int (15 : Int32)), (.int p0)])) (fun t k => XS.bipush X0.here hx rfl (hb hby at_11) k) ?_
      refine Go.op (F := fun z => s₁.setTop (mkF m 14 #[.val (.int p0), .val (.int p1), .unset, .unset, .unset] [(.int z)])) (x := (p0 &&& (15 : Int32))) (fun t k => XS.iand X0.here hx rfl (hb hby at_13) rfl k) ?_
      intro v1655 hv1655
      obtain rfl : v5 = v1655 := hv5.trans hv1655.symm
      refine Go.st (S' := s₁.setTop (mkF m 15 #[.val (.int p0), .val (.int p1), .unset, .unset, .unset] [(.int (2 : Int32)), (.int v5)])) (fun t k => XS.iconst X0.here hx rfl (hb hby at_14) k) ?_
      refine Go.op (F := fun z => s₁.setTop (mkF m 16 #[.val (.int p0), .val (.int p1), .unset, .unset, .unset] [(.int z)])) (x := (v5 - (2 : Int32))) (fun t k => XS.isub X0.here hx rfl (hb hby at_15) rfl k) ?_
      intro v1656 hv1656
      obtain rfl : v6 = v1656 := hv6.trans hv1656.symm
      exact J1653 (v6) (Or.inl ⟨hc1654, rfl⟩)
    · refine Go.st (S' := s₁.setTop (mkF m 6 #[.val (.int p0), .val (.int p1), .unset, .unset, .unset] [])) (fun t k => XS.ifNo X0.here hx rfl (hb hby at_3) rfl ((if0 _ _).trans (feq hc1654).1) k) ?_
      refine Go.st (S' := s₁.setTop (mkF m 7 #[.val (.int p0), .val (.int p1), .unset, .unset, .unset] [(.int p0)])) (fun t k => XS.iloadN X0.here hx rfl (hb hby at_6) rfl k) ?_
      refine Go.st (S' := s₁.setTop (mkF m 16 #[.val (.int p0), .val (.int p1), .unset, .unset, .unset] [(.int p0)])) (fun t k => XS.goto X0.here hx rfl (pc0 := 7) (pc' := 16) rfl (hb hby at_7) (by decide) (by decide) k) ?_
      exact J1653 (p0) (Or.inr ⟨hc1654, rfl⟩)
set_option maxRecDepth 65536 in
set_option maxHeartbeats 40000000 in
theorem comes_1 {Post : Tables → Env → Array Value → State → Outcome → State → Prop} (hpost : ∀ tb e args s v u, (limb_1_1.after args s (.returned v) u = true ∧ limb_1_2.after args s (.returned v) u = true ∧ True) → FrameEnd s (.returned v) u (Jvm.fieldLocs frame_1_writes args s ++ Jvm.arrayLocs frame_1_arrays args s ++ Jvm.staticLocs frame_1_statics s) 0 0 → Post tb e args s (.returned v) u) :
    ArmFor flags0 classFile x code maxLocals ret World_1 tables_1 room_1 Calls_1 rest_1 Pre_1 Post := by
  intro l hfl _ _ p e ha hc hk s m args below hf hA hF happ hP
  obtain ⟨hcalls, hrest, hpre⟩ := hP
  obtain ⟨-, -, -, hnamed, -, -, -, hat⟩ := (Spec.applies_iff hf).mp happ
  obtain ⟨hg, hn⟩ := and_e (Cond.before_iff.mp (show (Jvm.Cond.and given_1 narrow_1).before args s = true from hpre))
  obtain ⟨h1, h2⟩ := and_e hg
  obtain ⟨w0, w1, rfl⟩ : ∃ w0 w1 : Value, args = #[w0, w1] := by
    have hs : args.size = 2 := by simpa [Cond.value, given_1] using h1
    obtain ⟨L⟩ := args
    match L, hs with
    | [w0, w1], _ => exact ⟨w0, w1, rfl⟩
  have hw := fun d (hd : d ∈ tables_1) => atoms_spec (ws := Jvm.Cond.code x code maxLocals ret :: tables_1) hat d (List.mem_cons_of_mem _ hd)
  have hfit : Fit s := fun {y c} hc i hi => by
    obtain ⟨ha, rfl⟩ := Array.getElem?_eq_some_iff.mp hc
    have q := List.all_eq_true.mp ((Array.all_eq_true_iff_forall_mem.mp hF) _ (Array.getElem_mem ha)) i (List.mem_range.mpr hi)
    simpa [Array.getElem?_eq_getElem hi] using q
  obtain ⟨q0, h2_0⟩ := and_e h2
  obtain ⟨i0, ee0⟩ := is_v q0
  obtain rfl : w0 = (.int i0) := Option.some.inj ee0
  obtain ⟨i1, ee1⟩ := is_v h2_0
  obtain rfl : w1 = (.int i1) := Option.some.inj ee1
  obtain ⟨n0, hn0⟩ := and_e hn
  obtain ⟨n1, hn1⟩ := and_e hn0
  obtain ⟨n2, hn2⟩ := and_e hn1
  obtain ⟨n3, hn3⟩ := and_e hn2
  obtain ⟨n4, hn4⟩ := and_e hn3
  obtain ⟨n5, hn5⟩ := and_e hn4
  obtain ⟨n6, hn6⟩ := and_e hn5
  obtain ⟨n7, hn7⟩ := and_e hn6
  obtain ⟨n8, hn8⟩ := and_e hn7
  obtain ⟨n9, hn9⟩ := and_e hn8
  obtain ⟨n10, hn10⟩ := and_e hn9
  obtain ⟨n11, hn11⟩ := and_e hn10
  obtain ⟨n12, hn12⟩ := and_e hn11
  obtain ⟨n13, hn13⟩ := and_e hn12
  obtain ⟨n14, hn14⟩ := and_e hn13
  obtain ⟨n15, hn15⟩ := and_e hn14
  obtain ⟨n16, hn16⟩ := and_e hn15
  obtain ⟨n17, hn17⟩ := and_e hn16
  obtain ⟨n18, hn18⟩ := and_e hn17
  obtain ⟨n19, hn19⟩ := and_e hn18
  obtain ⟨n20, hn20⟩ := and_e hn19
  obtain ⟨n21, hn21⟩ := and_e hn20
  obtain ⟨n22, hn22⟩ := and_e hn21
  obtain ⟨n23, hn23⟩ := and_e hn22
  obtain ⟨n24, hn24⟩ := and_e hn23
  obtain ⟨n25, hn25⟩ := and_e hn24
  obtain ⟨n26, hn26⟩ := and_e hn25
  obtain ⟨n27, hn27⟩ := and_e hn26
  obtain ⟨n28, hn28⟩ := and_e hn27
  obtain ⟨n29, hn29⟩ := and_e hn28
  obtain ⟨n30, hn30⟩ := and_e hn29
  obtain ⟨s_RequestType_VALUES, ev_s_RequestType_VALUES⟩ := arr_v n0
  obtain ⟨s_RequestType_ADD, ev_s_RequestType_ADD⟩ := exa_v n2
  obtain ⟨s_RequestType_READ, ev_s_RequestType_READ⟩ := exa_v n5
  obtain ⟨s_RequestType_STATS, ev_s_RequestType_STATS⟩ := exa_v n8
  obtain ⟨s_RequestType_FENCE, ev_s_RequestType_FENCE⟩ := exa_v n11
  obtain ⟨s_RequestType_RECOVERY_READ, ev_s_RequestType_RECOVERY_READ⟩ := exa_v n14
  obtain ⟨s_RequestType_RECOVERY_ADD, ev_s_RequestType_RECOVERY_ADD⟩ := exa_v n17
  obtain ⟨s_RequestType_READ_LAC, ev_s_RequestType_READ_LAC⟩ := exa_v n20
  obtain ⟨s_RequestType_WRITE_LAC, ev_s_RequestType_WRITE_LAC⟩ := exa_v n23
  obtain ⟨s_RequestType_WAIT_LAC, ev_s_RequestType_WAIT_LAC⟩ := exa_v n26
  obtain ⟨s_RequestType_READ_RANGE, ev_s_RequestType_READ_RANGE⟩ := exa_v n29
  obtain ⟨cl_s_RequestType_VALUES, Ar_s_RequestType_VALUES⟩ := Arr.start ev_s_RequestType_VALUES n0
  have E_s_RequestType_ADD : Exa s s.heap s_RequestType_ADD "com/example/hale_ledger/haleledger/protocol/RequestType" := Exa.start ev_s_RequestType_ADD n2
  have F_s_RequestType_ADD_code : Fld s s.heap s_RequestType_ADD "com/example/hale_ledger/haleledger/protocol/RequestType" "code" "I" (.int (1 : Int32)) := own_fld ev_s_RequestType_ADD (own_eq_int n4)
  have E_s_RequestType_READ : Exa s s.heap s_RequestType_READ "com/example/hale_ledger/haleledger/protocol/RequestType" := Exa.start ev_s_RequestType_READ n5
  have F_s_RequestType_READ_code : Fld s s.heap s_RequestType_READ "com/example/hale_ledger/haleledger/protocol/RequestType" "code" "I" (.int (2 : Int32)) := own_fld ev_s_RequestType_READ (own_eq_int n7)
  have E_s_RequestType_STATS : Exa s s.heap s_RequestType_STATS "com/example/hale_ledger/haleledger/protocol/RequestType" := Exa.start ev_s_RequestType_STATS n8
  have F_s_RequestType_STATS_code : Fld s s.heap s_RequestType_STATS "com/example/hale_ledger/haleledger/protocol/RequestType" "code" "I" (.int (3 : Int32)) := own_fld ev_s_RequestType_STATS (own_eq_int n10)
  have E_s_RequestType_FENCE : Exa s s.heap s_RequestType_FENCE "com/example/hale_ledger/haleledger/protocol/RequestType" := Exa.start ev_s_RequestType_FENCE n11
  have F_s_RequestType_FENCE_code : Fld s s.heap s_RequestType_FENCE "com/example/hale_ledger/haleledger/protocol/RequestType" "code" "I" (.int (4 : Int32)) := own_fld ev_s_RequestType_FENCE (own_eq_int n13)
  have E_s_RequestType_RECOVERY_READ : Exa s s.heap s_RequestType_RECOVERY_READ "com/example/hale_ledger/haleledger/protocol/RequestType" := Exa.start ev_s_RequestType_RECOVERY_READ n14
  have F_s_RequestType_RECOVERY_READ_code : Fld s s.heap s_RequestType_RECOVERY_READ "com/example/hale_ledger/haleledger/protocol/RequestType" "code" "I" (.int (5 : Int32)) := own_fld ev_s_RequestType_RECOVERY_READ (own_eq_int n16)
  have E_s_RequestType_RECOVERY_ADD : Exa s s.heap s_RequestType_RECOVERY_ADD "com/example/hale_ledger/haleledger/protocol/RequestType" := Exa.start ev_s_RequestType_RECOVERY_ADD n17
  have F_s_RequestType_RECOVERY_ADD_code : Fld s s.heap s_RequestType_RECOVERY_ADD "com/example/hale_ledger/haleledger/protocol/RequestType" "code" "I" (.int (6 : Int32)) := own_fld ev_s_RequestType_RECOVERY_ADD (own_eq_int n19)
  have E_s_RequestType_READ_LAC : Exa s s.heap s_RequestType_READ_LAC "com/example/hale_ledger/haleledger/protocol/RequestType" := Exa.start ev_s_RequestType_READ_LAC n20
  have F_s_RequestType_READ_LAC_code : Fld s s.heap s_RequestType_READ_LAC "com/example/hale_ledger/haleledger/protocol/RequestType" "code" "I" (.int (7 : Int32)) := own_fld ev_s_RequestType_READ_LAC (own_eq_int n22)
  have E_s_RequestType_WRITE_LAC : Exa s s.heap s_RequestType_WRITE_LAC "com/example/hale_ledger/haleledger/protocol/RequestType" := Exa.start ev_s_RequestType_WRITE_LAC n23
  have F_s_RequestType_WRITE_LAC_code : Fld s s.heap s_RequestType_WRITE_LAC "com/example/hale_ledger/haleledger/protocol/RequestType" "code" "I" (.int (8 : Int32)) := own_fld ev_s_RequestType_WRITE_LAC (own_eq_int n25)
  have E_s_RequestType_WAIT_LAC : Exa s s.heap s_RequestType_WAIT_LAC "com/example/hale_ledger/haleledger/protocol/RequestType" := Exa.start ev_s_RequestType_WAIT_LAC n26
  have F_s_RequestType_WAIT_LAC_code : Fld s s.heap s_RequestType_WAIT_LAC "com/example/hale_ledger/haleledger/protocol/RequestType" "code" "I" (.int (9 : Int32)) := own_fld ev_s_RequestType_WAIT_LAC (own_eq_int n28)
  have E_s_RequestType_READ_RANGE : Exa s s.heap s_RequestType_READ_RANGE "com/example/hale_ledger/haleledger/protocol/RequestType" := Exa.start ev_s_RequestType_READ_RANGE n29
  have F_s_RequestType_READ_RANGE_code : Fld s s.heap s_RequestType_READ_RANGE "com/example/hale_ledger/haleledger/protocol/RequestType" "code" "I" (.int (10 : Int32)) := own_fld ev_s_RequestType_READ_RANGE (own_eq_int hn30)
  obtain ⟨lq_s_RequestType_VALUES, le_s_RequestType_VALUES⟩ := own_len ev_s_RequestType_VALUES Ar_s_RequestType_VALUES (own_eq_int n1)
  have V_s_RequestType_VALUES : Arv s s.heap s_RequestType_VALUES cl_s_RequestType_VALUES.cls (.object "com/example/hale_ledger/haleledger/protocol/RequestType") (10 : Int32) [(.ref s_RequestType_ADD), (.ref s_RequestType_READ), (.ref s_RequestType_STATS), (.ref s_RequestType_FENCE), (.ref s_RequestType_RECOVERY_READ), (.ref s_RequestType_RECOVERY_ADD), (.ref s_RequestType_READ_LAC), (.ref s_RequestType_WRITE_LAC), (.ref s_RequestType_WAIT_LAC), (.ref s_RequestType_READ_RANGE)] .null := Arv.start hfit Ar_s_RequestType_VALUES lq_s_RequestType_VALUES le_s_RequestType_VALUES (by decide) rfl ⟨(own_slot ev_s_RequestType_VALUES Ar_s_RequestType_VALUES (own_eq_ref n3 ev_s_RequestType_ADD)), (own_slot ev_s_RequestType_VALUES Ar_s_RequestType_VALUES (own_eq_ref n6 ev_s_RequestType_READ)), (own_slot ev_s_RequestType_VALUES Ar_s_RequestType_VALUES (own_eq_ref n9 ev_s_RequestType_STATS)), (own_slot ev_s_RequestType_VALUES Ar_s_RequestType_VALUES (own_eq_ref n12 ev_s_RequestType_FENCE)), (own_slot ev_s_RequestType_VALUES Ar_s_RequestType_VALUES (own_eq_ref n15 ev_s_RequestType_RECOVERY_READ)), (own_slot ev_s_RequestType_VALUES Ar_s_RequestType_VALUES (own_eq_ref n18 ev_s_RequestType_RECOVERY_ADD)), (own_slot ev_s_RequestType_VALUES Ar_s_RequestType_VALUES (own_eq_ref n21 ev_s_RequestType_READ_LAC)), (own_slot ev_s_RequestType_VALUES Ar_s_RequestType_VALUES (own_eq_ref n24 ev_s_RequestType_WRITE_LAC)), (own_slot ev_s_RequestType_VALUES Ar_s_RequestType_VALUES (own_eq_ref n27 ev_s_RequestType_WAIT_LAC)), (own_slot ev_s_RequestType_VALUES Ar_s_RequestType_VALUES (own_eq_ref n30 ev_s_RequestType_READ_RANGE)), trivial⟩
  obtain ⟨n, o, h1, h2, h3, _, L, rfl, ⟨rfl, N⟩, hq⟩ := rm13 l s _ hw tables_1 i0 i1 s_RequestType_VALUES cl_s_RequestType_VALUES.cls s_RequestType_ADD s_RequestType_READ s_RequestType_STATS s_RequestType_FENCE s_RequestType_RECOVERY_READ s_RequestType_RECOVERY_ADD s_RequestType_READ_LAC s_RequestType_WRITE_LAC s_RequestType_WAIT_LAC s_RequestType_READ_RANGE s.heap s.heap.size (Nat.le_refl _) (Sta.start ev_s_RequestType_VALUES (Or.inr ⟨(hw _ (List.mem_of_getElem? (i := 2) rfl)), (hw _ (List.mem_of_getElem? (i := 5) rfl))⟩)) V_s_RequestType_VALUES F_s_RequestType_ADD_code F_s_RequestType_READ_code F_s_RequestType_STATS_code F_s_RequestType_FENCE_code F_s_RequestType_RECOVERY_READ_code F_s_RequestType_RECOVERY_ADD_code F_s_RequestType_READ_LAC_code F_s_RequestType_WRITE_LAC_code F_s_RequestType_WAIT_LAC_code F_s_RequestType_READ_RANGE_code (Sta.start ev_s_RequestType_ADD (Or.inr ⟨(hw _ (List.mem_of_getElem? (i := 2) rfl)), (hw _ (List.mem_of_getElem? (i := 6) rfl))⟩)) (Sta.start ev_s_RequestType_READ (Or.inr ⟨(hw _ (List.mem_of_getElem? (i := 2) rfl)), (hw _ (List.mem_of_getElem? (i := 9) rfl))⟩)) (Sta.start ev_s_RequestType_STATS (Or.inr ⟨(hw _ (List.mem_of_getElem? (i := 2) rfl)), (hw _ (List.mem_of_getElem? (i := 10) rfl))⟩)) (Sta.start ev_s_RequestType_FENCE (Or.inr ⟨(hw _ (List.mem_of_getElem? (i := 2) rfl)), (hw _ (List.mem_of_getElem? (i := 11) rfl))⟩)) (Sta.start ev_s_RequestType_RECOVERY_READ (Or.inr ⟨(hw _ (List.mem_of_getElem? (i := 2) rfl)), (hw _ (List.mem_of_getElem? (i := 12) rfl))⟩)) (Sta.start ev_s_RequestType_RECOVERY_ADD (Or.inr ⟨(hw _ (List.mem_of_getElem? (i := 2) rfl)), (hw _ (List.mem_of_getElem? (i := 13) rfl))⟩)) (Sta.start ev_s_RequestType_READ_LAC (Or.inr ⟨(hw _ (List.mem_of_getElem? (i := 2) rfl)), (hw _ (List.mem_of_getElem? (i := 14) rfl))⟩)) (Sta.start ev_s_RequestType_WRITE_LAC (Or.inr ⟨(hw _ (List.mem_of_getElem? (i := 2) rfl)), (hw _ (List.mem_of_getElem? (i := 15) rfl))⟩)) (Sta.start ev_s_RequestType_WAIT_LAC (Or.inr ⟨(hw _ (List.mem_of_getElem? (i := 2) rfl)), (hw _ (List.mem_of_getElem? (i := 16) rfl))⟩)) (Sta.start ev_s_RequestType_READ_RANGE (Or.inr ⟨(hw _ (List.mem_of_getElem? (i := 2) rfl)), (hw _ (List.mem_of_getElem? (i := 17) rfl))⟩)) E_s_RequestType_ADD E_s_RequestType_READ E_s_RequestType_STATS E_s_RequestType_FENCE E_s_RequestType_RECOVERY_READ E_s_RequestType_RECOVERY_ADD E_s_RequestType_READ_LAC E_s_RequestType_WRITE_LAC E_s_RequestType_WAIT_LAC E_s_RequestType_READ_RANGE p e ha hc hk s m _ below hf ((Spec.applies_iff_loose hf).mp happ).1 ⟨rfl, State.Warmed39.refl s, rfl⟩ trivial
  refine ⟨n, _, h1, h2, h3, hpost _ _ _ _ _ _ ⟨Cond.after_iff.mpr rfl, Cond.after_iff.mpr (eq_i res_at (Term.int_eval (1)) rfl), trivial⟩ ⟨hq.1, hq.2.1, (hq.2.2.sift fun y hy => Or.inr (N y hy)).mono (by decide) (by decide)⟩⟩
theorem main_1_1 : Claimed_1_1 := comes_1 fun _ _ _ _ _ _ h hF => ⟨h.1, hF⟩
theorem main_1_2 : Claimed_1_2 := comes_1 fun _ _ _ _ _ _ h hF => ⟨h.2.1, hF⟩
end Jvm.Pilot.@@N@@
namespace Jvm.Pilot.@@N@@
open Jvm Jvm.ClassFile Sem Op Lib Jvm.Free Jvm.Stand Jvm.Pilot.@@N@@.Jvm.D
/-! MADE BY PROGRAM (witnessworld.py) out of the Statement's table words and the real class files: 13 classes; the members and pool entries that the words name. The judged class is class 1, her method 2. -/
namespace start1
open Jvm.ClassFile
def u (s : String) : CpInfo := .utf8 (stringToUtf16 s)
/-- a pool by its gaps: so many unusable entries, then the entry; so many at the end -/
def gap : Nat → List CpInfo → List CpInfo
  | 0, r => r
  | n + 1, r => .unusable :: gap n r
def poolList (es : List (Nat × CpInfo)) (last : Nat) : List CpInfo := es.foldr (fun e r => gap e.1 (e.2 :: r)) (gap last [])
def pool (es : List (Nat × CpInfo)) (last : Nat) : Array CpInfo := ⟨poolList es last⟩
def fileOf (pool : Array CpInfo) (this : Nat) (attrs : Array Attribute := #[]) (ms : Array MethodInfo := #[]) (fl : Nat := 33) (sup : Nat := 0) (ifs : Array Nat := #[]) (fds : Array FieldInfo := #[]) : ClassFile where
  minorVersion := 0
  majorVersion := 65
  constantPool := pool
  accessFlags := fl
  thisClass := this
  superClass := sup
  interfaces := ifs
  fields := fds
  methods := ms
  attributes := attrs
def plain (name : String) (sup : Option ClassId) : Class where
  name := name
  kind := .ordinary
  loader := none
  accessFlags := 33
  super := sup
  interfaces := #[]
  cf := none
  fields := #[]
  methods := #[]
  instanceTypes := #[]
  staticTypes := #[]
  resolved := #[]
  callSites := []
  init := .initialized
  statics := none
  mirror := none

def pool0 : Array CpInfo := pool [(5, u "<init>"), (0, u "()V"), (1, .class_ 10), (1, u "java/lang/Object")] 113

def k0m0 : Method := { name := "<init>", desc := "()V", sig := { parameters := [], returnType := none }, accessFlags := 1, code := none }
/-- java/lang/Object -/
def k0 : Class := { plain "java/lang/Object" none with
  accessFlags := 33
  interfaces := #[]
  cf := some (fileOf pool0 8 #[] #[{ accessFlags := 1, nameIndex := 5, descriptorIndex := 6, attributes := #[] }] 33 0 #[] #[])
  fields := #[]
  methods := #[k0m0]
  instanceTypes := #[]
  staticTypes := #[]
  resolved := Array.replicate 124 none
  statics := none }

def pool1 : Array CpInfo := pool [(2, .class_ 4), (1, u "java/lang/Object"), (0, u "<init>"), (0, u "()V"), (0, .fieldref 8 9), (0, .class_ 10), (0, .nameAndType 11 12), (0, u "com/example/hale_ledger/haleledger/protocol/RequestType"), (0, u "ADD"), (0, u "Lcom/example/hale_ledger/haleledger/protocol/RequestType;"), (0, .fieldref 8 14), (0, .nameAndType 15 12), (0, u "READ"), (0, .fieldref 8 17), (0, .nameAndType 18 12), (0, u "STATS"), (0, .fieldref 8 20), (0, .nameAndType 21 12), (0, u "FENCE"), (0, .fieldref 8 23), (0, .nameAndType 24 12), (0, u "RECOVERY_READ"), (0, .fieldref 8 26), (0, .nameAndType 27 12), (0, u "RECOVERY_ADD"), (0, .fieldref 8 29), (0, .nameAndType 30 12), (0, u "READ_LAC"), (0, .fieldref 8 32), (0, .nameAndType 33 12), (0, u "WRITE_LAC"), (0, .fieldref 8 35), (0, .nameAndType 36 12), (0, u "WAIT_LAC"), (0, .fieldref 8 38), (0, .nameAndType 39 12), (0, u "READ_RANGE"), (0, .methodref 8 41), (0, .nameAndType 42 43), (0, u "ofCode"), (0, u "(I)Lcom/example/hale_ledger/haleledger/protocol/RequestType;"), (0, .methodref 45 46), (0, .class_ 47), (0, .nameAndType 48 43), (0, u "com/example/hale_ledger/haleledger/protocol/RequestTypeOfCodePinLaw"), (0, u "expected"), (0, .methodref 8 50), (0, .nameAndType 51 52), (0, u "code"), (0, u "()I"), (3, u "law"), (0, u "(II)Z")] 2

def k1m0 : Method := { name := "<init>", desc := "()V", sig := { parameters := [], returnType := none }, accessFlags := 1, code := none }
def k1c1 : Code := { maxStack := 2, maxLocals := 1, code := method_2_code, exceptionTable := #[], attributes := #[] }
def k1m1 : Method := { name := "expected", desc := "(I)Lcom/example/hale_ledger/haleledger/protocol/RequestType;", sig := { parameters := [.int], returnType := some (.object "com/example/hale_ledger/haleledger/protocol/RequestType") }, accessFlags := 10, code := some k1c1 }
def k1c2 : Code := { maxStack := 2, maxLocals := 5, code := code, exceptionTable := #[], attributes := #[] }
def k1m2 : Method := { name := "law", desc := "(II)Z", sig := { parameters := [.int, .int], returnType := some .boolean }, accessFlags := 9, code := some k1c2 }
/-- com/example/hale_ledger/haleledger/protocol/RequestTypeOfCodePinLaw -/
def k1 : Class := { plain "com/example/hale_ledger/haleledger/protocol/RequestTypeOfCodePinLaw" (some 0) with
  accessFlags := 49
  interfaces := #[]
  cf := some (fileOf pool1 45 #[] #[{ accessFlags := 1, nameIndex := 5, descriptorIndex := 6, attributes := #[] }, { accessFlags := 10, nameIndex := 48, descriptorIndex := 43, attributes := #[] }, { accessFlags := 9, nameIndex := 56, descriptorIndex := 57, attributes := #[] }] 49 2 #[] #[])
  fields := #[]
  methods := #[k1m0, k1m1, k1m2]
  instanceTypes := #[]
  staticTypes := #[]
  resolved := Array.replicate 60 none
  statics := none }

def pool2 : Array CpInfo := pool [(1, .class_ 2), (0, u "java/lang/constant/Constable"), (0, .class_ 4), (0, u "java/lang/Object")] 6

/-- java/lang/constant/Constable -/
def k2 : Class := { plain "java/lang/constant/Constable" (some 0) with
  accessFlags := 1537
  interfaces := #[]
  cf := some (fileOf pool2 1 #[] #[] 1537 3 #[] #[])
  fields := #[]
  methods := #[]
  instanceTypes := #[]
  staticTypes := #[]
  resolved := Array.replicate 11 none
  statics := none }

def pool3 : Array CpInfo := pool [(1, .class_ 2), (0, u "java/lang/Comparable"), (0, .class_ 4), (0, u "java/lang/Object")] 7

/-- java/lang/Comparable -/
def k3 : Class := { plain "java/lang/Comparable" (some 0) with
  accessFlags := 1537
  interfaces := #[]
  cf := some (fileOf pool3 1 #[] #[] 1537 3 #[] #[])
  fields := #[]
  methods := #[]
  instanceTypes := #[]
  staticTypes := #[]
  resolved := Array.replicate 12 none
  statics := none }

def pool4 : Array CpInfo := pool [(1, .class_ 2), (0, u "java/io/Serializable"), (0, .class_ 4), (0, u "java/lang/Object")] 2

/-- java/io/Serializable -/
def k4 : Class := { plain "java/io/Serializable" (some 0) with
  accessFlags := 1537
  interfaces := #[]
  cf := some (fileOf pool4 1 #[] #[] 1537 3 #[] #[])
  fields := #[]
  methods := #[]
  instanceTypes := #[]
  staticTypes := #[]
  resolved := Array.replicate 7 none
  statics := none }

def pool5 : Array CpInfo := pool [(2, .class_ 4), (1, u "java/lang/Enum"), (0, u "name"), (0, u "Ljava/lang/String;"), (2, u "ordinal"), (0, u "I"), (1, .class_ 14), (1, u "java/lang/Object"), (4, u "hash"), (86, .class_ 108), (1, u "java/lang/Enum$EnumDesc"), (2, .class_ 112), (0, u "java/lang/constant/Constable"), (0, .class_ 114), (0, u "java/lang/Comparable"), (0, .class_ 116), (0, u "java/io/Serializable")] 87

/-- java/lang/Enum -/
def k5 : Class := { plain "java/lang/Enum" (some 0) with
  accessFlags := 1057
  interfaces := #[2, 3, 4]
  cf := some (fileOf pool5 2 #[.nestMembers #[106]] #[] 1057 12 #[111, 113, 115] #[{ accessFlags := 18, nameIndex := 5, descriptorIndex := 6, attributes := #[] }, { accessFlags := 18, nameIndex := 9, descriptorIndex := 10, attributes := #[] }, { accessFlags := 2, nameIndex := 19, descriptorIndex := 10, attributes := #[] }])
  fields := #[{ name := "name", type := (.object "java/lang/String"), accessFlags := 18, slot := 0, constantValue := 0 }, { name := "ordinal", type := .int, accessFlags := 18, slot := 1, constantValue := 0 }, { name := "hash", type := .int, accessFlags := 2, slot := 2, constantValue := 0 }]
  methods := #[]
  instanceTypes := #[(.object "java/lang/String"), .int, .int]
  staticTypes := #[]
  resolved := Array.replicate 204 none
  statics := none }

def pool6 : Array CpInfo := pool [(1, .class_ 2), (0, u "com/example/hale_ledger/haleledger/protocol/RequestType"), (2, u "ADD"), (0, u "Lcom/example/hale_ledger/haleledger/protocol/RequestType;"), (2, u "READ"), (2, u "STATS"), (2, u "FENCE"), (2, u "RECOVERY_READ"), (2, u "RECOVERY_ADD"), (2, u "READ_LAC"), (2, u "WRITE_LAC"), (2, u "WAIT_LAC"), (2, u "READ_RANGE"), (2, u "$VALUES"), (0, u "[Lcom/example/hale_ledger/haleledger/protocol/RequestType;"), (6, .class_ 46), (1, u "java/lang/Enum"), (6, .fieldref 1 54), (0, .nameAndType 55 56), (0, u "code"), (0, u "I"), (2, u "responsePayload"), (0, u "Z"), (0, .class_ 62), (0, u "com/example/hale_ledger/haleledger/protocol/RequestType$Field"), (12, u "fields"), (0, u "Ljava/util/Set;"), (14, .fieldref 1 92), (0, .nameAndType 93 37), (0, u "VALUES"), (44, u "()I"), (3, u "ofCode"), (0, u "(I)Lcom/example/hale_ledger/haleledger/protocol/RequestType;")] 8

def k6c0 : Code := { maxStack := 1, maxLocals := 1, code := prog_30_method_4_code, exceptionTable := #[], attributes := #[] }
def k6m0 : Method := { name := "code", desc := "()I", sig := { parameters := [], returnType := some .int }, accessFlags := 1, code := some k6c0 }
def k6c1 : Code := { maxStack := 2, maxLocals := 6, code := prog_30_method_8_code, exceptionTable := #[], attributes := #[] }
def k6m1 : Method := { name := "ofCode", desc := "(I)Lcom/example/hale_ledger/haleledger/protocol/RequestType;", sig := { parameters := [.int], returnType := some (.object "com/example/hale_ledger/haleledger/protocol/RequestType") }, accessFlags := 9, code := some k6c1 }
/-- com/example/hale_ledger/haleledger/protocol/RequestType -/
def k6 : Class := { plain "com/example/hale_ledger/haleledger/protocol/RequestType" (some 5) with
  accessFlags := 16433
  interfaces := #[]
  cf := some (fileOf pool6 1 #[.nestMembers #[61]] #[{ accessFlags := 1, nameIndex := 55, descriptorIndex := 138, attributes := #[] }, { accessFlags := 9, nameIndex := 142, descriptorIndex := 143, attributes := #[] }] 16433 44 #[] #[{ accessFlags := 16409, nameIndex := 5, descriptorIndex := 6, attributes := #[] }, { accessFlags := 16409, nameIndex := 9, descriptorIndex := 6, attributes := #[] }, { accessFlags := 16409, nameIndex := 12, descriptorIndex := 6, attributes := #[] }, { accessFlags := 16409, nameIndex := 15, descriptorIndex := 6, attributes := #[] }, { accessFlags := 16409, nameIndex := 18, descriptorIndex := 6, attributes := #[] }, { accessFlags := 16409, nameIndex := 21, descriptorIndex := 6, attributes := #[] }, { accessFlags := 16409, nameIndex := 24, descriptorIndex := 6, attributes := #[] }, { accessFlags := 16409, nameIndex := 27, descriptorIndex := 6, attributes := #[] }, { accessFlags := 16409, nameIndex := 30, descriptorIndex := 6, attributes := #[] }, { accessFlags := 16409, nameIndex := 33, descriptorIndex := 6, attributes := #[] }, { accessFlags := 26, nameIndex := 93, descriptorIndex := 37, attributes := #[] }, { accessFlags := 18, nameIndex := 55, descriptorIndex := 56, attributes := #[] }, { accessFlags := 18, nameIndex := 59, descriptorIndex := 60, attributes := #[] }, { accessFlags := 18, nameIndex := 75, descriptorIndex := 76, attributes := #[] }, { accessFlags := 4122, nameIndex := 36, descriptorIndex := 37, attributes := #[] }])
  fields := #[{ name := "ADD", type := (.object "com/example/hale_ledger/haleledger/protocol/RequestType"), accessFlags := 16409, slot := 0, constantValue := 0 }, { name := "READ", type := (.object "com/example/hale_ledger/haleledger/protocol/RequestType"), accessFlags := 16409, slot := 1, constantValue := 0 }, { name := "STATS", type := (.object "com/example/hale_ledger/haleledger/protocol/RequestType"), accessFlags := 16409, slot := 2, constantValue := 0 }, { name := "FENCE", type := (.object "com/example/hale_ledger/haleledger/protocol/RequestType"), accessFlags := 16409, slot := 3, constantValue := 0 }, { name := "RECOVERY_READ", type := (.object "com/example/hale_ledger/haleledger/protocol/RequestType"), accessFlags := 16409, slot := 4, constantValue := 0 }, { name := "RECOVERY_ADD", type := (.object "com/example/hale_ledger/haleledger/protocol/RequestType"), accessFlags := 16409, slot := 5, constantValue := 0 }, { name := "READ_LAC", type := (.object "com/example/hale_ledger/haleledger/protocol/RequestType"), accessFlags := 16409, slot := 6, constantValue := 0 }, { name := "WRITE_LAC", type := (.object "com/example/hale_ledger/haleledger/protocol/RequestType"), accessFlags := 16409, slot := 7, constantValue := 0 }, { name := "WAIT_LAC", type := (.object "com/example/hale_ledger/haleledger/protocol/RequestType"), accessFlags := 16409, slot := 8, constantValue := 0 }, { name := "READ_RANGE", type := (.object "com/example/hale_ledger/haleledger/protocol/RequestType"), accessFlags := 16409, slot := 9, constantValue := 0 }, { name := "VALUES", type := (.array (.object "com/example/hale_ledger/haleledger/protocol/RequestType")), accessFlags := 26, slot := 10, constantValue := 0 }, { name := "code", type := .int, accessFlags := 18, slot := 3, constantValue := 0 }, { name := "responsePayload", type := .boolean, accessFlags := 18, slot := 4, constantValue := 0 }, { name := "fields", type := (.object "java/util/Set"), accessFlags := 18, slot := 5, constantValue := 0 }, { name := "$VALUES", type := (.array (.object "com/example/hale_ledger/haleledger/protocol/RequestType")), accessFlags := 4122, slot := 11, constantValue := 0 }]
  methods := #[k6m0, k6m1]
  instanceTypes := #[(.object "java/lang/String"), .int, .int, .int, .boolean, (.object "java/util/Set")]
  staticTypes := #[(.object "com/example/hale_ledger/haleledger/protocol/RequestType"), (.object "com/example/hale_ledger/haleledger/protocol/RequestType"), (.object "com/example/hale_ledger/haleledger/protocol/RequestType"), (.object "com/example/hale_ledger/haleledger/protocol/RequestType"), (.object "com/example/hale_ledger/haleledger/protocol/RequestType"), (.object "com/example/hale_ledger/haleledger/protocol/RequestType"), (.object "com/example/hale_ledger/haleledger/protocol/RequestType"), (.object "com/example/hale_ledger/haleledger/protocol/RequestType"), (.object "com/example/hale_ledger/haleledger/protocol/RequestType"), (.object "com/example/hale_ledger/haleledger/protocol/RequestType"), (.array (.object "com/example/hale_ledger/haleledger/protocol/RequestType")), (.array (.object "com/example/hale_ledger/haleledger/protocol/RequestType"))]
  resolved := Array.replicate 152 none
  statics := some 0 }

def pool7 : Array CpInfo := pool [(1, u "java/lang/Cloneable"), (0, .class_ 1), (0, u "java/lang/Object"), (0, .class_ 3)] 3

/-- java/lang/Cloneable -/
def k7 : Class := { plain "java/lang/Cloneable" (some 0) with
  accessFlags := 1537
  interfaces := #[]
  cf := some (fileOf pool7 2 #[] #[] 1537 4 #[] #[])
  fields := #[]
  methods := #[]
  instanceTypes := #[]
  staticTypes := #[]
  resolved := Array.replicate 8 none
  statics := none }

/-- the primitive byte -/
def k8 : Class := { plain "byte" none with kind := .primitive 'B', accessFlags := 0x411 }
/-- [B -/
def k9 : Class := { plain "[B" (some 0) with kind := .array 8 .byte, interfaces := #[7, 4], accessFlags := 1041 }

/-- the primitive int -/
def k10 : Class := { plain "int" none with kind := .primitive 'I', accessFlags := 0x411 }
/-- [I -/
def k11 : Class := { plain "[I" (some 0) with kind := .array 10 .int, interfaces := #[7, 4], accessFlags := 1041 }

/-- [Lcom/example/hale_ledger/haleledger/protocol/RequestType; -/
def k12 : Class := { plain "[Lcom/example/hale_ledger/haleledger/protocol/RequestType;" (some 0) with kind := .array 6 (.object "com/example/hale_ledger/haleledger/protocol/RequestType"), interfaces := #[7, 4], accessFlags := 1041 }

def heap : Heap := #[{ cls := 6, slots := #[.ref 2, .ref 3, .ref 4, .ref 5, .ref 6, .ref 7, .ref 8, .ref 9, .ref 10, .ref 11, .ref 1, .null], vm := .statics 6 },
  { cls := 12, slots := #[.ref 2, .ref 3, .ref 4, .ref 5, .ref 6, .ref 7, .ref 8, .ref 9, .ref 10, .ref 11], vm := .none },
  { cls := 6, slots := #[.null, .int 0, .int 0, .int 1, .int 0, .null], vm := .none },
  { cls := 6, slots := #[.null, .int 1, .int 0, .int 2, .int 0, .null], vm := .none },
  { cls := 6, slots := #[.null, .int 2, .int 0, .int 3, .int 0, .null], vm := .none },
  { cls := 6, slots := #[.null, .int 3, .int 0, .int 4, .int 0, .null], vm := .none },
  { cls := 6, slots := #[.null, .int 4, .int 0, .int 5, .int 0, .null], vm := .none },
  { cls := 6, slots := #[.null, .int 5, .int 0, .int 6, .int 0, .null], vm := .none },
  { cls := 6, slots := #[.null, .int 6, .int 0, .int 7, .int 0, .null], vm := .none },
  { cls := 6, slots := #[.null, .int 7, .int 0, .int 8, .int 0, .null], vm := .none },
  { cls := 6, slots := #[.null, .int 8, .int 0, .int 9, .int 0, .null], vm := .none },
  { cls := 6, slots := #[.null, .int 9, .int 0, .int 10, .int 0, .null], vm := .none }]
def classes : Array Class := #[k0, k1, k2, k3, k4, k5, k6, k7, k8, k9, k10, k11, k12]
def interned : List (Array UInt16 × Addr) := []
def slotsUsed : Nat := 82
def theMethod : MethodId := ⟨1, 2⟩
def args0 : Array Value := #[.int 1, .int 2]
def aboutOver (below : List Frame) : State where
  vm := { classes := classes, interned := interned.toArray }
  heap := heap
  slotsUsed := slotsUsed
  threads := #[{ frames := .invoking theMethod args0 :: below }]
def below0 : List Frame := [.native { method := ⟨0, 0⟩, args := #[] }]
def about1 : State := aboutOver below0
def p0 : Program := .bare "" "" ""
def e0 : Env := launch0.env 0 0 0
theorem w_frames : about1.frames = Frame.invoking theMethod args0 :: below0 := rfl
set_option maxRecDepth 65536 in
theorem w_args : argsFit about1.vm theMethod args0 = true := by decide +kernel
set_option maxRecDepth 65536 in
theorem w_heap : heapFits about1 = true := by decide +kernel
set_option maxRecDepth 65536 in
theorem w_runnable : about1.curStatus? = some .runnable := by decide +kernel
set_option maxRecDepth 65536 in
theorem w_alone : about1.alone = true := by decide +kernel
set_option maxRecDepth 65536 in
theorem w_named : about1.methodNamed? x = some theMethod := by decide +kernel
set_option maxRecDepth 65536 in
theorem w_hears : about1.hears theMethod below0 = true := by decide +kernel
set_option maxRecDepth 65536 in
theorem w_ripe : about1.ripe theMethod args0 below0 = true := by decide +kernel
theorem w_running : about1.status = .running := rfl
set_option maxRecDepth 65536 in
theorem w_room : about1.hasRoom e0.platform room_1 = true :=
  launch0.hasRoom_least _ room_1 (by decide +kernel) (by decide +kernel) (by decide +kernel) (by decide +kernel) (by decide +kernel) (by decide +kernel)
theorem allAtoms_all (ts : List Jvm.Cond) (a : Array Jvm.Value) (st : Jvm.State) : (allAtoms ts).before a st = ts.all (fun c => c.before a st) := by
  induction ts with
  | nil => rfl
  | cons c t ih =>
    show (Jvm.Cond.and c (allAtoms t)).before a st = _
    rw [Jvm.Cond.before_and, ih, List.all_cons]
def words1 : List Jvm.Cond := Jvm.Cond.code x code maxLocals ret :: tables_1
/-- a 'code' word, met by the world's own term for the bytes: nothing is compared byte by byte -/
theorem code_word {y : MethodName} {bytes : ByteArray} {mx : Nat} {rt : Option FieldType} {a : Array Value} {s : State} {m : MethodId} {meth : Method} {c : Code} (h1 : s.methodNamed? y = some m) (h2 : s.vm.method? m = some meth) (h3 : meth.code = some c) (h4 : c.code = bytes)
    (h5 : (c.maxLocals == mx && c.exceptionTable.isEmpty && decide (c.maxStack ≤ mostOperands) && decide (meth.sig.returnType = rt) && !meth.locks && decide (parseMethodDescriptor y.desc = some meth.sig)) = true) : (Jvm.Cond.code y bytes mx rt).before a s = true := by
  simp only [Bool.and_eq_true, beq_iff_eq, Bool.not_eq_true', decide_eq_true_eq] at h5
  obtain ⟨⟨⟨⟨⟨g1, g2⟩, g3⟩, g4⟩, g5⟩, g6⟩ := h5
  simp [Cond.before, Cond.holds, Cond.value, h1, h2, h3, h4, g1, g2, g3, g4, g5, g6]
def isCode : Jvm.Cond → Bool
  | .code _ _ _ _ => true
  | _ => false
theorem all_split {L : List Jvm.Cond} {P : Jvm.Cond → Bool} (h1 : L.all (fun c => isCode c || P c) = true) (h2 : ∀ c ∈ L.filter isCode, P c = true) : L.all P = true := by
  refine List.all_eq_true.mpr fun c hc => ?_
  have h := List.all_eq_true.mp h1 c hc
  rcases Bool.eq_false_or_eq_true (isCode c) with hi | hi
  · exact h2 c (List.mem_filter.mpr ⟨hc, hi⟩)
  · simpa [hi] using h
set_option maxRecDepth 65536 in
theorem w_c0 : (Jvm.Cond.code x code maxLocals ret).before args0 about1 = true := code_word (m := ⟨1, 2⟩) (meth := k1m2) (c := k1c2) (by decide +kernel) rfl rfl rfl (by decide +kernel)
set_option maxRecDepth 65536 in
theorem w_c1 : (Jvm.Cond.code ({ cls := "com/example/hale_ledger/haleledger/protocol/RequestType", name := "ofCode", desc := "(I)Lcom/example/hale_ledger/haleledger/protocol/RequestType;" } : Jvm.MethodName) prog_30_method_8_code (6 : Nat) (Option.some (Jvm.ClassFile.FieldType.object "com/example/hale_ledger/haleledger/protocol/RequestType"))).before args0 about1 = true := code_word (m := ⟨6, 1⟩) (meth := k6m1) (c := k6c1) (by decide +kernel) rfl rfl rfl (by decide +kernel)
set_option maxRecDepth 65536 in
theorem w_c2 : (Jvm.Cond.code ({ cls := "com/example/hale_ledger/haleledger/protocol/RequestTypeOfCodePinLaw", name := "expected", desc := "(I)Lcom/example/hale_ledger/haleledger/protocol/RequestType;" } : Jvm.MethodName) method_2_code (1 : Nat) (Option.some (Jvm.ClassFile.FieldType.object "com/example/hale_ledger/haleledger/protocol/RequestType"))).before args0 about1 = true := code_word (m := ⟨1, 1⟩) (meth := k1m1) (c := k1c1) (by decide +kernel) rfl rfl rfl (by decide +kernel)
set_option maxRecDepth 65536 in
theorem w_c3 : (Jvm.Cond.code ({ cls := "com/example/hale_ledger/haleledger/protocol/RequestType", name := "code", desc := "()I" } : Jvm.MethodName) prog_30_method_4_code (1 : Nat) (Option.some Jvm.ClassFile.FieldType.int)).before args0 about1 = true := code_word (m := ⟨6, 0⟩) (meth := k6m0) (c := k6c0) (by decide +kernel) rfl rfl rfl (by decide +kernel)
def codes1 : List Jvm.Cond := [Jvm.Cond.code x code maxLocals ret, Jvm.Cond.code ({ cls := "com/example/hale_ledger/haleledger/protocol/RequestType", name := "ofCode", desc := "(I)Lcom/example/hale_ledger/haleledger/protocol/RequestType;" } : Jvm.MethodName) prog_30_method_8_code (6 : Nat) (Option.some (Jvm.ClassFile.FieldType.object "com/example/hale_ledger/haleledger/protocol/RequestType")), Jvm.Cond.code ({ cls := "com/example/hale_ledger/haleledger/protocol/RequestTypeOfCodePinLaw", name := "expected", desc := "(I)Lcom/example/hale_ledger/haleledger/protocol/RequestType;" } : Jvm.MethodName) method_2_code (1 : Nat) (Option.some (Jvm.ClassFile.FieldType.object "com/example/hale_ledger/haleledger/protocol/RequestType")), Jvm.Cond.code ({ cls := "com/example/hale_ledger/haleledger/protocol/RequestType", name := "code", desc := "()I" } : Jvm.MethodName) prog_30_method_4_code (1 : Nat) (Option.some Jvm.ClassFile.FieldType.int)]
set_option maxRecDepth 65536 in
theorem codes_eq : words1.filter isCode = codes1 := rfl
theorem w_codes : ∀ c ∈ words1.filter isCode, c.before args0 about1 = true := by
  rw [codes_eq]
  intro c hc
  simp only [codes1, List.mem_cons, List.not_mem_nil, or_false] at hc
  rcases hc with rfl | rfl | rfl | rfl
  · exact w_c0
  · exact w_c1
  · exact w_c2
  · exact w_c3
set_option maxRecDepth 65536 in
theorem w_t1 : (words1.take 24).all (fun c => isCode c || c.before args0 about1) = true := by decide +kernel
set_option maxRecDepth 65536 in
theorem w_t2 : (words1.drop 24).all (fun c => isCode c || c.before args0 about1) = true := by decide +kernel
theorem w_tables : (allAtoms (Jvm.Cond.code x code maxLocals ret :: tables_1)).before args0 about1 = true := by
  rw [allAtoms_all]
  show words1.all (fun c => c.before args0 about1) = true
  refine all_split ?_ w_codes
  rw [← List.take_append_drop 24 words1, List.all_append, w_t1, w_t2]
  rfl
set_option maxRecDepth 65536 in
theorem w_case : (Jvm.Cond.and given_1 narrow_1).before args0 about1 = true := by decide +kernel
theorem w_applies : (headSpec (Jvm.Cond.code x code maxLocals ret :: tables_1) room_1).applies x e0.platform about1 = true :=
  (Spec.applies_iff w_frames).mpr ⟨w_running, w_runnable, w_alone, w_named, w_hears, w_ripe, w_room, w_tables⟩
theorem atStart : AtStart classFile x code maxLocals ret World_1 tables_1 room_1 Calls_1 rest_1 Pre_1 launch0 p0 e0 about1 theMethod args0 below0 :=
  ⟨lists_1, trivial, launch0.admits_env _ _ _, launch0.least_env, fairChoices_fair.cas, fairChoices_fair.clock, w_frames, w_args, w_heap, w_applies, trivial, trivial, w_case⟩
end start1
theorem witness_1 : WitnessClaimed_1 := ⟨start1.p0, start1.e0, start1.about1, start1.theMethod, start1.args0, start1.below0, start1.atStart⟩
end Jvm.Pilot.@@N@@
