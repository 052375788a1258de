import JvmDerived
import JvmDerived.Pilot.@@N@@Statement
import JvmDerived.Pilot.@@N@@Code
set_option linter.unusedVariables false
set_option linter.unusedSimpArgs false
namespace Jvm.RoadKit
open Sem ClassFile Op Lib Jvm.Stand Jvm.Free Jvm.LawKit
section New
variable {p : Program} {l : Launch} {e : Env} {R : Room} {s : State} {m : MethodId} {args : Array Value} {below : List Frame} {meth : Method} {c : Code} {T : State} {locs : List Loc} {cells slots : Nat}
theorem retI (X : Stand p l e R s m args below meth c T locs cells slots) (hx : p.tables.exec = Jvm.exec) {pc : Nat} {Ls : Array Slot} {z : Int32} {rest : List Value} (hret : meth.sig.returnType = some .int) (hd : decode c.code pc = .ok (.ireturn, 1)) {fs : List Frame}
    (hl : ∀ (f : JFrame) (acts : List Action), f.method = m → f.locked = none → f.entered = [] → (doReturn e (T.setTop f) acts (some (.int z))).1 = T.setFrames fs) : Steps p.tables e below (T.setTop (mkF m pc Ls (.int z :: rest))) (T.setFrames fs) := retOut X hx hret rfl (Or.inl ⟨rfl, Or.inl rfl, _, rfl⟩) hd hl
end New
end Jvm.RoadKit
namespace Jvm.Pilot.@@N@@
open Jvm Jvm.ClassFile Sem Op Lib Jvm.Free Jvm.Stand Jvm.LawKit Jvm.RoadKit Bundle Jvm.Pilot.@@N@@.Jvm.D
section OwnKit
variable {p : Program} {l : Launch} {e : Env} {R : Room} {s : State} {m : MethodId} {args : Array Value} {below : List Frame} {meth : Method} {c : Code} {T : State} {locs : List Loc} {cells slots : Nat} {Z : State} {a0 : Array Value} {h : Heap}
def Go (p : Program) (e : Env) (below : List Frame) (Q : Outcome → State → Prop) (S : State) : Prop := ∃ s₂ o, Steps p.tables e below S s₂ ∧ s₂.status = .running ∧ Ended s₂ below o ∧ Q o s₂
theorem Go.of {Q : Outcome → State → Prop} {S : State} (k : Go p e below Q S) : ∃ s₂ o, Steps p.tables e below S s₂ ∧ s₂.status = .running ∧ Ended s₂ below o ∧ Q o s₂ := k
theorem Go.st {Q : Outcome → State → Prop} {S S' : State} (h : ∀ t, Steps p.tables e below S' t → Steps p.tables e below S t) (k : Go p e below Q S') : Go p e below Q S := by
  obtain ⟨s2, o, h1, h2⟩ := k; exact ⟨s2, o, h _ h1, h2⟩
theorem Go.op {α : Type} {Q : Outcome → State → Prop} {S : State} {F : α → State} {x : α} (h : ∀ t, Steps p.tables e below (F x) t → Steps p.tables e below S t) (k : ∀ z, z = x → Go p e below Q (F z)) : Go p e below Q S := Go.st h (k x rfl)
theorem Go.join {α : Type} {Q : Outcome → State → Prop} {S : State} (C : α → Prop) (F : α → State) (k : ∀ r, C r → Go p e below Q (F r)) (j : (∀ r, C r → Go p e below Q (F r)) → Go p e below Q S) : Go p e below Q S := j k
theorem Go.joinT {α : Type} {Q : Outcome → State → Prop} {S : State} (X : Stand p l e R s m args below meth c T locs cells slots) (eT : T.heap = h) (C : α → Prop) (F : State → α → State) (k : ∀ T', Stand p l e R s m args below meth c T' locs cells slots → T'.heap = h → ∀ r, C r → Go p e below Q (F T' r)) (j : (∀ T', Stand p l e R s m args below meth c T' locs cells slots → T'.heap = h → ∀ r, C r → Go p e below Q (F T' r)) → Go p e below Q S) : Go p e below Q S := j k
theorem Go.loop {α : Type} {Q : Outcome → State → Prop} (I : Nat → α → Prop) (F : α → State) (k0 : Nat) (x0 : α) (h0 : I k0 x0) (step : ∀ k x, I k x → (∀ k' x', k' < k → I k' x' → Go p e below Q (F x')) → Go p e below Q (F x)) : Go p e below Q (F x0) := by
  have H : ∀ k x, I k x → Go p e below Q (F x) := by
    intro k
    induction k using Nat.strongRecOn with
    | _ k ih => intro x hx; exact step k x hx fun k' x' hk hx' => ih k' hk x' hx'
  exact H k0 x0 h0
theorem Go.ret {Qn : Option Value → Heap → List Loc → Prop} {rc rs : Nat} (X : Stand p l e R s m args below meth c T locs cells slots) {v : Option Value} (hv : meth.sig.returnType = none → v = none) (hlk : meth.locks = false) {f : JFrame}
    (st : ∀ fs, (∀ (f : JFrame) (acts : List Action), f.method = m → f.locked = none → f.entered = [] → (doReturn e (T.setTop f) acts v).1 = T.setFrames fs) → Steps p.tables e below (T.setTop f) (T.setFrames fs))
    (hc : cells ≤ rc) (hs : slots ≤ rs) (hQ : Qn v T.heap locs) : Go p e below (fun o U' => ∃ v L, o = .returned v ∧ Qn v U'.heap L ∧ FrameEnd s o U' L rc rs) (T.setTop f) := by
  obtain ⟨fs, hr, hrun, hended, hW, hsame⟩ := X.leave (v := v) hv hlk
  exact ⟨_, _, st fs hr, hrun, hended, v, locs, rfl, hQ, ⟨_, rfl⟩, hW, hsame.mono hc hs⟩
abbrev Con (l : Launch) (Z : State) (y : MethodName) (bytes : ByteArray) (maxL : Nat) (ret : Option FieldType) (ws : List Jvm.Cond) (rm : Room) (as' : Array Value) (h : Heap) (rc rs : Nat) (Q : Option Value → Heap → List Loc → Prop) : Prop :=
  MetFree l y (head1 (Jvm.Cond.code y bytes maxL ret :: ws) rm) (fun a U => a = as' ∧ Z.Warmed39 U.vm ∧ U.heap = h) (fun _ _ _ _ _ => True) (fun _ U o U' => ∃ v L, o = .returned v ∧ Q v U'.heap L ∧ FrameEnd U o U' L rc rs)
theorem own_eh {a : Addr} {cl : Cell} (eT : T.heap = h) (q : h[a]? = some cl) : T.heap[a]? = some cl := by rw [eT]; exact q
theorem own_callS {own : String} {index : Nat} {y : MethodName} {bytes : ByteArray} {maxL : Nat} {ret : Option FieldType} {rm : Room} {as' : Array Value} {Q : Option Value → Heap → List Loc → Prop} {W : Nat} {g : JFrame} {argsL rest : List Value}
    (X : Stand p l e R s m args below meth c T locs cells slots) (hx : p.tables.exec = Jvm.exec) (hZ : Z.Warmed39 s.vm) (eT : T.heap = h) (hown : s.vm.findClass own = some m.cls)
    (w1 : (Jvm.Cond.methodLink own index y).before a0 Z = true) (w2 : (Jvm.Cond.static y).before a0 Z = true) (w3 : (Jvm.Cond.initialized y.cls).before a0 Z = true) (w4 : (Jvm.Cond.code y bytes maxL ret).before a0 Z = true)
    (hy : y.cls ≠ "java/lang/invoke/MethodHandle" ∧ y.cls ≠ "java/lang/invoke/VarHandle")
    (hM : Con l Z y bytes maxL ret [] rm as' h rm.cells rm.slots Q)
    (hf : rm.frames + 1 ≤ R.frames) (hl : W + (maxL + 11) + rm.locals ≤ R.locals) (hc : cells + rm.cells ≤ R.cells) (hs : slots + rm.slots ≤ R.slots)
    (hg : g.method = m) (hsize : g.locals.size = c.maxLocals) (has : argsL.toArray = as') (hlen : ∀ sig, parseMethodDescriptor y.desc = some sig → argsL.length = sig.parameters.length)
    (hstack : g.stack = argsL.reverse ++ rest) (hW : 2 * g.monitorRoom + (rest.map fun v => v.category).sum ≤ W) (hdg : decode c.code g.pc = .ok (.invokestatic index, 3)) :
    ∃ v T' L, Stand p l e R s m args below meth c T' (locs ++ L) (cells + rm.cells) (slots + rm.slots) ∧ Q v T'.heap L ∧ ∀ target, Steps p.tables e below (T'.setTop { g with pc := g.pc + 3, stack := v.toList ++ rest }) target → Steps p.tables e below (T.setTop g) target := by
  obtain ⟨v, _, ⟨T', L', k', n'⟩, -, X', ⟨L, hQ, l', y', z'⟩, st⟩ := Jvm.LawKit.callS X hx (y := y) hown (mvT hZ w1) (mvT hZ w2) (mvT hZ w3) (mvT hZ w4) hy (backOf (W := W) hM hZ w4 w3 hf hl) (g := g) hg hsize (argsL := argsL) (rest := rest) hlen hstack hW hdg (fun _ _ => ⟨has, eT, hc, hs⟩)
  dsimp only [Pt.U, Pt.locs, Pt.cells, Pt.slots] at X' l' y' z' st hQ
  subst l' y' z'
  exact ⟨v, T', L, X', hQ, st⟩
theorem own_callI {own : String} {index : Nat} {y : MethodName} {bytes : ByteArray} {maxL : Nat} {rm : Room} {as' : Array Value} {Q : Option Value → Heap → List Loc → Prop} {W : Nat} {g : JFrame} {a : Addr} {argsL rest : List Value}
    (X : Stand p l e R s m args below meth c T locs cells slots) (hx : p.tables.exec = Jvm.exec) (hZ : Z.Warmed39 s.vm) (eT : T.heap = h) (hown : s.vm.findClass own = some m.cls) (hyn : y.name = "<init>")
    (w1 : (Jvm.Cond.methodLink own index y).before a0 Z = true) (w2 : (Jvm.Cond.instanceMethod y).before a0 Z = true) (w3 : (Jvm.Cond.initialized y.cls).before a0 Z = true) (w4 : (Jvm.Cond.code y bytes maxL none).before a0 Z = true)
    (hy : y.cls ≠ "java/lang/invoke/MethodHandle" ∧ y.cls ≠ "java/lang/invoke/VarHandle")
    (hM : Con l Z y bytes maxL none [] rm as' h rm.cells rm.slots Q)
    (hf : rm.frames + 1 ≤ R.frames) (hl : W + (maxL + 11) + rm.locals ≤ R.locals) (hc : cells + rm.cells ≤ R.cells) (hs : slots + rm.slots ≤ R.slots)
    (hg : g.method = m) (hsize : g.locals.size = c.maxLocals) (has : (Value.ref a :: argsL).toArray = as') (hlen : ∀ sig, parseMethodDescriptor y.desc = some sig → argsL.length = sig.parameters.length)
    (hstack : g.stack = argsL.reverse ++ .ref a :: rest) (hW : 2 * g.monitorRoom + (rest.map fun v => v.category).sum ≤ W) (hdg : decode c.code g.pc = .ok (.invokespecial index, 3)) :
    ∃ v T' L, Stand p l e R s m args below meth c T' (locs ++ L) (cells + rm.cells) (slots + rm.slots) ∧ Q v T'.heap L ∧ ∀ target, Steps p.tables e below (T'.setTop { g with pc := g.pc + 3, stack := v.toList ++ rest }) target → Steps p.tables e below (T.setTop g) target := by
  obtain ⟨v, _, ⟨T', L', k', n'⟩, -, X', ⟨L, hQ, l', y', z'⟩, st⟩ := X.specialBack hx (y := y) hyn hown (mvT hZ w1) (mvT hZ w2) (mvT hZ w4) hy (backOf (W := W) hM hZ w4 w3 hf hl) (g := g) hg hsize (Steps.refl _) (a := a) (argsL := argsL) (rest := rest) hlen hstack hW hdg (fun _ _ => ⟨has, eT, hc, hs⟩)
  dsimp only [Pt.U, Pt.locs, Pt.cells, Pt.slots] at X' l' y' z' st hQ
  subst l' y' z'
  exact ⟨v, T', L, X', hQ, fun _ k => st.trans k⟩
theorem own_callV {own C : String} {index : Nat} {y z : MethodName} {bytes : ByteArray} {maxL : Nat} {ret : Option FieldType} {rm : Room} {as' : Array Value} {Q : Option Value → Heap → List Loc → Prop} {W : Nat} {g : JFrame} {a : Addr} {argsL rest : List Value}
    (X : Stand p l e R s m args below meth c T locs cells slots) (hx : p.tables.exec = Jvm.exec) (hZ : Z.Warmed39 s.vm) (eT : T.heap = h) (hown : s.vm.findClass own = some m.cls)
    (w1 : (Jvm.Cond.methodLink own index y).before a0 Z = true) (w2 : (Jvm.Cond.declares y).before a0 Z = true) (nf : NotFace s y) (w5 : (Jvm.Cond.selects C y z).before a0 Z = true) (w6 : (Jvm.Cond.instanceMethod z).before a0 Z = true) (w3 : (Jvm.Cond.initialized z.cls).before a0 Z = true) (w4 : (Jvm.Cond.code z bytes maxL ret).before a0 Z = true)
    (hy : y.cls ≠ "java/lang/invoke/MethodHandle" ∧ y.cls ≠ "java/lang/invoke/VarHandle") (E : Exa Z h a C)
    (hM : Con l Z z bytes maxL ret [] rm as' h rm.cells rm.slots Q)
    (hf : rm.frames + 1 ≤ R.frames) (hl : W + (maxL + 11) + rm.locals ≤ R.locals) (hc : cells + rm.cells ≤ R.cells) (hs : slots + rm.slots ≤ R.slots)
    (hg : g.method = m) (hsize : g.locals.size = c.maxLocals) (has : (Value.ref a :: argsL).toArray = as') (hlen : ∀ sig, parseMethodDescriptor y.desc = some sig → argsL.length = sig.parameters.length)
    (hstack : g.stack = argsL.reverse ++ .ref a :: rest) (hW : 2 * g.monitorRoom + (rest.map fun v => v.category).sum ≤ W) (hdg : decode c.code g.pc = .ok (.invokevirtual index, 3)) :
    ∃ v T' L, Stand p l e R s m args below meth c T' (locs ++ L) (cells + rm.cells) (slots + rm.slots) ∧ Q v T'.heap L ∧ ∀ target, Steps p.tables e below (T'.setTop { g with pc := g.pc + 3, stack := v.toList ++ rest }) target → Steps p.tables e below (T.setTop g) target := by
  obtain ⟨cq, kq, qa, qb, qc⟩ := isOf hZ eT E
  obtain ⟨v, _, ⟨T', L', k', n'⟩, -, X', ⟨L, hQ, l', y', z'⟩, st⟩ := X.virtualBack hx (y := y) (z := z) hown (mvT hZ w1) (mvT hZ w2) nf (mvT hZ w5) (mvT hZ w6) hy (backOf (W := W) hM hZ w4 w3 hf hl) qa qc (g := g) hg hsize (Steps.refl _) (argsL := argsL) (rest := rest) hlen hstack hW hdg (fun _ _ => ⟨has, eT, hc, hs⟩)
  dsimp only [Pt.U, Pt.locs, Pt.cells, Pt.slots] at X' l' y' z' st hQ
  subst l' y' z'
  exact ⟨v, T', L, X', hQ, fun _ k => st.trans k⟩
theorem own_sta_keep {C n d : String} {w : Value} {h h' : Heap} {ws : List Addr} (F : Sta Z h C n d w) (K : Keep h h' ws) (q : ∀ x ∈ ws, ∃ cl : Cell, h[x]? = some cl ∧ cl.vm.isStatics = false) : Sta Z h' C n d w := by
  obtain ⟨cf, i, k, f, st, cell, h1, h2, h3, h4, h5, h6, h7⟩ := F
  refine ⟨cf, i, k, f, st, cell, h1, h2, h3, h4, K.2.1 st cell h5 fun z => ?_, h6, h7⟩
  obtain ⟨cl, q1, q2⟩ := q st z
  cases h5.symm.trans q1
  rw [h6] at q2; cases q2
theorem own_exa_plain {a : Addr} {C : String} {h : Heap} (F : Exa Z h a C) : ∃ cl : Cell, h[a]? = some cl ∧ cl.vm.isStatics = false := by
  obtain ⟨cell, k, h1, -, -, h4, -⟩ := F; exact ⟨cell, h1, h4⟩
theorem own_arv_plain {a : Addr} {k : ClassId} {ty : FieldType} {z : Int32} {vs : List Value} {dv : Value} {h : Heap} (F : Arv Z h a k ty z vs dv) : ∃ cl : Cell, h[a]? = some cl ∧ cl.vm.isStatics = false := by
  obtain ⟨cell, A, -⟩ := F; exact ⟨cell, A.1, A.plain⟩
theorem own_getR {own O n d : String} {index : Nat} {a : Addr} {v : Value} {g : JFrame} {rest : List Value} (X : Stand p l e R s m args below meth c T locs cells slots) (hx : p.tables.exec = Jvm.exec) (hZ : Z.Warmed39 s.vm) (hown : s.vm.findClass own = some m.cls)
    (w : (Jvm.Cond.fieldRef own index O n d).before a0 Z = true) (eT : T.heap = h) (F : Fld Z h a O n d v) (hg : g.method = m) (hs : g.stack = .ref a :: rest) (hd : decode c.code g.pc = .ok (.getfield index, 3)) :
    ∀ target, Steps p.tables e below (T.setTop { g with pc := g.pc + 3, stack := v :: rest }) target → Steps p.tables e below (T.setTop g) target := by
  have hU : Z.Warmed39 T.vm := wtrans hZ X.warmed
  have w2 := Cond.fieldRef_warmed39 hU w
  have hc : (Z.setVm T.vm).vm.findClass own = some m.cls := by
    show T.vm.findClass own = some m.cls
    rw [X.warmed.alike.findClass]; exact hown
  obtain ⟨c1, k1, i1, f1, hf1, hr⟩ := Cond.fieldRef_spec hc w2
  obtain ⟨cell, cf, k, i, f, h1, h2, h3, h4, -, -, h7⟩ := F
  obtain ⟨k', hi, -⟩ := State.fieldFound?_setVm (s := Z) hU.alike h2
  cases hi.symm.trans hf1
  intro t kk
  exact (X.getfieldR hx hg hr h3 hs (by rw [eT]; exact h1) h4 h7 hd (Steps.refl _)).trans kk
theorem own_callP {own C : String} {index : Nat} {y : MethodName} {bytes : ByteArray} {maxL : Nat} {ret : Option FieldType} {rm : Room} {as' : Array Value} {Q : Option Value → Heap → List Loc → Prop} {W : Nat} {g : JFrame} {a : Addr} {argsL rest : List Value}
    (X : Stand p l e R s m args below meth c T locs cells slots) (hx : p.tables.exec = Jvm.exec) (hZ : Z.Warmed39 s.vm) (eT : T.heap = h) (hown : s.vm.findClass own = some m.cls)
    (w1 : (Jvm.Cond.methodLink own index y).before a0 Z = true) (w2 : (Jvm.Cond.instanceMethod y).before a0 Z = true) (w5 : (Jvm.Cond.selects y.cls y y).before a0 Z = true) (w6 : (Jvm.Cond.privateMethod y).before a0 Z = true) (w3 : (Jvm.Cond.initialized y.cls).before a0 Z = true) (w4 : (Jvm.Cond.code y bytes maxL ret).before a0 Z = true)
    (hy : y.cls ≠ "java/lang/invoke/MethodHandle" ∧ y.cls ≠ "java/lang/invoke/VarHandle") (E : Exa Z h a C)
    (hM : Con l Z y bytes maxL ret [] rm as' h rm.cells rm.slots Q)
    (hf : rm.frames + 1 ≤ R.frames) (hl : W + (maxL + 11) + rm.locals ≤ R.locals) (hc : cells + rm.cells ≤ R.cells) (hs : slots + rm.slots ≤ R.slots)
    (hg : g.method = m) (hsize : g.locals.size = c.maxLocals) (has : (Value.ref a :: argsL).toArray = as') (hlen : ∀ sig, parseMethodDescriptor y.desc = some sig → argsL.length = sig.parameters.length)
    (hstack : g.stack = argsL.reverse ++ .ref a :: rest) (hW : 2 * g.monitorRoom + (rest.map fun v => v.category).sum ≤ W) (hdg : decode c.code g.pc = .ok (.invokevirtual index, 3)) :
    ∃ v T' L, Stand p l e R s m args below meth c T' (locs ++ L) (cells + rm.cells) (slots + rm.slots) ∧ Q v T'.heap L ∧ ∀ target, Steps p.tables e below (T'.setTop { g with pc := g.pc + 3, stack := v.toList ++ rest }) target → Steps p.tables e below (T.setTop g) target := by
  obtain ⟨cq, q1, q2⟩ := E.cell
  obtain ⟨v, _, ⟨T', L', k', n'⟩, -, X', ⟨L, hQ, l', y', z'⟩, st⟩ := X.privateBack hx (y := y) hown (mvT hZ w1) (mvT hZ w2) (mvT hZ w5) (Cond.privateMethod_at (mvP hZ w6 (args := #[]))) (mvT hZ w4) hy (backOf (W := W) hM hZ w4 w3 hf hl) (g := g) hg hsize (Steps.refl _) (a := a) (by rw [eT]; exact q1) q2 (argsL := argsL) (rest := rest) hlen hstack hW hdg (fun _ _ => ⟨has, eT, hc, hs⟩)
  dsimp only [Pt.U, Pt.locs, Pt.cells, Pt.slots] at X' l' y' z' st hQ
  subst l' y' z'
  exact ⟨v, T', L, X', hQ, fun _ k => st.trans k⟩
theorem own_callF {own C : String} {index count : Nat} {xi y : MethodName} {bytes : ByteArray} {maxL : Nat} {ret : Option FieldType} {rm : Room} {as' : Array Value} {Q : Option Value → Heap → List Loc → Prop} {W : Nat} {g : JFrame} {a : Addr} {argsL rest : List Value}
    (X : Stand p l e R s m args below meth c T locs cells slots) (hx : p.tables.exec = Jvm.exec) (hZ : Z.Warmed39 s.vm) (eT : T.heap = h) (hown : s.vm.findClass own = some m.cls)
    (w1 : (Jvm.Cond.methodLink own index xi).before a0 Z = true) (w2 : (Jvm.Cond.declares xi).before a0 Z = true) (w7 : (Jvm.Cond.interfaceMethod xi.cls xi.cls xi.name xi.desc).before args s = true) (w5 : (Jvm.Cond.selects C xi y).before a0 Z = true) (w6 : (Jvm.Cond.instanceMethod y).before a0 Z = true)
    (w8 : (Jvm.Cond.publicMethod y).before a0 Z = true) (w9 : (Jvm.Cond.unhidden C xi.name xi.desc).before a0 Z = true) (w10 : (Jvm.Cond.castable C xi.cls).before a0 Z = true) (w3 : (Jvm.Cond.initialized y.cls).before a0 Z = true) (w4 : (Jvm.Cond.code y bytes maxL ret).before a0 Z = true)
    (hy : xi.cls ≠ "java/lang/invoke/MethodHandle" ∧ xi.cls ≠ "java/lang/invoke/VarHandle") (E : Exa Z h a C)
    (hM : Con l Z y bytes maxL ret [] rm as' h rm.cells rm.slots Q)
    (hf : rm.frames + 1 ≤ R.frames) (hl : W + (maxL + 11) + rm.locals ≤ R.locals) (hc : cells + rm.cells ≤ R.cells) (hs : slots + rm.slots ≤ R.slots)
    (hg : g.method = m) (hsize : g.locals.size = c.maxLocals) (has : (Value.ref a :: argsL).toArray = as') (hlen : ∀ sig, parseMethodDescriptor xi.desc = some sig → argsL.length = sig.parameters.length)
    (hstack : g.stack = argsL.reverse ++ .ref a :: rest) (hW : 2 * g.monitorRoom + (rest.map fun v => v.category).sum ≤ W) (hdg : decode c.code g.pc = .ok (.invokeinterface index count, 5)) :
    ∃ v T' L, Stand p l e R s m args below meth c T' (locs ++ L) (cells + rm.cells) (slots + rm.slots) ∧ Q v T'.heap L ∧ ∀ target, Steps p.tables e below (T'.setTop { g with pc := g.pc + 5, stack := v.toList ++ rest }) target → Steps p.tables e below (T.setTop g) target := by
  obtain ⟨cq, kq, qa, qb, qc⟩ := isOf hZ eT E
  obtain ⟨v, _, ⟨T', L', k', n'⟩, -, X', ⟨L, hQ, l', y', z'⟩, st⟩ := X.interfaceBack hx (xi := xi) (y := y) hown (mvT hZ w1) (mvT hZ w2) w7 (mvT hZ w5) (mvT hZ w6) (mvT hZ w8) (mvT hZ w9) (mvT hZ w10) hy (backOf (W := W) hM hZ w4 w3 hf hl) qa qb qc (g := g) hg hsize (Steps.refl _) (argsL := argsL) (rest := rest) hlen hstack hW hdg (fun _ _ => ⟨has, eT, hc, hs⟩)
  dsimp only [Pt.U, Pt.locs, Pt.cells, Pt.slots] at X' l' y' z' st hQ
  subst l' y' z'
  exact ⟨v, T', L, X', hQ, fun _ k => st.trans k⟩
theorem own_ns_root {O K : String} {n : Nat} (w : (Jvm.Cond.noSuperclass O).before a0 Z = true) (wk : (Jvm.Cond.instantiable K n).before a0 Z = true) (hn : O ≠ K) : NS Z O K := by
  obtain ⟨c, k, h1, h2, h3, -, -⟩ := Cond.noSuperclass_spec w
  obtain ⟨t, kt, g1, -⟩ := Cond.instantiable_spec wk
  have ne := ids_ne h1 g1 hn
  refine ⟨c, t, h1, g1, fun fuel => ?_⟩
  cases fuel with
  | zero => rfl
  | succ f => simp [Vm.isSubclassAux, ne, h2, h3]
theorem own_ns_no {C S K : String} {n : Nat} (w : (Jvm.Cond.superclass C S).before a0 Z = true) (wk : (Jvm.Cond.instantiable K n).before a0 Z = true) (hN : NS Z C K) (hn : C ≠ K) : ∃ c t, Z.vm.findClass C = some c ∧ Z.vm.findClass K = some t ∧ Z.vm.assignable c t = false := by
  obtain ⟨c, t, h0, g0, n3⟩ := hN
  obtain ⟨p, k, kp, h1, h2, h3, h4, h5, -, h7⟩ := Cond.superclass_spec h0 w
  obtain ⟨t', kt, g1, g2, g3, g4, -⟩ := Cond.instantiable_spec wk
  cases g0.symm.trans g1
  have g7 : kt.isInterface = false := by
    cases hq : kt.isInterface
    · rfl
    · simp [hq] at g4
  have ne := ids_ne h0 g0 hn
  refine ⟨c, t, h0, g0, ?_⟩
  show Z.vm.assignableAux (255 + 1) c t = false
  simp [Vm.assignableAux, ne, h2, g2, h5, g3, g7, Vm.isSubclass, n3]
end OwnKit
section OwnStart
variable {args : Array Value} {Z : State}
theorem own_eq_int {t : Term} {k : Int32} (h : (Jvm.Cond.eq t (.int k)).value args Z none Z [] = some true) : t.eval args Z none [] Z = some (.int k) := by
  obtain ⟨a, b, h1, h2, h3, h4⟩ := cmp_v (Or.inl h)
  have hb : b = .int k := Option.some.inj (h2.symm.trans (Term.int_eval k))
  subst hb
  obtain ⟨z, rfl⟩ : ∃ z, a = .int z := h4
  have q : z = k := by simpa [Cond.value, h1, h2] using h
  rw [h1, q]
theorem own_eq_ref {t u : Term} {a : Addr} (h : (Jvm.Cond.eq t u).value args Z none Z [] = some true) (hu : u.eval args Z none [] Z = some (.ref a)) : t.eval args Z none [] Z = some (.ref a) := by
  obtain ⟨x, y, h1, h2, h3, h4⟩ := cmp_v (Or.inl h)
  have hb : y = .ref a := Option.some.inj (h2.symm.trans hu)
  subst hb
  obtain ⟨-, q⟩ : Value.isRef (.ref a) = true ∧ x.isRef = true := h4
  have e := eq_R (a := t) (b := u) h1 h2 q rfl
  rw [e] at h
  have r : x = .ref a := by simpa using h
  rw [h1, r]
theorem own_ne0 {t : Term} {z : Int32} (ht : t.eval args Z none [] Z = some (.int z)) (h : (Jvm.Cond.not (Jvm.Cond.eq t (.int 0))).value args Z none Z [] = some true) : z ≠ 0 := by
  have q := not_v h
  intro e
  subst e
  simp [Cond.value, ht, Term.eval] at q
theorem own_fld {t : Term} {C n d : String} {a : Addr} {v : Value} (ht : t.eval args Z none [] Z = some (.ref a)) (h : (Term.field t C n d).eval args Z none [] Z = some v) : Fld Z Z.heap a C n d v := Fld.start ((fld_at ht).symm.trans h)
theorem own_len {t : Term} {a : Addr} {c : Cell} {k : Int32} {ty : FieldType} (ht : t.eval args Z none [] Z = some (.ref a)) (A : Arr Z Z.heap a c ty) (h : (Term.length t).eval args Z none [] Z = some (.int k)) : c.slots.size < 2 ^ 31 ∧ c.slots.size.toInt32 = k := by
  have q : Z.arrayAt? a = some c := A.fin (Vm.Alike.refl _)
  by_cases hl : c.slots.size < 2 ^ 31
  · have e := (len_f (t := t) ht q hl).symm.trans h
    exact ⟨hl, by simpa using e⟩
  · exfalso
    have hl' : ¬ c.slots.size < 2147483648 := hl
    simp [Term.eval, ht, q, hl'] at h
theorem own_slot {t : Term} {a : Addr} {c : Cell} {ty : FieldType} {v : Value} {j : Int32} (ht : t.eval args Z none [] Z = some (.ref a)) (A : Arr Z Z.heap a c ty) (h : (Term.elem t (.int j)).eval args Z none [] Z = some v) : c.slots[j.toNatClampNeg]? = some v := (elem_in h ht (Term.int_eval j) A.1).2
end OwnStart
def ofV (p : Int32) (a0 a1 a2 a3 a4 a5 a6 : Addr) : Value := if p = 0 then .ref a0 else if p = 1 then .ref a1 else if p = 2 then .ref a2 else if p = 3 then .ref a3 else if p = 4 then .ref a4 else if p = 5 then .ref a5 else if p = 6 then .ref a6 else .null
theorem ofV_cases (p : Int32) (a0 a1 a2 a3 a4 a5 a6 : Addr) : ofV p a0 a1 a2 a3 a4 a5 a6 = .null ∨ ∃ a, ofV p a0 a1 a2 a3 a4 a5 a6 = .ref a := by
  unfold ofV; repeat' split
  all_goals first | exact Or.inr ⟨_, rfl⟩ | exact Or.inl rfl
theorem dmethod_2_code_0 : decode method_2_code 0 = .ok (.iload_n 0, 1) := by decide +kernel
theorem dmethod_2_code_1 : decode method_2_code 1 = .ok (.ifCond .ne 7, 3) := by decide +kernel
theorem dmethod_2_code_4 : decode method_2_code 4 = .ok (.getstatic 7, 3) := by decide +kernel
theorem dmethod_2_code_7 : decode method_2_code 7 = .ok (.areturn, 1) := by decide +kernel
theorem dmethod_2_code_8 : decode method_2_code 8 = .ok (.iload_n 0, 1) := by decide +kernel
theorem dmethod_2_code_9 : decode method_2_code 9 = .ok (.iconst 1, 1) := by decide +kernel
theorem dmethod_2_code_10 : decode method_2_code 10 = .ok (.if_icmp .ne 7, 3) := by decide +kernel
theorem dmethod_2_code_13 : decode method_2_code 13 = .ok (.getstatic 13, 3) := by decide +kernel
theorem dmethod_2_code_16 : decode method_2_code 16 = .ok (.areturn, 1) := by decide +kernel
theorem dmethod_2_code_17 : decode method_2_code 17 = .ok (.iload_n 0, 1) := by decide +kernel
theorem dmethod_2_code_18 : decode method_2_code 18 = .ok (.iconst 2, 1) := by decide +kernel
theorem dmethod_2_code_19 : decode method_2_code 19 = .ok (.if_icmp .ne 7, 3) := by decide +kernel
theorem dmethod_2_code_22 : decode method_2_code 22 = .ok (.getstatic 16, 3) := by decide +kernel
theorem dmethod_2_code_25 : decode method_2_code 25 = .ok (.areturn, 1) := by decide +kernel
theorem dmethod_2_code_26 : decode method_2_code 26 = .ok (.iload_n 0, 1) := by decide +kernel
theorem dmethod_2_code_27 : decode method_2_code 27 = .ok (.iconst 3, 1) := by decide +kernel
theorem dmethod_2_code_28 : decode method_2_code 28 = .ok (.if_icmp .ne 7, 3) := by decide +kernel
theorem dmethod_2_code_31 : decode method_2_code 31 = .ok (.getstatic 19, 3) := by decide +kernel
theorem dmethod_2_code_34 : decode method_2_code 34 = .ok (.areturn, 1) := by decide +kernel
theorem dmethod_2_code_35 : decode method_2_code 35 = .ok (.iload_n 0, 1) := by decide +kernel
theorem dmethod_2_code_36 : decode method_2_code 36 = .ok (.iconst 4, 1) := by decide +kernel
theorem dmethod_2_code_37 : decode method_2_code 37 = .ok (.if_icmp .ne 7, 3) := by decide +kernel
theorem dmethod_2_code_40 : decode method_2_code 40 = .ok (.getstatic 22, 3) := by decide +kernel
theorem dmethod_2_code_43 : decode method_2_code 43 = .ok (.areturn, 1) := by decide +kernel
theorem dmethod_2_code_44 : decode method_2_code 44 = .ok (.iload_n 0, 1) := by decide +kernel
theorem dmethod_2_code_45 : decode method_2_code 45 = .ok (.iconst 5, 1) := by decide +kernel
theorem dmethod_2_code_46 : decode method_2_code 46 = .ok (.if_icmp .ne 7, 3) := by decide +kernel
theorem dmethod_2_code_49 : decode method_2_code 49 = .ok (.getstatic 25, 3) := by decide +kernel
theorem dmethod_2_code_52 : decode method_2_code 52 = .ok (.areturn, 1) := by decide +kernel
theorem dmethod_2_code_53 : decode method_2_code 53 = .ok (.iload_n 0, 1) := by decide +kernel
theorem dmethod_2_code_54 : decode method_2_code 54 = .ok (.bipush 6, 2) := by decide +kernel
theorem dmethod_2_code_56 : decode method_2_code 56 = .ok (.if_icmp .ne 7, 3) := by decide +kernel
theorem dmethod_2_code_59 : decode method_2_code 59 = .ok (.getstatic 28, 3) := by decide +kernel
theorem dmethod_2_code_62 : decode method_2_code 62 = .ok (.areturn, 1) := by decide +kernel
theorem dmethod_2_code_63 : decode method_2_code 63 = .ok (.aconst_null, 1) := by decide +kernel
theorem dmethod_2_code_64 : decode method_2_code 64 = .ok (.areturn, 1) := by decide +kernel
theorem dprog_33_method_5_code_0 : decode prog_33_method_5_code 0 = .ok (.aconst_null, 1) := by decide +kernel
theorem dprog_33_method_5_code_1 : decode prog_33_method_5_code 1 = .ok (.astore_n 1, 1) := by decide +kernel
theorem dprog_33_method_5_code_2 : decode prog_33_method_5_code 2 = .ok (.getstatic 48, 3) := by decide +kernel
theorem dprog_33_method_5_code_5 : decode prog_33_method_5_code 5 = .ok (.astore_n 2, 1) := by decide +kernel
theorem dprog_33_method_5_code_6 : decode prog_33_method_5_code 6 = .ok (.aload_n 2, 1) := by decide +kernel
theorem dprog_33_method_5_code_7 : decode prog_33_method_5_code 7 = .ok (.arraylength, 1) := by decide +kernel
theorem dprog_33_method_5_code_8 : decode prog_33_method_5_code 8 = .ok (.istore_n 3, 1) := by decide +kernel
theorem dprog_33_method_5_code_9 : decode prog_33_method_5_code 9 = .ok (.iconst 0, 1) := by decide +kernel
theorem dprog_33_method_5_code_10 : decode prog_33_method_5_code 10 = .ok (.istore 4, 2) := by decide +kernel
theorem dprog_33_method_5_code_12 : decode prog_33_method_5_code 12 = .ok (.iload 4, 2) := by decide +kernel
theorem dprog_33_method_5_code_14 : decode prog_33_method_5_code 14 = .ok (.iload_n 3, 1) := by decide +kernel
theorem dprog_33_method_5_code_15 : decode prog_33_method_5_code 15 = .ok (.if_icmp .ge 30, 3) := by decide +kernel
theorem dprog_33_method_5_code_18 : decode prog_33_method_5_code 18 = .ok (.aload_n 2, 1) := by decide +kernel
theorem dprog_33_method_5_code_19 : decode prog_33_method_5_code 19 = .ok (.iload 4, 2) := by decide +kernel
theorem dprog_33_method_5_code_21 : decode prog_33_method_5_code 21 = .ok (.aaload, 1) := by decide +kernel
theorem dprog_33_method_5_code_22 : decode prog_33_method_5_code 22 = .ok (.astore 5, 2) := by decide +kernel
theorem dprog_33_method_5_code_24 : decode prog_33_method_5_code 24 = .ok (.aload 5, 2) := by decide +kernel
theorem dprog_33_method_5_code_26 : decode prog_33_method_5_code 26 = .ok (.getfield 44, 3) := by decide +kernel
theorem dprog_33_method_5_code_29 : decode prog_33_method_5_code 29 = .ok (.iload_n 0, 1) := by decide +kernel
theorem dprog_33_method_5_code_30 : decode prog_33_method_5_code 30 = .ok (.if_icmp .ne 9, 3) := by decide +kernel
theorem dprog_33_method_5_code_33 : decode prog_33_method_5_code 33 = .ok (.aload 5, 2) := by decide +kernel
theorem dprog_33_method_5_code_35 : decode prog_33_method_5_code 35 = .ok (.astore_n 1, 1) := by decide +kernel
theorem dprog_33_method_5_code_36 : decode prog_33_method_5_code 36 = .ok (.goto 9, 3) := by decide +kernel
theorem dprog_33_method_5_code_39 : decode prog_33_method_5_code 39 = .ok (.iinc 4 1, 3) := by decide +kernel
theorem dprog_33_method_5_code_42 : decode prog_33_method_5_code 42 = .ok (.goto (-30), 3) := by decide +kernel
theorem dprog_33_method_5_code_45 : decode prog_33_method_5_code 45 = .ok (.aload_n 1, 1) := by decide +kernel
theorem dprog_33_method_5_code_46 : decode prog_33_method_5_code 46 = .ok (.areturn, 1) := by decide +kernel
theorem pn_0 : plainName "com/example/hale_ledger/haleledger/protocol/Status" = true := by first | (simp [plainName, overriddenIn]; done) | decide +kernel
theorem pn_1 : plainName "com/example/hale_ledger/haleledger/protocol/StatusOfCodePinLaw" = true := by first | (simp [plainName, overriddenIn]; done) | decide +kernel
theorem pd_0 : parseMethodDescriptor "(I)Lcom/example/hale_ledger/haleledger/protocol/Status;" = some ⟨[.int], some (.object "com/example/hale_ledger/haleledger/protocol/Status")⟩ := by decide +kernel
theorem ef_1 (m : MethodId) (p0 : Int32) : entryFrame m #[(.int p0)] 6 = mkF m 0 #[.val (.int p0), .unset, .unset, .unset, .unset, .unset] [] := by first | (simp [entryFrame, mkF, argsToLocals, Value.category, maxLocals]; done) | rfl
def Q1 (Z : State) (p0 : Int32) (s_Status_VALUES : Addr) (k_s_Status_VALUES : ClassId) (s_Status_OK : Addr) (s_Status_NO_ENTRY : Addr) (s_Status_BAD_REQUEST : Addr) (s_Status_UNSUPPORTED_VERSION : Addr) (s_Status_UNKNOWN_REQUEST_TYPE : Addr) (s_Status_SERVER_ERROR : Addr) (s_Status_FENCED : Addr) (h0 : Heap) (n0 : Nat) (v : Option Value) (h : Heap) (L : List Loc) : Prop := (v = some (ofV p0 s_Status_OK s_Status_NO_ENTRY s_Status_BAD_REQUEST s_Status_UNSUPPORTED_VERSION s_Status_UNKNOWN_REQUEST_TYPE s_Status_SERVER_ERROR s_Status_FENCED) ∧ Fr n0 L ∧ h = h0)
set_option maxRecDepth 65536 in
set_option maxHeartbeats 40000000 in
theorem rm1 (l : Launch) (Z : State) (a0 : Array Value) (hw : ∀ d ∈ tables_1, d.before a0 Z = true) (ws : List Jvm.Cond) (p0 : Int32) (s_Status_VALUES : Addr) (k_s_Status_VALUES : ClassId) (s_Status_OK : Addr) (s_Status_NO_ENTRY : Addr) (s_Status_BAD_REQUEST : Addr) (s_Status_UNSUPPORTED_VERSION : Addr) (s_Status_UNKNOWN_REQUEST_TYPE : Addr) (s_Status_SERVER_ERROR : Addr) (s_Status_FENCED : Addr) (h0 : Heap) (n0 : Nat) (Z0 : n0 ≤ h0.size) (S_s_Status_VALUES : Sta Z h0 "com/example/hale_ledger/haleledger/protocol/Status" "VALUES" "[Lcom/example/hale_ledger/haleledger/protocol/Status;" (.ref s_Status_VALUES)) (V_s_Status_VALUES : Arv Z h0 s_Status_VALUES k_s_Status_VALUES (.object "com/example/hale_ledger/haleledger/protocol/Status") (7 : Int32) [(.ref s_Status_OK), (.ref s_Status_NO_ENTRY), (.ref s_Status_BAD_REQUEST), (.ref s_Status_UNSUPPORTED_VERSION), (.ref s_Status_UNKNOWN_REQUEST_TYPE), (.ref s_Status_SERVER_ERROR), (.ref s_Status_FENCED)] .null) (F_s_Status_OK_code : Fld Z h0 s_Status_OK "com/example/hale_ledger/haleledger/protocol/Status" "code" "I" (.int (0 : Int32))) (F_s_Status_NO_ENTRY_code : Fld Z h0 s_Status_NO_ENTRY "com/example/hale_ledger/haleledger/protocol/Status" "code" "I" (.int (1 : Int32))) (F_s_Status_BAD_REQUEST_code : Fld Z h0 s_Status_BAD_REQUEST "com/example/hale_ledger/haleledger/protocol/Status" "code" "I" (.int (2 : Int32))) (F_s_Status_UNSUPPORTED_VERSION_code : Fld Z h0 s_Status_UNSUPPORTED_VERSION "com/example/hale_ledger/haleledger/protocol/Status" "code" "I" (.int (3 : Int32))) (F_s_Status_UNKNOWN_REQUEST_TYPE_code : Fld Z h0 s_Status_UNKNOWN_REQUEST_TYPE "com/example/hale_ledger/haleledger/protocol/Status" "code" "I" (.int (4 : Int32))) (F_s_Status_SERVER_ERROR_code : Fld Z h0 s_Status_SERVER_ERROR "com/example/hale_ledger/haleledger/protocol/Status" "code" "I" (.int (5 : Int32))) (F_s_Status_FENCED_code : Fld Z h0 s_Status_FENCED "com/example/hale_ledger/haleledger/protocol/Status" "code" "I" (.int (6 : Int32))) :
    Con l Z (⟨"com/example/hale_ledger/haleledger/protocol/Status", "ofCode", "(I)Lcom/example/hale_ledger/haleledger/protocol/Status;"⟩ : MethodName) prog_33_method_5_code 6 (some (.object "com/example/hale_ledger/haleledger/protocol/Status")) ws ({ frames := 0, cells := 0, slots := 0, locals := 0 } : Room) #[(.int p0)] h0 0 0 (Q1 Z p0 s_Status_VALUES k_s_Status_VALUES s_Status_OK s_Status_NO_ENTRY s_Status_BAD_REQUEST s_Status_UNSUPPORTED_VERSION s_Status_UNKNOWN_REQUEST_TYPE s_Status_SERVER_ERROR s_Status_FENCED h0 n0) := by
  refine MetFree.of_bodySF (plainFor_of_name pn_0) hisR ?_
  intro p e s m args below meth c s₁ Bd hml0 hP hK
  obtain ⟨rfl, hZ, hh⟩ := hP
  have hx := Bd.exec
  have hby := Bd.bytes
  have hml : c.maxLocals = 6 := hml0
  have hown : s.vm.findClass "com/example/hale_ledger/haleledger/protocol/Status" = some m.cls := findClass_of_methodNamed Bd.named
  have hnm := (name_of_methodNamed Bd.named Bd.method).1
  have X0 : Stand p l e ({ frames := 0, cells := 0, slots := 0, locals := 0 } : Room) s m #[(.int p0)] below meth c s₁ [] 0 0 := Stand.of_body Bd
  have e0 : s₁.heap = h0 := by rw [← hh, Bd.state]; rfl
  have N0 := Fr.nil n0
  refine Go.of ?_
  refine Go.st (S' := s₁.setTop (mkF m 0 #[.val (.int p0), .unset, .unset, .unset, .unset, .unset] [])) (fun t k => castTop (ef_1 m p0) k) ?_
  refine Go.st (S' := s₁.setTop (mkF m 1 #[.val (.int p0), .unset, .unset, .unset, .unset, .unset] [.null])) (fun t k => XS.aconstNull X0.here hx rfl (hb hby dprog_33_method_5_code_0) k) ?_
  refine Go.st (S' := s₁.setTop (mkF m 2 #[.val (.int p0), .val .null, .unset, .unset, .unset, .unset] [])) (fun t k => XS.astoreN X0.here hx rfl (hb hby dprog_33_method_5_code_1) rfl rfl (l' := #[.val (.int p0), .val .null, .unset, .unset, .unset, .unset]) rfl k) ?_
  obtain ⟨T4, X4, e4, st4⟩ := getS X0 hx hZ hown (hw _ (List.mem_of_getElem? (i := 4) rfl)) Via.refl e0 S_s_Status_VALUES (host := "") (g := (mkF m 2 #[.val (.int p0), .val .null, .unset, .unset, .unset, .unset] [])) rfl (hb hby dprog_33_method_5_code_2)
  refine Go.st (S' := T4.setTop (mkF m 5 #[.val (.int p0), .val .null, .unset, .unset, .unset, .unset] [(.ref s_Status_VALUES)])) st4 ?_
  let A5 : Array Slot := #[.val (.int p0), .val .null, .val (.ref s_Status_VALUES), .unset, .unset, .unset]
  refine Go.st (S' := T4.setTop (mkF m 6 A5 [])) (fun t k => XS.astoreN X4.here hx rfl (hb hby dprog_33_method_5_code_5) rfl rfl (l' := A5) rfl k) ?_
  refine Go.st (S' := T4.setTop (mkF m 7 A5 [(.ref s_Status_VALUES)])) (fun t k => XS.aloadN X4.here hx rfl (hb hby dprog_33_method_5_code_6) rfl rfl k) ?_
  obtain ⟨cl6, Ar6, -, S6, N6_, -, -⟩ := id V_s_Status_VALUES
  refine Go.op (F := fun z => T4.setTop (mkF m 8 A5 [(.int z)])) (x := cl6.slots.size.toInt32) (fun t k => X4.arraylength hx (own_eh e4 Ar6.1) (State.isArrayOf_alike hZ.alike Ar6.2.1) (g := (mkF m 7 A5 [(.ref s_Status_VALUES)])) rfl rfl (hb hby dprog_33_method_5_code_7) t k) ?_
  intro v7 hv7
  obtain rfl : (7 : Int32) = v7 := (hv7.trans (len_of S6 N6_)).symm
  let A8 : Array Slot := #[.val (.int p0), .val .null, .val (.ref s_Status_VALUES), .val (.int (7 : Int32)), .unset, .unset]
  refine Go.st (S' := T4.setTop (mkF m 9 A8 [])) (fun t k => XS.istoreN X4.here hx rfl (hb hby dprog_33_method_5_code_8) rfl (l' := A8) rfl k) ?_
  refine Go.st (S' := T4.setTop (mkF m 10 A8 [(.int (0 : Int32))])) (fun t k => XS.iconst X4.here hx rfl (hb hby dprog_33_method_5_code_9) k) ?_
  let A9 : Array Slot := #[.val (.int p0), .val .null, .val (.ref s_Status_VALUES), .val (.int (7 : Int32)), .val (.int (0 : Int32)), .unset]
  refine Go.st (S' := T4.setTop (mkF m 12 A9 [])) (fun t k => XS.istore X4.here hx rfl (hb hby dprog_33_method_5_code_10) rfl (l' := A9) rfl k) ?_
  refine Go.st (S' := T4.setTop (mkF m 14 A9 [(.int (0 : Int32))])) (fun t k => XS.iload X4.here hx rfl (hb hby dprog_33_method_5_code_12) rfl k) ?_
  refine Go.st (S' := T4.setTop (mkF m 15 A9 [(.int (7 : Int32)), (.int (0 : Int32))])) (fun t k => XS.iloadN X4.here hx rfl (hb hby dprog_33_method_5_code_14) rfl k) ?_
  refine Go.st (S' := T4.setTop (mkF m 18 A9 [])) (fun t k => XS.icmpNo X4.here hx rfl (hb hby dprog_33_method_5_code_15) rfl (tlt (by decide : ((0 : Int32) < (7 : Int32)))).2.1 k) ?_
  refine Go.st (S' := T4.setTop (mkF m 19 A9 [(.ref s_Status_VALUES)])) (fun t k => XS.aloadN X4.here hx rfl (hb hby dprog_33_method_5_code_18) rfl rfl k) ?_
  refine Go.st (S' := T4.setTop (mkF m 21 A9 [(.int (0 : Int32)), (.ref s_Status_VALUES)])) (fun t k => XS.iload X4.here hx rfl (hb hby dprog_33_method_5_code_19) rfl k) ?_
  obtain ⟨cl10, Ar10, -, S10, N10_, H10, -⟩ := id V_s_Status_VALUES
  have hin10 : ¬ ((0 : Int32) < 0 ∨ cl10.slots.size ≤ ((0 : Int32)).toNatClampNeg) := inb_of S10 ⟨by decide, by decide⟩
  have hat10 : cl10.slots[((0 : Int32)).toNatClampNeg]? = some (.ref s_Status_OK) := Has.at H10 hin10 rfl
  refine Go.st (S' := T4.setTop (mkF m 22 A9 [(.ref s_Status_OK)])) (fun t k => X4.aaload hx (j := (0 : Int32)) (v := (.ref s_Status_OK)) (own_eh e4 Ar10.1) (State.isArrayOf_alike hZ.alike Ar10.2.1) rfl Ar10.2.2 hin10 hat10 (g := (mkF m 21 A9 [(.int (0 : Int32)), (.ref s_Status_VALUES)])) rfl rfl (hb hby dprog_33_method_5_code_21) t k) ?_
  let A11 : Array Slot := #[.val (.int p0), .val .null, .val (.ref s_Status_VALUES), .val (.int (7 : Int32)), .val (.int (0 : Int32)), .val (.ref s_Status_OK)]
  refine Go.st (S' := T4.setTop (mkF m 24 A11 [])) (fun t k => XS.astore X4.here hx rfl (hb hby dprog_33_method_5_code_22) rfl rfl (l' := A11) rfl k) ?_
  refine Go.st (S' := T4.setTop (mkF m 26 A11 [(.ref s_Status_OK)])) (fun t k => XS.aload X4.here hx rfl (hb hby dprog_33_method_5_code_24) rfl rfl k) ?_
  obtain ⟨T12, X12, e12, st12⟩ := getF X4 hx hZ hown (host := "") (Or.inl (hw _ (List.mem_of_getElem? (i := 7) rfl))) Via.refl e4 F_s_Status_OK_code (g := (mkF m 26 A11 [(.ref s_Status_OK)])) rfl rfl (hb hby dprog_33_method_5_code_26)
  refine Go.st (S' := T12.setTop (mkF m 29 A11 [(.int (0 : Int32))])) st12 ?_
  refine Go.st (S' := T12.setTop (mkF m 30 A11 [(.int p0), (.int (0 : Int32))])) (fun t k => XS.iloadN X12.here hx rfl (hb hby dprog_33_method_5_code_29) rfl k) ?_
  by_cases hc105 : ((0 : Int32) = p0)
  · refine Go.st (S' := T12.setTop (mkF m 33 A11 [])) (fun t k => XS.icmpNo X12.here hx rfl (hb hby dprog_33_method_5_code_30) rfl (teq hc105).2 k) ?_
    refine Go.st (S' := T12.setTop (mkF m 35 A11 [(.ref s_Status_OK)])) (fun t k => XS.aload X12.here hx rfl (hb hby dprog_33_method_5_code_33) rfl rfl k) ?_
    let A106 : Array Slot := #[.val (.int p0), .val (.ref s_Status_OK), .val (.ref s_Status_VALUES), .val (.int (7 : Int32)), .val (.int (0 : Int32)), .val (.ref s_Status_OK)]
    refine Go.st (S' := T12.setTop (mkF m 36 A106 [])) (fun t k => XS.astoreN X12.here hx rfl (hb hby dprog_33_method_5_code_35) rfl rfl (l' := A106) rfl k) ?_
    refine Go.st (S' := T12.setTop (mkF m 45 A106 [])) (fun t k => XS.goto X12.here hx rfl (pc0 := 36) (pc' := 45) rfl (hb hby dprog_33_method_5_code_36) (by decide) (by decide) k) ?_
    refine Go.st (S' := T12.setTop (mkF m 46 A106 [(.ref s_Status_OK)])) (fun t k => XS.aloadN X12.here hx rfl (hb hby dprog_33_method_5_code_45) rfl rfl k) ?_
    exact Go.ret X12 (v := some (.ref s_Status_OK)) (fun h => by rw [Bd.returns] at h; cases h) Bd.notSynchronized (fun fs hr => retOut X12 hx Bd.returns rfl (Or.inr (Or.inr (Or.inr (Or.inr ⟨rfl, rfl, rfl⟩)))) (hb hby dprog_33_method_5_code_46) hr) (by decide) (by decide) (⟨by unfold ofV; rw [if_pos (Eq.symm hc105)], N0, e12⟩)
  · refine Go.st (S' := T12.setTop (mkF m 39 A11 [])) (fun t k => XS.icmpYes X12.here hx rfl (pc0 := 30) (pc' := 39) rfl (hb hby dprog_33_method_5_code_30) rfl (feq hc105).2 (by decide) (by decide) k) ?_
    refine Go.op (F := fun z => T12.setTop (mkF m 42 #[.val (.int p0), .val .null, .val (.ref s_Status_VALUES), .val (.int (7 : Int32)), .val (.int z), .val (.ref s_Status_OK)] [])) (x := ((0 : Int32) + (1 : Int32))) (fun t k => XS.iinc X12.here hx rfl (hb hby dprog_33_method_5_code_39) rfl rfl k) ?_
    intro v107 hv107
    obtain rfl : (1 : Int32) = v107 := (hv107.trans (by decide)).symm
    let A108 : Array Slot := #[.val (.int p0), .val .null, .val (.ref s_Status_VALUES), .val (.int (7 : Int32)), .val (.int (1 : Int32)), .val (.ref s_Status_OK)]
    refine Go.st (S' := T12.setTop (mkF m 12 A108 [])) (fun t k => XS.goto X12.here hx rfl (pc0 := 42) (pc' := 12) rfl (hb hby dprog_33_method_5_code_42) (by decide) (by decide) k) ?_
    refine Go.st (S' := T12.setTop (mkF m 14 A108 [(.int (1 : Int32))])) (fun t k => XS.iload X12.here hx rfl (hb hby dprog_33_method_5_code_12) rfl k) ?_
    refine Go.st (S' := T12.setTop (mkF m 15 A108 [(.int (7 : Int32)), (.int (1 : Int32))])) (fun t k => XS.iloadN X12.here hx rfl (hb hby dprog_33_method_5_code_14) rfl k) ?_
    refine Go.st (S' := T12.setTop (mkF m 18 A108 [])) (fun t k => XS.icmpNo X12.here hx rfl (hb hby dprog_33_method_5_code_15) rfl (tlt (by decide : ((1 : Int32) < (7 : Int32)))).2.1 k) ?_
    refine Go.st (S' := T12.setTop (mkF m 19 A108 [(.ref s_Status_VALUES)])) (fun t k => XS.aloadN X12.here hx rfl (hb hby dprog_33_method_5_code_18) rfl rfl k) ?_
    refine Go.st (S' := T12.setTop (mkF m 21 A108 [(.int (1 : Int32)), (.ref s_Status_VALUES)])) (fun t k => XS.iload X12.here hx rfl (hb hby dprog_33_method_5_code_19) rfl k) ?_
    obtain ⟨cl109, Ar109, -, S109, N109_, H109, -⟩ := id V_s_Status_VALUES
    have hin109 : ¬ ((1 : Int32) < 0 ∨ cl109.slots.size ≤ ((1 : Int32)).toNatClampNeg) := inb_of S109 ⟨by decide, by decide⟩
    have hat109 : cl109.slots[((1 : Int32)).toNatClampNeg]? = some (.ref s_Status_NO_ENTRY) := Has.at H109 hin109 rfl
    refine Go.st (S' := T12.setTop (mkF m 22 A108 [(.ref s_Status_NO_ENTRY)])) (fun t k => X12.aaload hx (j := (1 : Int32)) (v := (.ref s_Status_NO_ENTRY)) (own_eh e12 Ar109.1) (State.isArrayOf_alike hZ.alike Ar109.2.1) rfl Ar109.2.2 hin109 hat109 (g := (mkF m 21 A108 [(.int (1 : Int32)), (.ref s_Status_VALUES)])) rfl rfl (hb hby dprog_33_method_5_code_21) t k) ?_
    let A110 : Array Slot := #[.val (.int p0), .val .null, .val (.ref s_Status_VALUES), .val (.int (7 : Int32)), .val (.int (1 : Int32)), .val (.ref s_Status_NO_ENTRY)]
    refine Go.st (S' := T12.setTop (mkF m 24 A110 [])) (fun t k => XS.astore X12.here hx rfl (hb hby dprog_33_method_5_code_22) rfl rfl (l' := A110) rfl k) ?_
    refine Go.st (S' := T12.setTop (mkF m 26 A110 [(.ref s_Status_NO_ENTRY)])) (fun t k => XS.aload X12.here hx rfl (hb hby dprog_33_method_5_code_24) rfl rfl k) ?_
    obtain ⟨T111, X111, e111, st111⟩ := getF X12 hx hZ hown (host := "") (Or.inl (hw _ (List.mem_of_getElem? (i := 7) rfl))) Via.refl e12 F_s_Status_NO_ENTRY_code (g := (mkF m 26 A110 [(.ref s_Status_NO_ENTRY)])) rfl rfl (hb hby dprog_33_method_5_code_26)
    refine Go.st (S' := T111.setTop (mkF m 29 A110 [(.int (1 : Int32))])) st111 ?_
    refine Go.st (S' := T111.setTop (mkF m 30 A110 [(.int p0), (.int (1 : Int32))])) (fun t k => XS.iloadN X111.here hx rfl (hb hby dprog_33_method_5_code_29) rfl k) ?_
    by_cases hc190 : ((1 : Int32) = p0)
    · refine Go.st (S' := T111.setTop (mkF m 33 A110 [])) (fun t k => XS.icmpNo X111.here hx rfl (hb hby dprog_33_method_5_code_30) rfl (teq hc190).2 k) ?_
      refine Go.st (S' := T111.setTop (mkF m 35 A110 [(.ref s_Status_NO_ENTRY)])) (fun t k => XS.aload X111.here hx rfl (hb hby dprog_33_method_5_code_33) rfl rfl k) ?_
      let A191 : Array Slot := #[.val (.int p0), .val (.ref s_Status_NO_ENTRY), .val (.ref s_Status_VALUES), .val (.int (7 : Int32)), .val (.int (1 : Int32)), .val (.ref s_Status_NO_ENTRY)]
      refine Go.st (S' := T111.setTop (mkF m 36 A191 [])) (fun t k => XS.astoreN X111.here hx rfl (hb hby dprog_33_method_5_code_35) rfl rfl (l' := A191) rfl k) ?_
      refine Go.st (S' := T111.setTop (mkF m 45 A191 [])) (fun t k => XS.goto X111.here hx rfl (pc0 := 36) (pc' := 45) rfl (hb hby dprog_33_method_5_code_36) (by decide) (by decide) k) ?_
      refine Go.st (S' := T111.setTop (mkF m 46 A191 [(.ref s_Status_NO_ENTRY)])) (fun t k => XS.aloadN X111.here hx rfl (hb hby dprog_33_method_5_code_45) rfl rfl k) ?_
      exact Go.ret X111 (v := some (.ref s_Status_NO_ENTRY)) (fun h => by rw [Bd.returns] at h; cases h) Bd.notSynchronized (fun fs hr => retOut X111 hx Bd.returns rfl (Or.inr (Or.inr (Or.inr (Or.inr ⟨rfl, rfl, rfl⟩)))) (hb hby dprog_33_method_5_code_46) hr) (by decide) (by decide) (⟨by unfold ofV; rw [if_neg (Ne.symm hc105), if_pos (Eq.symm hc190)], N0, e111⟩)
    · refine Go.st (S' := T111.setTop (mkF m 39 A110 [])) (fun t k => XS.icmpYes X111.here hx rfl (pc0 := 30) (pc' := 39) rfl (hb hby dprog_33_method_5_code_30) rfl (feq hc190).2 (by decide) (by decide) k) ?_
      refine Go.op (F := fun z => T111.setTop (mkF m 42 #[.val (.int p0), .val .null, .val (.ref s_Status_VALUES), .val (.int (7 : Int32)), .val (.int z), .val (.ref s_Status_NO_ENTRY)] [])) (x := ((1 : Int32) + (1 : Int32))) (fun t k => XS.iinc X111.here hx rfl (hb hby dprog_33_method_5_code_39) rfl rfl k) ?_
      intro v192 hv192
      obtain rfl : (2 : Int32) = v192 := (hv192.trans (by decide)).symm
      let A193 : Array Slot := #[.val (.int p0), .val .null, .val (.ref s_Status_VALUES), .val (.int (7 : Int32)), .val (.int (2 : Int32)), .val (.ref s_Status_NO_ENTRY)]
      refine Go.st (S' := T111.setTop (mkF m 12 A193 [])) (fun t k => XS.goto X111.here hx rfl (pc0 := 42) (pc' := 12) rfl (hb hby dprog_33_method_5_code_42) (by decide) (by decide) k) ?_
      refine Go.st (S' := T111.setTop (mkF m 14 A193 [(.int (2 : Int32))])) (fun t k => XS.iload X111.here hx rfl (hb hby dprog_33_method_5_code_12) rfl k) ?_
      refine Go.st (S' := T111.setTop (mkF m 15 A193 [(.int (7 : Int32)), (.int (2 : Int32))])) (fun t k => XS.iloadN X111.here hx rfl (hb hby dprog_33_method_5_code_14) rfl k) ?_
      refine Go.st (S' := T111.setTop (mkF m 18 A193 [])) (fun t k => XS.icmpNo X111.here hx rfl (hb hby dprog_33_method_5_code_15) rfl (tlt (by decide : ((2 : Int32) < (7 : Int32)))).2.1 k) ?_
      refine Go.st (S' := T111.setTop (mkF m 19 A193 [(.ref s_Status_VALUES)])) (fun t k => XS.aloadN X111.here hx rfl (hb hby dprog_33_method_5_code_18) rfl rfl k) ?_
      refine Go.st (S' := T111.setTop (mkF m 21 A193 [(.int (2 : Int32)), (.ref s_Status_VALUES)])) (fun t k => XS.iload X111.here hx rfl (hb hby dprog_33_method_5_code_19) rfl k) ?_
      obtain ⟨cl194, Ar194, -, S194, N194_, H194, -⟩ := id V_s_Status_VALUES
      have hin194 : ¬ ((2 : Int32) < 0 ∨ cl194.slots.size ≤ ((2 : Int32)).toNatClampNeg) := inb_of S194 ⟨by decide, by decide⟩
      have hat194 : cl194.slots[((2 : Int32)).toNatClampNeg]? = some (.ref s_Status_BAD_REQUEST) := Has.at H194 hin194 rfl
      refine Go.st (S' := T111.setTop (mkF m 22 A193 [(.ref s_Status_BAD_REQUEST)])) (fun t k => X111.aaload hx (j := (2 : Int32)) (v := (.ref s_Status_BAD_REQUEST)) (own_eh e111 Ar194.1) (State.isArrayOf_alike hZ.alike Ar194.2.1) rfl Ar194.2.2 hin194 hat194 (g := (mkF m 21 A193 [(.int (2 : Int32)), (.ref s_Status_VALUES)])) rfl rfl (hb hby dprog_33_method_5_code_21) t k) ?_
      let A195 : Array Slot := #[.val (.int p0), .val .null, .val (.ref s_Status_VALUES), .val (.int (7 : Int32)), .val (.int (2 : Int32)), .val (.ref s_Status_BAD_REQUEST)]
      refine Go.st (S' := T111.setTop (mkF m 24 A195 [])) (fun t k => XS.astore X111.here hx rfl (hb hby dprog_33_method_5_code_22) rfl rfl (l' := A195) rfl k) ?_
      refine Go.st (S' := T111.setTop (mkF m 26 A195 [(.ref s_Status_BAD_REQUEST)])) (fun t k => XS.aload X111.here hx rfl (hb hby dprog_33_method_5_code_24) rfl rfl k) ?_
      obtain ⟨T196, X196, e196, st196⟩ := getF X111 hx hZ hown (host := "") (Or.inl (hw _ (List.mem_of_getElem? (i := 7) rfl))) Via.refl e111 F_s_Status_BAD_REQUEST_code (g := (mkF m 26 A195 [(.ref s_Status_BAD_REQUEST)])) rfl rfl (hb hby dprog_33_method_5_code_26)
      refine Go.st (S' := T196.setTop (mkF m 29 A195 [(.int (2 : Int32))])) st196 ?_
      refine Go.st (S' := T196.setTop (mkF m 30 A195 [(.int p0), (.int (2 : Int32))])) (fun t k => XS.iloadN X196.here hx rfl (hb hby dprog_33_method_5_code_29) rfl k) ?_
      by_cases hc261 : ((2 : Int32) = p0)
      · refine Go.st (S' := T196.setTop (mkF m 33 A195 [])) (fun t k => XS.icmpNo X196.here hx rfl (hb hby dprog_33_method_5_code_30) rfl (teq hc261).2 k) ?_
        refine Go.st (S' := T196.setTop (mkF m 35 A195 [(.ref s_Status_BAD_REQUEST)])) (fun t k => XS.aload X196.here hx rfl (hb hby dprog_33_method_5_code_33) rfl rfl k) ?_
        let A262 : Array Slot := #[.val (.int p0), .val (.ref s_Status_BAD_REQUEST), .val (.ref s_Status_VALUES), .val (.int (7 : Int32)), .val (.int (2 : Int32)), .val (.ref s_Status_BAD_REQUEST)]
        refine Go.st (S' := T196.setTop (mkF m 36 A262 [])) (fun t k => XS.astoreN X196.here hx rfl (hb hby dprog_33_method_5_code_35) rfl rfl (l' := A262) rfl k) ?_
        refine Go.st (S' := T196.setTop (mkF m 45 A262 [])) (fun t k => XS.goto X196.here hx rfl (pc0 := 36) (pc' := 45) rfl (hb hby dprog_33_method_5_code_36) (by decide) (by decide) k) ?_
        refine Go.st (S' := T196.setTop (mkF m 46 A262 [(.ref s_Status_BAD_REQUEST)])) (fun t k => XS.aloadN X196.here hx rfl (hb hby dprog_33_method_5_code_45) rfl rfl k) ?_
        exact Go.ret X196 (v := some (.ref s_Status_BAD_REQUEST)) (fun h => by rw [Bd.returns] at h; cases h) Bd.notSynchronized (fun fs hr => retOut X196 hx Bd.returns rfl (Or.inr (Or.inr (Or.inr (Or.inr ⟨rfl, rfl, rfl⟩)))) (hb hby dprog_33_method_5_code_46) hr) (by decide) (by decide) (⟨by unfold ofV; rw [if_neg (Ne.symm hc105), if_neg (Ne.symm hc190), if_pos (Eq.symm hc261)], N0, e196⟩)
      · refine Go.st (S' := T196.setTop (mkF m 39 A195 [])) (fun t k => XS.icmpYes X196.here hx rfl (pc0 := 30) (pc' := 39) rfl (hb hby dprog_33_method_5_code_30) rfl (feq hc261).2 (by decide) (by decide) k) ?_
        refine Go.op (F := fun z => T196.setTop (mkF m 42 #[.val (.int p0), .val .null, .val (.ref s_Status_VALUES), .val (.int (7 : Int32)), .val (.int z), .val (.ref s_Status_BAD_REQUEST)] [])) (x := ((2 : Int32) + (1 : Int32))) (fun t k => XS.iinc X196.here hx rfl (hb hby dprog_33_method_5_code_39) rfl rfl k) ?_
        intro v263 hv263
        obtain rfl : (3 : Int32) = v263 := (hv263.trans (by decide)).symm
        let A264 : Array Slot := #[.val (.int p0), .val .null, .val (.ref s_Status_VALUES), .val (.int (7 : Int32)), .val (.int (3 : Int32)), .val (.ref s_Status_BAD_REQUEST)]
        refine Go.st (S' := T196.setTop (mkF m 12 A264 [])) (fun t k => XS.goto X196.here hx rfl (pc0 := 42) (pc' := 12) rfl (hb hby dprog_33_method_5_code_42) (by decide) (by decide) k) ?_
        refine Go.st (S' := T196.setTop (mkF m 14 A264 [(.int (3 : Int32))])) (fun t k => XS.iload X196.here hx rfl (hb hby dprog_33_method_5_code_12) rfl k) ?_
        refine Go.st (S' := T196.setTop (mkF m 15 A264 [(.int (7 : Int32)), (.int (3 : Int32))])) (fun t k => XS.iloadN X196.here hx rfl (hb hby dprog_33_method_5_code_14) rfl k) ?_
        refine Go.st (S' := T196.setTop (mkF m 18 A264 [])) (fun t k => XS.icmpNo X196.here hx rfl (hb hby dprog_33_method_5_code_15) rfl (tlt (by decide : ((3 : Int32) < (7 : Int32)))).2.1 k) ?_
        refine Go.st (S' := T196.setTop (mkF m 19 A264 [(.ref s_Status_VALUES)])) (fun t k => XS.aloadN X196.here hx rfl (hb hby dprog_33_method_5_code_18) rfl rfl k) ?_
        refine Go.st (S' := T196.setTop (mkF m 21 A264 [(.int (3 : Int32)), (.ref s_Status_VALUES)])) (fun t k => XS.iload X196.here hx rfl (hb hby dprog_33_method_5_code_19) rfl k) ?_
        obtain ⟨cl265, Ar265, -, S265, N265_, H265, -⟩ := id V_s_Status_VALUES
        have hin265 : ¬ ((3 : Int32) < 0 ∨ cl265.slots.size ≤ ((3 : Int32)).toNatClampNeg) := inb_of S265 ⟨by decide, by decide⟩
        have hat265 : cl265.slots[((3 : Int32)).toNatClampNeg]? = some (.ref s_Status_UNSUPPORTED_VERSION) := Has.at H265 hin265 rfl
        refine Go.st (S' := T196.setTop (mkF m 22 A264 [(.ref s_Status_UNSUPPORTED_VERSION)])) (fun t k => X196.aaload hx (j := (3 : Int32)) (v := (.ref s_Status_UNSUPPORTED_VERSION)) (own_eh e196 Ar265.1) (State.isArrayOf_alike hZ.alike Ar265.2.1) rfl Ar265.2.2 hin265 hat265 (g := (mkF m 21 A264 [(.int (3 : Int32)), (.ref s_Status_VALUES)])) rfl rfl (hb hby dprog_33_method_5_code_21) t k) ?_
        let A266 : Array Slot := #[.val (.int p0), .val .null, .val (.ref s_Status_VALUES), .val (.int (7 : Int32)), .val (.int (3 : Int32)), .val (.ref s_Status_UNSUPPORTED_VERSION)]
        refine Go.st (S' := T196.setTop (mkF m 24 A266 [])) (fun t k => XS.astore X196.here hx rfl (hb hby dprog_33_method_5_code_22) rfl rfl (l' := A266) rfl k) ?_
        refine Go.st (S' := T196.setTop (mkF m 26 A266 [(.ref s_Status_UNSUPPORTED_VERSION)])) (fun t k => XS.aload X196.here hx rfl (hb hby dprog_33_method_5_code_24) rfl rfl k) ?_
        obtain ⟨T267, X267, e267, st267⟩ := getF X196 hx hZ hown (host := "") (Or.inl (hw _ (List.mem_of_getElem? (i := 7) rfl))) Via.refl e196 F_s_Status_UNSUPPORTED_VERSION_code (g := (mkF m 26 A266 [(.ref s_Status_UNSUPPORTED_VERSION)])) rfl rfl (hb hby dprog_33_method_5_code_26)
        refine Go.st (S' := T267.setTop (mkF m 29 A266 [(.int (3 : Int32))])) st267 ?_
        refine Go.st (S' := T267.setTop (mkF m 30 A266 [(.int p0), (.int (3 : Int32))])) (fun t k => XS.iloadN X267.here hx rfl (hb hby dprog_33_method_5_code_29) rfl k) ?_
        by_cases hc318 : ((3 : Int32) = p0)
        · refine Go.st (S' := T267.setTop (mkF m 33 A266 [])) (fun t k => XS.icmpNo X267.here hx rfl (hb hby dprog_33_method_5_code_30) rfl (teq hc318).2 k) ?_
          refine Go.st (S' := T267.setTop (mkF m 35 A266 [(.ref s_Status_UNSUPPORTED_VERSION)])) (fun t k => XS.aload X267.here hx rfl (hb hby dprog_33_method_5_code_33) rfl rfl k) ?_
          let A319 : Array Slot := #[.val (.int p0), .val (.ref s_Status_UNSUPPORTED_VERSION), .val (.ref s_Status_VALUES), .val (.int (7 : Int32)), .val (.int (3 : Int32)), .val (.ref s_Status_UNSUPPORTED_VERSION)]
          refine Go.st (S' := T267.setTop (mkF m 36 A319 [])) (fun t k => XS.astoreN X267.here hx rfl (hb hby dprog_33_method_5_code_35) rfl rfl (l' := A319) rfl k) ?_
          refine Go.st (S' := T267.setTop (mkF m 45 A319 [])) (fun t k => XS.goto X267.here hx rfl (pc0 := 36) (pc' := 45) rfl (hb hby dprog_33_method_5_code_36) (by decide) (by decide) k) ?_
          refine Go.st (S' := T267.setTop (mkF m 46 A319 [(.ref s_Status_UNSUPPORTED_VERSION)])) (fun t k => XS.aloadN X267.here hx rfl (hb hby dprog_33_method_5_code_45) rfl rfl k) ?_
          exact Go.ret X267 (v := some (.ref s_Status_UNSUPPORTED_VERSION)) (fun h => by rw [Bd.returns] at h; cases h) Bd.notSynchronized (fun fs hr => retOut X267 hx Bd.returns rfl (Or.inr (Or.inr (Or.inr (Or.inr ⟨rfl, rfl, rfl⟩)))) (hb hby dprog_33_method_5_code_46) hr) (by decide) (by decide) (⟨by unfold ofV; rw [if_neg (Ne.symm hc105), if_neg (Ne.symm hc190), if_neg (Ne.symm hc261), if_pos (Eq.symm hc318)], N0, e267⟩)
        · refine Go.st (S' := T267.setTop (mkF m 39 A266 [])) (fun t k => XS.icmpYes X267.here hx rfl (pc0 := 30) (pc' := 39) rfl (hb hby dprog_33_method_5_code_30) rfl (feq hc318).2 (by decide) (by decide) k) ?_
          refine Go.op (F := fun z => T267.setTop (mkF m 42 #[.val (.int p0), .val .null, .val (.ref s_Status_VALUES), .val (.int (7 : Int32)), .val (.int z), .val (.ref s_Status_UNSUPPORTED_VERSION)] [])) (x := ((3 : Int32) + (1 : Int32))) (fun t k => XS.iinc X267.here hx rfl (hb hby dprog_33_method_5_code_39) rfl rfl k) ?_
          intro v320 hv320
          obtain rfl : (4 : Int32) = v320 := (hv320.trans (by decide)).symm
          let A321 : Array Slot := #[.val (.int p0), .val .null, .val (.ref s_Status_VALUES), .val (.int (7 : Int32)), .val (.int (4 : Int32)), .val (.ref s_Status_UNSUPPORTED_VERSION)]
          refine Go.st (S' := T267.setTop (mkF m 12 A321 [])) (fun t k => XS.goto X267.here hx rfl (pc0 := 42) (pc' := 12) rfl (hb hby dprog_33_method_5_code_42) (by decide) (by decide) k) ?_
          refine Go.st (S' := T267.setTop (mkF m 14 A321 [(.int (4 : Int32))])) (fun t k => XS.iload X267.here hx rfl (hb hby dprog_33_method_5_code_12) rfl k) ?_
          refine Go.st (S' := T267.setTop (mkF m 15 A321 [(.int (7 : Int32)), (.int (4 : Int32))])) (fun t k => XS.iloadN X267.here hx rfl (hb hby dprog_33_method_5_code_14) rfl k) ?_
          refine Go.st (S' := T267.setTop (mkF m 18 A321 [])) (fun t k => XS.icmpNo X267.here hx rfl (hb hby dprog_33_method_5_code_15) rfl (tlt (by decide : ((4 : Int32) < (7 : Int32)))).2.1 k) ?_
          refine Go.st (S' := T267.setTop (mkF m 19 A321 [(.ref s_Status_VALUES)])) (fun t k => XS.aloadN X267.here hx rfl (hb hby dprog_33_method_5_code_18) rfl rfl k) ?_
          refine Go.st (S' := T267.setTop (mkF m 21 A321 [(.int (4 : Int32)), (.ref s_Status_VALUES)])) (fun t k => XS.iload X267.here hx rfl (hb hby dprog_33_method_5_code_19) rfl k) ?_
          obtain ⟨cl322, Ar322, -, S322, N322_, H322, -⟩ := id V_s_Status_VALUES
          have hin322 : ¬ ((4 : Int32) < 0 ∨ cl322.slots.size ≤ ((4 : Int32)).toNatClampNeg) := inb_of S322 ⟨by decide, by decide⟩
          have hat322 : cl322.slots[((4 : Int32)).toNatClampNeg]? = some (.ref s_Status_UNKNOWN_REQUEST_TYPE) := Has.at H322 hin322 rfl
          refine Go.st (S' := T267.setTop (mkF m 22 A321 [(.ref s_Status_UNKNOWN_REQUEST_TYPE)])) (fun t k => X267.aaload hx (j := (4 : Int32)) (v := (.ref s_Status_UNKNOWN_REQUEST_TYPE)) (own_eh e267 Ar322.1) (State.isArrayOf_alike hZ.alike Ar322.2.1) rfl Ar322.2.2 hin322 hat322 (g := (mkF m 21 A321 [(.int (4 : Int32)), (.ref s_Status_VALUES)])) rfl rfl (hb hby dprog_33_method_5_code_21) t k) ?_
          let A323 : Array Slot := #[.val (.int p0), .val .null, .val (.ref s_Status_VALUES), .val (.int (7 : Int32)), .val (.int (4 : Int32)), .val (.ref s_Status_UNKNOWN_REQUEST_TYPE)]
          refine Go.st (S' := T267.setTop (mkF m 24 A323 [])) (fun t k => XS.astore X267.here hx rfl (hb hby dprog_33_method_5_code_22) rfl rfl (l' := A323) rfl k) ?_
          refine Go.st (S' := T267.setTop (mkF m 26 A323 [(.ref s_Status_UNKNOWN_REQUEST_TYPE)])) (fun t k => XS.aload X267.here hx rfl (hb hby dprog_33_method_5_code_24) rfl rfl k) ?_
          obtain ⟨T324, X324, e324, st324⟩ := getF X267 hx hZ hown (host := "") (Or.inl (hw _ (List.mem_of_getElem? (i := 7) rfl))) Via.refl e267 F_s_Status_UNKNOWN_REQUEST_TYPE_code (g := (mkF m 26 A323 [(.ref s_Status_UNKNOWN_REQUEST_TYPE)])) rfl rfl (hb hby dprog_33_method_5_code_26)
          refine Go.st (S' := T324.setTop (mkF m 29 A323 [(.int (4 : Int32))])) st324 ?_
          refine Go.st (S' := T324.setTop (mkF m 30 A323 [(.int p0), (.int (4 : Int32))])) (fun t k => XS.iloadN X324.here hx rfl (hb hby dprog_33_method_5_code_29) rfl k) ?_
          by_cases hc361 : ((4 : Int32) = p0)
          · refine Go.st (S' := T324.setTop (mkF m 33 A323 [])) (fun t k => XS.icmpNo X324.here hx rfl (hb hby dprog_33_method_5_code_30) rfl (teq hc361).2 k) ?_
            refine Go.st (S' := T324.setTop (mkF m 35 A323 [(.ref s_Status_UNKNOWN_REQUEST_TYPE)])) (fun t k => XS.aload X324.here hx rfl (hb hby dprog_33_method_5_code_33) rfl rfl k) ?_
            let A362 : Array Slot := #[.val (.int p0), .val (.ref s_Status_UNKNOWN_REQUEST_TYPE), .val (.ref s_Status_VALUES), .val (.int (7 : Int32)), .val (.int (4 : Int32)), .val (.ref s_Status_UNKNOWN_REQUEST_TYPE)]
            refine Go.st (S' := T324.setTop (mkF m 36 A362 [])) (fun t k => XS.astoreN X324.here hx rfl (hb hby dprog_33_method_5_code_35) rfl rfl (l' := A362) rfl k) ?_
            refine Go.st (S' := T324.setTop (mkF m 45 A362 [])) (fun t k => XS.goto X324.here hx rfl (pc0 := 36) (pc' := 45) rfl (hb hby dprog_33_method_5_code_36) (by decide) (by decide) k) ?_
            refine Go.st (S' := T324.setTop (mkF m 46 A362 [(.ref s_Status_UNKNOWN_REQUEST_TYPE)])) (fun t k => XS.aloadN X324.here hx rfl (hb hby dprog_33_method_5_code_45) rfl rfl k) ?_
            exact Go.ret X324 (v := some (.ref s_Status_UNKNOWN_REQUEST_TYPE)) (fun h => by rw [Bd.returns] at h; cases h) Bd.notSynchronized (fun fs hr => retOut X324 hx Bd.returns rfl (Or.inr (Or.inr (Or.inr (Or.inr ⟨rfl, rfl, rfl⟩)))) (hb hby dprog_33_method_5_code_46) hr) (by decide) (by decide) (⟨by unfold ofV; rw [if_neg (Ne.symm hc105), if_neg (Ne.symm hc190), if_neg (Ne.symm hc261), if_neg (Ne.symm hc318), if_pos (Eq.symm hc361)], N0, e324⟩)
          · refine Go.st (S' := T324.setTop (mkF m 39 A323 [])) (fun t k => XS.icmpYes X324.here hx rfl (pc0 := 30) (pc' := 39) rfl (hb hby dprog_33_method_5_code_30) rfl (feq hc361).2 (by decide) (by decide) k) ?_
            refine Go.op (F := fun z => T324.setTop (mkF m 42 #[.val (.int p0), .val .null, .val (.ref s_Status_VALUES), .val (.int (7 : Int32)), .val (.int z), .val (.ref s_Status_UNKNOWN_REQUEST_TYPE)] [])) (x := ((4 : Int32) + (1 : Int32))) (fun t k => XS.iinc X324.here hx rfl (hb hby dprog_33_method_5_code_39) rfl rfl k) ?_
            intro v363 hv363
            obtain rfl : (5 : Int32) = v363 := (hv363.trans (by decide)).symm
            let A364 : Array Slot := #[.val (.int p0), .val .null, .val (.ref s_Status_VALUES), .val (.int (7 : Int32)), .val (.int (5 : Int32)), .val (.ref s_Status_UNKNOWN_REQUEST_TYPE)]
            refine Go.st (S' := T324.setTop (mkF m 12 A364 [])) (fun t k => XS.goto X324.here hx rfl (pc0 := 42) (pc' := 12) rfl (hb hby dprog_33_method_5_code_42) (by decide) (by decide) k) ?_
            refine Go.st (S' := T324.setTop (mkF m 14 A364 [(.int (5 : Int32))])) (fun t k => XS.iload X324.here hx rfl (hb hby dprog_33_method_5_code_12) rfl k) ?_
            refine Go.st (S' := T324.setTop (mkF m 15 A364 [(.int (7 : Int32)), (.int (5 : Int32))])) (fun t k => XS.iloadN X324.here hx rfl (hb hby dprog_33_method_5_code_14) rfl k) ?_
            refine Go.st (S' := T324.setTop (mkF m 18 A364 [])) (fun t k => XS.icmpNo X324.here hx rfl (hb hby dprog_33_method_5_code_15) rfl (tlt (by decide : ((5 : Int32) < (7 : Int32)))).2.1 k) ?_
            refine Go.st (S' := T324.setTop (mkF m 19 A364 [(.ref s_Status_VALUES)])) (fun t k => XS.aloadN X324.here hx rfl (hb hby dprog_33_method_5_code_18) rfl rfl k) ?_
            refine Go.st (S' := T324.setTop (mkF m 21 A364 [(.int (5 : Int32)), (.ref s_Status_VALUES)])) (fun t k => XS.iload X324.here hx rfl (hb hby dprog_33_method_5_code_19) rfl k) ?_
            obtain ⟨cl365, Ar365, -, S365, N365_, H365, -⟩ := id V_s_Status_VALUES
            have hin365 : ¬ ((5 : Int32) < 0 ∨ cl365.slots.size ≤ ((5 : Int32)).toNatClampNeg) := inb_of S365 ⟨by decide, by decide⟩
            have hat365 : cl365.slots[((5 : Int32)).toNatClampNeg]? = some (.ref s_Status_SERVER_ERROR) := Has.at H365 hin365 rfl
            refine Go.st (S' := T324.setTop (mkF m 22 A364 [(.ref s_Status_SERVER_ERROR)])) (fun t k => X324.aaload hx (j := (5 : Int32)) (v := (.ref s_Status_SERVER_ERROR)) (own_eh e324 Ar365.1) (State.isArrayOf_alike hZ.alike Ar365.2.1) rfl Ar365.2.2 hin365 hat365 (g := (mkF m 21 A364 [(.int (5 : Int32)), (.ref s_Status_VALUES)])) rfl rfl (hb hby dprog_33_method_5_code_21) t k) ?_
            let A366 : Array Slot := #[.val (.int p0), .val .null, .val (.ref s_Status_VALUES), .val (.int (7 : Int32)), .val (.int (5 : Int32)), .val (.ref s_Status_SERVER_ERROR)]
            refine Go.st (S' := T324.setTop (mkF m 24 A366 [])) (fun t k => XS.astore X324.here hx rfl (hb hby dprog_33_method_5_code_22) rfl rfl (l' := A366) rfl k) ?_
            refine Go.st (S' := T324.setTop (mkF m 26 A366 [(.ref s_Status_SERVER_ERROR)])) (fun t k => XS.aload X324.here hx rfl (hb hby dprog_33_method_5_code_24) rfl rfl k) ?_
            obtain ⟨T367, X367, e367, st367⟩ := getF X324 hx hZ hown (host := "") (Or.inl (hw _ (List.mem_of_getElem? (i := 7) rfl))) Via.refl e324 F_s_Status_SERVER_ERROR_code (g := (mkF m 26 A366 [(.ref s_Status_SERVER_ERROR)])) rfl rfl (hb hby dprog_33_method_5_code_26)
            refine Go.st (S' := T367.setTop (mkF m 29 A366 [(.int (5 : Int32))])) st367 ?_
            refine Go.st (S' := T367.setTop (mkF m 30 A366 [(.int p0), (.int (5 : Int32))])) (fun t k => XS.iloadN X367.here hx rfl (hb hby dprog_33_method_5_code_29) rfl k) ?_
            by_cases hc390 : ((5 : Int32) = p0)
            · refine Go.st (S' := T367.setTop (mkF m 33 A366 [])) (fun t k => XS.icmpNo X367.here hx rfl (hb hby dprog_33_method_5_code_30) rfl (teq hc390).2 k) ?_
              refine Go.st (S' := T367.setTop (mkF m 35 A366 [(.ref s_Status_SERVER_ERROR)])) (fun t k => XS.aload X367.here hx rfl (hb hby dprog_33_method_5_code_33) rfl rfl k) ?_
              let A391 : Array Slot := #[.val (.int p0), .val (.ref s_Status_SERVER_ERROR), .val (.ref s_Status_VALUES), .val (.int (7 : Int32)), .val (.int (5 : Int32)), .val (.ref s_Status_SERVER_ERROR)]
              refine Go.st (S' := T367.setTop (mkF m 36 A391 [])) (fun t k => XS.astoreN X367.here hx rfl (hb hby dprog_33_method_5_code_35) rfl rfl (l' := A391) rfl k) ?_
              refine Go.st (S' := T367.setTop (mkF m 45 A391 [])) (fun t k => XS.goto X367.here hx rfl (pc0 := 36) (pc' := 45) rfl (hb hby dprog_33_method_5_code_36) (by decide) (by decide) k) ?_
              refine Go.st (S' := T367.setTop (mkF m 46 A391 [(.ref s_Status_SERVER_ERROR)])) (fun t k => XS.aloadN X367.here hx rfl (hb hby dprog_33_method_5_code_45) rfl rfl k) ?_
              exact Go.ret X367 (v := some (.ref s_Status_SERVER_ERROR)) (fun h => by rw [Bd.returns] at h; cases h) Bd.notSynchronized (fun fs hr => retOut X367 hx Bd.returns rfl (Or.inr (Or.inr (Or.inr (Or.inr ⟨rfl, rfl, rfl⟩)))) (hb hby dprog_33_method_5_code_46) hr) (by decide) (by decide) (⟨by unfold ofV; rw [if_neg (Ne.symm hc105), if_neg (Ne.symm hc190), if_neg (Ne.symm hc261), if_neg (Ne.symm hc318), if_neg (Ne.symm hc361), if_pos (Eq.symm hc390)], N0, e367⟩)
            · refine Go.st (S' := T367.setTop (mkF m 39 A366 [])) (fun t k => XS.icmpYes X367.here hx rfl (pc0 := 30) (pc' := 39) rfl (hb hby dprog_33_method_5_code_30) rfl (feq hc390).2 (by decide) (by decide) k) ?_
              refine Go.op (F := fun z => T367.setTop (mkF m 42 #[.val (.int p0), .val .null, .val (.ref s_Status_VALUES), .val (.int (7 : Int32)), .val (.int z), .val (.ref s_Status_SERVER_ERROR)] [])) (x := ((5 : Int32) + (1 : Int32))) (fun t k => XS.iinc X367.here hx rfl (hb hby dprog_33_method_5_code_39) rfl rfl k) ?_
              intro v392 hv392
              obtain rfl : (6 : Int32) = v392 := (hv392.trans (by decide)).symm
              let A393 : Array Slot := #[.val (.int p0), .val .null, .val (.ref s_Status_VALUES), .val (.int (7 : Int32)), .val (.int (6 : Int32)), .val (.ref s_Status_SERVER_ERROR)]
              refine Go.st (S' := T367.setTop (mkF m 12 A393 [])) (fun t k => XS.goto X367.here hx rfl (pc0 := 42) (pc' := 12) rfl (hb hby dprog_33_method_5_code_42) (by decide) (by decide) k) ?_
              refine Go.st (S' := T367.setTop (mkF m 14 A393 [(.int (6 : Int32))])) (fun t k => XS.iload X367.here hx rfl (hb hby dprog_33_method_5_code_12) rfl k) ?_
              refine Go.st (S' := T367.setTop (mkF m 15 A393 [(.int (7 : Int32)), (.int (6 : Int32))])) (fun t k => XS.iloadN X367.here hx rfl (hb hby dprog_33_method_5_code_14) rfl k) ?_
              refine Go.st (S' := T367.setTop (mkF m 18 A393 [])) (fun t k => XS.icmpNo X367.here hx rfl (hb hby dprog_33_method_5_code_15) rfl (tlt (by decide : ((6 : Int32) < (7 : Int32)))).2.1 k) ?_
              refine Go.st (S' := T367.setTop (mkF m 19 A393 [(.ref s_Status_VALUES)])) (fun t k => XS.aloadN X367.here hx rfl (hb hby dprog_33_method_5_code_18) rfl rfl k) ?_
              refine Go.st (S' := T367.setTop (mkF m 21 A393 [(.int (6 : Int32)), (.ref s_Status_VALUES)])) (fun t k => XS.iload X367.here hx rfl (hb hby dprog_33_method_5_code_19) rfl k) ?_
              obtain ⟨cl394, Ar394, -, S394, N394_, H394, -⟩ := id V_s_Status_VALUES
              have hin394 : ¬ ((6 : Int32) < 0 ∨ cl394.slots.size ≤ ((6 : Int32)).toNatClampNeg) := inb_of S394 ⟨by decide, by decide⟩
              have hat394 : cl394.slots[((6 : Int32)).toNatClampNeg]? = some (.ref s_Status_FENCED) := Has.at H394 hin394 rfl
              refine Go.st (S' := T367.setTop (mkF m 22 A393 [(.ref s_Status_FENCED)])) (fun t k => X367.aaload hx (j := (6 : Int32)) (v := (.ref s_Status_FENCED)) (own_eh e367 Ar394.1) (State.isArrayOf_alike hZ.alike Ar394.2.1) rfl Ar394.2.2 hin394 hat394 (g := (mkF m 21 A393 [(.int (6 : Int32)), (.ref s_Status_VALUES)])) rfl rfl (hb hby dprog_33_method_5_code_21) t k) ?_
              let A395 : Array Slot := #[.val (.int p0), .val .null, .val (.ref s_Status_VALUES), .val (.int (7 : Int32)), .val (.int (6 : Int32)), .val (.ref s_Status_FENCED)]
              refine Go.st (S' := T367.setTop (mkF m 24 A395 [])) (fun t k => XS.astore X367.here hx rfl (hb hby dprog_33_method_5_code_22) rfl rfl (l' := A395) rfl k) ?_
              refine Go.st (S' := T367.setTop (mkF m 26 A395 [(.ref s_Status_FENCED)])) (fun t k => XS.aload X367.here hx rfl (hb hby dprog_33_method_5_code_24) rfl rfl k) ?_
              obtain ⟨T396, X396, e396, st396⟩ := getF X367 hx hZ hown (host := "") (Or.inl (hw _ (List.mem_of_getElem? (i := 7) rfl))) Via.refl e367 F_s_Status_FENCED_code (g := (mkF m 26 A395 [(.ref s_Status_FENCED)])) rfl rfl (hb hby dprog_33_method_5_code_26)
              refine Go.st (S' := T396.setTop (mkF m 29 A395 [(.int (6 : Int32))])) st396 ?_
              refine Go.st (S' := T396.setTop (mkF m 30 A395 [(.int p0), (.int (6 : Int32))])) (fun t k => XS.iloadN X396.here hx rfl (hb hby dprog_33_method_5_code_29) rfl k) ?_
              by_cases hc405 : ((6 : Int32) = p0)
              · refine Go.st (S' := T396.setTop (mkF m 33 A395 [])) (fun t k => XS.icmpNo X396.here hx rfl (hb hby dprog_33_method_5_code_30) rfl (teq hc405).2 k) ?_
                refine Go.st (S' := T396.setTop (mkF m 35 A395 [(.ref s_Status_FENCED)])) (fun t k => XS.aload X396.here hx rfl (hb hby dprog_33_method_5_code_33) rfl rfl k) ?_
                let A406 : Array Slot := #[.val (.int p0), .val (.ref s_Status_FENCED), .val (.ref s_Status_VALUES), .val (.int (7 : Int32)), .val (.int (6 : Int32)), .val (.ref s_Status_FENCED)]
                refine Go.st (S' := T396.setTop (mkF m 36 A406 [])) (fun t k => XS.astoreN X396.here hx rfl (hb hby dprog_33_method_5_code_35) rfl rfl (l' := A406) rfl k) ?_
                refine Go.st (S' := T396.setTop (mkF m 45 A406 [])) (fun t k => XS.goto X396.here hx rfl (pc0 := 36) (pc' := 45) rfl (hb hby dprog_33_method_5_code_36) (by decide) (by decide) k) ?_
                refine Go.st (S' := T396.setTop (mkF m 46 A406 [(.ref s_Status_FENCED)])) (fun t k => XS.aloadN X396.here hx rfl (hb hby dprog_33_method_5_code_45) rfl rfl k) ?_
                exact Go.ret X396 (v := some (.ref s_Status_FENCED)) (fun h => by rw [Bd.returns] at h; cases h) Bd.notSynchronized (fun fs hr => retOut X396 hx Bd.returns rfl (Or.inr (Or.inr (Or.inr (Or.inr ⟨rfl, rfl, rfl⟩)))) (hb hby dprog_33_method_5_code_46) hr) (by decide) (by decide) (⟨by unfold ofV; rw [if_neg (Ne.symm hc105), if_neg (Ne.symm hc190), if_neg (Ne.symm hc261), if_neg (Ne.symm hc318), if_neg (Ne.symm hc361), if_neg (Ne.symm hc390), if_pos (Eq.symm hc405)], N0, e396⟩)
              · refine Go.st (S' := T396.setTop (mkF m 39 A395 [])) (fun t k => XS.icmpYes X396.here hx rfl (pc0 := 30) (pc' := 39) rfl (hb hby dprog_33_method_5_code_30) rfl (feq hc405).2 (by decide) (by decide) k) ?_
                refine Go.op (F := fun z => T396.setTop (mkF m 42 #[.val (.int p0), .val .null, .val (.ref s_Status_VALUES), .val (.int (7 : Int32)), .val (.int z), .val (.ref s_Status_FENCED)] [])) (x := ((6 : Int32) + (1 : Int32))) (fun t k => XS.iinc X396.here hx rfl (hb hby dprog_33_method_5_code_39) rfl rfl k) ?_
                intro v407 hv407
                obtain rfl : (7 : Int32) = v407 := (hv407.trans (by decide)).symm
                let A408 : Array Slot := #[.val (.int p0), .val .null, .val (.ref s_Status_VALUES), .val (.int (7 : Int32)), .val (.int (7 : Int32)), .val (.ref s_Status_FENCED)]
                refine Go.st (S' := T396.setTop (mkF m 12 A408 [])) (fun t k => XS.goto X396.here hx rfl (pc0 := 42) (pc' := 12) rfl (hb hby dprog_33_method_5_code_42) (by decide) (by decide) k) ?_
                refine Go.st (S' := T396.setTop (mkF m 14 A408 [(.int (7 : Int32))])) (fun t k => XS.iload X396.here hx rfl (hb hby dprog_33_method_5_code_12) rfl k) ?_
                refine Go.st (S' := T396.setTop (mkF m 15 A408 [(.int (7 : Int32)), (.int (7 : Int32))])) (fun t k => XS.iloadN X396.here hx rfl (hb hby dprog_33_method_5_code_14) rfl k) ?_
                refine Go.st (S' := T396.setTop (mkF m 45 A408 [])) (fun t k => XS.icmpYes X396.here hx rfl (pc0 := 15) (pc' := 45) rfl (hb hby dprog_33_method_5_code_15) rfl (flt (by decide : (¬ ((7 : Int32) < (7 : Int32))))).2.1 (by decide) (by decide) k) ?_
                refine Go.st (S' := T396.setTop (mkF m 46 A408 [.null])) (fun t k => XS.aloadN X396.here hx rfl (hb hby dprog_33_method_5_code_45) rfl rfl k) ?_
                exact Go.ret X396 (v := some .null) (fun h => by rw [Bd.returns] at h; cases h) Bd.notSynchronized (fun fs hr => retOut X396 hx Bd.returns rfl (Or.inr (Or.inr (Or.inr (Or.inr ⟨rfl, rfl, rfl⟩)))) (hb hby dprog_33_method_5_code_46) hr) (by decide) (by decide) (⟨by unfold ofV; rw [if_neg (Ne.symm hc105), if_neg (Ne.symm hc190), if_neg (Ne.symm hc261), if_neg (Ne.symm hc318), if_neg (Ne.symm hc361), if_neg (Ne.symm hc390), if_neg (Ne.symm hc405)], N0, e396⟩)
theorem ef_2 (m : MethodId) (p0 : Int32) : entryFrame m #[(.int p0)] 1 = mkF m 0 #[.val (.int p0)] [] := by first | (simp [entryFrame, mkF, argsToLocals, Value.category, maxLocals]; done) | rfl
def Q2 (Z : State) (p0 : Int32) (s_Status_OK : Addr) (s_Status_NO_ENTRY : Addr) (s_Status_BAD_REQUEST : Addr) (s_Status_UNSUPPORTED_VERSION : Addr) (s_Status_UNKNOWN_REQUEST_TYPE : Addr) (s_Status_SERVER_ERROR : Addr) (s_Status_FENCED : Addr) (h0 : Heap) (n0 : Nat) (v : Option Value) (h : Heap) (L : List Loc) : Prop := (v = some (ofV p0 s_Status_OK s_Status_NO_ENTRY s_Status_BAD_REQUEST s_Status_UNSUPPORTED_VERSION s_Status_UNKNOWN_REQUEST_TYPE s_Status_SERVER_ERROR s_Status_FENCED) ∧ Fr n0 L ∧ h = h0)
set_option maxRecDepth 65536 in
set_option maxHeartbeats 40000000 in
theorem rm2 (l : Launch) (Z : State) (a0 : Array Value) (hw : ∀ d ∈ tables_1, d.before a0 Z = true) (ws : List Jvm.Cond) (p0 : Int32) (s_Status_OK : Addr) (s_Status_NO_ENTRY : Addr) (s_Status_BAD_REQUEST : Addr) (s_Status_UNSUPPORTED_VERSION : Addr) (s_Status_UNKNOWN_REQUEST_TYPE : Addr) (s_Status_SERVER_ERROR : Addr) (s_Status_FENCED : Addr) (h0 : Heap) (n0 : Nat) (Z0 : n0 ≤ h0.size) (S_s_Status_OK : Sta Z h0 "com/example/hale_ledger/haleledger/protocol/Status" "OK" "Lcom/example/hale_ledger/haleledger/protocol/Status;" (.ref s_Status_OK)) (S_s_Status_NO_ENTRY : Sta Z h0 "com/example/hale_ledger/haleledger/protocol/Status" "NO_ENTRY" "Lcom/example/hale_ledger/haleledger/protocol/Status;" (.ref s_Status_NO_ENTRY)) (S_s_Status_BAD_REQUEST : Sta Z h0 "com/example/hale_ledger/haleledger/protocol/Status" "BAD_REQUEST" "Lcom/example/hale_ledger/haleledger/protocol/Status;" (.ref s_Status_BAD_REQUEST)) (S_s_Status_UNSUPPORTED_VERSION : Sta Z h0 "com/example/hale_ledger/haleledger/protocol/Status" "UNSUPPORTED_VERSION" "Lcom/example/hale_ledger/haleledger/protocol/Status;" (.ref s_Status_UNSUPPORTED_VERSION)) (S_s_Status_UNKNOWN_REQUEST_TYPE : Sta Z h0 "com/example/hale_ledger/haleledger/protocol/Status" "UNKNOWN_REQUEST_TYPE" "Lcom/example/hale_ledger/haleledger/protocol/Status;" (.ref s_Status_UNKNOWN_REQUEST_TYPE)) (S_s_Status_SERVER_ERROR : Sta Z h0 "com/example/hale_ledger/haleledger/protocol/Status" "SERVER_ERROR" "Lcom/example/hale_ledger/haleledger/protocol/Status;" (.ref s_Status_SERVER_ERROR)) (S_s_Status_FENCED : Sta Z h0 "com/example/hale_ledger/haleledger/protocol/Status" "FENCED" "Lcom/example/hale_ledger/haleledger/protocol/Status;" (.ref s_Status_FENCED)) :
    Con l Z (⟨"com/example/hale_ledger/haleledger/protocol/StatusOfCodePinLaw", "expected", "(I)Lcom/example/hale_ledger/haleledger/protocol/Status;"⟩ : MethodName) method_2_code 1 (some (.object "com/example/hale_ledger/haleledger/protocol/Status")) ws ({ frames := 0, cells := 0, slots := 0, locals := 0 } : Room) #[(.int p0)] h0 0 0 (Q2 Z p0 s_Status_OK s_Status_NO_ENTRY s_Status_BAD_REQUEST s_Status_UNSUPPORTED_VERSION s_Status_UNKNOWN_REQUEST_TYPE s_Status_SERVER_ERROR s_Status_FENCED h0 n0) := by
  refine MetFree.of_bodySF (plainFor_of_name pn_1) hisR ?_
  intro p e s m args below meth c s₁ Bd hml0 hP hK
  obtain ⟨rfl, hZ, hh⟩ := hP
  have hx := Bd.exec
  have hby := Bd.bytes
  have hml : c.maxLocals = 1 := hml0
  have hown : s.vm.findClass "com/example/hale_ledger/haleledger/protocol/StatusOfCodePinLaw" = some m.cls := findClass_of_methodNamed Bd.named
  have hnm := (name_of_methodNamed Bd.named Bd.method).1
  have X0 : Stand p l e ({ frames := 0, cells := 0, slots := 0, locals := 0 } : Room) s m #[(.int p0)] below meth c s₁ [] 0 0 := Stand.of_body Bd
  have e0 : s₁.heap = h0 := by rw [← hh, Bd.state]; rfl
  have N0 := Fr.nil n0
  refine Go.of ?_
  refine Go.st (S' := s₁.setTop (mkF m 0 #[.val (.int p0)] [])) (fun t k => castTop (ef_2 m p0) k) ?_
  refine Go.st (S' := s₁.setTop (mkF m 1 #[.val (.int p0)] [(.int p0)])) (fun t k => XS.iloadN X0.here hx rfl (hb hby dmethod_2_code_0) rfl k) ?_
  by_cases hc417 : (p0 = (0 : Int32))
  · refine Go.st (S' := s₁.setTop (mkF m 4 #[.val (.int p0)] [])) (fun t k => XS.ifNo X0.here hx rfl (hb hby dmethod_2_code_1) rfl ((if0 _ _).trans (teq hc417).2) k) ?_
    obtain ⟨T418, X418, e418, st418⟩ := getS X0 hx hZ hown (hw _ (List.mem_of_getElem? (i := 19) rfl)) Via.refl e0 S_s_Status_OK (host := "") (g := (mkF m 4 #[.val (.int p0)] [])) rfl (hb hby dmethod_2_code_4)
    refine Go.st (S' := T418.setTop (mkF m 7 #[.val (.int p0)] [(.ref s_Status_OK)])) st418 ?_
    exact Go.ret X418 (v := some (.ref s_Status_OK)) (fun h => by rw [Bd.returns] at h; cases h) Bd.notSynchronized (fun fs hr => retOut X418 hx Bd.returns rfl (Or.inr (Or.inr (Or.inr (Or.inr ⟨rfl, rfl, rfl⟩)))) (hb hby dmethod_2_code_7) hr) (by decide) (by decide) (⟨by unfold ofV; rw [if_pos hc417], N0, e418⟩)
  · refine Go.st (S' := s₁.setTop (mkF m 8 #[.val (.int p0)] [])) (fun t k => XS.ifYes X0.here hx rfl (pc0 := 1) (pc' := 8) rfl (hb hby dmethod_2_code_1) rfl ((if0 _ _).trans (feq hc417).2) (by decide) (by decide) k) ?_
    refine Go.st (S' := s₁.setTop (mkF m 9 #[.val (.int p0)] [(.int p0)])) (fun t k => XS.iloadN X0.here hx rfl (hb hby dmethod_2_code_8) rfl k) ?_
    refine Go.st (S' := s₁.setTop (mkF m 10 #[.val (.int p0)] [(.int (1 : Int32)), (.int p0)])) (fun t k => XS.iconst X0.here hx rfl (hb hby dmethod_2_code_9) k) ?_
    by_cases hc419 : (p0 = (1 : Int32))
    · refine Go.st (S' := s₁.setTop (mkF m 13 #[.val (.int p0)] [])) (fun t k => XS.icmpNo X0.here hx rfl (hb hby dmethod_2_code_10) rfl (teq hc419).2 k) ?_
      obtain ⟨T420, X420, e420, st420⟩ := getS X0 hx hZ hown (hw _ (List.mem_of_getElem? (i := 21) rfl)) Via.refl e0 S_s_Status_NO_ENTRY (host := "") (g := (mkF m 13 #[.val (.int p0)] [])) rfl (hb hby dmethod_2_code_13)
      refine Go.st (S' := T420.setTop (mkF m 16 #[.val (.int p0)] [(.ref s_Status_NO_ENTRY)])) st420 ?_
      exact Go.ret X420 (v := some (.ref s_Status_NO_ENTRY)) (fun h => by rw [Bd.returns] at h; cases h) Bd.notSynchronized (fun fs hr => retOut X420 hx Bd.returns rfl (Or.inr (Or.inr (Or.inr (Or.inr ⟨rfl, rfl, rfl⟩)))) (hb hby dmethod_2_code_16) hr) (by decide) (by decide) (⟨by unfold ofV; rw [if_neg hc417, if_pos hc419], N0, e420⟩)
    · refine Go.st (S' := s₁.setTop (mkF m 17 #[.val (.int p0)] [])) (fun t k => XS.icmpYes X0.here hx rfl (pc0 := 10) (pc' := 17) rfl (hb hby dmethod_2_code_10) rfl (feq hc419).2 (by decide) (by decide) k) ?_
      refine Go.st (S' := s₁.setTop (mkF m 18 #[.val (.int p0)] [(.int p0)])) (fun t k => XS.iloadN X0.here hx rfl (hb hby dmethod_2_code_17) rfl k) ?_
      refine Go.st (S' := s₁.setTop (mkF m 19 #[.val (.int p0)] [(.int (2 : Int32)), (.int p0)])) (fun t k => XS.iconst X0.here hx rfl (hb hby dmethod_2_code_18) k) ?_
      by_cases hc421 : (p0 = (2 : Int32))
      · refine Go.st (S' := s₁.setTop (mkF m 22 #[.val (.int p0)] [])) (fun t k => XS.icmpNo X0.here hx rfl (hb hby dmethod_2_code_19) rfl (teq hc421).2 k) ?_
        obtain ⟨T422, X422, e422, st422⟩ := getS X0 hx hZ hown (hw _ (List.mem_of_getElem? (i := 24) rfl)) Via.refl e0 S_s_Status_BAD_REQUEST (host := "") (g := (mkF m 22 #[.val (.int p0)] [])) rfl (hb hby dmethod_2_code_22)
        refine Go.st (S' := T422.setTop (mkF m 25 #[.val (.int p0)] [(.ref s_Status_BAD_REQUEST)])) st422 ?_
        exact Go.ret X422 (v := some (.ref s_Status_BAD_REQUEST)) (fun h => by rw [Bd.returns] at h; cases h) Bd.notSynchronized (fun fs hr => retOut X422 hx Bd.returns rfl (Or.inr (Or.inr (Or.inr (Or.inr ⟨rfl, rfl, rfl⟩)))) (hb hby dmethod_2_code_25) hr) (by decide) (by decide) (⟨by unfold ofV; rw [if_neg hc417, if_neg hc419, if_pos hc421], N0, e422⟩)
      · refine Go.st (S' := s₁.setTop (mkF m 26 #[.val (.int p0)] [])) (fun t k => XS.icmpYes X0.here hx rfl (pc0 := 19) (pc' := 26) rfl (hb hby dmethod_2_code_19) rfl (feq hc421).2 (by decide) (by decide) k) ?_
        refine Go.st (S' := s₁.setTop (mkF m 27 #[.val (.int p0)] [(.int p0)])) (fun t k => XS.iloadN X0.here hx rfl (hb hby dmethod_2_code_26) rfl k) ?_
        refine Go.st (S' := s₁.setTop (mkF m 28 #[.val (.int p0)] [(.int (3 : Int32)), (.int p0)])) (fun t k => XS.iconst X0.here hx rfl (hb hby dmethod_2_code_27) k) ?_
        by_cases hc423 : (p0 = (3 : Int32))
        · refine Go.st (S' := s₁.setTop (mkF m 31 #[.val (.int p0)] [])) (fun t k => XS.icmpNo X0.here hx rfl (hb hby dmethod_2_code_28) rfl (teq hc423).2 k) ?_
          obtain ⟨T424, X424, e424, st424⟩ := getS X0 hx hZ hown (hw _ (List.mem_of_getElem? (i := 22) rfl)) Via.refl e0 S_s_Status_UNSUPPORTED_VERSION (host := "") (g := (mkF m 31 #[.val (.int p0)] [])) rfl (hb hby dmethod_2_code_31)
          refine Go.st (S' := T424.setTop (mkF m 34 #[.val (.int p0)] [(.ref s_Status_UNSUPPORTED_VERSION)])) st424 ?_
          exact Go.ret X424 (v := some (.ref s_Status_UNSUPPORTED_VERSION)) (fun h => by rw [Bd.returns] at h; cases h) Bd.notSynchronized (fun fs hr => retOut X424 hx Bd.returns rfl (Or.inr (Or.inr (Or.inr (Or.inr ⟨rfl, rfl, rfl⟩)))) (hb hby dmethod_2_code_34) hr) (by decide) (by decide) (⟨by unfold ofV; rw [if_neg hc417, if_neg hc419, if_neg hc421, if_pos hc423], N0, e424⟩)
        · refine Go.st (S' := s₁.setTop (mkF m 35 #[.val (.int p0)] [])) (fun t k => XS.icmpYes X0.here hx rfl (pc0 := 28) (pc' := 35) rfl (hb hby dmethod_2_code_28) rfl (feq hc423).2 (by decide) (by decide) k) ?_
          refine Go.st (S' := s₁.setTop (mkF m 36 #[.val (.int p0)] [(.int p0)])) (fun t k => XS.iloadN X0.here hx rfl (hb hby dmethod_2_code_35) rfl k) ?_
          refine Go.st (S' := s₁.setTop (mkF m 37 #[.val (.int p0)] [(.int (4 : Int32)), (.int p0)])) (fun t k => XS.iconst X0.here hx rfl (hb hby dmethod_2_code_36) k) ?_
          by_cases hc425 : (p0 = (4 : Int32))
          · refine Go.st (S' := s₁.setTop (mkF m 40 #[.val (.int p0)] [])) (fun t k => XS.icmpNo X0.here hx rfl (hb hby dmethod_2_code_37) rfl (teq hc425).2 k) ?_
            obtain ⟨T426, X426, e426, st426⟩ := getS X0 hx hZ hown (hw _ (List.mem_of_getElem? (i := 25) rfl)) Via.refl e0 S_s_Status_UNKNOWN_REQUEST_TYPE (host := "") (g := (mkF m 40 #[.val (.int p0)] [])) rfl (hb hby dmethod_2_code_40)
            refine Go.st (S' := T426.setTop (mkF m 43 #[.val (.int p0)] [(.ref s_Status_UNKNOWN_REQUEST_TYPE)])) st426 ?_
            exact Go.ret X426 (v := some (.ref s_Status_UNKNOWN_REQUEST_TYPE)) (fun h => by rw [Bd.returns] at h; cases h) Bd.notSynchronized (fun fs hr => retOut X426 hx Bd.returns rfl (Or.inr (Or.inr (Or.inr (Or.inr ⟨rfl, rfl, rfl⟩)))) (hb hby dmethod_2_code_43) hr) (by decide) (by decide) (⟨by unfold ofV; rw [if_neg hc417, if_neg hc419, if_neg hc421, if_neg hc423, if_pos hc425], N0, e426⟩)
          · refine Go.st (S' := s₁.setTop (mkF m 44 #[.val (.int p0)] [])) (fun t k => XS.icmpYes X0.here hx rfl (pc0 := 37) (pc' := 44) rfl (hb hby dmethod_2_code_37) rfl (feq hc425).2 (by decide) (by decide) k) ?_
            refine Go.st (S' := s₁.setTop (mkF m 45 #[.val (.int p0)] [(.int p0)])) (fun t k => XS.iloadN X0.here hx rfl (hb hby dmethod_2_code_44) rfl k) ?_
            refine Go.st (S' := s₁.setTop (mkF m 46 #[.val (.int p0)] [(.int (5 : Int32)), (.int p0)])) (fun t k => XS.iconst X0.here hx rfl (hb hby dmethod_2_code_45) k) ?_
            by_cases hc427 : (p0 = (5 : Int32))
            · refine Go.st (S' := s₁.setTop (mkF m 49 #[.val (.int p0)] [])) (fun t k => XS.icmpNo X0.here hx rfl (hb hby dmethod_2_code_46) rfl (teq hc427).2 k) ?_
              obtain ⟨T428, X428, e428, st428⟩ := getS X0 hx hZ hown (hw _ (List.mem_of_getElem? (i := 23) rfl)) Via.refl e0 S_s_Status_SERVER_ERROR (host := "") (g := (mkF m 49 #[.val (.int p0)] [])) rfl (hb hby dmethod_2_code_49)
              refine Go.st (S' := T428.setTop (mkF m 52 #[.val (.int p0)] [(.ref s_Status_SERVER_ERROR)])) st428 ?_
              exact Go.ret X428 (v := some (.ref s_Status_SERVER_ERROR)) (fun h => by rw [Bd.returns] at h; cases h) Bd.notSynchronized (fun fs hr => retOut X428 hx Bd.returns rfl (Or.inr (Or.inr (Or.inr (Or.inr ⟨rfl, rfl, rfl⟩)))) (hb hby dmethod_2_code_52) hr) (by decide) (by decide) (⟨by unfold ofV; rw [if_neg hc417, if_neg hc419, if_neg hc421, if_neg hc423, if_neg hc425, if_pos hc427], N0, e428⟩)
            · refine Go.st (S' := s₁.setTop (mkF m 53 #[.val (.int p0)] [])) (fun t k => XS.icmpYes X0.here hx rfl (pc0 := 46) (pc' := 53) rfl (hb hby dmethod_2_code_46) rfl (feq hc427).2 (by decide) (by decide) k) ?_
              refine Go.st (S' := s₁.setTop (mkF m 54 #[.val (.int p0)] [(.int p0)])) (fun t k => XS.iloadN X0.here hx rfl (hb hby dmethod_2_code_53) rfl k) ?_
              refine Go.st (S' := s₁.setTop (mkF m 56 #[.val (.int p0)] [(.int (6 : Int32)), (.int p0)])) (fun t k => XS.bipush X0.here hx rfl (hb hby dmethod_2_code_54) k) ?_
              by_cases hc429 : (p0 = (6 : Int32))
              · refine Go.st (S' := s₁.setTop (mkF m 59 #[.val (.int p0)] [])) (fun t k => XS.icmpNo X0.here hx rfl (hb hby dmethod_2_code_56) rfl (teq hc429).2 k) ?_
                obtain ⟨T430, X430, e430, st430⟩ := getS X0 hx hZ hown (hw _ (List.mem_of_getElem? (i := 20) rfl)) Via.refl e0 S_s_Status_FENCED (host := "") (g := (mkF m 59 #[.val (.int p0)] [])) rfl (hb hby dmethod_2_code_59)
                refine Go.st (S' := T430.setTop (mkF m 62 #[.val (.int p0)] [(.ref s_Status_FENCED)])) st430 ?_
                exact Go.ret X430 (v := some (.ref s_Status_FENCED)) (fun h => by rw [Bd.returns] at h; cases h) Bd.notSynchronized (fun fs hr => retOut X430 hx Bd.returns rfl (Or.inr (Or.inr (Or.inr (Or.inr ⟨rfl, rfl, rfl⟩)))) (hb hby dmethod_2_code_62) hr) (by decide) (by decide) (⟨by unfold ofV; rw [if_neg hc417, if_neg hc419, if_neg hc421, if_neg hc423, if_neg hc425, if_neg hc427, if_pos hc429], N0, e430⟩)
              · refine Go.st (S' := s₁.setTop (mkF m 63 #[.val (.int p0)] [])) (fun t k => XS.icmpYes X0.here hx rfl (pc0 := 56) (pc' := 63) rfl (hb hby dmethod_2_code_56) rfl (feq hc429).2 (by decide) (by decide) k) ?_
                refine Go.st (S' := s₁.setTop (mkF m 64 #[.val (.int p0)] [.null])) (fun t k => XS.aconstNull X0.here hx rfl (hb hby dmethod_2_code_63) k) ?_
                exact Go.ret X0 (v := some .null) (fun h => by rw [Bd.returns] at h; cases h) Bd.notSynchronized (fun fs hr => retOut X0 hx Bd.returns rfl (Or.inr (Or.inr (Or.inr (Or.inr ⟨rfl, rfl, rfl⟩)))) (hb hby dmethod_2_code_64) hr) (by decide) (by decide) (⟨by unfold ofV; rw [if_neg hc417, if_neg hc419, if_neg hc421, if_neg hc423, if_neg hc425, if_neg hc427, if_neg hc429], N0, e0⟩)
theorem ef_3 (m : MethodId) (p0 : Int32) (p1 : Int32) : entryFrame m #[(.int p0), (.int p1)] maxLocals = mkF m 0 #[.val (.int p0), .val (.int p1), .unset, .unset, .unset] [] := by first | (simp [entryFrame, mkF, argsToLocals, Value.category, maxLocals]; done) | rfl
def Q3 (Z : State) (p0 : Int32) (p1 : Int32) (s_Status_VALUES : Addr) (k_s_Status_VALUES : ClassId) (s_Status_OK : Addr) (s_Status_NO_ENTRY : Addr) (s_Status_BAD_REQUEST : Addr) (s_Status_UNSUPPORTED_VERSION : Addr) (s_Status_UNKNOWN_REQUEST_TYPE : Addr) (s_Status_SERVER_ERROR : Addr) (s_Status_FENCED : Addr) (h0 : Heap) (n0 : Nat) (v : Option Value) (h : Heap) (L : List Loc) : Prop := v = some (.int 1) ∧ Fr n0 L
set_option maxRecDepth 65536 in
set_option maxHeartbeats 40000000 in
theorem rm3 (l : Launch) (Z : State) (a0 : Array Value) (hw : ∀ d ∈ tables_1, d.before a0 Z = true) (ws : List Jvm.Cond) (p0 : Int32) (p1 : Int32) (s_Status_VALUES : Addr) (k_s_Status_VALUES : ClassId) (s_Status_OK : Addr) (s_Status_NO_ENTRY : Addr) (s_Status_BAD_REQUEST : Addr) (s_Status_UNSUPPORTED_VERSION : Addr) (s_Status_UNKNOWN_REQUEST_TYPE : Addr) (s_Status_SERVER_ERROR : Addr) (s_Status_FENCED : Addr) (h0 : Heap) (n0 : Nat) (Z0 : n0 ≤ h0.size) (S_s_Status_VALUES : Sta Z h0 "com/example/hale_ledger/haleledger/protocol/Status" "VALUES" "[Lcom/example/hale_ledger/haleledger/protocol/Status;" (.ref s_Status_VALUES)) (V_s_Status_VALUES : Arv Z h0 s_Status_VALUES k_s_Status_VALUES (.object "com/example/hale_ledger/haleledger/protocol/Status") (7 : Int32) [(.ref s_Status_OK), (.ref s_Status_NO_ENTRY), (.ref s_Status_BAD_REQUEST), (.ref s_Status_UNSUPPORTED_VERSION), (.ref s_Status_UNKNOWN_REQUEST_TYPE), (.ref s_Status_SERVER_ERROR), (.ref s_Status_FENCED)] .null) (F_s_Status_OK_code : Fld Z h0 s_Status_OK "com/example/hale_ledger/haleledger/protocol/Status" "code" "I" (.int (0 : Int32))) (F_s_Status_NO_ENTRY_code : Fld Z h0 s_Status_NO_ENTRY "com/example/hale_ledger/haleledger/protocol/Status" "code" "I" (.int (1 : Int32))) (F_s_Status_BAD_REQUEST_code : Fld Z h0 s_Status_BAD_REQUEST "com/example/hale_ledger/haleledger/protocol/Status" "code" "I" (.int (2 : Int32))) (F_s_Status_UNSUPPORTED_VERSION_code : Fld Z h0 s_Status_UNSUPPORTED_VERSION "com/example/hale_ledger/haleledger/protocol/Status" "code" "I" (.int (3 : Int32))) (F_s_Status_UNKNOWN_REQUEST_TYPE_code : Fld Z h0 s_Status_UNKNOWN_REQUEST_TYPE "com/example/hale_ledger/haleledger/protocol/Status" "code" "I" (.int (4 : Int32))) (F_s_Status_SERVER_ERROR_code : Fld Z h0 s_Status_SERVER_ERROR "com/example/hale_ledger/haleledger/protocol/Status" "code" "I" (.int (5 : Int32))) (F_s_Status_FENCED_code : Fld Z h0 s_Status_FENCED "com/example/hale_ledger/haleledger/protocol/Status" "code" "I" (.int (6 : Int32))) (S_s_Status_OK : Sta Z h0 "com/example/hale_ledger/haleledger/protocol/Status" "OK" "Lcom/example/hale_ledger/haleledger/protocol/Status;" (.ref s_Status_OK)) (S_s_Status_NO_ENTRY : Sta Z h0 "com/example/hale_ledger/haleledger/protocol/Status" "NO_ENTRY" "Lcom/example/hale_ledger/haleledger/protocol/Status;" (.ref s_Status_NO_ENTRY)) (S_s_Status_BAD_REQUEST : Sta Z h0 "com/example/hale_ledger/haleledger/protocol/Status" "BAD_REQUEST" "Lcom/example/hale_ledger/haleledger/protocol/Status;" (.ref s_Status_BAD_REQUEST)) (S_s_Status_UNSUPPORTED_VERSION : Sta Z h0 "com/example/hale_ledger/haleledger/protocol/Status" "UNSUPPORTED_VERSION" "Lcom/example/hale_ledger/haleledger/protocol/Status;" (.ref s_Status_UNSUPPORTED_VERSION)) (S_s_Status_UNKNOWN_REQUEST_TYPE : Sta Z h0 "com/example/hale_ledger/haleledger/protocol/Status" "UNKNOWN_REQUEST_TYPE" "Lcom/example/hale_ledger/haleledger/protocol/Status;" (.ref s_Status_UNKNOWN_REQUEST_TYPE)) (S_s_Status_SERVER_ERROR : Sta Z h0 "com/example/hale_ledger/haleledger/protocol/Status" "SERVER_ERROR" "Lcom/example/hale_ledger/haleledger/protocol/Status;" (.ref s_Status_SERVER_ERROR)) (S_s_Status_FENCED : Sta Z h0 "com/example/hale_ledger/haleledger/protocol/Status" "FENCED" "Lcom/example/hale_ledger/haleledger/protocol/Status;" (.ref s_Status_FENCED)) :
    Con l Z x code maxLocals ret ws room_1 #[(.int p0), (.int p1)] h0 0 0 (Q3 Z p0 p1 s_Status_VALUES k_s_Status_VALUES s_Status_OK s_Status_NO_ENTRY s_Status_BAD_REQUEST s_Status_UNSUPPORTED_VERSION s_Status_UNKNOWN_REQUEST_TYPE s_Status_SERVER_ERROR s_Status_FENCED h0 n0) := by
  refine MetFree.of_bodySF (plainFor_of_name pn_1) hisR ?_
  intro p e s m args below meth c s₁ Bd hml0 hP hK
  obtain ⟨rfl, hZ, hh⟩ := hP
  have hx := Bd.exec
  have hby := Bd.bytes
  have hml : c.maxLocals = 5 := hml0
  have hown : s.vm.findClass "com/example/hale_ledger/haleledger/protocol/StatusOfCodePinLaw" = some m.cls := findClass_of_methodNamed Bd.named
  have hnm := (name_of_methodNamed Bd.named Bd.method).1
  have X0 : Stand p l e room_1 s m #[(.int p0), (.int p1)] below meth c s₁ [] 0 0 := Stand.of_body Bd
  have e0 : s₁.heap = h0 := by rw [← hh, Bd.state]; rfl
  have N0 := Fr.nil n0
  refine Go.of ?_
  refine Go.st (S' := s₁.setTop (mkF m 0 #[.val (.int p0), .val (.int p1), .unset, .unset, .unset] [])) (fun t k => castTop (ef_3 m p0 p1) k) ?_
  refine Go.st (S' := s₁.setTop (mkF m 1 #[.val (.int p0), .val (.int p1), .unset, .unset, .unset] [(.int p1)])) (fun t k => XS.iloadN X0.here hx rfl (hb hby at_0) rfl k) ?_
  refine Go.st (S' := s₁.setTop (mkF m 3 #[.val (.int p0), .val (.int p1), .unset, .unset, .unset] [(.int (15 : Int32)), (.int p1)])) (fun t k => XS.bipush X0.here hx rfl (hb hby at_1) k) ?_
  refine Go.op (F := fun z => s₁.setTop (mkF m 4 #[.val (.int p0), .val (.int p1), .unset, .unset, .unset] [(.int z)])) (x := (p1 &&& (15 : Int32))) (fun t k => XS.iand X0.here hx rfl (hb hby at_3) rfl k) ?_
  intro v1 hv1
  refine Go.st (S' := s₁.setTop (mkF m 5 #[.val (.int p0), .val (.int p1), .unset, .unset, .unset] [(.int (4 : Int32)), (.int v1)])) (fun t k => XS.iconst X0.here hx rfl (hb hby at_4) k) ?_
  refine Go.op (F := fun z => s₁.setTop (mkF m 6 #[.val (.int p0), .val (.int p1), .unset, .unset, .unset] [(.int z)])) (x := (v1 - (4 : Int32))) (fun t k => XS.isub X0.here hx rfl (hb hby at_5) rfl k) ?_
  intro v2 hv2
  let A3 : Array Slot := #[.val (.int p0), .val (.int p1), .val (.int v2), .unset, .unset]
  refine Go.st (S' := s₁.setTop (mkF m 7 A3 [])) (fun t k => XS.istoreN X0.here hx rfl (hb hby at_6) rfl (l' := A3) rfl k) ?_
  refine Go.st (S' := s₁.setTop (mkF m 8 A3 [(.int p0)])) (fun t k => XS.iloadN X0.here hx rfl (hb hby at_7) rfl k) ?_
  obtain ⟨r409, T409, L409, X409, hQ409, st409⟩ := own_callS (W := 0) X0 hx hZ e0 hown (y := (⟨"com/example/hale_ledger/haleledger/protocol/Status", "ofCode", "(I)Lcom/example/hale_ledger/haleledger/protocol/Status;"⟩ : MethodName)) (hw _ (List.mem_of_getElem? (i := 0) rfl)) (hw _ (List.mem_of_getElem? (i := 1) rfl)) (hw _ (List.mem_of_getElem? (i := 2) rfl)) (hw _ (List.mem_of_getElem? (i := 3) rfl)) (by decide) (rm1 l Z a0 hw [] p0 s_Status_VALUES k_s_Status_VALUES s_Status_OK s_Status_NO_ENTRY s_Status_BAD_REQUEST s_Status_UNSUPPORTED_VERSION s_Status_UNKNOWN_REQUEST_TYPE s_Status_SERVER_ERROR s_Status_FENCED h0 n0 Z0 (S_s_Status_VALUES) (V_s_Status_VALUES) (F_s_Status_OK_code) (F_s_Status_NO_ENTRY_code) (F_s_Status_BAD_REQUEST_code) (F_s_Status_UNSUPPORTED_VERSION_code) (F_s_Status_UNKNOWN_REQUEST_TYPE_code) (F_s_Status_SERVER_ERROR_code) (F_s_Status_FENCED_code)) (by decide) (by decide) (by decide) (by decide) (g := (mkF m 8 A3 [(.int p0)])) rfl (by rw [hml]; rfl) (argsL := [(.int p0)]) (rest := []) rfl (lenOf pd_0 rfl) rfl (by show 2 * 0 + _ ≤ _; exact Nat.le_of_eq rfl) (hb hby at_8)
  obtain ⟨rfl, N409, e409⟩ := hQ409
  have N409_ := Fr.app N0 N409
  rcases ofV_cases p0 s_Status_OK s_Status_NO_ENTRY s_Status_BAD_REQUEST s_Status_UNSUPPORTED_VERSION s_Status_UNKNOWN_REQUEST_TYPE s_Status_SERVER_ERROR s_Status_FENCED with hv411 | ⟨a410, hv411⟩
  · rw [hv411] at st409
    refine Go.st (S' := T409.setTop (mkF m 11 A3 [.null])) st409 ?_
    let A412 : Array Slot := #[.val (.int p0), .val (.int p1), .val (.int v2), .val .null, .unset]
    refine Go.st (S' := T409.setTop (mkF m 12 A412 [])) (fun t k => XS.astoreN X409.here hx rfl (hb hby at_11) rfl rfl (l' := A412) rfl k) ?_
    refine Go.st (S' := T409.setTop (mkF m 13 A412 [(.int v2)])) (fun t k => XS.iloadN X409.here hx rfl (hb hby at_12) rfl k) ?_
    obtain ⟨r413, T413, L413, X413, hQ413, st413⟩ := own_callS (W := 0) X409 hx hZ e409 hown (y := (⟨"com/example/hale_ledger/haleledger/protocol/Status", "ofCode", "(I)Lcom/example/hale_ledger/haleledger/protocol/Status;"⟩ : MethodName)) (hw _ (List.mem_of_getElem? (i := 0) rfl)) (hw _ (List.mem_of_getElem? (i := 1) rfl)) (hw _ (List.mem_of_getElem? (i := 2) rfl)) (hw _ (List.mem_of_getElem? (i := 3) rfl)) (by decide) (rm1 l Z a0 hw [] v2 s_Status_VALUES k_s_Status_VALUES s_Status_OK s_Status_NO_ENTRY s_Status_BAD_REQUEST s_Status_UNSUPPORTED_VERSION s_Status_UNKNOWN_REQUEST_TYPE s_Status_SERVER_ERROR s_Status_FENCED h0 n0 Z0 (S_s_Status_VALUES) (V_s_Status_VALUES) (F_s_Status_OK_code) (F_s_Status_NO_ENTRY_code) (F_s_Status_BAD_REQUEST_code) (F_s_Status_UNSUPPORTED_VERSION_code) (F_s_Status_UNKNOWN_REQUEST_TYPE_code) (F_s_Status_SERVER_ERROR_code) (F_s_Status_FENCED_code)) (by decide) (by decide) (by decide) (by decide) (g := (mkF m 13 A412 [(.int v2)])) rfl (by rw [hml]; rfl) (argsL := [(.int v2)]) (rest := []) rfl (lenOf pd_0 rfl) rfl (by show 2 * 0 + _ ≤ _; exact Nat.le_of_eq rfl) (hb hby at_13)
    obtain ⟨rfl, N413, e413⟩ := hQ413
    have N413_ := Fr.app N409_ N413
    rcases ofV_cases v2 s_Status_OK s_Status_NO_ENTRY s_Status_BAD_REQUEST s_Status_UNSUPPORTED_VERSION s_Status_UNKNOWN_REQUEST_TYPE s_Status_SERVER_ERROR s_Status_FENCED with hv415 | ⟨a414, hv415⟩
    · rw [hv415] at st413
      refine Go.st (S' := T413.setTop (mkF m 16 A412 [.null])) st413 ?_
      let A416 : Array Slot := #[.val (.int p0), .val (.int p1), .val (.int v2), .val .null, .val .null]
      refine Go.st (S' := T413.setTop (mkF m 18 A416 [])) (fun t k => XS.astore X413.here hx rfl (hb hby at_16) rfl rfl (l' := A416) rfl k) ?_
      refine Go.st (S' := T413.setTop (mkF m 19 A416 [.null])) (fun t k => XS.aloadN X413.here hx rfl (hb hby at_18) rfl rfl k) ?_
      refine Go.st (S' := T413.setTop (mkF m 20 A416 [(.int p0), .null])) (fun t k => XS.iloadN X413.here hx rfl (hb hby at_19) rfl k) ?_
      obtain ⟨r431, T431, L431, X431, hQ431, st431⟩ := own_callS (W := 1) X413 hx hZ e413 hown (y := (⟨"com/example/hale_ledger/haleledger/protocol/StatusOfCodePinLaw", "expected", "(I)Lcom/example/hale_ledger/haleledger/protocol/Status;"⟩ : MethodName)) (hw _ (List.mem_of_getElem? (i := 15) rfl)) (hw _ (List.mem_of_getElem? (i := 16) rfl)) (hw _ (List.mem_of_getElem? (i := 17) rfl)) (hw _ (List.mem_of_getElem? (i := 18) rfl)) (by decide) (rm2 l Z a0 hw [] p0 s_Status_OK s_Status_NO_ENTRY s_Status_BAD_REQUEST s_Status_UNSUPPORTED_VERSION s_Status_UNKNOWN_REQUEST_TYPE s_Status_SERVER_ERROR s_Status_FENCED h0 n0 Z0 (S_s_Status_OK) (S_s_Status_NO_ENTRY) (S_s_Status_BAD_REQUEST) (S_s_Status_UNSUPPORTED_VERSION) (S_s_Status_UNKNOWN_REQUEST_TYPE) (S_s_Status_SERVER_ERROR) (S_s_Status_FENCED)) (by decide) (by decide) (by decide) (by decide) (g := (mkF m 20 A416 [(.int p0), .null])) rfl (by rw [hml]; rfl) (argsL := [(.int p0)]) (rest := [.null]) rfl (lenOf pd_0 rfl) rfl (by show 2 * 0 + _ ≤ _; exact Nat.le_of_eq rfl) (hb hby at_20)
      obtain ⟨rfl, N431, e431⟩ := hQ431
      have N431_ := Fr.app N413_ N431
      rw [hv411] at st431
      refine Go.st (S' := T431.setTop (mkF m 23 A416 [.null, .null])) st431 ?_
      refine Go.st (S' := T431.setTop (mkF m 26 A416 [])) (fun t k => acmp X431 hx rfl rfl rfl (pc0 := 23) (pc' := 26) (same := true) rfl (hb hby at_23) rfl (by simp) (by decide) (by decide) k) ?_
      refine Go.st (S' := T431.setTop (mkF m 28 A416 [.null])) (fun t k => XS.aload X431.here hx rfl (hb hby at_26) rfl rfl k) ?_
      refine Go.st (S' := T431.setTop (mkF m 29 A416 [(.int v2), .null])) (fun t k => XS.iloadN X431.here hx rfl (hb hby at_28) rfl k) ?_
      obtain ⟨r432, T432, L432, X432, hQ432, st432⟩ := own_callS (W := 1) X431 hx hZ e431 hown (y := (⟨"com/example/hale_ledger/haleledger/protocol/StatusOfCodePinLaw", "expected", "(I)Lcom/example/hale_ledger/haleledger/protocol/Status;"⟩ : MethodName)) (hw _ (List.mem_of_getElem? (i := 15) rfl)) (hw _ (List.mem_of_getElem? (i := 16) rfl)) (hw _ (List.mem_of_getElem? (i := 17) rfl)) (hw _ (List.mem_of_getElem? (i := 18) rfl)) (by decide) (rm2 l Z a0 hw [] v2 s_Status_OK s_Status_NO_ENTRY s_Status_BAD_REQUEST s_Status_UNSUPPORTED_VERSION s_Status_UNKNOWN_REQUEST_TYPE s_Status_SERVER_ERROR s_Status_FENCED h0 n0 Z0 (S_s_Status_OK) (S_s_Status_NO_ENTRY) (S_s_Status_BAD_REQUEST) (S_s_Status_UNSUPPORTED_VERSION) (S_s_Status_UNKNOWN_REQUEST_TYPE) (S_s_Status_SERVER_ERROR) (S_s_Status_FENCED)) (by decide) (by decide) (by decide) (by decide) (g := (mkF m 29 A416 [(.int v2), .null])) rfl (by rw [hml]; rfl) (argsL := [(.int v2)]) (rest := [.null]) rfl (lenOf pd_0 rfl) rfl (by show 2 * 0 + _ ≤ _; exact Nat.le_of_eq rfl) (hb hby at_29)
      obtain ⟨rfl, N432, e432⟩ := hQ432
      have N432_ := Fr.app N431_ N432
      rw [hv415] at st432
      refine Go.st (S' := T432.setTop (mkF m 32 A416 [.null, .null])) st432 ?_
      refine Go.st (S' := T432.setTop (mkF m 35 A416 [])) (fun t k => acmp X432 hx rfl rfl rfl (pc0 := 32) (pc' := 35) (same := true) rfl (hb hby at_32) rfl (by simp) (by decide) (by decide) k) ?_
      refine Go.st (S' := T432.setTop (mkF m 36 A416 [(.int (1 : Int32))])) (fun t k => XS.iconst X432.here hx rfl (hb hby at_35) k) ?_
      refine Go.st (S' := T432.setTop (mkF m 40 A416 [(.int (1 : Int32))])) (fun t k => XS.goto X432.here hx rfl (pc0 := 36) (pc' := 40) rfl (hb hby at_36) (by decide) (by decide) k) ?_
      exact Go.ret X432 (v := some (.int (1 : Int32))) (fun h => by rw [Bd.returns] at h; cases h) Bd.notSynchronized (fun fs hr => retN X432 hx (t := .boolean) Bd.returns (by simp) (hb hby at_40) hr) (by decide) (by decide) ⟨rfl, N432_⟩
    · rw [hv415] at st413
      refine Go.st (S' := T413.setTop (mkF m 16 A412 [(.ref a414)])) st413 ?_
      let A433 : Array Slot := #[.val (.int p0), .val (.int p1), .val (.int v2), .val .null, .val (.ref a414)]
      refine Go.st (S' := T413.setTop (mkF m 18 A433 [])) (fun t k => XS.astore X413.here hx rfl (hb hby at_16) rfl rfl (l' := A433) rfl k) ?_
      refine Go.st (S' := T413.setTop (mkF m 19 A433 [.null])) (fun t k => XS.aloadN X413.here hx rfl (hb hby at_18) rfl rfl k) ?_
      refine Go.st (S' := T413.setTop (mkF m 20 A433 [(.int p0), .null])) (fun t k => XS.iloadN X413.here hx rfl (hb hby at_19) rfl k) ?_
      obtain ⟨r434, T434, L434, X434, hQ434, st434⟩ := own_callS (W := 1) X413 hx hZ e413 hown (y := (⟨"com/example/hale_ledger/haleledger/protocol/StatusOfCodePinLaw", "expected", "(I)Lcom/example/hale_ledger/haleledger/protocol/Status;"⟩ : MethodName)) (hw _ (List.mem_of_getElem? (i := 15) rfl)) (hw _ (List.mem_of_getElem? (i := 16) rfl)) (hw _ (List.mem_of_getElem? (i := 17) rfl)) (hw _ (List.mem_of_getElem? (i := 18) rfl)) (by decide) (rm2 l Z a0 hw [] p0 s_Status_OK s_Status_NO_ENTRY s_Status_BAD_REQUEST s_Status_UNSUPPORTED_VERSION s_Status_UNKNOWN_REQUEST_TYPE s_Status_SERVER_ERROR s_Status_FENCED h0 n0 Z0 (S_s_Status_OK) (S_s_Status_NO_ENTRY) (S_s_Status_BAD_REQUEST) (S_s_Status_UNSUPPORTED_VERSION) (S_s_Status_UNKNOWN_REQUEST_TYPE) (S_s_Status_SERVER_ERROR) (S_s_Status_FENCED)) (by decide) (by decide) (by decide) (by decide) (g := (mkF m 20 A433 [(.int p0), .null])) rfl (by rw [hml]; rfl) (argsL := [(.int p0)]) (rest := [.null]) rfl (lenOf pd_0 rfl) rfl (by show 2 * 0 + _ ≤ _; exact Nat.le_of_eq rfl) (hb hby at_20)
      obtain ⟨rfl, N434, e434⟩ := hQ434
      have N434_ := Fr.app N413_ N434
      rw [hv411] at st434
      refine Go.st (S' := T434.setTop (mkF m 23 A433 [.null, .null])) st434 ?_
      refine Go.st (S' := T434.setTop (mkF m 26 A433 [])) (fun t k => acmp X434 hx rfl rfl rfl (pc0 := 23) (pc' := 26) (same := true) rfl (hb hby at_23) rfl (by simp) (by decide) (by decide) k) ?_
      refine Go.st (S' := T434.setTop (mkF m 28 A433 [(.ref a414)])) (fun t k => XS.aload X434.here hx rfl (hb hby at_26) rfl rfl k) ?_
      refine Go.st (S' := T434.setTop (mkF m 29 A433 [(.int v2), (.ref a414)])) (fun t k => XS.iloadN X434.here hx rfl (hb hby at_28) rfl k) ?_
      obtain ⟨r435, T435, L435, X435, hQ435, st435⟩ := own_callS (W := 1) X434 hx hZ e434 hown (y := (⟨"com/example/hale_ledger/haleledger/protocol/StatusOfCodePinLaw", "expected", "(I)Lcom/example/hale_ledger/haleledger/protocol/Status;"⟩ : MethodName)) (hw _ (List.mem_of_getElem? (i := 15) rfl)) (hw _ (List.mem_of_getElem? (i := 16) rfl)) (hw _ (List.mem_of_getElem? (i := 17) rfl)) (hw _ (List.mem_of_getElem? (i := 18) rfl)) (by decide) (rm2 l Z a0 hw [] v2 s_Status_OK s_Status_NO_ENTRY s_Status_BAD_REQUEST s_Status_UNSUPPORTED_VERSION s_Status_UNKNOWN_REQUEST_TYPE s_Status_SERVER_ERROR s_Status_FENCED h0 n0 Z0 (S_s_Status_OK) (S_s_Status_NO_ENTRY) (S_s_Status_BAD_REQUEST) (S_s_Status_UNSUPPORTED_VERSION) (S_s_Status_UNKNOWN_REQUEST_TYPE) (S_s_Status_SERVER_ERROR) (S_s_Status_FENCED)) (by decide) (by decide) (by decide) (by decide) (g := (mkF m 29 A433 [(.int v2), (.ref a414)])) rfl (by rw [hml]; rfl) (argsL := [(.int v2)]) (rest := [(.ref a414)]) rfl (lenOf pd_0 rfl) rfl (by show 2 * 0 + _ ≤ _; exact Nat.le_of_eq rfl) (hb hby at_29)
      obtain ⟨rfl, N435, e435⟩ := hQ435
      have N435_ := Fr.app N434_ N435
      rw [hv415] at st435
      refine Go.st (S' := T435.setTop (mkF m 32 A433 [(.ref a414), (.ref a414)])) st435 ?_
      refine Go.st (S' := T435.setTop (mkF m 35 A433 [])) (fun t k => acmp X435 hx rfl rfl rfl (pc0 := 32) (pc' := 35) (same := true) rfl (hb hby at_32) rfl (by simp) (by decide) (by decide) k) ?_
      refine Go.st (S' := T435.setTop (mkF m 36 A433 [(.int (1 : Int32))])) (fun t k => XS.iconst X435.here hx rfl (hb hby at_35) k) ?_
      refine Go.st (S' := T435.setTop (mkF m 40 A433 [(.int (1 : Int32))])) (fun t k => XS.goto X435.here hx rfl (pc0 := 36) (pc' := 40) rfl (hb hby at_36) (by decide) (by decide) k) ?_
      exact Go.ret X435 (v := some (.int (1 : Int32))) (fun h => by rw [Bd.returns] at h; cases h) Bd.notSynchronized (fun fs hr => retN X435 hx (t := .boolean) Bd.returns (by simp) (hb hby at_40) hr) (by decide) (by decide) ⟨rfl, N435_⟩
  · rw [hv411] at st409
    refine Go.st (S' := T409.setTop (mkF m 11 A3 [(.ref a410)])) st409 ?_
    let A436 : Array Slot := #[.val (.int p0), .val (.int p1), .val (.int v2), .val (.ref a410), .unset]
    refine Go.st (S' := T409.setTop (mkF m 12 A436 [])) (fun t k => XS.astoreN X409.here hx rfl (hb hby at_11) rfl rfl (l' := A436) rfl k) ?_
    refine Go.st (S' := T409.setTop (mkF m 13 A436 [(.int v2)])) (fun t k => XS.iloadN X409.here hx rfl (hb hby at_12) rfl k) ?_
    obtain ⟨r437, T437, L437, X437, hQ437, st437⟩ := own_callS (W := 0) X409 hx hZ e409 hown (y := (⟨"com/example/hale_ledger/haleledger/protocol/Status", "ofCode", "(I)Lcom/example/hale_ledger/haleledger/protocol/Status;"⟩ : MethodName)) (hw _ (List.mem_of_getElem? (i := 0) rfl)) (hw _ (List.mem_of_getElem? (i := 1) rfl)) (hw _ (List.mem_of_getElem? (i := 2) rfl)) (hw _ (List.mem_of_getElem? (i := 3) rfl)) (by decide) (rm1 l Z a0 hw [] v2 s_Status_VALUES k_s_Status_VALUES s_Status_OK s_Status_NO_ENTRY s_Status_BAD_REQUEST s_Status_UNSUPPORTED_VERSION s_Status_UNKNOWN_REQUEST_TYPE s_Status_SERVER_ERROR s_Status_FENCED h0 n0 Z0 (S_s_Status_VALUES) (V_s_Status_VALUES) (F_s_Status_OK_code) (F_s_Status_NO_ENTRY_code) (F_s_Status_BAD_REQUEST_code) (F_s_Status_UNSUPPORTED_VERSION_code) (F_s_Status_UNKNOWN_REQUEST_TYPE_code) (F_s_Status_SERVER_ERROR_code) (F_s_Status_FENCED_code)) (by decide) (by decide) (by decide) (by decide) (g := (mkF m 13 A436 [(.int v2)])) rfl (by rw [hml]; rfl) (argsL := [(.int v2)]) (rest := []) rfl (lenOf pd_0 rfl) rfl (by show 2 * 0 + _ ≤ _; exact Nat.le_of_eq rfl) (hb hby at_13)
    obtain ⟨rfl, N437, e437⟩ := hQ437
    have N437_ := Fr.app N409_ N437
    rcases ofV_cases v2 s_Status_OK s_Status_NO_ENTRY s_Status_BAD_REQUEST s_Status_UNSUPPORTED_VERSION s_Status_UNKNOWN_REQUEST_TYPE s_Status_SERVER_ERROR s_Status_FENCED with hv439 | ⟨a438, hv439⟩
    · rw [hv439] at st437
      refine Go.st (S' := T437.setTop (mkF m 16 A436 [.null])) st437 ?_
      let A440 : Array Slot := #[.val (.int p0), .val (.int p1), .val (.int v2), .val (.ref a410), .val .null]
      refine Go.st (S' := T437.setTop (mkF m 18 A440 [])) (fun t k => XS.astore X437.here hx rfl (hb hby at_16) rfl rfl (l' := A440) rfl k) ?_
      refine Go.st (S' := T437.setTop (mkF m 19 A440 [(.ref a410)])) (fun t k => XS.aloadN X437.here hx rfl (hb hby at_18) rfl rfl k) ?_
      refine Go.st (S' := T437.setTop (mkF m 20 A440 [(.int p0), (.ref a410)])) (fun t k => XS.iloadN X437.here hx rfl (hb hby at_19) rfl k) ?_
      obtain ⟨r441, T441, L441, X441, hQ441, st441⟩ := own_callS (W := 1) X437 hx hZ e437 hown (y := (⟨"com/example/hale_ledger/haleledger/protocol/StatusOfCodePinLaw", "expected", "(I)Lcom/example/hale_ledger/haleledger/protocol/Status;"⟩ : MethodName)) (hw _ (List.mem_of_getElem? (i := 15) rfl)) (hw _ (List.mem_of_getElem? (i := 16) rfl)) (hw _ (List.mem_of_getElem? (i := 17) rfl)) (hw _ (List.mem_of_getElem? (i := 18) rfl)) (by decide) (rm2 l Z a0 hw [] p0 s_Status_OK s_Status_NO_ENTRY s_Status_BAD_REQUEST s_Status_UNSUPPORTED_VERSION s_Status_UNKNOWN_REQUEST_TYPE s_Status_SERVER_ERROR s_Status_FENCED h0 n0 Z0 (S_s_Status_OK) (S_s_Status_NO_ENTRY) (S_s_Status_BAD_REQUEST) (S_s_Status_UNSUPPORTED_VERSION) (S_s_Status_UNKNOWN_REQUEST_TYPE) (S_s_Status_SERVER_ERROR) (S_s_Status_FENCED)) (by decide) (by decide) (by decide) (by decide) (g := (mkF m 20 A440 [(.int p0), (.ref a410)])) rfl (by rw [hml]; rfl) (argsL := [(.int p0)]) (rest := [(.ref a410)]) rfl (lenOf pd_0 rfl) rfl (by show 2 * 0 + _ ≤ _; exact Nat.le_of_eq rfl) (hb hby at_20)
      obtain ⟨rfl, N441, e441⟩ := hQ441
      have N441_ := Fr.app N437_ N441
      rw [hv411] at st441
      refine Go.st (S' := T441.setTop (mkF m 23 A440 [(.ref a410), (.ref a410)])) st441 ?_
      refine Go.st (S' := T441.setTop (mkF m 26 A440 [])) (fun t k => acmp X441 hx rfl rfl rfl (pc0 := 23) (pc' := 26) (same := true) rfl (hb hby at_23) rfl (by simp) (by decide) (by decide) k) ?_
      refine Go.st (S' := T441.setTop (mkF m 28 A440 [.null])) (fun t k => XS.aload X441.here hx rfl (hb hby at_26) rfl rfl k) ?_
      refine Go.st (S' := T441.setTop (mkF m 29 A440 [(.int v2), .null])) (fun t k => XS.iloadN X441.here hx rfl (hb hby at_28) rfl k) ?_
      obtain ⟨r442, T442, L442, X442, hQ442, st442⟩ := own_callS (W := 1) X441 hx hZ e441 hown (y := (⟨"com/example/hale_ledger/haleledger/protocol/StatusOfCodePinLaw", "expected", "(I)Lcom/example/hale_ledger/haleledger/protocol/Status;"⟩ : MethodName)) (hw _ (List.mem_of_getElem? (i := 15) rfl)) (hw _ (List.mem_of_getElem? (i := 16) rfl)) (hw _ (List.mem_of_getElem? (i := 17) rfl)) (hw _ (List.mem_of_getElem? (i := 18) rfl)) (by decide) (rm2 l Z a0 hw [] v2 s_Status_OK s_Status_NO_ENTRY s_Status_BAD_REQUEST s_Status_UNSUPPORTED_VERSION s_Status_UNKNOWN_REQUEST_TYPE s_Status_SERVER_ERROR s_Status_FENCED h0 n0 Z0 (S_s_Status_OK) (S_s_Status_NO_ENTRY) (S_s_Status_BAD_REQUEST) (S_s_Status_UNSUPPORTED_VERSION) (S_s_Status_UNKNOWN_REQUEST_TYPE) (S_s_Status_SERVER_ERROR) (S_s_Status_FENCED)) (by decide) (by decide) (by decide) (by decide) (g := (mkF m 29 A440 [(.int v2), .null])) rfl (by rw [hml]; rfl) (argsL := [(.int v2)]) (rest := [.null]) rfl (lenOf pd_0 rfl) rfl (by show 2 * 0 + _ ≤ _; exact Nat.le_of_eq rfl) (hb hby at_29)
      obtain ⟨rfl, N442, e442⟩ := hQ442
      have N442_ := Fr.app N441_ N442
      rw [hv439] at st442
      refine Go.st (S' := T442.setTop (mkF m 32 A440 [.null, .null])) st442 ?_
      refine Go.st (S' := T442.setTop (mkF m 35 A440 [])) (fun t k => acmp X442 hx rfl rfl rfl (pc0 := 32) (pc' := 35) (same := true) rfl (hb hby at_32) rfl (by simp) (by decide) (by decide) k) ?_
      refine Go.st (S' := T442.setTop (mkF m 36 A440 [(.int (1 : Int32))])) (fun t k => XS.iconst X442.here hx rfl (hb hby at_35) k) ?_
      refine Go.st (S' := T442.setTop (mkF m 40 A440 [(.int (1 : Int32))])) (fun t k => XS.goto X442.here hx rfl (pc0 := 36) (pc' := 40) rfl (hb hby at_36) (by decide) (by decide) k) ?_
      exact Go.ret X442 (v := some (.int (1 : Int32))) (fun h => by rw [Bd.returns] at h; cases h) Bd.notSynchronized (fun fs hr => retN X442 hx (t := .boolean) Bd.returns (by simp) (hb hby at_40) hr) (by decide) (by decide) ⟨rfl, N442_⟩
    · rw [hv439] at st437
      refine Go.st (S' := T437.setTop (mkF m 16 A436 [(.ref a438)])) st437 ?_
      let A443 : Array Slot := #[.val (.int p0), .val (.int p1), .val (.int v2), .val (.ref a410), .val (.ref a438)]
      refine Go.st (S' := T437.setTop (mkF m 18 A443 [])) (fun t k => XS.astore X437.here hx rfl (hb hby at_16) rfl rfl (l' := A443) rfl k) ?_
      refine Go.st (S' := T437.setTop (mkF m 19 A443 [(.ref a410)])) (fun t k => XS.aloadN X437.here hx rfl (hb hby at_18) rfl rfl k) ?_
      refine Go.st (S' := T437.setTop (mkF m 20 A443 [(.int p0), (.ref a410)])) (fun t k => XS.iloadN X437.here hx rfl (hb hby at_19) rfl k) ?_
      obtain ⟨r444, T444, L444, X444, hQ444, st444⟩ := own_callS (W := 1) X437 hx hZ e437 hown (y := (⟨"com/example/hale_ledger/haleledger/protocol/StatusOfCodePinLaw", "expected", "(I)Lcom/example/hale_ledger/haleledger/protocol/Status;"⟩ : MethodName)) (hw _ (List.mem_of_getElem? (i := 15) rfl)) (hw _ (List.mem_of_getElem? (i := 16) rfl)) (hw _ (List.mem_of_getElem? (i := 17) rfl)) (hw _ (List.mem_of_getElem? (i := 18) rfl)) (by decide) (rm2 l Z a0 hw [] p0 s_Status_OK s_Status_NO_ENTRY s_Status_BAD_REQUEST s_Status_UNSUPPORTED_VERSION s_Status_UNKNOWN_REQUEST_TYPE s_Status_SERVER_ERROR s_Status_FENCED h0 n0 Z0 (S_s_Status_OK) (S_s_Status_NO_ENTRY) (S_s_Status_BAD_REQUEST) (S_s_Status_UNSUPPORTED_VERSION) (S_s_Status_UNKNOWN_REQUEST_TYPE) (S_s_Status_SERVER_ERROR) (S_s_Status_FENCED)) (by decide) (by decide) (by decide) (by decide) (g := (mkF m 20 A443 [(.int p0), (.ref a410)])) rfl (by rw [hml]; rfl) (argsL := [(.int p0)]) (rest := [(.ref a410)]) rfl (lenOf pd_0 rfl) rfl (by show 2 * 0 + _ ≤ _; exact Nat.le_of_eq rfl) (hb hby at_20)
      obtain ⟨rfl, N444, e444⟩ := hQ444
      have N444_ := Fr.app N437_ N444
      rw [hv411] at st444
      refine Go.st (S' := T444.setTop (mkF m 23 A443 [(.ref a410), (.ref a410)])) st444 ?_
      refine Go.st (S' := T444.setTop (mkF m 26 A443 [])) (fun t k => acmp X444 hx rfl rfl rfl (pc0 := 23) (pc' := 26) (same := true) rfl (hb hby at_23) rfl (by simp) (by decide) (by decide) k) ?_
      refine Go.st (S' := T444.setTop (mkF m 28 A443 [(.ref a438)])) (fun t k => XS.aload X444.here hx rfl (hb hby at_26) rfl rfl k) ?_
      refine Go.st (S' := T444.setTop (mkF m 29 A443 [(.int v2), (.ref a438)])) (fun t k => XS.iloadN X444.here hx rfl (hb hby at_28) rfl k) ?_
      obtain ⟨r445, T445, L445, X445, hQ445, st445⟩ := own_callS (W := 1) X444 hx hZ e444 hown (y := (⟨"com/example/hale_ledger/haleledger/protocol/StatusOfCodePinLaw", "expected", "(I)Lcom/example/hale_ledger/haleledger/protocol/Status;"⟩ : MethodName)) (hw _ (List.mem_of_getElem? (i := 15) rfl)) (hw _ (List.mem_of_getElem? (i := 16) rfl)) (hw _ (List.mem_of_getElem? (i := 17) rfl)) (hw _ (List.mem_of_getElem? (i := 18) rfl)) (by decide) (rm2 l Z a0 hw [] v2 s_Status_OK s_Status_NO_ENTRY s_Status_BAD_REQUEST s_Status_UNSUPPORTED_VERSION s_Status_UNKNOWN_REQUEST_TYPE s_Status_SERVER_ERROR s_Status_FENCED h0 n0 Z0 (S_s_Status_OK) (S_s_Status_NO_ENTRY) (S_s_Status_BAD_REQUEST) (S_s_Status_UNSUPPORTED_VERSION) (S_s_Status_UNKNOWN_REQUEST_TYPE) (S_s_Status_SERVER_ERROR) (S_s_Status_FENCED)) (by decide) (by decide) (by decide) (by decide) (g := (mkF m 29 A443 [(.int v2), (.ref a438)])) rfl (by rw [hml]; rfl) (argsL := [(.int v2)]) (rest := [(.ref a438)]) rfl (lenOf pd_0 rfl) rfl (by show 2 * 0 + _ ≤ _; exact Nat.le_of_eq rfl) (hb hby at_29)
      obtain ⟨rfl, N445, e445⟩ := hQ445
      have N445_ := Fr.app N444_ N445
      rw [hv439] at st445
      refine Go.st (S' := T445.setTop (mkF m 32 A443 [(.ref a438), (.ref a438)])) st445 ?_
      refine Go.st (S' := T445.setTop (mkF m 35 A443 [])) (fun t k => acmp X445 hx rfl rfl rfl (pc0 := 32) (pc' := 35) (same := true) rfl (hb hby at_32) rfl (by simp) (by decide) (by decide) k) ?_
      refine Go.st (S' := T445.setTop (mkF m 36 A443 [(.int (1 : Int32))])) (fun t k => XS.iconst X445.here hx rfl (hb hby at_35) k) ?_
      refine Go.st (S' := T445.setTop (mkF m 40 A443 [(.int (1 : Int32))])) (fun t k => XS.goto X445.here hx rfl (pc0 := 36) (pc' := 40) rfl (hb hby at_36) (by decide) (by decide) k) ?_
      exact Go.ret X445 (v := some (.int (1 : Int32))) (fun h => by rw [Bd.returns] at h; cases h) Bd.notSynchronized (fun fs hr => retN X445 hx (t := .boolean) Bd.returns (by simp) (hb hby at_40) hr) (by decide) (by decide) ⟨rfl, N445_⟩
set_option maxRecDepth 65536 in
set_option maxHeartbeats 40000000 in
theorem comes_1 {Post : Tables → Env → Array Value → State → Outcome → State → Prop} (hpost : ∀ tb e args s v u, (limb_1_1.after args s (.returned v) u = true ∧ limb_1_2.after args s (.returned v) u = true ∧ True) → FrameEnd s (.returned v) u (Jvm.fieldLocs frame_1_writes args s ++ Jvm.arrayLocs frame_1_arrays args s ++ Jvm.staticLocs frame_1_statics s) 0 0 → Post tb e args s (.returned v) u) :
    ArmFor flags0 classFile x code maxLocals ret World_1 tables_1 room_1 Calls_1 rest_1 Pre_1 Post := by
  intro l hfl _ _ p e ha hc hk s m args below hf hA hF happ hP
  obtain ⟨hcalls, hrest, hpre⟩ := hP
  obtain ⟨-, -, -, hnamed, -, -, -, hat⟩ := (Spec.applies_iff hf).mp happ
  obtain ⟨hg, hn⟩ := and_e (Cond.before_iff.mp (show (Jvm.Cond.and given_1 narrow_1).before args s = true from hpre))
  obtain ⟨h1, h2⟩ := and_e hg
  obtain ⟨w0, w1, rfl⟩ : ∃ w0 w1 : Value, args = #[w0, w1] := by
    have hs : args.size = 2 := by simpa [Cond.value, given_1] using h1
    obtain ⟨L⟩ := args
    match L, hs with
    | [w0, w1], _ => exact ⟨w0, w1, rfl⟩
  have hw := fun d (hd : d ∈ tables_1) => atoms_spec (ws := Jvm.Cond.code x code maxLocals ret :: tables_1) hat d (List.mem_cons_of_mem _ hd)
  have hfit : Fit s := fun {y c} hc i hi => by
    obtain ⟨ha, rfl⟩ := Array.getElem?_eq_some_iff.mp hc
    have q := List.all_eq_true.mp ((Array.all_eq_true_iff_forall_mem.mp hF) _ (Array.getElem_mem ha)) i (List.mem_range.mpr hi)
    simpa [Array.getElem?_eq_getElem hi] using q
  obtain ⟨q0, h2_0⟩ := and_e h2
  obtain ⟨i0, ee0⟩ := is_v q0
  obtain rfl : w0 = (.int i0) := Option.some.inj ee0
  obtain ⟨i1, ee1⟩ := is_v h2_0
  obtain rfl : w1 = (.int i1) := Option.some.inj ee1
  obtain ⟨n0, hn0⟩ := and_e hn
  obtain ⟨n1, hn1⟩ := and_e hn0
  obtain ⟨n2, hn2⟩ := and_e hn1
  obtain ⟨n3, hn3⟩ := and_e hn2
  obtain ⟨n4, hn4⟩ := and_e hn3
  obtain ⟨n5, hn5⟩ := and_e hn4
  obtain ⟨n6, hn6⟩ := and_e hn5
  obtain ⟨n7, hn7⟩ := and_e hn6
  obtain ⟨n8, hn8⟩ := and_e hn7
  obtain ⟨n9, hn9⟩ := and_e hn8
  obtain ⟨n10, hn10⟩ := and_e hn9
  obtain ⟨n11, hn11⟩ := and_e hn10
  obtain ⟨n12, hn12⟩ := and_e hn11
  obtain ⟨n13, hn13⟩ := and_e hn12
  obtain ⟨n14, hn14⟩ := and_e hn13
  obtain ⟨n15, hn15⟩ := and_e hn14
  obtain ⟨n16, hn16⟩ := and_e hn15
  obtain ⟨n17, hn17⟩ := and_e hn16
  obtain ⟨n18, hn18⟩ := and_e hn17
  obtain ⟨n19, hn19⟩ := and_e hn18
  obtain ⟨n20, hn20⟩ := and_e hn19
  obtain ⟨n21, hn21⟩ := and_e hn20
  obtain ⟨s_Status_VALUES, ev_s_Status_VALUES⟩ := arr_v n0
  obtain ⟨s_Status_OK, ev_s_Status_OK⟩ := exa_v n2
  obtain ⟨s_Status_NO_ENTRY, ev_s_Status_NO_ENTRY⟩ := exa_v n5
  obtain ⟨s_Status_BAD_REQUEST, ev_s_Status_BAD_REQUEST⟩ := exa_v n8
  obtain ⟨s_Status_UNSUPPORTED_VERSION, ev_s_Status_UNSUPPORTED_VERSION⟩ := exa_v n11
  obtain ⟨s_Status_UNKNOWN_REQUEST_TYPE, ev_s_Status_UNKNOWN_REQUEST_TYPE⟩ := exa_v n14
  obtain ⟨s_Status_SERVER_ERROR, ev_s_Status_SERVER_ERROR⟩ := exa_v n17
  obtain ⟨s_Status_FENCED, ev_s_Status_FENCED⟩ := exa_v n20
  obtain ⟨cl_s_Status_VALUES, Ar_s_Status_VALUES⟩ := Arr.start ev_s_Status_VALUES n0
  have E_s_Status_OK : Exa s s.heap s_Status_OK "com/example/hale_ledger/haleledger/protocol/Status" := Exa.start ev_s_Status_OK n2
  have F_s_Status_OK_code : Fld s s.heap s_Status_OK "com/example/hale_ledger/haleledger/protocol/Status" "code" "I" (.int (0 : Int32)) := own_fld ev_s_Status_OK (own_eq_int n4)
  have E_s_Status_NO_ENTRY : Exa s s.heap s_Status_NO_ENTRY "com/example/hale_ledger/haleledger/protocol/Status" := Exa.start ev_s_Status_NO_ENTRY n5
  have F_s_Status_NO_ENTRY_code : Fld s s.heap s_Status_NO_ENTRY "com/example/hale_ledger/haleledger/protocol/Status" "code" "I" (.int (1 : Int32)) := own_fld ev_s_Status_NO_ENTRY (own_eq_int n7)
  have E_s_Status_BAD_REQUEST : Exa s s.heap s_Status_BAD_REQUEST "com/example/hale_ledger/haleledger/protocol/Status" := Exa.start ev_s_Status_BAD_REQUEST n8
  have F_s_Status_BAD_REQUEST_code : Fld s s.heap s_Status_BAD_REQUEST "com/example/hale_ledger/haleledger/protocol/Status" "code" "I" (.int (2 : Int32)) := own_fld ev_s_Status_BAD_REQUEST (own_eq_int n10)
  have E_s_Status_UNSUPPORTED_VERSION : Exa s s.heap s_Status_UNSUPPORTED_VERSION "com/example/hale_ledger/haleledger/protocol/Status" := Exa.start ev_s_Status_UNSUPPORTED_VERSION n11
  have F_s_Status_UNSUPPORTED_VERSION_code : Fld s s.heap s_Status_UNSUPPORTED_VERSION "com/example/hale_ledger/haleledger/protocol/Status" "code" "I" (.int (3 : Int32)) := own_fld ev_s_Status_UNSUPPORTED_VERSION (own_eq_int n13)
  have E_s_Status_UNKNOWN_REQUEST_TYPE : Exa s s.heap s_Status_UNKNOWN_REQUEST_TYPE "com/example/hale_ledger/haleledger/protocol/Status" := Exa.start ev_s_Status_UNKNOWN_REQUEST_TYPE n14
  have F_s_Status_UNKNOWN_REQUEST_TYPE_code : Fld s s.heap s_Status_UNKNOWN_REQUEST_TYPE "com/example/hale_ledger/haleledger/protocol/Status" "code" "I" (.int (4 : Int32)) := own_fld ev_s_Status_UNKNOWN_REQUEST_TYPE (own_eq_int n16)
  have E_s_Status_SERVER_ERROR : Exa s s.heap s_Status_SERVER_ERROR "com/example/hale_ledger/haleledger/protocol/Status" := Exa.start ev_s_Status_SERVER_ERROR n17
  have F_s_Status_SERVER_ERROR_code : Fld s s.heap s_Status_SERVER_ERROR "com/example/hale_ledger/haleledger/protocol/Status" "code" "I" (.int (5 : Int32)) := own_fld ev_s_Status_SERVER_ERROR (own_eq_int n19)
  have E_s_Status_FENCED : Exa s s.heap s_Status_FENCED "com/example/hale_ledger/haleledger/protocol/Status" := Exa.start ev_s_Status_FENCED n20
  have F_s_Status_FENCED_code : Fld s s.heap s_Status_FENCED "com/example/hale_ledger/haleledger/protocol/Status" "code" "I" (.int (6 : Int32)) := own_fld ev_s_Status_FENCED (own_eq_int hn21)
  obtain ⟨lq_s_Status_VALUES, le_s_Status_VALUES⟩ := own_len ev_s_Status_VALUES Ar_s_Status_VALUES (own_eq_int n1)
  have V_s_Status_VALUES : Arv s s.heap s_Status_VALUES cl_s_Status_VALUES.cls (.object "com/example/hale_ledger/haleledger/protocol/Status") (7 : Int32) [(.ref s_Status_OK), (.ref s_Status_NO_ENTRY), (.ref s_Status_BAD_REQUEST), (.ref s_Status_UNSUPPORTED_VERSION), (.ref s_Status_UNKNOWN_REQUEST_TYPE), (.ref s_Status_SERVER_ERROR), (.ref s_Status_FENCED)] .null := Arv.start hfit Ar_s_Status_VALUES lq_s_Status_VALUES le_s_Status_VALUES (by decide) rfl ⟨(own_slot ev_s_Status_VALUES Ar_s_Status_VALUES (own_eq_ref n3 ev_s_Status_OK)), (own_slot ev_s_Status_VALUES Ar_s_Status_VALUES (own_eq_ref n6 ev_s_Status_NO_ENTRY)), (own_slot ev_s_Status_VALUES Ar_s_Status_VALUES (own_eq_ref n9 ev_s_Status_BAD_REQUEST)), (own_slot ev_s_Status_VALUES Ar_s_Status_VALUES (own_eq_ref n12 ev_s_Status_UNSUPPORTED_VERSION)), (own_slot ev_s_Status_VALUES Ar_s_Status_VALUES (own_eq_ref n15 ev_s_Status_UNKNOWN_REQUEST_TYPE)), (own_slot ev_s_Status_VALUES Ar_s_Status_VALUES (own_eq_ref n18 ev_s_Status_SERVER_ERROR)), (own_slot ev_s_Status_VALUES Ar_s_Status_VALUES (own_eq_ref n21 ev_s_Status_FENCED)), trivial⟩
  obtain ⟨n, o, h1, h2, h3, _, L, rfl, ⟨rfl, N⟩, hq⟩ := rm3 l s _ hw tables_1 i0 i1 s_Status_VALUES cl_s_Status_VALUES.cls s_Status_OK s_Status_NO_ENTRY s_Status_BAD_REQUEST s_Status_UNSUPPORTED_VERSION s_Status_UNKNOWN_REQUEST_TYPE s_Status_SERVER_ERROR s_Status_FENCED s.heap s.heap.size (Nat.le_refl _) (Sta.start ev_s_Status_VALUES (Or.inr ⟨(hw _ (List.mem_of_getElem? (i := 2) rfl)), (hw _ (List.mem_of_getElem? (i := 5) rfl))⟩)) V_s_Status_VALUES F_s_Status_OK_code F_s_Status_NO_ENTRY_code F_s_Status_BAD_REQUEST_code F_s_Status_UNSUPPORTED_VERSION_code F_s_Status_UNKNOWN_REQUEST_TYPE_code F_s_Status_SERVER_ERROR_code F_s_Status_FENCED_code (Sta.start ev_s_Status_OK (Or.inr ⟨(hw _ (List.mem_of_getElem? (i := 2) rfl)), (hw _ (List.mem_of_getElem? (i := 6) rfl))⟩)) (Sta.start ev_s_Status_NO_ENTRY (Or.inr ⟨(hw _ (List.mem_of_getElem? (i := 2) rfl)), (hw _ (List.mem_of_getElem? (i := 9) rfl))⟩)) (Sta.start ev_s_Status_BAD_REQUEST (Or.inr ⟨(hw _ (List.mem_of_getElem? (i := 2) rfl)), (hw _ (List.mem_of_getElem? (i := 10) rfl))⟩)) (Sta.start ev_s_Status_UNSUPPORTED_VERSION (Or.inr ⟨(hw _ (List.mem_of_getElem? (i := 2) rfl)), (hw _ (List.mem_of_getElem? (i := 11) rfl))⟩)) (Sta.start ev_s_Status_UNKNOWN_REQUEST_TYPE (Or.inr ⟨(hw _ (List.mem_of_getElem? (i := 2) rfl)), (hw _ (List.mem_of_getElem? (i := 12) rfl))⟩)) (Sta.start ev_s_Status_SERVER_ERROR (Or.inr ⟨(hw _ (List.mem_of_getElem? (i := 2) rfl)), (hw _ (List.mem_of_getElem? (i := 13) rfl))⟩)) (Sta.start ev_s_Status_FENCED (Or.inr ⟨(hw _ (List.mem_of_getElem? (i := 2) rfl)), (hw _ (List.mem_of_getElem? (i := 14) rfl))⟩)) p e ha hc hk s m _ below hf ((Spec.applies_iff_loose hf).mp happ).1 ⟨rfl, State.Warmed39.refl s, rfl⟩ trivial
  refine ⟨n, _, h1, h2, h3, hpost _ _ _ _ _ _ ⟨Cond.after_iff.mpr rfl, Cond.after_iff.mpr (eq_i res_at (Term.int_eval (1)) rfl), trivial⟩ ⟨hq.1, hq.2.1, (hq.2.2.sift fun y hy => Or.inr (N y hy)).mono (by decide) (by decide)⟩⟩
theorem main_1_1 : Claimed_1_1 := comes_1 fun _ _ _ _ _ _ h hF => ⟨h.1, hF⟩
theorem main_1_2 : Claimed_1_2 := comes_1 fun _ _ _ _ _ _ h hF => ⟨h.2.1, hF⟩
end Jvm.Pilot.@@N@@
namespace Jvm.Pilot.@@N@@
open Jvm Jvm.ClassFile Sem Op Lib Jvm.Free Jvm.Stand Jvm.Pilot.@@N@@.Jvm.D
/-! MADE BY PROGRAM (witnessworld.py) out of the Statement's table words and the real class files: 13 classes; the members and pool entries that the words name. The judged class is class 1, her method 2. -/
namespace start1
open Jvm.ClassFile
def u (s : String) : CpInfo := .utf8 (stringToUtf16 s)
/-- a pool by its gaps: so many unusable entries, then the entry; so many at the end -/
def gap : Nat → List CpInfo → List CpInfo
  | 0, r => r
  | n + 1, r => .unusable :: gap n r
def poolList (es : List (Nat × CpInfo)) (last : Nat) : List CpInfo := es.foldr (fun e r => gap e.1 (e.2 :: r)) (gap last [])
def pool (es : List (Nat × CpInfo)) (last : Nat) : Array CpInfo := ⟨poolList es last⟩
def fileOf (pool : Array CpInfo) (this : Nat) (attrs : Array Attribute := #[]) (ms : Array MethodInfo := #[]) (fl : Nat := 33) (sup : Nat := 0) (ifs : Array Nat := #[]) (fds : Array FieldInfo := #[]) : ClassFile where
  minorVersion := 0
  majorVersion := 65
  constantPool := pool
  accessFlags := fl
  thisClass := this
  superClass := sup
  interfaces := ifs
  fields := fds
  methods := ms
  attributes := attrs
def plain (name : String) (sup : Option ClassId) : Class where
  name := name
  kind := .ordinary
  loader := none
  accessFlags := 33
  super := sup
  interfaces := #[]
  cf := none
  fields := #[]
  methods := #[]
  instanceTypes := #[]
  staticTypes := #[]
  resolved := #[]
  callSites := []
  init := .initialized
  statics := none
  mirror := none

def pool0 : Array CpInfo := pool [(5, u "<init>"), (0, u "()V"), (1, .class_ 10), (1, u "java/lang/Object")] 113

def k0m0 : Method := { name := "<init>", desc := "()V", sig := { parameters := [], returnType := none }, accessFlags := 1, code := none }
/-- java/lang/Object -/
def k0 : Class := { plain "java/lang/Object" none with
  accessFlags := 33
  interfaces := #[]
  cf := some (fileOf pool0 8 #[] #[{ accessFlags := 1, nameIndex := 5, descriptorIndex := 6, attributes := #[] }] 33 0 #[] #[])
  fields := #[]
  methods := #[k0m0]
  instanceTypes := #[]
  staticTypes := #[]
  resolved := Array.replicate 124 none
  statics := none }

def pool1 : Array CpInfo := pool [(2, .class_ 4), (1, u "java/lang/Object"), (0, u "<init>"), (0, u "()V"), (0, .fieldref 8 9), (0, .class_ 10), (0, .nameAndType 11 12), (0, u "com/example/hale_ledger/haleledger/protocol/Status"), (0, u "OK"), (0, u "Lcom/example/hale_ledger/haleledger/protocol/Status;"), (0, .fieldref 8 14), (0, .nameAndType 15 12), (0, u "NO_ENTRY"), (0, .fieldref 8 17), (0, .nameAndType 18 12), (0, u "BAD_REQUEST"), (0, .fieldref 8 20), (0, .nameAndType 21 12), (0, u "UNSUPPORTED_VERSION"), (0, .fieldref 8 23), (0, .nameAndType 24 12), (0, u "UNKNOWN_REQUEST_TYPE"), (0, .fieldref 8 26), (0, .nameAndType 27 12), (0, u "SERVER_ERROR"), (0, .fieldref 8 29), (0, .nameAndType 30 12), (0, u "FENCED"), (0, .methodref 8 32), (0, .nameAndType 33 34), (0, u "ofCode"), (0, u "(I)Lcom/example/hale_ledger/haleledger/protocol/Status;"), (0, .methodref 36 37), (0, .class_ 38), (0, .nameAndType 39 34), (0, u "com/example/hale_ledger/haleledger/protocol/StatusOfCodePinLaw"), (0, u "expected"), (3, u "law"), (0, u "(II)Z")] 2

def k1m0 : Method := { name := "<init>", desc := "()V", sig := { parameters := [], returnType := none }, accessFlags := 1, code := none }
def k1c1 : Code := { maxStack := 2, maxLocals := 1, code := method_2_code, exceptionTable := #[], attributes := #[] }
def k1m1 : Method := { name := "expected", desc := "(I)Lcom/example/hale_ledger/haleledger/protocol/Status;", sig := { parameters := [.int], returnType := some (.object "com/example/hale_ledger/haleledger/protocol/Status") }, accessFlags := 10, code := some k1c1 }
def k1c2 : Code := { maxStack := 2, maxLocals := 5, code := code, exceptionTable := #[], attributes := #[] }
def k1m2 : Method := { name := "law", desc := "(II)Z", sig := { parameters := [.int, .int], returnType := some .boolean }, accessFlags := 9, code := some k1c2 }
/-- com/example/hale_ledger/haleledger/protocol/StatusOfCodePinLaw -/
def k1 : Class := { plain "com/example/hale_ledger/haleledger/protocol/StatusOfCodePinLaw" (some 0) with
  accessFlags := 49
  interfaces := #[]
  cf := some (fileOf pool1 36 #[] #[{ accessFlags := 1, nameIndex := 5, descriptorIndex := 6, attributes := #[] }, { accessFlags := 10, nameIndex := 39, descriptorIndex := 34, attributes := #[] }, { accessFlags := 9, nameIndex := 43, descriptorIndex := 44, attributes := #[] }] 49 2 #[] #[])
  fields := #[]
  methods := #[k1m0, k1m1, k1m2]
  instanceTypes := #[]
  staticTypes := #[]
  resolved := Array.replicate 47 none
  statics := none }

def pool2 : Array CpInfo := pool [(1, .class_ 2), (0, u "java/lang/constant/Constable"), (0, .class_ 4), (0, u "java/lang/Object")] 6

/-- java/lang/constant/Constable -/
def k2 : Class := { plain "java/lang/constant/Constable" (some 0) with
  accessFlags := 1537
  interfaces := #[]
  cf := some (fileOf pool2 1 #[] #[] 1537 3 #[] #[])
  fields := #[]
  methods := #[]
  instanceTypes := #[]
  staticTypes := #[]
  resolved := Array.replicate 11 none
  statics := none }

def pool3 : Array CpInfo := pool [(1, .class_ 2), (0, u "java/lang/Comparable"), (0, .class_ 4), (0, u "java/lang/Object")] 7

/-- java/lang/Comparable -/
def k3 : Class := { plain "java/lang/Comparable" (some 0) with
  accessFlags := 1537
  interfaces := #[]
  cf := some (fileOf pool3 1 #[] #[] 1537 3 #[] #[])
  fields := #[]
  methods := #[]
  instanceTypes := #[]
  staticTypes := #[]
  resolved := Array.replicate 12 none
  statics := none }

def pool4 : Array CpInfo := pool [(1, .class_ 2), (0, u "java/io/Serializable"), (0, .class_ 4), (0, u "java/lang/Object")] 2

/-- java/io/Serializable -/
def k4 : Class := { plain "java/io/Serializable" (some 0) with
  accessFlags := 1537
  interfaces := #[]
  cf := some (fileOf pool4 1 #[] #[] 1537 3 #[] #[])
  fields := #[]
  methods := #[]
  instanceTypes := #[]
  staticTypes := #[]
  resolved := Array.replicate 7 none
  statics := none }

def pool5 : Array CpInfo := pool [(2, .class_ 4), (1, u "java/lang/Enum"), (0, u "name"), (0, u "Ljava/lang/String;"), (2, u "ordinal"), (0, u "I"), (1, .class_ 14), (1, u "java/lang/Object"), (4, u "hash"), (86, .class_ 108), (1, u "java/lang/Enum$EnumDesc"), (2, .class_ 112), (0, u "java/lang/constant/Constable"), (0, .class_ 114), (0, u "java/lang/Comparable"), (0, .class_ 116), (0, u "java/io/Serializable")] 87

/-- java/lang/Enum -/
def k5 : Class := { plain "java/lang/Enum" (some 0) with
  accessFlags := 1057
  interfaces := #[2, 3, 4]
  cf := some (fileOf pool5 2 #[.nestMembers #[106]] #[] 1057 12 #[111, 113, 115] #[{ accessFlags := 18, nameIndex := 5, descriptorIndex := 6, attributes := #[] }, { accessFlags := 18, nameIndex := 9, descriptorIndex := 10, attributes := #[] }, { accessFlags := 2, nameIndex := 19, descriptorIndex := 10, attributes := #[] }])
  fields := #[{ name := "name", type := (.object "java/lang/String"), accessFlags := 18, slot := 0, constantValue := 0 }, { name := "ordinal", type := .int, accessFlags := 18, slot := 1, constantValue := 0 }, { name := "hash", type := .int, accessFlags := 2, slot := 2, constantValue := 0 }]
  methods := #[]
  instanceTypes := #[(.object "java/lang/String"), .int, .int]
  staticTypes := #[]
  resolved := Array.replicate 204 none
  statics := none }

def pool6 : Array CpInfo := pool [(1, .class_ 2), (0, u "com/example/hale_ledger/haleledger/protocol/Status"), (2, u "OK"), (0, u "Lcom/example/hale_ledger/haleledger/protocol/Status;"), (2, u "NO_ENTRY"), (2, u "BAD_REQUEST"), (2, u "UNSUPPORTED_VERSION"), (2, u "UNKNOWN_REQUEST_TYPE"), (2, u "SERVER_ERROR"), (2, u "FENCED"), (2, u "$VALUES"), (0, u "[Lcom/example/hale_ledger/haleledger/protocol/Status;"), (6, .class_ 37), (1, u "java/lang/Enum"), (6, .fieldref 1 45), (0, .nameAndType 46 47), (0, u "code"), (0, u "I"), (0, .fieldref 1 49), (0, .nameAndType 50 28), (0, u "VALUES"), (24, u "ofCode"), (0, u "(I)Lcom/example/hale_ledger/haleledger/protocol/Status;")] 6

def k6c0 : Code := { maxStack := 2, maxLocals := 6, code := prog_33_method_5_code, exceptionTable := #[], attributes := #[] }
def k6m0 : Method := { name := "ofCode", desc := "(I)Lcom/example/hale_ledger/haleledger/protocol/Status;", sig := { parameters := [.int], returnType := some (.object "com/example/hale_ledger/haleledger/protocol/Status") }, accessFlags := 9, code := some k6c0 }
/-- com/example/hale_ledger/haleledger/protocol/Status -/
def k6 : Class := { plain "com/example/hale_ledger/haleledger/protocol/Status" (some 5) with
  accessFlags := 16433
  interfaces := #[]
  cf := some (fileOf pool6 1 #[] #[{ accessFlags := 9, nameIndex := 75, descriptorIndex := 76, attributes := #[] }] 16433 35 #[] #[{ accessFlags := 16409, nameIndex := 5, descriptorIndex := 6, attributes := #[] }, { accessFlags := 16409, nameIndex := 9, descriptorIndex := 6, attributes := #[] }, { accessFlags := 16409, nameIndex := 12, descriptorIndex := 6, attributes := #[] }, { accessFlags := 16409, nameIndex := 15, descriptorIndex := 6, attributes := #[] }, { accessFlags := 16409, nameIndex := 18, descriptorIndex := 6, attributes := #[] }, { accessFlags := 16409, nameIndex := 21, descriptorIndex := 6, attributes := #[] }, { accessFlags := 16409, nameIndex := 24, descriptorIndex := 6, attributes := #[] }, { accessFlags := 26, nameIndex := 50, descriptorIndex := 28, attributes := #[] }, { accessFlags := 18, nameIndex := 46, descriptorIndex := 47, attributes := #[] }, { accessFlags := 4122, nameIndex := 27, descriptorIndex := 28, attributes := #[] }])
  fields := #[{ name := "OK", type := (.object "com/example/hale_ledger/haleledger/protocol/Status"), accessFlags := 16409, slot := 0, constantValue := 0 }, { name := "NO_ENTRY", type := (.object "com/example/hale_ledger/haleledger/protocol/Status"), accessFlags := 16409, slot := 1, constantValue := 0 }, { name := "BAD_REQUEST", type := (.object "com/example/hale_ledger/haleledger/protocol/Status"), accessFlags := 16409, slot := 2, constantValue := 0 }, { name := "UNSUPPORTED_VERSION", type := (.object "com/example/hale_ledger/haleledger/protocol/Status"), accessFlags := 16409, slot := 3, constantValue := 0 }, { name := "UNKNOWN_REQUEST_TYPE", type := (.object "com/example/hale_ledger/haleledger/protocol/Status"), accessFlags := 16409, slot := 4, constantValue := 0 }, { name := "SERVER_ERROR", type := (.object "com/example/hale_ledger/haleledger/protocol/Status"), accessFlags := 16409, slot := 5, constantValue := 0 }, { name := "FENCED", type := (.object "com/example/hale_ledger/haleledger/protocol/Status"), accessFlags := 16409, slot := 6, constantValue := 0 }, { name := "VALUES", type := (.array (.object "com/example/hale_ledger/haleledger/protocol/Status")), accessFlags := 26, slot := 7, constantValue := 0 }, { name := "code", type := .int, accessFlags := 18, slot := 3, constantValue := 0 }, { name := "$VALUES", type := (.array (.object "com/example/hale_ledger/haleledger/protocol/Status")), accessFlags := 4122, slot := 8, constantValue := 0 }]
  methods := #[k6m0]
  instanceTypes := #[(.object "java/lang/String"), .int, .int, .int]
  staticTypes := #[(.object "com/example/hale_ledger/haleledger/protocol/Status"), (.object "com/example/hale_ledger/haleledger/protocol/Status"), (.object "com/example/hale_ledger/haleledger/protocol/Status"), (.object "com/example/hale_ledger/haleledger/protocol/Status"), (.object "com/example/hale_ledger/haleledger/protocol/Status"), (.object "com/example/hale_ledger/haleledger/protocol/Status"), (.object "com/example/hale_ledger/haleledger/protocol/Status"), (.array (.object "com/example/hale_ledger/haleledger/protocol/Status")), (.array (.object "com/example/hale_ledger/haleledger/protocol/Status"))]
  resolved := Array.replicate 83 none
  statics := some 0 }

def pool7 : Array CpInfo := pool [(1, u "java/lang/Cloneable"), (0, .class_ 1), (0, u "java/lang/Object"), (0, .class_ 3)] 3

/-- java/lang/Cloneable -/
def k7 : Class := { plain "java/lang/Cloneable" (some 0) with
  accessFlags := 1537
  interfaces := #[]
  cf := some (fileOf pool7 2 #[] #[] 1537 4 #[] #[])
  fields := #[]
  methods := #[]
  instanceTypes := #[]
  staticTypes := #[]
  resolved := Array.replicate 8 none
  statics := none }

/-- the primitive byte -/
def k8 : Class := { plain "byte" none with kind := .primitive 'B', accessFlags := 0x411 }
/-- [B -/
def k9 : Class := { plain "[B" (some 0) with kind := .array 8 .byte, interfaces := #[7, 4], accessFlags := 1041 }

/-- the primitive int -/
def k10 : Class := { plain "int" none with kind := .primitive 'I', accessFlags := 0x411 }
/-- [I -/
def k11 : Class := { plain "[I" (some 0) with kind := .array 10 .int, interfaces := #[7, 4], accessFlags := 1041 }

/-- [Lcom/example/hale_ledger/haleledger/protocol/Status; -/
def k12 : Class := { plain "[Lcom/example/hale_ledger/haleledger/protocol/Status;" (some 0) with kind := .array 6 (.object "com/example/hale_ledger/haleledger/protocol/Status"), interfaces := #[7, 4], accessFlags := 1041 }

def heap : Heap := #[{ cls := 6, slots := #[.ref 2, .ref 3, .ref 4, .ref 5, .ref 6, .ref 7, .ref 8, .ref 1, .null], vm := .statics 6 },
  { cls := 12, slots := #[.ref 2, .ref 3, .ref 4, .ref 5, .ref 6, .ref 7, .ref 8], vm := .none },
  { cls := 6, slots := #[.null, .int 0, .int 0, .int 0], vm := .none },
  { cls := 6, slots := #[.null, .int 1, .int 0, .int 1], vm := .none },
  { cls := 6, slots := #[.null, .int 2, .int 0, .int 2], vm := .none },
  { cls := 6, slots := #[.null, .int 3, .int 0, .int 3], vm := .none },
  { cls := 6, slots := #[.null, .int 4, .int 0, .int 4], vm := .none },
  { cls := 6, slots := #[.null, .int 5, .int 0, .int 5], vm := .none },
  { cls := 6, slots := #[.null, .int 6, .int 0, .int 6], vm := .none }]
def classes : Array Class := #[k0, k1, k2, k3, k4, k5, k6, k7, k8, k9, k10, k11, k12]
def interned : List (Array UInt16 × Addr) := []
def slotsUsed : Nat := 44
def theMethod : MethodId := ⟨1, 2⟩
def args0 : Array Value := #[.int 1, .int 2]
def aboutOver (below : List Frame) : State where
  vm := { classes := classes, interned := interned.toArray }
  heap := heap
  slotsUsed := slotsUsed
  threads := #[{ frames := .invoking theMethod args0 :: below }]
def below0 : List Frame := [.native { method := ⟨0, 0⟩, args := #[] }]
def about1 : State := aboutOver below0
def p0 : Program := .bare "" "" ""
def e0 : Env := launch0.env 0 0 0
theorem w_frames : about1.frames = Frame.invoking theMethod args0 :: below0 := rfl
set_option maxRecDepth 65536 in
theorem w_args : argsFit about1.vm theMethod args0 = true := by decide +kernel
set_option maxRecDepth 65536 in
theorem w_heap : heapFits about1 = true := by decide +kernel
set_option maxRecDepth 65536 in
theorem w_runnable : about1.curStatus? = some .runnable := by decide +kernel
set_option maxRecDepth 65536 in
theorem w_alone : about1.alone = true := by decide +kernel
set_option maxRecDepth 65536 in
theorem w_named : about1.methodNamed? x = some theMethod := by decide +kernel
set_option maxRecDepth 65536 in
theorem w_hears : about1.hears theMethod below0 = true := by decide +kernel
set_option maxRecDepth 65536 in
theorem w_ripe : about1.ripe theMethod args0 below0 = true := by decide +kernel
theorem w_running : about1.status = .running := rfl
set_option maxRecDepth 65536 in
theorem w_room : about1.hasRoom e0.platform room_1 = true :=
  launch0.hasRoom_least _ room_1 (by decide +kernel) (by decide +kernel) (by decide +kernel) (by decide +kernel) (by decide +kernel) (by decide +kernel)
theorem allAtoms_all (ts : List Jvm.Cond) (a : Array Jvm.Value) (st : Jvm.State) : (allAtoms ts).before a st = ts.all (fun c => c.before a st) := by
  induction ts with
  | nil => rfl
  | cons c t ih =>
    show (Jvm.Cond.and c (allAtoms t)).before a st = _
    rw [Jvm.Cond.before_and, ih, List.all_cons]
def words1 : List Jvm.Cond := Jvm.Cond.code x code maxLocals ret :: tables_1
/-- a 'code' word, met by the world's own term for the bytes: nothing is compared byte by byte -/
theorem code_word {y : MethodName} {bytes : ByteArray} {mx : Nat} {rt : Option FieldType} {a : Array Value} {s : State} {m : MethodId} {meth : Method} {c : Code} (h1 : s.methodNamed? y = some m) (h2 : s.vm.method? m = some meth) (h3 : meth.code = some c) (h4 : c.code = bytes)
    (h5 : (c.maxLocals == mx && c.exceptionTable.isEmpty && decide (c.maxStack ≤ mostOperands) && decide (meth.sig.returnType = rt) && !meth.locks && decide (parseMethodDescriptor y.desc = some meth.sig)) = true) : (Jvm.Cond.code y bytes mx rt).before a s = true := by
  simp only [Bool.and_eq_true, beq_iff_eq, Bool.not_eq_true', decide_eq_true_eq] at h5
  obtain ⟨⟨⟨⟨⟨g1, g2⟩, g3⟩, g4⟩, g5⟩, g6⟩ := h5
  simp [Cond.before, Cond.holds, Cond.value, h1, h2, h3, h4, g1, g2, g3, g4, g5, g6]
def isCode : Jvm.Cond → Bool
  | .code _ _ _ _ => true
  | _ => false
theorem all_split {L : List Jvm.Cond} {P : Jvm.Cond → Bool} (h1 : L.all (fun c => isCode c || P c) = true) (h2 : ∀ c ∈ L.filter isCode, P c = true) : L.all P = true := by
  refine List.all_eq_true.mpr fun c hc => ?_
  have h := List.all_eq_true.mp h1 c hc
  rcases Bool.eq_false_or_eq_true (isCode c) with hi | hi
  · exact h2 c (List.mem_filter.mpr ⟨hc, hi⟩)
  · simpa [hi] using h
set_option maxRecDepth 65536 in
theorem w_c0 : (Jvm.Cond.code x code maxLocals ret).before args0 about1 = true := code_word (m := ⟨1, 2⟩) (meth := k1m2) (c := k1c2) (by decide +kernel) rfl rfl rfl (by decide +kernel)
set_option maxRecDepth 65536 in
theorem w_c1 : (Jvm.Cond.code ({ cls := "com/example/hale_ledger/haleledger/protocol/Status", name := "ofCode", desc := "(I)Lcom/example/hale_ledger/haleledger/protocol/Status;" } : Jvm.MethodName) prog_33_method_5_code (6 : Nat) (Option.some (Jvm.ClassFile.FieldType.object "com/example/hale_ledger/haleledger/protocol/Status"))).before args0 about1 = true := code_word (m := ⟨6, 0⟩) (meth := k6m0) (c := k6c0) (by decide +kernel) rfl rfl rfl (by decide +kernel)
set_option maxRecDepth 65536 in
theorem w_c2 : (Jvm.Cond.code ({ cls := "com/example/hale_ledger/haleledger/protocol/StatusOfCodePinLaw", name := "expected", desc := "(I)Lcom/example/hale_ledger/haleledger/protocol/Status;" } : Jvm.MethodName) method_2_code (1 : Nat) (Option.some (Jvm.ClassFile.FieldType.object "com/example/hale_ledger/haleledger/protocol/Status"))).before args0 about1 = true := code_word (m := ⟨1, 1⟩) (meth := k1m1) (c := k1c1) (by decide +kernel) rfl rfl rfl (by decide +kernel)
def codes1 : List Jvm.Cond := [Jvm.Cond.code x code maxLocals ret, Jvm.Cond.code ({ cls := "com/example/hale_ledger/haleledger/protocol/Status", name := "ofCode", desc := "(I)Lcom/example/hale_ledger/haleledger/protocol/Status;" } : Jvm.MethodName) prog_33_method_5_code (6 : Nat) (Option.some (Jvm.ClassFile.FieldType.object "com/example/hale_ledger/haleledger/protocol/Status")), Jvm.Cond.code ({ cls := "com/example/hale_ledger/haleledger/protocol/StatusOfCodePinLaw", name := "expected", desc := "(I)Lcom/example/hale_ledger/haleledger/protocol/Status;" } : Jvm.MethodName) method_2_code (1 : Nat) (Option.some (Jvm.ClassFile.FieldType.object "com/example/hale_ledger/haleledger/protocol/Status"))]
set_option maxRecDepth 65536 in
theorem codes_eq : words1.filter isCode = codes1 := rfl
theorem w_codes : ∀ c ∈ words1.filter isCode, c.before args0 about1 = true := by
  rw [codes_eq]
  intro c hc
  simp only [codes1, List.mem_cons, List.not_mem_nil, or_false] at hc
  rcases hc with rfl | rfl | rfl
  · exact w_c0
  · exact w_c1
  · exact w_c2
set_option maxRecDepth 65536 in
theorem w_t1 : (words1.take 24).all (fun c => isCode c || c.before args0 about1) = true := by decide +kernel
set_option maxRecDepth 65536 in
theorem w_t2 : (words1.drop 24).all (fun c => isCode c || c.before args0 about1) = true := by decide +kernel
theorem w_tables : (allAtoms (Jvm.Cond.code x code maxLocals ret :: tables_1)).before args0 about1 = true := by
  rw [allAtoms_all]
  show words1.all (fun c => c.before args0 about1) = true
  refine all_split ?_ w_codes
  rw [← List.take_append_drop 24 words1, List.all_append, w_t1, w_t2]
  rfl
set_option maxRecDepth 65536 in
theorem w_case : (Jvm.Cond.and given_1 narrow_1).before args0 about1 = true := by decide +kernel
theorem w_applies : (headSpec (Jvm.Cond.code x code maxLocals ret :: tables_1) room_1).applies x e0.platform about1 = true :=
  (Spec.applies_iff w_frames).mpr ⟨w_running, w_runnable, w_alone, w_named, w_hears, w_ripe, w_room, w_tables⟩
theorem atStart : AtStart classFile x code maxLocals ret World_1 tables_1 room_1 Calls_1 rest_1 Pre_1 launch0 p0 e0 about1 theMethod args0 below0 :=
  ⟨lists_1, trivial, launch0.admits_env _ _ _, launch0.least_env, fairChoices_fair.cas, fairChoices_fair.clock, w_frames, w_args, w_heap, w_applies, trivial, trivial, w_case⟩
end start1
theorem witness_1 : WitnessClaimed_1 := ⟨start1.p0, start1.e0, start1.about1, start1.theMethod, start1.args0, start1.below0, start1.atStart⟩
end Jvm.Pilot.@@N@@
