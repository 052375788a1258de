import JvmDerived
import JvmDerived.Pilot.@@N@@Statement
import JvmDerived.Pilot.@@N@@Code
set_option linter.unusedVariables false
set_option linter.unusedSimpArgs false
namespace Jvm.RoadKit
open Sem ClassFile Op Lib Jvm.Stand Jvm.Free Jvm.LawKit
section New
variable {p : Program} {l : Launch} {e : Env} {R : Room} {s : State} {m : MethodId} {args : Array Value} {below : List Frame} {meth : Method} {c : Code} {T : State} {locs : List Loc} {cells slots : Nat}
theorem retI (X : Stand p l e R s m args below meth c T locs cells slots) (hx : p.tables.exec = Jvm.exec) {pc : Nat} {Ls : Array Slot} {z : Int32} {rest : List Value} (hret : meth.sig.returnType = some .int) (hd : decode c.code pc = .ok (.ireturn, 1)) {fs : List Frame}
    (hl : ∀ (f : JFrame) (acts : List Action), f.method = m → f.locked = none → f.entered = [] → (doReturn e (T.setTop f) acts (some (.int z))).1 = T.setFrames fs) : Steps p.tables e below (T.setTop (mkF m pc Ls (.int z :: rest))) (T.setFrames fs) := retOut X hx hret rfl (Or.inl ⟨rfl, Or.inl rfl, _, rfl⟩) hd hl
end New
end Jvm.RoadKit
namespace Jvm.Pilot.@@N@@
open Jvm Jvm.ClassFile Sem Op Lib Jvm.Free Jvm.Stand Jvm.LawKit Jvm.RoadKit Bundle Jvm.Pilot.@@N@@.Jvm.D
section OwnKit
variable {p : Program} {l : Launch} {e : Env} {R : Room} {s : State} {m : MethodId} {args : Array Value} {below : List Frame} {meth : Method} {c : Code} {T : State} {locs : List Loc} {cells slots : Nat} {Z : State} {a0 : Array Value} {h : Heap}
def Go (p : Program) (e : Env) (below : List Frame) (Q : Outcome → State → Prop) (S : State) : Prop := ∃ s₂ o, Steps p.tables e below S s₂ ∧ s₂.status = .running ∧ Ended s₂ below o ∧ Q o s₂
theorem Go.of {Q : Outcome → State → Prop} {S : State} (k : Go p e below Q S) : ∃ s₂ o, Steps p.tables e below S s₂ ∧ s₂.status = .running ∧ Ended s₂ below o ∧ Q o s₂ := k
theorem Go.st {Q : Outcome → State → Prop} {S S' : State} (h : ∀ t, Steps p.tables e below S' t → Steps p.tables e below S t) (k : Go p e below Q S') : Go p e below Q S := by
  obtain ⟨s2, o, h1, h2⟩ := k; exact ⟨s2, o, h _ h1, h2⟩
theorem Go.op {α : Type} {Q : Outcome → State → Prop} {S : State} {F : α → State} {x : α} (h : ∀ t, Steps p.tables e below (F x) t → Steps p.tables e below S t) (k : ∀ z, z = x → Go p e below Q (F z)) : Go p e below Q S := Go.st h (k x rfl)
theorem Go.join {α : Type} {Q : Outcome → State → Prop} {S : State} (C : α → Prop) (F : α → State) (k : ∀ r, C r → Go p e below Q (F r)) (j : (∀ r, C r → Go p e below Q (F r)) → Go p e below Q S) : Go p e below Q S := j k
theorem Go.joinT {α : Type} {Q : Outcome → State → Prop} {S : State} (X : Stand p l e R s m args below meth c T locs cells slots) (eT : T.heap = h) (C : α → Prop) (F : State → α → State) (k : ∀ T', Stand p l e R s m args below meth c T' locs cells slots → T'.heap = h → ∀ r, C r → Go p e below Q (F T' r)) (j : (∀ T', Stand p l e R s m args below meth c T' locs cells slots → T'.heap = h → ∀ r, C r → Go p e below Q (F T' r)) → Go p e below Q S) : Go p e below Q S := j k
theorem Go.loop {α : Type} {Q : Outcome → State → Prop} (I : Nat → α → Prop) (F : α → State) (k0 : Nat) (x0 : α) (h0 : I k0 x0) (step : ∀ k x, I k x → (∀ k' x', k' < k → I k' x' → Go p e below Q (F x')) → Go p e below Q (F x)) : Go p e below Q (F x0) := by
  have H : ∀ k x, I k x → Go p e below Q (F x) := by
    intro k
    induction k using Nat.strongRecOn with
    | _ k ih => intro x hx; exact step k x hx fun k' x' hk hx' => ih k' hk x' hx'
  exact H k0 x0 h0
theorem Go.ret {Qn : Option Value → Heap → List Loc → Prop} {rc rs : Nat} (X : Stand p l e R s m args below meth c T locs cells slots) {v : Option Value} (hv : meth.sig.returnType = none → v = none) (hlk : meth.locks = false) {f : JFrame}
    (st : ∀ fs, (∀ (f : JFrame) (acts : List Action), f.method = m → f.locked = none → f.entered = [] → (doReturn e (T.setTop f) acts v).1 = T.setFrames fs) → Steps p.tables e below (T.setTop f) (T.setFrames fs))
    (hc : cells ≤ rc) (hs : slots ≤ rs) (hQ : Qn v T.heap locs) : Go p e below (fun o U' => ∃ v L, o = .returned v ∧ Qn v U'.heap L ∧ FrameEnd s o U' L rc rs) (T.setTop f) := by
  obtain ⟨fs, hr, hrun, hended, hW, hsame⟩ := X.leave (v := v) hv hlk
  exact ⟨_, _, st fs hr, hrun, hended, v, locs, rfl, hQ, ⟨_, rfl⟩, hW, hsame.mono hc hs⟩
abbrev Con (l : Launch) (Z : State) (y : MethodName) (bytes : ByteArray) (maxL : Nat) (ret : Option FieldType) (ws : List Jvm.Cond) (rm : Room) (as' : Array Value) (h : Heap) (rc rs : Nat) (Q : Option Value → Heap → List Loc → Prop) : Prop :=
  MetFree l y (head1 (Jvm.Cond.code y bytes maxL ret :: ws) rm) (fun a U => a = as' ∧ Z.Warmed39 U.vm ∧ U.heap = h) (fun _ _ _ _ _ => True) (fun _ U o U' => ∃ v L, o = .returned v ∧ Q v U'.heap L ∧ FrameEnd U o U' L rc rs)
theorem own_callS {own : String} {index : Nat} {y : MethodName} {bytes : ByteArray} {maxL : Nat} {ret : Option FieldType} {rm : Room} {as' : Array Value} {Q : Option Value → Heap → List Loc → Prop} {W : Nat} {g : JFrame} {argsL rest : List Value}
    (X : Stand p l e R s m args below meth c T locs cells slots) (hx : p.tables.exec = Jvm.exec) (hZ : Z.Warmed39 s.vm) (eT : T.heap = h) (hown : s.vm.findClass own = some m.cls)
    (w1 : (Jvm.Cond.methodLink own index y).before a0 Z = true) (w2 : (Jvm.Cond.static y).before a0 Z = true) (w3 : (Jvm.Cond.initialized y.cls).before a0 Z = true) (w4 : (Jvm.Cond.code y bytes maxL ret).before a0 Z = true)
    (hy : y.cls ≠ "java/lang/invoke/MethodHandle" ∧ y.cls ≠ "java/lang/invoke/VarHandle")
    (hM : Con l Z y bytes maxL ret [] rm as' h rm.cells rm.slots Q)
    (hf : rm.frames + 1 ≤ R.frames) (hl : W + (maxL + 11) + rm.locals ≤ R.locals) (hc : cells + rm.cells ≤ R.cells) (hs : slots + rm.slots ≤ R.slots)
    (hg : g.method = m) (hsize : g.locals.size = c.maxLocals) (has : argsL.toArray = as') (hlen : ∀ sig, parseMethodDescriptor y.desc = some sig → argsL.length = sig.parameters.length)
    (hstack : g.stack = argsL.reverse ++ rest) (hW : 2 * g.monitorRoom + (rest.map fun v => v.category).sum ≤ W) (hdg : decode c.code g.pc = .ok (.invokestatic index, 3)) :
    ∃ v T' L, Stand p l e R s m args below meth c T' (locs ++ L) (cells + rm.cells) (slots + rm.slots) ∧ Q v T'.heap L ∧ ∀ target, Steps p.tables e below (T'.setTop { g with pc := g.pc + 3, stack := v.toList ++ rest }) target → Steps p.tables e below (T.setTop g) target := by
  obtain ⟨v, _, ⟨T', L', k', n'⟩, -, X', ⟨L, hQ, l', y', z'⟩, st⟩ := Jvm.LawKit.callS X hx (y := y) hown (mvT hZ w1) (mvT hZ w2) (mvT hZ w3) (mvT hZ w4) hy (backOf (W := W) hM hZ w4 w3 hf hl) (g := g) hg hsize (argsL := argsL) (rest := rest) hlen hstack hW hdg (fun _ _ => ⟨has, eT, hc, hs⟩)
  dsimp only [Pt.U, Pt.locs, Pt.cells, Pt.slots] at X' l' y' z' st hQ
  subst l' y' z'
  exact ⟨v, T', L, X', hQ, st⟩
theorem own_callI {own : String} {index : Nat} {y : MethodName} {bytes : ByteArray} {maxL : Nat} {rm : Room} {as' : Array Value} {Q : Option Value → Heap → List Loc → Prop} {W : Nat} {g : JFrame} {a : Addr} {argsL rest : List Value}
    (X : Stand p l e R s m args below meth c T locs cells slots) (hx : p.tables.exec = Jvm.exec) (hZ : Z.Warmed39 s.vm) (eT : T.heap = h) (hown : s.vm.findClass own = some m.cls) (hyn : y.name = "<init>")
    (w1 : (Jvm.Cond.methodLink own index y).before a0 Z = true) (w2 : (Jvm.Cond.instanceMethod y).before a0 Z = true) (w3 : (Jvm.Cond.initialized y.cls).before a0 Z = true) (w4 : (Jvm.Cond.code y bytes maxL none).before a0 Z = true)
    (hy : y.cls ≠ "java/lang/invoke/MethodHandle" ∧ y.cls ≠ "java/lang/invoke/VarHandle")
    (hM : Con l Z y bytes maxL none [] rm as' h rm.cells rm.slots Q)
    (hf : rm.frames + 1 ≤ R.frames) (hl : W + (maxL + 11) + rm.locals ≤ R.locals) (hc : cells + rm.cells ≤ R.cells) (hs : slots + rm.slots ≤ R.slots)
    (hg : g.method = m) (hsize : g.locals.size = c.maxLocals) (has : (Value.ref a :: argsL).toArray = as') (hlen : ∀ sig, parseMethodDescriptor y.desc = some sig → argsL.length = sig.parameters.length)
    (hstack : g.stack = argsL.reverse ++ .ref a :: rest) (hW : 2 * g.monitorRoom + (rest.map fun v => v.category).sum ≤ W) (hdg : decode c.code g.pc = .ok (.invokespecial index, 3)) :
    ∃ v T' L, Stand p l e R s m args below meth c T' (locs ++ L) (cells + rm.cells) (slots + rm.slots) ∧ Q v T'.heap L ∧ ∀ target, Steps p.tables e below (T'.setTop { g with pc := g.pc + 3, stack := v.toList ++ rest }) target → Steps p.tables e below (T.setTop g) target := by
  obtain ⟨v, _, ⟨T', L', k', n'⟩, -, X', ⟨L, hQ, l', y', z'⟩, st⟩ := X.specialBack hx (y := y) hyn hown (mvT hZ w1) (mvT hZ w2) (mvT hZ w4) hy (backOf (W := W) hM hZ w4 w3 hf hl) (g := g) hg hsize (Steps.refl _) (a := a) (argsL := argsL) (rest := rest) hlen hstack hW hdg (fun _ _ => ⟨has, eT, hc, hs⟩)
  dsimp only [Pt.U, Pt.locs, Pt.cells, Pt.slots] at X' l' y' z' st hQ
  subst l' y' z'
  exact ⟨v, T', L, X', hQ, fun _ k => st.trans k⟩
theorem own_callV {own C : String} {index : Nat} {y z : MethodName} {bytes : ByteArray} {maxL : Nat} {ret : Option FieldType} {rm : Room} {as' : Array Value} {Q : Option Value → Heap → List Loc → Prop} {W : Nat} {g : JFrame} {a : Addr} {argsL rest : List Value}
    (X : Stand p l e R s m args below meth c T locs cells slots) (hx : p.tables.exec = Jvm.exec) (hZ : Z.Warmed39 s.vm) (eT : T.heap = h) (hown : s.vm.findClass own = some m.cls)
    (w1 : (Jvm.Cond.methodLink own index y).before a0 Z = true) (w2 : (Jvm.Cond.declares y).before a0 Z = true) (nf : NotFace s y) (w5 : (Jvm.Cond.selects C y z).before a0 Z = true) (w6 : (Jvm.Cond.instanceMethod z).before a0 Z = true) (w3 : (Jvm.Cond.initialized z.cls).before a0 Z = true) (w4 : (Jvm.Cond.code z bytes maxL ret).before a0 Z = true)
    (hy : y.cls ≠ "java/lang/invoke/MethodHandle" ∧ y.cls ≠ "java/lang/invoke/VarHandle") (E : Exa Z h a C)
    (hM : Con l Z z bytes maxL ret [] rm as' h rm.cells rm.slots Q)
    (hf : rm.frames + 1 ≤ R.frames) (hl : W + (maxL + 11) + rm.locals ≤ R.locals) (hc : cells + rm.cells ≤ R.cells) (hs : slots + rm.slots ≤ R.slots)
    (hg : g.method = m) (hsize : g.locals.size = c.maxLocals) (has : (Value.ref a :: argsL).toArray = as') (hlen : ∀ sig, parseMethodDescriptor y.desc = some sig → argsL.length = sig.parameters.length)
    (hstack : g.stack = argsL.reverse ++ .ref a :: rest) (hW : 2 * g.monitorRoom + (rest.map fun v => v.category).sum ≤ W) (hdg : decode c.code g.pc = .ok (.invokevirtual index, 3)) :
    ∃ v T' L, Stand p l e R s m args below meth c T' (locs ++ L) (cells + rm.cells) (slots + rm.slots) ∧ Q v T'.heap L ∧ ∀ target, Steps p.tables e below (T'.setTop { g with pc := g.pc + 3, stack := v.toList ++ rest }) target → Steps p.tables e below (T.setTop g) target := by
  obtain ⟨cq, kq, qa, qb, qc⟩ := isOf hZ eT E
  obtain ⟨v, _, ⟨T', L', k', n'⟩, -, X', ⟨L, hQ, l', y', z'⟩, st⟩ := X.virtualBack hx (y := y) (z := z) hown (mvT hZ w1) (mvT hZ w2) nf (mvT hZ w5) (mvT hZ w6) hy (backOf (W := W) hM hZ w4 w3 hf hl) qa qc (g := g) hg hsize (Steps.refl _) (argsL := argsL) (rest := rest) hlen hstack hW hdg (fun _ _ => ⟨has, eT, hc, hs⟩)
  dsimp only [Pt.U, Pt.locs, Pt.cells, Pt.slots] at X' l' y' z' st hQ
  subst l' y' z'
  exact ⟨v, T', L, X', hQ, fun _ k => st.trans k⟩
theorem own_sta_keep {C n d : String} {w : Value} {h h' : Heap} {ws : List Addr} (F : Sta Z h C n d w) (K : Keep h h' ws) (q : ∀ x ∈ ws, ∃ cl : Cell, h[x]? = some cl ∧ cl.vm.isStatics = false) : Sta Z h' C n d w := by
  obtain ⟨cf, i, k, f, st, cell, h1, h2, h3, h4, h5, h6, h7⟩ := F
  refine ⟨cf, i, k, f, st, cell, h1, h2, h3, h4, K.2.1 st cell h5 fun z => ?_, h6, h7⟩
  obtain ⟨cl, q1, q2⟩ := q st z
  cases h5.symm.trans q1
  rw [h6] at q2; cases q2
theorem own_exa_plain {a : Addr} {C : String} {h : Heap} (F : Exa Z h a C) : ∃ cl : Cell, h[a]? = some cl ∧ cl.vm.isStatics = false := by
  obtain ⟨cell, k, h1, -, -, h4, -⟩ := F; exact ⟨cell, h1, h4⟩
theorem own_arv_plain {a : Addr} {k : ClassId} {ty : FieldType} {z : Int32} {vs : List Value} {dv : Value} {h : Heap} (F : Arv Z h a k ty z vs dv) : ∃ cl : Cell, h[a]? = some cl ∧ cl.vm.isStatics = false := by
  obtain ⟨cell, A, -⟩ := F; exact ⟨cell, A.1, A.plain⟩
theorem own_getR {own O n d : String} {index : Nat} {a : Addr} {v : Value} {g : JFrame} {rest : List Value} (X : Stand p l e R s m args below meth c T locs cells slots) (hx : p.tables.exec = Jvm.exec) (hZ : Z.Warmed39 s.vm) (hown : s.vm.findClass own = some m.cls)
    (w : (Jvm.Cond.fieldRef own index O n d).before a0 Z = true) (eT : T.heap = h) (F : Fld Z h a O n d v) (hg : g.method = m) (hs : g.stack = .ref a :: rest) (hd : decode c.code g.pc = .ok (.getfield index, 3)) :
    ∀ target, Steps p.tables e below (T.setTop { g with pc := g.pc + 3, stack := v :: rest }) target → Steps p.tables e below (T.setTop g) target := by
  have hU : Z.Warmed39 T.vm := wtrans hZ X.warmed
  have w2 := Cond.fieldRef_warmed39 hU w
  have hc : (Z.setVm T.vm).vm.findClass own = some m.cls := by
    show T.vm.findClass own = some m.cls
    rw [X.warmed.alike.findClass]; exact hown
  obtain ⟨c1, k1, i1, f1, hf1, hr⟩ := Cond.fieldRef_spec hc w2
  obtain ⟨cell, cf, k, i, f, h1, h2, h3, h4, -, -, h7⟩ := F
  obtain ⟨k', hi, -⟩ := State.fieldFound?_setVm (s := Z) hU.alike h2
  cases hi.symm.trans hf1
  intro t kk
  exact (X.getfieldR hx hg hr h3 hs (by rw [eT]; exact h1) h4 h7 hd (Steps.refl _)).trans kk
theorem own_callP {own C : String} {index : Nat} {y : MethodName} {bytes : ByteArray} {maxL : Nat} {ret : Option FieldType} {rm : Room} {as' : Array Value} {Q : Option Value → Heap → List Loc → Prop} {W : Nat} {g : JFrame} {a : Addr} {argsL rest : List Value}
    (X : Stand p l e R s m args below meth c T locs cells slots) (hx : p.tables.exec = Jvm.exec) (hZ : Z.Warmed39 s.vm) (eT : T.heap = h) (hown : s.vm.findClass own = some m.cls)
    (w1 : (Jvm.Cond.methodLink own index y).before a0 Z = true) (w2 : (Jvm.Cond.instanceMethod y).before a0 Z = true) (w5 : (Jvm.Cond.selects y.cls y y).before a0 Z = true) (w6 : (Jvm.Cond.privateMethod y).before a0 Z = true) (w3 : (Jvm.Cond.initialized y.cls).before a0 Z = true) (w4 : (Jvm.Cond.code y bytes maxL ret).before a0 Z = true)
    (hy : y.cls ≠ "java/lang/invoke/MethodHandle" ∧ y.cls ≠ "java/lang/invoke/VarHandle") (E : Exa Z h a C)
    (hM : Con l Z y bytes maxL ret [] rm as' h rm.cells rm.slots Q)
    (hf : rm.frames + 1 ≤ R.frames) (hl : W + (maxL + 11) + rm.locals ≤ R.locals) (hc : cells + rm.cells ≤ R.cells) (hs : slots + rm.slots ≤ R.slots)
    (hg : g.method = m) (hsize : g.locals.size = c.maxLocals) (has : (Value.ref a :: argsL).toArray = as') (hlen : ∀ sig, parseMethodDescriptor y.desc = some sig → argsL.length = sig.parameters.length)
    (hstack : g.stack = argsL.reverse ++ .ref a :: rest) (hW : 2 * g.monitorRoom + (rest.map fun v => v.category).sum ≤ W) (hdg : decode c.code g.pc = .ok (.invokevirtual index, 3)) :
    ∃ v T' L, Stand p l e R s m args below meth c T' (locs ++ L) (cells + rm.cells) (slots + rm.slots) ∧ Q v T'.heap L ∧ ∀ target, Steps p.tables e below (T'.setTop { g with pc := g.pc + 3, stack := v.toList ++ rest }) target → Steps p.tables e below (T.setTop g) target := by
  obtain ⟨cq, q1, q2⟩ := E.cell
  obtain ⟨v, _, ⟨T', L', k', n'⟩, -, X', ⟨L, hQ, l', y', z'⟩, st⟩ := X.privateBack hx (y := y) hown (mvT hZ w1) (mvT hZ w2) (mvT hZ w5) (Cond.privateMethod_at (mvP hZ w6 (args := #[]))) (mvT hZ w4) hy (backOf (W := W) hM hZ w4 w3 hf hl) (g := g) hg hsize (Steps.refl _) (a := a) (by rw [eT]; exact q1) q2 (argsL := argsL) (rest := rest) hlen hstack hW hdg (fun _ _ => ⟨has, eT, hc, hs⟩)
  dsimp only [Pt.U, Pt.locs, Pt.cells, Pt.slots] at X' l' y' z' st hQ
  subst l' y' z'
  exact ⟨v, T', L, X', hQ, fun _ k => st.trans k⟩
theorem own_callF {own C : String} {index count : Nat} {xi y : MethodName} {bytes : ByteArray} {maxL : Nat} {ret : Option FieldType} {rm : Room} {as' : Array Value} {Q : Option Value → Heap → List Loc → Prop} {W : Nat} {g : JFrame} {a : Addr} {argsL rest : List Value}
    (X : Stand p l e R s m args below meth c T locs cells slots) (hx : p.tables.exec = Jvm.exec) (hZ : Z.Warmed39 s.vm) (eT : T.heap = h) (hown : s.vm.findClass own = some m.cls)
    (w1 : (Jvm.Cond.methodLink own index xi).before a0 Z = true) (w2 : (Jvm.Cond.declares xi).before a0 Z = true) (w7 : (Jvm.Cond.interfaceMethod xi.cls xi.cls xi.name xi.desc).before args s = true) (w5 : (Jvm.Cond.selects C xi y).before a0 Z = true) (w6 : (Jvm.Cond.instanceMethod y).before a0 Z = true)
    (w8 : (Jvm.Cond.publicMethod y).before a0 Z = true) (w9 : (Jvm.Cond.unhidden C xi.name xi.desc).before a0 Z = true) (w10 : (Jvm.Cond.castable C xi.cls).before a0 Z = true) (w3 : (Jvm.Cond.initialized y.cls).before a0 Z = true) (w4 : (Jvm.Cond.code y bytes maxL ret).before a0 Z = true)
    (hy : xi.cls ≠ "java/lang/invoke/MethodHandle" ∧ xi.cls ≠ "java/lang/invoke/VarHandle") (E : Exa Z h a C)
    (hM : Con l Z y bytes maxL ret [] rm as' h rm.cells rm.slots Q)
    (hf : rm.frames + 1 ≤ R.frames) (hl : W + (maxL + 11) + rm.locals ≤ R.locals) (hc : cells + rm.cells ≤ R.cells) (hs : slots + rm.slots ≤ R.slots)
    (hg : g.method = m) (hsize : g.locals.size = c.maxLocals) (has : (Value.ref a :: argsL).toArray = as') (hlen : ∀ sig, parseMethodDescriptor xi.desc = some sig → argsL.length = sig.parameters.length)
    (hstack : g.stack = argsL.reverse ++ .ref a :: rest) (hW : 2 * g.monitorRoom + (rest.map fun v => v.category).sum ≤ W) (hdg : decode c.code g.pc = .ok (.invokeinterface index count, 5)) :
    ∃ v T' L, Stand p l e R s m args below meth c T' (locs ++ L) (cells + rm.cells) (slots + rm.slots) ∧ Q v T'.heap L ∧ ∀ target, Steps p.tables e below (T'.setTop { g with pc := g.pc + 5, stack := v.toList ++ rest }) target → Steps p.tables e below (T.setTop g) target := by
  obtain ⟨cq, kq, qa, qb, qc⟩ := isOf hZ eT E
  obtain ⟨v, _, ⟨T', L', k', n'⟩, -, X', ⟨L, hQ, l', y', z'⟩, st⟩ := X.interfaceBack hx (xi := xi) (y := y) hown (mvT hZ w1) (mvT hZ w2) w7 (mvT hZ w5) (mvT hZ w6) (mvT hZ w8) (mvT hZ w9) (mvT hZ w10) hy (backOf (W := W) hM hZ w4 w3 hf hl) qa qb qc (g := g) hg hsize (Steps.refl _) (argsL := argsL) (rest := rest) hlen hstack hW hdg (fun _ _ => ⟨has, eT, hc, hs⟩)
  dsimp only [Pt.U, Pt.locs, Pt.cells, Pt.slots] at X' l' y' z' st hQ
  subst l' y' z'
  exact ⟨v, T', L, X', hQ, fun _ k => st.trans k⟩
theorem own_ns_root {O K : String} {n : Nat} (w : (Jvm.Cond.noSuperclass O).before a0 Z = true) (wk : (Jvm.Cond.instantiable K n).before a0 Z = true) (hn : O ≠ K) : NS Z O K := by
  obtain ⟨c, k, h1, h2, h3, -, -⟩ := Cond.noSuperclass_spec w
  obtain ⟨t, kt, g1, -⟩ := Cond.instantiable_spec wk
  have ne := ids_ne h1 g1 hn
  refine ⟨c, t, h1, g1, fun fuel => ?_⟩
  cases fuel with
  | zero => rfl
  | succ f => simp [Vm.isSubclassAux, ne, h2, h3]
theorem own_ns_no {C S K : String} {n : Nat} (w : (Jvm.Cond.superclass C S).before a0 Z = true) (wk : (Jvm.Cond.instantiable K n).before a0 Z = true) (hN : NS Z C K) (hn : C ≠ K) : ∃ c t, Z.vm.findClass C = some c ∧ Z.vm.findClass K = some t ∧ Z.vm.assignable c t = false := by
  obtain ⟨c, t, h0, g0, n3⟩ := hN
  obtain ⟨p, k, kp, h1, h2, h3, h4, h5, -, h7⟩ := Cond.superclass_spec h0 w
  obtain ⟨t', kt, g1, g2, g3, g4, -⟩ := Cond.instantiable_spec wk
  cases g0.symm.trans g1
  have g7 : kt.isInterface = false := by
    cases hq : kt.isInterface
    · rfl
    · simp [hq] at g4
  have ne := ids_ne h0 g0 hn
  refine ⟨c, t, h0, g0, ?_⟩
  show Z.vm.assignableAux (255 + 1) c t = false
  simp [Vm.assignableAux, ne, h2, g2, h5, g3, g7, Vm.isSubclass, n3]
end OwnKit
theorem djdk_29_method_65_code_0 : decode jdk_29_method_65_code 0 = .ok (.iload_n 0, 1) := by decide +kernel
theorem djdk_29_method_65_code_1 : decode jdk_29_method_65_code 1 = .ok (.iload_n 1, 1) := by decide +kernel
theorem djdk_29_method_65_code_2 : decode jdk_29_method_65_code 2 = .ok (.if_icmp .lt 7, 3) := by decide +kernel
theorem djdk_29_method_65_code_5 : decode jdk_29_method_65_code 5 = .ok (.iload_n 0, 1) := by decide +kernel
theorem djdk_29_method_65_code_6 : decode jdk_29_method_65_code 6 = .ok (.goto 4, 3) := by decide +kernel
theorem djdk_29_method_65_code_9 : decode jdk_29_method_65_code 9 = .ok (.iload_n 1, 1) := by decide +kernel
theorem djdk_29_method_65_code_10 : decode jdk_29_method_65_code 10 = .ok (.ireturn, 1) := by decide +kernel
theorem djdk_29_method_69_code_0 : decode jdk_29_method_69_code 0 = .ok (.iload_n 0, 1) := by decide +kernel
theorem djdk_29_method_69_code_1 : decode jdk_29_method_69_code 1 = .ok (.iload_n 1, 1) := by decide +kernel
theorem djdk_29_method_69_code_2 : decode jdk_29_method_69_code 2 = .ok (.if_icmp .gt 7, 3) := by decide +kernel
theorem djdk_29_method_69_code_5 : decode jdk_29_method_69_code 5 = .ok (.iload_n 0, 1) := by decide +kernel
theorem djdk_29_method_69_code_6 : decode jdk_29_method_69_code 6 = .ok (.goto 4, 3) := by decide +kernel
theorem djdk_29_method_69_code_9 : decode jdk_29_method_69_code 9 = .ok (.iload_n 1, 1) := by decide +kernel
theorem djdk_29_method_69_code_10 : decode jdk_29_method_69_code 10 = .ok (.ireturn, 1) := by decide +kernel
theorem djdk_30_method_1_code_0 : decode jdk_30_method_1_code 0 = .ok (.aload_n 0, 1) := by decide +kernel
theorem djdk_30_method_1_code_1 : decode jdk_30_method_1_code 1 = .ok (.invokespecial 1, 3) := by decide +kernel
theorem djdk_30_method_1_code_4 : decode jdk_30_method_1_code 4 = .ok (.return_, 1) := by decide +kernel
theorem dprog_10_method_1_code_0 : decode prog_10_method_1_code 0 = .ok (.aload_n 0, 1) := by decide +kernel
theorem dprog_10_method_1_code_1 : decode prog_10_method_1_code 1 = .ok (.invokespecial 1, 3) := by decide +kernel
theorem dprog_10_method_1_code_4 : decode prog_10_method_1_code 4 = .ok (.iload_n 1, 1) := by decide +kernel
theorem dprog_10_method_1_code_5 : decode prog_10_method_1_code 5 = .ok (.ifCond .lt 8, 3) := by decide +kernel
theorem dprog_10_method_1_code_8 : decode prog_10_method_1_code 8 = .ok (.iload_n 1, 1) := by decide +kernel
theorem dprog_10_method_1_code_9 : decode prog_10_method_1_code 9 = .ok (.iload_n 2, 1) := by decide +kernel
theorem dprog_10_method_1_code_10 : decode prog_10_method_1_code 10 = .ok (.if_icmp .le 18, 3) := by decide +kernel
theorem dprog_10_method_1_code_13 : decode prog_10_method_1_code 13 = .ok (.new 7, 3) := by decide +kernel
theorem dprog_10_method_1_code_28 : decode prog_10_method_1_code 28 = .ok (.aload_n 0, 1) := by decide +kernel
theorem dprog_10_method_1_code_29 : decode prog_10_method_1_code 29 = .ok (.iload_n 1, 1) := by decide +kernel
theorem dprog_10_method_1_code_30 : decode prog_10_method_1_code 30 = .ok (.putfield 16, 3) := by decide +kernel
theorem dprog_10_method_1_code_33 : decode prog_10_method_1_code 33 = .ok (.aload_n 0, 1) := by decide +kernel
theorem dprog_10_method_1_code_34 : decode prog_10_method_1_code 34 = .ok (.iload_n 2, 1) := by decide +kernel
theorem dprog_10_method_1_code_35 : decode prog_10_method_1_code 35 = .ok (.putfield 22, 3) := by decide +kernel
theorem dprog_10_method_1_code_38 : decode prog_10_method_1_code 38 = .ok (.return_, 1) := by decide +kernel
theorem dprog_10_method_2_code_0 : decode prog_10_method_2_code 0 = .ok (.iload_n 1, 1) := by decide +kernel
theorem dprog_10_method_2_code_1 : decode prog_10_method_2_code 1 = .ok (.aload_n 0, 1) := by decide +kernel
theorem dprog_10_method_2_code_2 : decode prog_10_method_2_code 2 = .ok (.getfield 16, 3) := by decide +kernel
theorem dprog_10_method_2_code_5 : decode prog_10_method_2_code 5 = .ok (.if_icmp .lt 15, 3) := by decide +kernel
theorem dprog_10_method_2_code_8 : decode prog_10_method_2_code 8 = .ok (.iload_n 1, 1) := by decide +kernel
theorem dprog_10_method_2_code_9 : decode prog_10_method_2_code 9 = .ok (.aload_n 0, 1) := by decide +kernel
theorem dprog_10_method_2_code_10 : decode prog_10_method_2_code 10 = .ok (.getfield 22, 3) := by decide +kernel
theorem dprog_10_method_2_code_13 : decode prog_10_method_2_code 13 = .ok (.if_icmp .gt 7, 3) := by decide +kernel
theorem dprog_10_method_2_code_16 : decode prog_10_method_2_code 16 = .ok (.iconst 1, 1) := by decide +kernel
theorem dprog_10_method_2_code_17 : decode prog_10_method_2_code 17 = .ok (.goto 4, 3) := by decide +kernel
theorem dprog_10_method_2_code_20 : decode prog_10_method_2_code 20 = .ok (.iconst 0, 1) := by decide +kernel
theorem dprog_10_method_2_code_21 : decode prog_10_method_2_code 21 = .ok (.ireturn, 1) := by decide +kernel
theorem pn_0 : plainName "java/lang/Record" = true := by first | (simp [plainName, overriddenIn]; done) | decide +kernel
theorem pn_1 : plainName "com/example/consulate/consulate/ca/ValidityLimits$DayRange" = true := by first | (simp [plainName, overriddenIn]; done) | decide +kernel
theorem pn_2 : plainName "com/example/consulate/consulate/ca/DayRangeContainsPinLaw" = true := by first | (simp [plainName, overriddenIn]; done) | decide +kernel
theorem pd_0 : parseMethodDescriptor "(II)I" = some ⟨[.int, .int], some .int⟩ := by decide +kernel
theorem pd_1 : parseMethodDescriptor "()V" = some ⟨[], none⟩ := by decide +kernel
theorem pd_2 : parseMethodDescriptor "(II)V" = some ⟨[.int, .int], none⟩ := by decide +kernel
theorem pd_3 : parseMethodDescriptor "(I)Z" = some ⟨[.int], some .boolean⟩ := by decide +kernel
theorem ef_1 (m : MethodId) (p0 : Int32) (p1 : Int32) : entryFrame m #[(.int p0), (.int p1)] 2 = mkF m 0 #[.val (.int p0), .val (.int p1)] [] := by first | (simp [entryFrame, mkF, argsToLocals, Value.category, maxLocals]; done) | rfl
def Q1 (Z : State) (p0 : Int32) (p1 : Int32) (h0 : Heap) (n0 : Nat) (v : Option Value) (h : Heap) (L : List Loc) : Prop := (∃ (rv1 : Int32), (((p1 < p0) ∧ (rv1 = p1)) ∨ ((¬ (p1 < p0)) ∧ (rv1 = p0))) ∧ v = some (.int rv1) ∧ Fr n0 L ∧ h = h0)
set_option maxRecDepth 65536 in
set_option maxHeartbeats 40000000 in
theorem rm1 (l : Launch) (Z : State) (a0 : Array Value) (hw : ∀ d ∈ tables_1, d.before a0 Z = true) (ws : List Jvm.Cond) (p0 : Int32) (p1 : Int32) (h0 : Heap) (n0 : Nat) (Z0 : n0 ≤ h0.size)  :
    Con l Z (⟨"java/lang/Math", "min", "(II)I"⟩ : MethodName) jdk_29_method_69_code 2 (some .int) ws ({ frames := 0, cells := 0, slots := 0, locals := 0 } : Room) #[(.int p0), (.int p1)] h0 0 0 (Q1 Z p0 p1 h0 n0) := by
  refine MetFree.of_bodySF (Jvm.Free.JP.mathPlain rfl (by decide +kernel)) hisR ?_
  intro p e s m args below meth c s₁ Bd hml0 hP hK
  obtain ⟨rfl, hZ, hh⟩ := hP
  have hx := Bd.exec
  have hby := Bd.bytes
  have hml : c.maxLocals = 2 := hml0
  have hown : s.vm.findClass "java/lang/Math" = some m.cls := findClass_of_methodNamed Bd.named
  have hnm := (name_of_methodNamed Bd.named Bd.method).1
  have X0 : Stand p l e ({ frames := 0, cells := 0, slots := 0, locals := 0 } : Room) s m #[(.int p0), (.int p1)] below meth c s₁ [] 0 0 := Stand.of_body Bd
  have e0 : s₁.heap = h0 := by rw [← hh, Bd.state]; rfl
  have N0 := Fr.nil n0
  refine Go.of ?_
  refine Go.st (S' := s₁.setTop (mkF m 0 #[.val (.int p0), .val (.int p1)] [])) (fun t k => castTop (ef_1 m p0 p1) k) ?_
  refine Go.st (S' := s₁.setTop (mkF m 1 #[.val (.int p0), .val (.int p1)] [(.int p0)])) (fun t k => XS.iloadN X0.here hx rfl (hb hby djdk_29_method_69_code_0) rfl k) ?_
  refine Go.st (S' := s₁.setTop (mkF m 2 #[.val (.int p0), .val (.int p1)] [(.int p1), (.int p0)])) (fun t k => XS.iloadN X0.here hx rfl (hb hby djdk_29_method_69_code_1) rfl k) ?_
  by_cases hc6 : (p1 < p0)
  · refine Go.st (S' := s₁.setTop (mkF m 9 #[.val (.int p0), .val (.int p1)] [])) (fun t k => XS.icmpYes X0.here hx rfl (pc0 := 2) (pc' := 9) rfl (hb hby djdk_29_method_69_code_2) rfl (tlt hc6).2.2.1 (by decide) (by decide) k) ?_
    refine Go.st (S' := s₁.setTop (mkF m 10 #[.val (.int p0), .val (.int p1)] [(.int p1)])) (fun t k => XS.iloadN X0.here hx rfl (hb hby djdk_29_method_69_code_9) rfl k) ?_
    exact Go.ret X0 (v := some (.int p1)) (fun h => by rw [Bd.returns] at h; cases h) Bd.notSynchronized (fun fs hr => retI X0 hx Bd.returns (hb hby djdk_29_method_69_code_10) hr) (by decide) (by decide) (⟨p1, (Or.inl ⟨hc6, rfl⟩), rfl, N0, (e0)⟩)
  · refine Go.st (S' := s₁.setTop (mkF m 5 #[.val (.int p0), .val (.int p1)] [])) (fun t k => XS.icmpNo X0.here hx rfl (hb hby djdk_29_method_69_code_2) rfl (flt hc6).2.2.1 k) ?_
    refine Go.st (S' := s₁.setTop (mkF m 6 #[.val (.int p0), .val (.int p1)] [(.int p0)])) (fun t k => XS.iloadN X0.here hx rfl (hb hby djdk_29_method_69_code_5) rfl k) ?_
    refine Go.st (S' := s₁.setTop (mkF m 10 #[.val (.int p0), .val (.int p1)] [(.int p0)])) (fun t k => XS.goto X0.here hx rfl (pc0 := 6) (pc' := 10) rfl (hb hby djdk_29_method_69_code_6) (by decide) (by decide) k) ?_
    exact Go.ret X0 (v := some (.int p0)) (fun h => by rw [Bd.returns] at h; cases h) Bd.notSynchronized (fun fs hr => retI X0 hx Bd.returns (hb hby djdk_29_method_69_code_10) hr) (by decide) (by decide) (⟨p0, (Or.inr ⟨hc6, rfl⟩), rfl, N0, (e0)⟩)
theorem ef_2 (m : MethodId) (p0 : Int32) (p1 : Int32) : entryFrame m #[(.int p0), (.int p1)] 2 = mkF m 0 #[.val (.int p0), .val (.int p1)] [] := by first | (simp [entryFrame, mkF, argsToLocals, Value.category, maxLocals]; done) | rfl
def Q2 (Z : State) (p0 : Int32) (p1 : Int32) (h0 : Heap) (n0 : Nat) (v : Option Value) (h : Heap) (L : List Loc) : Prop := (∃ (rv2 : Int32), (((p0 < p1) ∧ (rv2 = p1)) ∨ ((¬ (p0 < p1)) ∧ (rv2 = p0))) ∧ v = some (.int rv2) ∧ Fr n0 L ∧ h = h0)
set_option maxRecDepth 65536 in
set_option maxHeartbeats 40000000 in
theorem rm2 (l : Launch) (Z : State) (a0 : Array Value) (hw : ∀ d ∈ tables_1, d.before a0 Z = true) (ws : List Jvm.Cond) (p0 : Int32) (p1 : Int32) (h0 : Heap) (n0 : Nat) (Z0 : n0 ≤ h0.size)  :
    Con l Z (⟨"java/lang/Math", "max", "(II)I"⟩ : MethodName) jdk_29_method_65_code 2 (some .int) ws ({ frames := 0, cells := 0, slots := 0, locals := 0 } : Room) #[(.int p0), (.int p1)] h0 0 0 (Q2 Z p0 p1 h0 n0) := by
  refine MetFree.of_bodySF (Jvm.Free.JP.mathPlain rfl (by decide +kernel)) hisR ?_
  intro p e s m args below meth c s₁ Bd hml0 hP hK
  obtain ⟨rfl, hZ, hh⟩ := hP
  have hx := Bd.exec
  have hby := Bd.bytes
  have hml : c.maxLocals = 2 := hml0
  have hown : s.vm.findClass "java/lang/Math" = some m.cls := findClass_of_methodNamed Bd.named
  have hnm := (name_of_methodNamed Bd.named Bd.method).1
  have X0 : Stand p l e ({ frames := 0, cells := 0, slots := 0, locals := 0 } : Room) s m #[(.int p0), (.int p1)] below meth c s₁ [] 0 0 := Stand.of_body Bd
  have e0 : s₁.heap = h0 := by rw [← hh, Bd.state]; rfl
  have N0 := Fr.nil n0
  refine Go.of ?_
  refine Go.st (S' := s₁.setTop (mkF m 0 #[.val (.int p0), .val (.int p1)] [])) (fun t k => castTop (ef_2 m p0 p1) k) ?_
  refine Go.st (S' := s₁.setTop (mkF m 1 #[.val (.int p0), .val (.int p1)] [(.int p0)])) (fun t k => XS.iloadN X0.here hx rfl (hb hby djdk_29_method_65_code_0) rfl k) ?_
  refine Go.st (S' := s₁.setTop (mkF m 2 #[.val (.int p0), .val (.int p1)] [(.int p1), (.int p0)])) (fun t k => XS.iloadN X0.here hx rfl (hb hby djdk_29_method_65_code_1) rfl k) ?_
  by_cases hc11 : (p0 < p1)
  · refine Go.st (S' := s₁.setTop (mkF m 9 #[.val (.int p0), .val (.int p1)] [])) (fun t k => XS.icmpYes X0.here hx rfl (pc0 := 2) (pc' := 9) rfl (hb hby djdk_29_method_65_code_2) rfl (tlt hc11).1 (by decide) (by decide) k) ?_
    refine Go.st (S' := s₁.setTop (mkF m 10 #[.val (.int p0), .val (.int p1)] [(.int p1)])) (fun t k => XS.iloadN X0.here hx rfl (hb hby djdk_29_method_65_code_9) rfl k) ?_
    exact Go.ret X0 (v := some (.int p1)) (fun h => by rw [Bd.returns] at h; cases h) Bd.notSynchronized (fun fs hr => retI X0 hx Bd.returns (hb hby djdk_29_method_65_code_10) hr) (by decide) (by decide) (⟨p1, (Or.inl ⟨hc11, rfl⟩), rfl, N0, (e0)⟩)
  · refine Go.st (S' := s₁.setTop (mkF m 5 #[.val (.int p0), .val (.int p1)] [])) (fun t k => XS.icmpNo X0.here hx rfl (hb hby djdk_29_method_65_code_2) rfl (flt hc11).1 k) ?_
    refine Go.st (S' := s₁.setTop (mkF m 6 #[.val (.int p0), .val (.int p1)] [(.int p0)])) (fun t k => XS.iloadN X0.here hx rfl (hb hby djdk_29_method_65_code_5) rfl k) ?_
    refine Go.st (S' := s₁.setTop (mkF m 10 #[.val (.int p0), .val (.int p1)] [(.int p0)])) (fun t k => XS.goto X0.here hx rfl (pc0 := 6) (pc' := 10) rfl (hb hby djdk_29_method_65_code_6) (by decide) (by decide) k) ?_
    exact Go.ret X0 (v := some (.int p0)) (fun h => by rw [Bd.returns] at h; cases h) Bd.notSynchronized (fun fs hr => retI X0 hx Bd.returns (hb hby djdk_29_method_65_code_10) hr) (by decide) (by decide) (⟨p0, (Or.inr ⟨hc11, rfl⟩), rfl, N0, (e0)⟩)
theorem ef_3 (m : MethodId) (o0 : Addr) : entryFrame m #[(.ref o0)] 1 = mkF m 0 #[.val (.ref o0)] [] := by first | (simp [entryFrame, mkF, argsToLocals, Value.category, maxLocals]; done) | rfl
def Q3 (Z : State) (o0 : Addr) (h0 : Heap) (n0 : Nat) (v : Option Value) (h : Heap) (L : List Loc) : Prop := (v = none ∧ Fr n0 L ∧ h = h0)
set_option maxRecDepth 65536 in
set_option maxHeartbeats 40000000 in
theorem rm3 (l : Launch) (Z : State) (a0 : Array Value) (hw : ∀ d ∈ tables_1, d.before a0 Z = true) (ws : List Jvm.Cond) (o0 : Addr) (h0 : Heap) (n0 : Nat) (Z0 : n0 ≤ h0.size)  :
    Con l Z (⟨"java/lang/Record", "<init>", "()V"⟩ : MethodName) jdk_30_method_1_code 1 none ws ({ frames := 1, cells := 0, slots := 0, locals := 12 } : Room) #[(.ref o0)] h0 0 0 (Q3 Z o0 h0 n0) := by
  refine MetFree.of_bodySF (plainFor_of_name pn_0) hisR ?_
  intro p e s m args below meth c s₁ Bd hml0 hP hK
  obtain ⟨rfl, hZ, hh⟩ := hP
  have hx := Bd.exec
  have hby := Bd.bytes
  have hml : c.maxLocals = 1 := hml0
  have hown : s.vm.findClass "java/lang/Record" = some m.cls := findClass_of_methodNamed Bd.named
  have hnm := (name_of_methodNamed Bd.named Bd.method).1
  have X0 : Stand p l e ({ frames := 1, cells := 0, slots := 0, locals := 12 } : Room) s m #[(.ref o0)] below meth c s₁ [] 0 0 := Stand.of_body Bd
  have e0 : s₁.heap = h0 := by rw [← hh, Bd.state]; rfl
  have N0 := Fr.nil n0
  refine Go.of ?_
  refine Go.st (S' := s₁.setTop (mkF m 0 #[.val (.ref o0)] [])) (fun t k => castTop (ef_3 m o0) k) ?_
  refine Go.st (S' := s₁.setTop (mkF m 1 #[.val (.ref o0)] [(.ref o0)])) (fun t k => XS.aloadN X0.here hx rfl (hb hby djdk_30_method_1_code_0) rfl rfl k) ?_
  obtain ⟨T20, X20, e20, st20⟩ := initO X0 hx hZ hown (hw _ (List.mem_of_getElem? (i := 19) rfl)) (hw _ (List.mem_of_getElem? (i := 20) rfl)) (hw _ (List.mem_of_getElem? (i := 21) rfl)) e0 (g := (mkF m 1 #[.val (.ref o0)] [(.ref o0)])) rfl (by rw [hml]; rfl) rfl (hb hby djdk_30_method_1_code_1) (by decide) (W := 0) (by show 2 * 0 + _ ≤ _; exact Nat.le_of_eq rfl) (by decide)
  refine Go.st (S' := T20.setTop (mkF m 4 #[.val (.ref o0)] [])) st20 ?_
  exact Go.ret X20 (v := none) (fun _ => rfl) Bd.notSynchronized (fun fs hr => X20.returnOut hx Bd.returns (hb hby djdk_30_method_1_code_4) hr) (by decide) (by decide) (⟨rfl, N0, (e20)⟩)
theorem ef_4 (m : MethodId) (o0 : Addr) (p1 : Int32) (p2 : Int32) : entryFrame m #[(.ref o0), (.int p1), (.int p2)] 3 = mkF m 0 #[.val (.ref o0), .val (.int p1), .val (.int p2)] [] := by first | (simp [entryFrame, mkF, argsToLocals, Value.category, maxLocals]; done) | rfl
def Q4 (Z : State) (o0 : Addr) (p1 : Int32) (p2 : Int32) (u_o0_min : Value) (u_o0_max : Value) (h0 : Heap) (n0 : Nat) (v : Option Value) (h : Heap) (L : List Loc) : Prop := ((¬ (p1 < (0 : Int32))) ∧ (¬ (p2 < p1)) ∧ v = none ∧ Fr n0 L ∧ Keep h0 h [o0] ∧ Exa Z h o0 "com/example/consulate/consulate/ca/ValidityLimits$DayRange" ∧ Fld Z h o0 "com/example/consulate/consulate/ca/ValidityLimits$DayRange" "min" "I" (.int p1) ∧ Fld Z h o0 "com/example/consulate/consulate/ca/ValidityLimits$DayRange" "max" "I" (.int p2))
set_option maxRecDepth 65536 in
set_option maxHeartbeats 40000000 in
theorem rm4 (l : Launch) (Z : State) (a0 : Array Value) (hw : ∀ d ∈ tables_1, d.before a0 Z = true) (ws : List Jvm.Cond) (o0 : Addr) (p1 : Int32) (p2 : Int32) (u_o0_min : Value) (u_o0_max : Value) (h0 : Heap) (n0 : Nat) (Z0 : n0 ≤ h0.size) (no0 : ¬ ((p1 < (0 : Int32)))) (no1 : ¬ ((¬ (p1 < (0 : Int32))) ∧ (p2 < p1))) (E_o0 : Exa Z h0 o0 "com/example/consulate/consulate/ca/ValidityLimits$DayRange") (F_o0_min : Fld Z h0 o0 "com/example/consulate/consulate/ca/ValidityLimits$DayRange" "min" "I" u_o0_min) (g_o0 : n0 ≤ o0) (F_o0_max : Fld Z h0 o0 "com/example/consulate/consulate/ca/ValidityLimits$DayRange" "max" "I" u_o0_max) :
    Con l Z (⟨"com/example/consulate/consulate/ca/ValidityLimits$DayRange", "<init>", "(II)V"⟩ : MethodName) prog_10_method_1_code 3 none ws ({ frames := 2, cells := 0, slots := 0, locals := 24 } : Room) #[(.ref o0), (.int p1), (.int p2)] h0 0 0 (Q4 Z o0 p1 p2 u_o0_min u_o0_max h0 n0) := by
  refine MetFree.of_bodySF (plainFor_of_name pn_1) hisR ?_
  intro p e s m args below meth c s₁ Bd hml0 hP hK
  obtain ⟨rfl, hZ, hh⟩ := hP
  have hx := Bd.exec
  have hby := Bd.bytes
  have hml : c.maxLocals = 3 := hml0
  have hown : s.vm.findClass "com/example/consulate/consulate/ca/ValidityLimits$DayRange" = some m.cls := findClass_of_methodNamed Bd.named
  have hnm := (name_of_methodNamed Bd.named Bd.method).1
  have X0 : Stand p l e ({ frames := 2, cells := 0, slots := 0, locals := 24 } : Room) s m #[(.ref o0), (.int p1), (.int p2)] below meth c s₁ [] 0 0 := Stand.of_body Bd
  have e0 : s₁.heap = h0 := by rw [← hh, Bd.state]; rfl
  have N0 := Fr.nil n0
  refine Go.of ?_
  refine Go.st (S' := s₁.setTop (mkF m 0 #[.val (.ref o0), .val (.int p1), .val (.int p2)] [])) (fun t k => castTop (ef_4 m o0 p1 p2) k) ?_
  refine Go.st (S' := s₁.setTop (mkF m 1 #[.val (.ref o0), .val (.int p1), .val (.int p2)] [(.ref o0)])) (fun t k => XS.aloadN X0.here hx rfl (hb hby dprog_10_method_1_code_0) rfl rfl k) ?_
  obtain ⟨r21, T21, L21, X21, hQ21, st21⟩ := own_callI (W := 0) (a := o0) X0 hx hZ e0 hown (y := (⟨"java/lang/Record", "<init>", "()V"⟩ : MethodName)) rfl (hw _ (List.mem_of_getElem? (i := 14) rfl)) (hw _ (List.mem_of_getElem? (i := 15) rfl)) (hw _ (List.mem_of_getElem? (i := 17) rfl)) (hw _ (List.mem_of_getElem? (i := 18) rfl)) (by decide) (rm3 l Z a0 hw [] o0 h0 n0 Z0 ) (by decide) (by decide) (by decide) (by decide) (g := (mkF m 1 #[.val (.ref o0), .val (.int p1), .val (.int p2)] [(.ref o0)])) rfl (by rw [hml]; rfl) (argsL := []) (rest := []) rfl (lenOf pd_1 rfl) rfl (by show 2 * 0 + _ ≤ _; exact Nat.le_of_eq rfl) (hb hby dprog_10_method_1_code_1)
  obtain ⟨rfl, N21, e21⟩ := hQ21
  have N21_ := Fr.app N0 N21
  refine Go.st (S' := T21.setTop (mkF m 4 #[.val (.ref o0), .val (.int p1), .val (.int p2)] [])) st21 ?_
  refine Go.st (S' := T21.setTop (mkF m 5 #[.val (.ref o0), .val (.int p1), .val (.int p2)] [(.int p1)])) (fun t k => XS.iloadN X21.here hx rfl (hb hby dprog_10_method_1_code_4) rfl k) ?_
  by_cases hc32 : (p1 < (0 : Int32))
  · refine Go.st (S' := T21.setTop (mkF m 13 #[.val (.ref o0), .val (.int p1), .val (.int p2)] [])) (fun t k => XS.ifYes X21.here hx rfl (pc0 := 5) (pc' := 13) rfl (hb hby dprog_10_method_1_code_5) rfl ((if0 _ _).trans (tlt hc32).1) (by decide) (by decide) k) ?_
    exact absurd hc32 no0
  · refine Go.st (S' := T21.setTop (mkF m 8 #[.val (.ref o0), .val (.int p1), .val (.int p2)] [])) (fun t k => XS.ifNo X21.here hx rfl (hb hby dprog_10_method_1_code_5) rfl ((if0 _ _).trans (flt hc32).1) k) ?_
    refine Go.st (S' := T21.setTop (mkF m 9 #[.val (.ref o0), .val (.int p1), .val (.int p2)] [(.int p1)])) (fun t k => XS.iloadN X21.here hx rfl (hb hby dprog_10_method_1_code_8) rfl k) ?_
    refine Go.st (S' := T21.setTop (mkF m 10 #[.val (.ref o0), .val (.int p1), .val (.int p2)] [(.int p2), (.int p1)])) (fun t k => XS.iloadN X21.here hx rfl (hb hby dprog_10_method_1_code_9) rfl k) ?_
    by_cases hc42 : (p2 < p1)
    · refine Go.st (S' := T21.setTop (mkF m 13 #[.val (.ref o0), .val (.int p1), .val (.int p2)] [])) (fun t k => XS.icmpNo X21.here hx rfl (hb hby dprog_10_method_1_code_10) rfl (tlt hc42).2.2.2 k) ?_
      exact absurd ⟨hc32, hc42⟩ no1
    · refine Go.st (S' := T21.setTop (mkF m 28 #[.val (.ref o0), .val (.int p1), .val (.int p2)] [])) (fun t k => XS.icmpYes X21.here hx rfl (pc0 := 10) (pc' := 28) rfl (hb hby dprog_10_method_1_code_10) rfl (flt hc42).2.2.2 (by decide) (by decide) k) ?_
      refine Go.st (S' := T21.setTop (mkF m 29 #[.val (.ref o0), .val (.int p1), .val (.int p2)] [(.ref o0)])) (fun t k => XS.aloadN X21.here hx rfl (hb hby dprog_10_method_1_code_28) rfl rfl k) ?_
      refine Go.st (S' := T21.setTop (mkF m 30 #[.val (.ref o0), .val (.int p1), .val (.int p2)] [(.int p1), (.ref o0)])) (fun t k => XS.iloadN X21.here hx rfl (hb hby dprog_10_method_1_code_29) rfl k) ?_
      obtain ⟨T43, h43, X43, e43, W43, st43⟩ := putF X21 hx hZ hown (host := "") (Or.inl (hw _ (List.mem_of_getElem? (i := 22) rfl))) Via.refl e21 F_o0_min E_o0 (Or.inr ⟨(hw _ (List.mem_of_getElem? (i := 23) rfl)), rfl, hnm⟩) (hw _ (List.mem_of_getElem? (i := 9) rfl)) (ty := .int) (by decide) rfl rfl (g := (mkF m 30 #[.val (.ref o0), .val (.int p1), .val (.int p2)] [(.int p1), (.ref o0)])) rfl rfl (hb hby dprog_10_method_1_code_30)
      have Fw43 := (F_o0_min).same W43
      have N43 := Fr.snoc X43 N21_ g_o0
      have Z44 : n0 ≤ h43.size := Nat.le_trans Z0 (Keep.of_wr W43).1
      have K44 : Keep h0 h43 [o0] := (Keep.refl h0 [o0]).wr W43 (Or.inl (by simp))
      refine Go.st (S' := T43.setTop (mkF m 33 #[.val (.ref o0), .val (.int p1), .val (.int p2)] [])) st43 ?_
      refine Go.st (S' := T43.setTop (mkF m 34 #[.val (.ref o0), .val (.int p1), .val (.int p2)] [(.ref o0)])) (fun t k => XS.aloadN X43.here hx rfl (hb hby dprog_10_method_1_code_33) rfl rfl k) ?_
      refine Go.st (S' := T43.setTop (mkF m 35 #[.val (.ref o0), .val (.int p1), .val (.int p2)] [(.int p2), (.ref o0)])) (fun t k => XS.iloadN X43.here hx rfl (hb hby dprog_10_method_1_code_34) rfl k) ?_
      have f45 := ((E_o0).wr W43)
      have f46 := ((F_o0_max).other W43 (Or.inr (slot_ne (Or.inr (hw _ (List.mem_of_getElem? (i := 25) rfl))) (Or.inr (hw _ (List.mem_of_getElem? (i := 23) rfl))) (by decide) (t := .int) (t' := .int) (by decide) (by decide))))
      obtain ⟨T47, h47, X47, e47, W47, st47⟩ := putF X43 hx hZ hown (host := "") (Or.inl (hw _ (List.mem_of_getElem? (i := 24) rfl))) Via.refl e43 f46 f45 (Or.inr ⟨(hw _ (List.mem_of_getElem? (i := 25) rfl)), rfl, hnm⟩) (hw _ (List.mem_of_getElem? (i := 9) rfl)) (ty := .int) (by decide) rfl rfl (g := (mkF m 35 #[.val (.ref o0), .val (.int p1), .val (.int p2)] [(.int p2), (.ref o0)])) rfl rfl (hb hby dprog_10_method_1_code_35)
      have Fw47 := (f46).same W47
      have N47 := Fr.snoc X47 N43 g_o0
      have Z48 : n0 ≤ h47.size := Nat.le_trans Z44 (Keep.of_wr W47).1
      have K48 : Keep h0 h47 [o0] := K44.wr W47 (Or.inl (by simp))
      refine Go.st (S' := T47.setTop (mkF m 38 #[.val (.ref o0), .val (.int p1), .val (.int p2)] [])) st47 ?_
      have f49 := ((f45).wr W47)
      have f50 := ((Fw43).other W47 (Or.inr (slot_ne (Or.inr (hw _ (List.mem_of_getElem? (i := 23) rfl))) (Or.inr (hw _ (List.mem_of_getElem? (i := 25) rfl))) (by decide) (t := .int) (t' := .int) (by decide) (by decide))))
      exact Go.ret X47 (v := none) (fun _ => rfl) Bd.notSynchronized (fun fs hr => X47.returnOut hx Bd.returns (hb hby dprog_10_method_1_code_38) hr) (by decide) (by decide) (by rw [e47]; exact ⟨hc32, hc42, rfl, N47, K48, f49, f50, Fw47⟩)
theorem ef_5 (m : MethodId) (o0 : Addr) (p1 : Int32) : entryFrame m #[(.ref o0), (.int p1)] 2 = mkF m 0 #[.val (.ref o0), .val (.int p1)] [] := by first | (simp [entryFrame, mkF, argsToLocals, Value.category, maxLocals]; done) | rfl
def Q5 (Z : State) (o0 : Addr) (p1 : Int32) (u_o0_min : Int32) (u_o0_max : Int32) (h0 : Heap) (n0 : Nat) (v : Option Value) (h : Heap) (L : List Loc) : Prop := (∃ (rv5 : Int32), (((p1 < u_o0_min) ∧ (rv5 = (0 : Int32))) ∨ ((¬ (p1 < u_o0_min)) ∧ (u_o0_max < p1) ∧ (rv5 = (0 : Int32))) ∨ ((¬ (p1 < u_o0_min)) ∧ (¬ (u_o0_max < p1)) ∧ (rv5 = (1 : Int32)))) ∧ v = some (.int rv5) ∧ Fr n0 L ∧ h = h0)
set_option maxRecDepth 65536 in
set_option maxHeartbeats 40000000 in
theorem rm5 (l : Launch) (Z : State) (a0 : Array Value) (hw : ∀ d ∈ tables_1, d.before a0 Z = true) (ws : List Jvm.Cond) (o0 : Addr) (p1 : Int32) (u_o0_min : Int32) (u_o0_max : Int32) (h0 : Heap) (n0 : Nat) (Z0 : n0 ≤ h0.size) (F_o0_min : Fld Z h0 o0 "com/example/consulate/consulate/ca/ValidityLimits$DayRange" "min" "I" (.int u_o0_min)) (F_o0_max : Fld Z h0 o0 "com/example/consulate/consulate/ca/ValidityLimits$DayRange" "max" "I" (.int u_o0_max)) :
    Con l Z (⟨"com/example/consulate/consulate/ca/ValidityLimits$DayRange", "contains", "(I)Z"⟩ : MethodName) prog_10_method_2_code 2 (some .boolean) ws ({ frames := 0, cells := 0, slots := 0, locals := 0 } : Room) #[(.ref o0), (.int p1)] h0 0 0 (Q5 Z o0 p1 u_o0_min u_o0_max h0 n0) := by
  refine MetFree.of_bodySF (plainFor_of_name pn_1) hisR ?_
  intro p e s m args below meth c s₁ Bd hml0 hP hK
  obtain ⟨rfl, hZ, hh⟩ := hP
  have hx := Bd.exec
  have hby := Bd.bytes
  have hml : c.maxLocals = 2 := hml0
  have hown : s.vm.findClass "com/example/consulate/consulate/ca/ValidityLimits$DayRange" = some m.cls := findClass_of_methodNamed Bd.named
  have hnm := (name_of_methodNamed Bd.named Bd.method).1
  have X0 : Stand p l e ({ frames := 0, cells := 0, slots := 0, locals := 0 } : Room) s m #[(.ref o0), (.int p1)] below meth c s₁ [] 0 0 := Stand.of_body Bd
  have e0 : s₁.heap = h0 := by rw [← hh, Bd.state]; rfl
  have N0 := Fr.nil n0
  refine Go.of ?_
  refine Go.st (S' := s₁.setTop (mkF m 0 #[.val (.ref o0), .val (.int p1)] [])) (fun t k => castTop (ef_5 m o0 p1) k) ?_
  refine Go.st (S' := s₁.setTop (mkF m 1 #[.val (.ref o0), .val (.int p1)] [(.int p1)])) (fun t k => XS.iloadN X0.here hx rfl (hb hby dprog_10_method_2_code_0) rfl k) ?_
  refine Go.st (S' := s₁.setTop (mkF m 2 #[.val (.ref o0), .val (.int p1)] [(.ref o0), (.int p1)])) (fun t k => XS.aloadN X0.here hx rfl (hb hby dprog_10_method_2_code_1) rfl rfl k) ?_
  obtain ⟨T75, X75, e75, st75⟩ := getF X0 hx hZ hown (host := "") (Or.inl (hw _ (List.mem_of_getElem? (i := 22) rfl))) Via.refl e0 F_o0_min (g := (mkF m 2 #[.val (.ref o0), .val (.int p1)] [(.ref o0), (.int p1)])) rfl rfl (hb hby dprog_10_method_2_code_2)
  refine Go.st (S' := T75.setTop (mkF m 5 #[.val (.ref o0), .val (.int p1)] [(.int u_o0_min), (.int p1)])) st75 ?_
  by_cases hc76 : (p1 < u_o0_min)
  · refine Go.st (S' := T75.setTop (mkF m 20 #[.val (.ref o0), .val (.int p1)] [])) (fun t k => XS.icmpYes X75.here hx rfl (pc0 := 5) (pc' := 20) rfl (hb hby dprog_10_method_2_code_5) rfl (tlt hc76).1 (by decide) (by decide) k) ?_
    refine Go.st (S' := T75.setTop (mkF m 21 #[.val (.ref o0), .val (.int p1)] [(.int (0 : Int32))])) (fun t k => XS.iconst X75.here hx rfl (hb hby dprog_10_method_2_code_20) k) ?_
    exact Go.ret X75 (v := some (.int (0 : Int32))) (fun h => by rw [Bd.returns] at h; cases h) Bd.notSynchronized (fun fs hr => retN X75 hx (t := .boolean) Bd.returns (by simp) (hb hby dprog_10_method_2_code_21) hr) (by decide) (by decide) (⟨(0 : Int32), (Or.inl ⟨hc76, rfl⟩), rfl, N0, (e75)⟩)
  · refine Go.st (S' := T75.setTop (mkF m 8 #[.val (.ref o0), .val (.int p1)] [])) (fun t k => XS.icmpNo X75.here hx rfl (hb hby dprog_10_method_2_code_5) rfl (flt hc76).1 k) ?_
    refine Go.st (S' := T75.setTop (mkF m 9 #[.val (.ref o0), .val (.int p1)] [(.int p1)])) (fun t k => XS.iloadN X75.here hx rfl (hb hby dprog_10_method_2_code_8) rfl k) ?_
    refine Go.st (S' := T75.setTop (mkF m 10 #[.val (.ref o0), .val (.int p1)] [(.ref o0), (.int p1)])) (fun t k => XS.aloadN X75.here hx rfl (hb hby dprog_10_method_2_code_9) rfl rfl k) ?_
    obtain ⟨T77, X77, e77, st77⟩ := getF X75 hx hZ hown (host := "") (Or.inl (hw _ (List.mem_of_getElem? (i := 24) rfl))) Via.refl e75 F_o0_max (g := (mkF m 10 #[.val (.ref o0), .val (.int p1)] [(.ref o0), (.int p1)])) rfl rfl (hb hby dprog_10_method_2_code_10)
    refine Go.st (S' := T77.setTop (mkF m 13 #[.val (.ref o0), .val (.int p1)] [(.int u_o0_max), (.int p1)])) st77 ?_
    by_cases hc78 : (u_o0_max < p1)
    · refine Go.st (S' := T77.setTop (mkF m 20 #[.val (.ref o0), .val (.int p1)] [])) (fun t k => XS.icmpYes X77.here hx rfl (pc0 := 13) (pc' := 20) rfl (hb hby dprog_10_method_2_code_13) rfl (tlt hc78).2.2.1 (by decide) (by decide) k) ?_
      refine Go.st (S' := T77.setTop (mkF m 21 #[.val (.ref o0), .val (.int p1)] [(.int (0 : Int32))])) (fun t k => XS.iconst X77.here hx rfl (hb hby dprog_10_method_2_code_20) k) ?_
      exact Go.ret X77 (v := some (.int (0 : Int32))) (fun h => by rw [Bd.returns] at h; cases h) Bd.notSynchronized (fun fs hr => retN X77 hx (t := .boolean) Bd.returns (by simp) (hb hby dprog_10_method_2_code_21) hr) (by decide) (by decide) (⟨(0 : Int32), (Or.inr (Or.inl ⟨hc76, hc78, rfl⟩)), rfl, N0, (e77)⟩)
    · refine Go.st (S' := T77.setTop (mkF m 16 #[.val (.ref o0), .val (.int p1)] [])) (fun t k => XS.icmpNo X77.here hx rfl (hb hby dprog_10_method_2_code_13) rfl (flt hc78).2.2.1 k) ?_
      refine Go.st (S' := T77.setTop (mkF m 17 #[.val (.ref o0), .val (.int p1)] [(.int (1 : Int32))])) (fun t k => XS.iconst X77.here hx rfl (hb hby dprog_10_method_2_code_16) k) ?_
      refine Go.st (S' := T77.setTop (mkF m 21 #[.val (.ref o0), .val (.int p1)] [(.int (1 : Int32))])) (fun t k => XS.goto X77.here hx rfl (pc0 := 17) (pc' := 21) rfl (hb hby dprog_10_method_2_code_17) (by decide) (by decide) k) ?_
      exact Go.ret X77 (v := some (.int (1 : Int32))) (fun h => by rw [Bd.returns] at h; cases h) Bd.notSynchronized (fun fs hr => retN X77 hx (t := .boolean) Bd.returns (by simp) (hb hby dprog_10_method_2_code_21) hr) (by decide) (by decide) (⟨(1 : Int32), (Or.inr (Or.inr ⟨hc76, hc78, rfl⟩)), rfl, N0, (e77)⟩)
theorem ef_6 (m : MethodId) (p0 : Int32) (p1 : Int32) (p2 : Int32) (p3 : Int32) : entryFrame m #[(.int p0), (.int p1), (.int p2), (.int p3)] maxLocals = mkF m 0 #[.val (.int p0), .val (.int p1), .val (.int p2), .val (.int p3), .unset, .unset, .unset, .unset, .unset, .unset, .unset, .unset, .unset, .unset, .unset] [] := by first | (simp [entryFrame, mkF, argsToLocals, Value.category, maxLocals]; done) | rfl
def Q6 (Z : State) (p0 : Int32) (p1 : Int32) (p2 : Int32) (p3 : Int32) (h0 : Heap) (n0 : Nat) (v : Option Value) (h : Heap) (L : List Loc) : Prop := v = some (.int 1) ∧ Fr n0 L
set_option maxRecDepth 65536 in
set_option maxHeartbeats 40000000 in
theorem rm6 (l : Launch) (Z : State) (a0 : Array Value) (hw : ∀ d ∈ tables_1, d.before a0 Z = true) (ws : List Jvm.Cond) (p0 : Int32) (p1 : Int32) (p2 : Int32) (p3 : Int32) (h0 : Heap) (n0 : Nat) (Z0 : n0 ≤ h0.size)  :
    Con l Z x code maxLocals ret ws room_1 #[(.int p0), (.int p1), (.int p2), (.int p3)] h0 1 2 (Q6 Z p0 p1 p2 p3 h0 n0) := by
  refine MetFree.of_bodySF (plainFor_of_name pn_2) hisR ?_
  intro p e s m args below meth c s₁ Bd hml0 hP hK
  obtain ⟨rfl, hZ, hh⟩ := hP
  have hx := Bd.exec
  have hby := Bd.bytes
  have hml : c.maxLocals = 15 := hml0
  have hown : s.vm.findClass "com/example/consulate/consulate/ca/DayRangeContainsPinLaw" = some m.cls := findClass_of_methodNamed Bd.named
  have hnm := (name_of_methodNamed Bd.named Bd.method).1
  have X0 : Stand p l e room_1 s m #[(.int p0), (.int p1), (.int p2), (.int p3)] below meth c s₁ [] 0 0 := Stand.of_body Bd
  have e0 : s₁.heap = h0 := by rw [← hh, Bd.state]; rfl
  have N0 := Fr.nil n0
  refine Go.of ?_
  refine Go.st (S' := s₁.setTop (mkF m 0 #[.val (.int p0), .val (.int p1), .val (.int p2), .val (.int p3), .unset, .unset, .unset, .unset, .unset, .unset, .unset, .unset, .unset, .unset, .unset] [])) (fun t k => castTop (ef_6 m p0 p1 p2 p3) k) ?_
  let A1 : Array Slot := #[.val (.int p0), .val (.int p1), .val (.int p2), .val (.int p3), .unset, .unset, .unset, .unset, .unset, .unset, .unset, .unset, .unset, .unset, .unset]
  refine Go.st (S' := s₁.setTop (mkF m 1 A1 [(.int p0)])) (fun t k => XS.iloadN X0.here hx rfl (hb hby at_0) rfl k) ?_
  refine Go.st (S' := s₁.setTop (mkF m 3 A1 [(.int (2147483647 : Int32)), (.int p0)])) (fun t k => X0.ldcInt hx hown (mvT hZ (hw _ (List.mem_of_getElem? (i := 0) rfl))) (g := (mkF m 1 A1 [(.int p0)])) rfl (hb hby at_1) t k) ?_
  refine Go.op (F := fun z => s₁.setTop (mkF m 4 A1 [(.int z)])) (x := (p0 &&& (2147483647 : Int32))) (fun t k => XS.iand X0.here hx rfl (hb hby at_3) rfl k) ?_
  intro v2 hv2
  let A3 : Array Slot := #[.val (.int p0), .val (.int p1), .val (.int p2), .val (.int p3), .val (.int v2), .unset, .unset, .unset, .unset, .unset, .unset, .unset, .unset, .unset, .unset]
  refine Go.st (S' := s₁.setTop (mkF m 6 A3 [])) (fun t k => XS.istore X0.here hx rfl (hb hby at_4) rfl (l' := A3) rfl k) ?_
  refine Go.st (S' := s₁.setTop (mkF m 7 A3 [(.int p1)])) (fun t k => XS.iloadN X0.here hx rfl (hb hby at_6) rfl k) ?_
  refine Go.st (S' := s₁.setTop (mkF m 9 A3 [(.int (2147483647 : Int32)), (.int p1)])) (fun t k => X0.ldcInt hx hown (mvT hZ (hw _ (List.mem_of_getElem? (i := 0) rfl))) (g := (mkF m 7 A3 [(.int p1)])) rfl (hb hby at_7) t k) ?_
  refine Go.op (F := fun z => s₁.setTop (mkF m 10 A3 [(.int z)])) (x := (p1 &&& (2147483647 : Int32))) (fun t k => XS.iand X0.here hx rfl (hb hby at_9) rfl k) ?_
  intro v4 hv4
  let A5 : Array Slot := #[.val (.int p0), .val (.int p1), .val (.int p2), .val (.int p3), .val (.int v2), .val (.int v4), .unset, .unset, .unset, .unset, .unset, .unset, .unset, .unset, .unset]
  refine Go.st (S' := s₁.setTop (mkF m 12 A5 [])) (fun t k => XS.istore X0.here hx rfl (hb hby at_10) rfl (l' := A5) rfl k) ?_
  refine Go.st (S' := s₁.setTop (mkF m 14 A5 [(.int v2)])) (fun t k => XS.iload X0.here hx rfl (hb hby at_12) rfl k) ?_
  refine Go.st (S' := s₁.setTop (mkF m 16 A5 [(.int v4), (.int v2)])) (fun t k => XS.iload X0.here hx rfl (hb hby at_14) rfl k) ?_
  obtain ⟨r7, T7, L7, X7, hQ7, st7⟩ := own_callS (W := 0) X0 hx hZ e0 hown (y := (⟨"java/lang/Math", "min", "(II)I"⟩ : MethodName)) (hw _ (List.mem_of_getElem? (i := 1) rfl)) (hw _ (List.mem_of_getElem? (i := 2) rfl)) (hw _ (List.mem_of_getElem? (i := 3) rfl)) (hw _ (List.mem_of_getElem? (i := 4) rfl)) (by decide) (rm1 l Z a0 hw [] v2 v4 h0 n0 Z0 ) (by decide) (by decide) (by decide) (by decide) (g := (mkF m 16 A5 [(.int v4), (.int v2)])) rfl (by rw [hml]; rfl) (argsL := [(.int v2), (.int v4)]) (rest := []) rfl (lenOf pd_0 rfl) rfl (by show 2 * 0 + _ ≤ _; exact Nat.le_of_eq rfl) (hb hby at_16)
  obtain ⟨r8, hc9, rfl, N7, e7⟩ := hQ7
  have N7_ := Fr.app N0 N7
  refine Go.st (S' := T7.setTop (mkF m 19 A5 [(.int r8)])) st7 ?_
  let A10 : Array Slot := #[.val (.int p0), .val (.int p1), .val (.int p2), .val (.int p3), .val (.int v2), .val (.int v4), .val (.int r8), .unset, .unset, .unset, .unset, .unset, .unset, .unset, .unset]
  refine Go.st (S' := T7.setTop (mkF m 21 A10 [])) (fun t k => XS.istore X7.here hx rfl (hb hby at_19) rfl (l' := A10) rfl k) ?_
  refine Go.st (S' := T7.setTop (mkF m 23 A10 [(.int v2)])) (fun t k => XS.iload X7.here hx rfl (hb hby at_21) rfl k) ?_
  refine Go.st (S' := T7.setTop (mkF m 25 A10 [(.int v4), (.int v2)])) (fun t k => XS.iload X7.here hx rfl (hb hby at_23) rfl k) ?_
  obtain ⟨r12, T12, L12, X12, hQ12, st12⟩ := own_callS (W := 0) X7 hx hZ e7 hown (y := (⟨"java/lang/Math", "max", "(II)I"⟩ : MethodName)) (hw _ (List.mem_of_getElem? (i := 5) rfl)) (hw _ (List.mem_of_getElem? (i := 6) rfl)) (hw _ (List.mem_of_getElem? (i := 3) rfl)) (hw _ (List.mem_of_getElem? (i := 7) rfl)) (by decide) (rm2 l Z a0 hw [] v2 v4 h0 n0 Z0 ) (by decide) (by decide) (by decide) (by decide) (g := (mkF m 25 A10 [(.int v4), (.int v2)])) rfl (by rw [hml]; rfl) (argsL := [(.int v2), (.int v4)]) (rest := []) rfl (lenOf pd_0 rfl) rfl (by show 2 * 0 + _ ≤ _; exact Nat.le_of_eq rfl) (hb hby at_25)
  obtain ⟨r13, hc14, rfl, N12, e12⟩ := hQ12
  have N12_ := Fr.app N7_ N12
  refine Go.st (S' := T12.setTop (mkF m 28 A10 [(.int r13)])) st12 ?_
  let A15 : Array Slot := #[.val (.int p0), .val (.int p1), .val (.int p2), .val (.int p3), .val (.int v2), .val (.int v4), .val (.int r8), .val (.int r13), .unset, .unset, .unset, .unset, .unset, .unset, .unset]
  refine Go.st (S' := T12.setTop (mkF m 30 A15 [])) (fun t k => XS.istore X12.here hx rfl (hb hby at_28) rfl (l' := A15) rfl k) ?_
  refine Go.st (S' := T12.setTop (mkF m 31 A15 [(.int p3)])) (fun t k => XS.iloadN X12.here hx rfl (hb hby at_30) rfl k) ?_
  refine Go.st (S' := T12.setTop (mkF m 32 A15 [(.int (1 : Int32)), (.int p3)])) (fun t k => XS.iconst X12.here hx rfl (hb hby at_31) k) ?_
  refine Go.op (F := fun z => T12.setTop (mkF m 33 A15 [(.int z)])) (x := (p3 &&& (1 : Int32))) (fun t k => XS.iand X12.here hx rfl (hb hby at_32) rfl k) ?_
  intro v16 hv16
  by_cases hc153 : (v16 = (0 : Int32))
  · refine Go.st (S' := T12.setTop (mkF m 40 A15 [])) (fun t k => XS.ifYes X12.here hx rfl (pc0 := 33) (pc' := 40) rfl (hb hby at_33) rfl ((if0 _ _).trans (teq hc153).1) (by decide) (by decide) k) ?_
    obtain ⟨T154, h154, X154, e154, E154, A154, D154, -, st154⟩ := newO X12 hx hZ hown (hw _ (List.mem_of_getElem? (i := 8) rfl)) (hw _ (List.mem_of_getElem? (i := 9) rfl)) (hw _ (List.mem_of_getElem? (i := 10) rfl)) e12 (g := (mkF m 40 A15 [])) rfl (hb hby at_40) (by decide) (by decide)
    obtain ⟨b154, gg154⟩ : ∃ z, z = h0.size := ⟨_, rfl⟩
    rw [← gg154] at A154 D154 st154
    have g_b154 : n0 ≤ b154 := Nat.le_trans Z0 (Nat.le_of_eq gg154.symm)
    have sz_b154 : h0.size ≤ b154 := Nat.le_trans (Keep.refl h0 []).1 (Nat.le_of_eq gg154.symm)
    have Z155 : n0 ≤ h154.size := Nat.le_trans Z0 E154.1
    have K155 : Keep h0 h154 [] := (Keep.refl h0 []).ext E154
    have Fb154_min : Fld Z h154 b154 "com/example/consulate/consulate/ca/ValidityLimits$DayRange" "min" "I" (.int (0 : Int32)) := D154 (Or.inr (hw _ (List.mem_of_getElem? (i := 23) rfl))) (ty := .int) (by decide)
    have Fb154_max : Fld Z h154 b154 "com/example/consulate/consulate/ca/ValidityLimits$DayRange" "max" "I" (.int (0 : Int32)) := D154 (Or.inr (hw _ (List.mem_of_getElem? (i := 25) rfl))) (ty := .int) (by decide)
    refine Go.st (S' := T154.setTop (mkF m 43 A15 [(.ref b154)])) st154 ?_
    refine Go.st (S' := T154.setTop (mkF m 44 A15 [(.ref b154), (.ref b154)])) (fun t k => XS.dup X154.here hx rfl (hb hby at_43) rfl rfl k) ?_
    refine Go.st (S' := T154.setTop (mkF m 46 A15 [(.int r8), (.ref b154), (.ref b154)])) (fun t k => XS.iload X154.here hx rfl (hb hby at_44) rfl k) ?_
    refine Go.st (S' := T154.setTop (mkF m 48 A15 [(.int r13), (.int r8), (.ref b154), (.ref b154)])) (fun t k => XS.iload X154.here hx rfl (hb hby at_46) rfl k) ?_
    have no156 : ¬ ((r8 < (0 : Int32))) := by
      intro hc157
      have rv4 := rng32 v4
      have wv4 := c_mask p1 (2147483647 : Int32) 31 (by decide) (by decide)
      rw [← hv4] at wv4
      have rv2 := rng32 v2
      have wv2 := c_mask p0 (2147483647 : Int32) 31 (by decide) (by decide)
      rw [← hv2] at wv2
      have rp0 := rng32 p0
      have rp1 := rng32 p1
      have rr13 := rng32 r13
      have rr8 := rng32 r8
      have lI0 : (0 : Int32).toInt = 0 := by decide
      have lI2147483647 : (2147483647 : Int32).toInt = 2147483647 := by decide
      simp only [Int32.lt_iff_toInt_lt, Int64.lt_iff_toInt_lt, ← Int32.toInt_inj, ← Int64.toInt_inj] at hc9 hc14 hc157
      omega
    have no158 : ¬ ((¬ (r8 < (0 : Int32))) ∧ (r13 < r8)) := by
      rintro ⟨hc159, hc160⟩
      have rv4 := rng32 v4
      have wv4 := c_mask p1 (2147483647 : Int32) 31 (by decide) (by decide)
      rw [← hv4] at wv4
      have rv2 := rng32 v2
      have wv2 := c_mask p0 (2147483647 : Int32) 31 (by decide) (by decide)
      rw [← hv2] at wv2
      have rp0 := rng32 p0
      have rp1 := rng32 p1
      have rr13 := rng32 r13
      have rr8 := rng32 r8
      have lI0 : (0 : Int32).toInt = 0 := by decide
      have lI2147483647 : (2147483647 : Int32).toInt = 2147483647 := by decide
      simp only [Int32.lt_iff_toInt_lt, Int64.lt_iff_toInt_lt, ← Int32.toInt_inj, ← Int64.toInt_inj] at hc9 hc14 hc159 hc160
      omega
    obtain ⟨r161, T161, L161, X161, hQ161, st161⟩ := own_callI (W := 1) (a := b154) X154 hx hZ e154 hown (y := (⟨"com/example/consulate/consulate/ca/ValidityLimits$DayRange", "<init>", "(II)V"⟩ : MethodName)) rfl (hw _ (List.mem_of_getElem? (i := 11) rfl)) (hw _ (List.mem_of_getElem? (i := 12) rfl)) (hw _ (List.mem_of_getElem? (i := 10) rfl)) (hw _ (List.mem_of_getElem? (i := 13) rfl)) (by decide) (rm4 l Z a0 hw [] b154 r8 r13 ((.int (0 : Int32))) ((.int (0 : Int32))) h154 n0 Z155 (no156) (no158) (A154) (Fb154_min) (g_b154) (Fb154_max)) (by decide) (by decide) (by decide) (by decide) (g := (mkF m 48 A15 [(.int r13), (.int r8), (.ref b154), (.ref b154)])) rfl (by rw [hml]; rfl) (argsL := [(.int r8), (.int r13)]) (rest := [(.ref b154)]) rfl (lenOf pd_2 rfl) rfl (by show 2 * 0 + _ ≤ _; exact Nat.le_of_eq rfl) (hb hby at_48)
    obtain ⟨hc162, hc163, rfl, N161, K161_, f164, f165, f166⟩ := hQ161
    have N161_ := Fr.app N12_ N161
    have Z167 : n0 ≤ T161.heap.size := Nat.le_trans Z155 K161_.1
    have K167 : Keep h0 T161.heap [] := K155.trans K161_ (allS (Or.inr sz_b154) all0)
    refine Go.st (S' := T161.setTop (mkF m 51 A15 [(.ref b154)])) st161 ?_
    let A168 : Array Slot := #[.val (.int p0), .val (.int p1), .val (.int p2), .val (.int p3), .val (.int v2), .val (.int v4), .val (.int r8), .val (.int r13), .val (.ref b154), .unset, .unset, .unset, .unset, .unset, .unset]
    refine Go.st (S' := T161.setTop (mkF m 53 A168 [])) (fun t k => XS.astore X161.here hx rfl (hb hby at_51) rfl rfl (l' := A168) rfl k) ?_
    refine Go.st (S' := T161.setTop (mkF m 54 A168 [(.int p2)])) (fun t k => XS.iloadN X161.here hx rfl (hb hby at_53) rfl k) ?_
    refine Go.op (F := fun z => T161.setTop (mkF m 55 A168 [(.long z)])) (x := p2.toInt64) (fun t k => XS.i2l X161.here hx rfl (hb hby at_54) rfl k) ?_
    intro v169 hv169
    refine Go.st (S' := T161.setTop (mkF m 57 A168 [(.int r8), (.long v169)])) (fun t k => XS.iload X161.here hx rfl (hb hby at_55) rfl k) ?_
    refine Go.op (F := fun z => T161.setTop (mkF m 58 A168 [(.long z), (.long v169)])) (x := r8.toInt64) (fun t k => XS.i2l X161.here hx rfl (hb hby at_57) rfl k) ?_
    intro v170 hv170
    refine Go.op (F := fun z => T161.setTop (mkF m 59 A168 [(.long z)])) (x := (v169 - v170)) (fun t k => XS.lsub X161.here hx rfl (hb hby at_58) rfl k) ?_
    intro v171 hv171
    let A172 : Array Slot := #[.val (.int p0), .val (.int p1), .val (.int p2), .val (.int p3), .val (.int v2), .val (.int v4), .val (.int r8), .val (.int r13), .val (.ref b154), .val (.long v171), .second, .unset, .unset, .unset, .unset]
    refine Go.st (S' := T161.setTop (mkF m 61 A172 [])) (fun t k => XS.lstore X161.here hx rfl (hb hby at_59) rfl (l' := A172) rfl k) ?_
    refine Go.st (S' := T161.setTop (mkF m 63 A172 [(.int r13)])) (fun t k => XS.iload X161.here hx rfl (hb hby at_61) rfl k) ?_
    refine Go.op (F := fun z => T161.setTop (mkF m 64 A172 [(.long z)])) (x := r13.toInt64) (fun t k => XS.i2l X161.here hx rfl (hb hby at_63) rfl k) ?_
    intro v173 hv173
    refine Go.st (S' := T161.setTop (mkF m 65 A172 [(.int p2), (.long v173)])) (fun t k => XS.iloadN X161.here hx rfl (hb hby at_64) rfl k) ?_
    refine Go.op (F := fun z => T161.setTop (mkF m 66 A172 [(.long z), (.long v173)])) (x := p2.toInt64) (fun t k => XS.i2l X161.here hx rfl (hb hby at_65) rfl k) ?_
    intro v174 hv174
    obtain rfl : v169 = v174 := hv169.trans hv174.symm
    refine Go.op (F := fun z => T161.setTop (mkF m 67 A172 [(.long z)])) (x := (v173 - v169)) (fun t k => XS.lsub X161.here hx rfl (hb hby at_66) rfl k) ?_
    intro v175 hv175
    let A176 : Array Slot := #[.val (.int p0), .val (.int p1), .val (.int p2), .val (.int p3), .val (.int v2), .val (.int v4), .val (.int r8), .val (.int r13), .val (.ref b154), .val (.long v171), .second, .val (.long v175), .second, .unset, .unset]
    refine Go.st (S' := T161.setTop (mkF m 69 A176 [])) (fun t k => XS.lstore X161.here hx rfl (hb hby at_67) rfl (l' := A176) rfl k) ?_
    refine Go.st (S' := T161.setTop (mkF m 71 A176 [(.long v171)])) (fun t k => XS.lload X161.here hx rfl (hb hby at_69) rfl k) ?_
    refine Go.st (S' := T161.setTop (mkF m 72 A176 [(.long (0 : Int64)), (.long v171)])) (fun t k => XS.lconst X161.here hx rfl (hb hby at_71) k) ?_
    refine Go.op (F := fun z => T161.setTop (mkF m 73 A176 [(.int z)])) (x := (lcmpW v171 (0 : Int64))) (fun t k => XS.lcmp X161.here hx rfl (hb hby at_72) rfl k) ?_
    intro v177 hv177
    obtain ⟨v181, hv181⟩ : ∃ z, z = (lcmpW v175 (0 : Int64)) := ⟨_, rfl⟩
    refine Go.join (α := Int32) (fun r => (((v171 < (0 : Int64)) ∧ (r = (0 : Int32))) ∨ ((¬ (v171 < (0 : Int64))) ∧ (v175 < (0 : Int64)) ∧ (r = (0 : Int32))) ∨ ((¬ (v171 < (0 : Int64))) ∧ (¬ (v175 < (0 : Int64))) ∧ (r = (1 : Int32))))) (fun r => T161.setTop (mkF m 88 A176 [(.int r)])) ?_ ?_
    · intro r185 hc186
      let A187 : Array Slot := #[.val (.int p0), .val (.int p1), .val (.int p2), .val (.int p3), .val (.int v2), .val (.int v4), .val (.int r8), .val (.int r13), .val (.ref b154), .val (.long v171), .second, .val (.long v175), .second, .val (.int r185), .unset]
      refine Go.st (S' := T161.setTop (mkF m 90 A187 [])) (fun t k => XS.istore X161.here hx rfl (hb hby at_88) rfl (l' := A187) rfl k) ?_
      refine Go.st (S' := T161.setTop (mkF m 92 A187 [(.ref b154)])) (fun t k => XS.aload X161.here hx rfl (hb hby at_90) rfl rfl k) ?_
      refine Go.st (S' := T161.setTop (mkF m 93 A187 [(.int p2), (.ref b154)])) (fun t k => XS.iloadN X161.here hx rfl (hb hby at_92) rfl k) ?_
      obtain ⟨r188, T188, L188, X188, hQ188, st188⟩ := own_callV (W := 0) (a := b154) (C := "com/example/consulate/consulate/ca/ValidityLimits$DayRange") X161 hx hZ rfl hown (y := (⟨"com/example/consulate/consulate/ca/ValidityLimits$DayRange", "contains", "(I)Z"⟩ : MethodName)) (z := (⟨"com/example/consulate/consulate/ca/ValidityLimits$DayRange", "contains", "(I)Z"⟩ : MethodName)) (hw _ (List.mem_of_getElem? (i := 26) rfl)) (hw _ (List.mem_of_getElem? (i := 27) rfl)) (notFace_of_selects (args := #[]) (mvT hZ (hw _ (List.mem_of_getElem? (i := 29) rfl)))) (hw _ (List.mem_of_getElem? (i := 29) rfl)) (hw _ (List.mem_of_getElem? (i := 28) rfl)) (hw _ (List.mem_of_getElem? (i := 10) rfl)) (hw _ (List.mem_of_getElem? (i := 30) rfl)) (by decide) (f164) (rm5 l Z a0 hw [] b154 p2 r8 r13 T161.heap n0 Z167 (f165) (f166)) (by decide) (by decide) (by decide) (by decide) (g := (mkF m 93 A187 [(.int p2), (.ref b154)])) rfl (by rw [hml]; rfl) (argsL := [(.int p2)]) (rest := []) rfl (lenOf pd_3 rfl) rfl (by show 2 * 0 + _ ≤ _; exact Nat.le_of_eq rfl) (hb hby at_93)
      obtain ⟨r189, hc190, rfl, N188, e188⟩ := hQ188
      have N188_ := Fr.app N161_ N188
      refine Go.st (S' := T188.setTop (mkF m 96 A187 [(.int r189)])) st188 ?_
      refine Go.st (S' := T188.setTop (mkF m 98 A187 [(.int r185), (.int r189)])) (fun t k => XS.iload X188.here hx rfl (hb hby at_96) rfl k) ?_
      by_cases hc192 : (r189 = r185)
      · refine Go.st (S' := T188.setTop (mkF m 101 A187 [])) (fun t k => XS.icmpNo X188.here hx rfl (hb hby at_98) rfl (teq hc192).2 k) ?_
        refine Go.st (S' := T188.setTop (mkF m 102 A187 [(.int (1 : Int32))])) (fun t k => XS.iconst X188.here hx rfl (hb hby at_101) k) ?_
        refine Go.st (S' := T188.setTop (mkF m 106 A187 [(.int (1 : Int32))])) (fun t k => XS.goto X188.here hx rfl (pc0 := 102) (pc' := 106) rfl (hb hby at_102) (by decide) (by decide) k) ?_
        let A193 : Array Slot := #[.val (.int p0), .val (.int p1), .val (.int p2), .val (.int p3), .val (.int v2), .val (.int v4), .val (.int r8), .val (.int r13), .val (.ref b154), .val (.long v171), .second, .val (.long v175), .second, .val (.int r185), .val (.int (1 : Int32))]
        refine Go.st (S' := T188.setTop (mkF m 108 A193 [])) (fun t k => XS.istore X188.here hx rfl (hb hby at_106) rfl (l' := A193) rfl k) ?_
        refine Go.st (S' := T188.setTop (mkF m 110 A193 [(.int (1 : Int32))])) (fun t k => XS.iload X188.here hx rfl (hb hby at_108) rfl k) ?_
        refine Go.st (S' := T188.setTop (mkF m 113 A193 [])) (fun t k => XS.ifNo X188.here hx rfl (hb hby at_110) rfl ((if0 _ _).trans (feq (by decide : (¬ ((1 : Int32) = (0 : Int32))))).1) k) ?_
        refine Go.st (S' := T188.setTop (mkF m 115 A193 [(.ref b154)])) (fun t k => XS.aload X188.here hx rfl (hb hby at_113) rfl rfl k) ?_
        refine Go.st (S' := T188.setTop (mkF m 117 A193 [(.int r8), (.ref b154)])) (fun t k => XS.iload X188.here hx rfl (hb hby at_115) rfl k) ?_
        obtain ⟨r194, T194, L194, X194, hQ194, st194⟩ := own_callV (W := 0) (a := b154) (C := "com/example/consulate/consulate/ca/ValidityLimits$DayRange") X188 hx hZ e188 hown (y := (⟨"com/example/consulate/consulate/ca/ValidityLimits$DayRange", "contains", "(I)Z"⟩ : MethodName)) (z := (⟨"com/example/consulate/consulate/ca/ValidityLimits$DayRange", "contains", "(I)Z"⟩ : MethodName)) (hw _ (List.mem_of_getElem? (i := 26) rfl)) (hw _ (List.mem_of_getElem? (i := 27) rfl)) (notFace_of_selects (args := #[]) (mvT hZ (hw _ (List.mem_of_getElem? (i := 29) rfl)))) (hw _ (List.mem_of_getElem? (i := 29) rfl)) (hw _ (List.mem_of_getElem? (i := 28) rfl)) (hw _ (List.mem_of_getElem? (i := 10) rfl)) (hw _ (List.mem_of_getElem? (i := 30) rfl)) (by decide) (f164) (rm5 l Z a0 hw [] b154 r8 r8 r13 T161.heap n0 Z167 (f165) (f166)) (by decide) (by decide) (by decide) (by decide) (g := (mkF m 117 A193 [(.int r8), (.ref b154)])) rfl (by rw [hml]; rfl) (argsL := [(.int r8)]) (rest := []) rfl (lenOf pd_3 rfl) rfl (by show 2 * 0 + _ ≤ _; exact Nat.le_of_eq rfl) (hb hby at_117)
        obtain ⟨r195, hc196, rfl, N194, e194⟩ := hQ194
        have N194_ := Fr.app N188_ N194
        refine Go.st (S' := T194.setTop (mkF m 120 A193 [(.int r195)])) st194 ?_
        by_cases hc198 : (r195 = (0 : Int32))
        · exfalso
          have rv4 := rng32 v4
          have wv4 := c_mask p1 (2147483647 : Int32) 31 (by decide) (by decide)
          rw [← hv4] at wv4
          have rv2 := rng32 v2
          have wv2 := c_mask p0 (2147483647 : Int32) 31 (by decide) (by decide)
          rw [← hv2] at wv2
          have rv169 := rng64 v169
          have wv169 := c_i2l p2
          rw [← hv169] at wv169
          have rv170 := rng64 v170
          have wv170 := c_i2l r8
          rw [← hv170] at wv170
          have rv171 := rng64 v171
          have wv171 := c_lsub v169 v170
          rw [← hv171] at wv171
          have rv173 := rng64 v173
          have wv173 := c_i2l r13
          rw [← hv173] at wv173
          have rv175 := rng64 v175
          have wv175 := c_lsub v173 v169
          rw [← hv175] at wv175
          have rp0 := rng32 p0
          have rp1 := rng32 p1
          have rp2 := rng32 p2
          have rr13 := rng32 r13
          have rr185 := rng32 r185
          have rr189 := rng32 r189
          have rr195 := rng32 r195
          have rr8 := rng32 r8
          have lI0 : (0 : Int32).toInt = 0 := by decide
          have lI1 : (1 : Int32).toInt = 1 := by decide
          have lI2147483647 : (2147483647 : Int32).toInt = 2147483647 := by decide
          have lJ0 : (0 : Int64).toInt = 0 := by decide
          simp only [Int32.lt_iff_toInt_lt, Int64.lt_iff_toInt_lt, ← Int32.toInt_inj, ← Int64.toInt_inj] at hc9 hc14 hc162 hc163 hc186 hc190 hc192 hc196 hc198
          omega
        · refine Go.st (S' := T194.setTop (mkF m 123 A193 [])) (fun t k => XS.ifNo X194.here hx rfl (hb hby at_120) rfl ((if0 _ _).trans (feq hc198).1) k) ?_
          refine Go.st (S' := T194.setTop (mkF m 124 A193 [(.int (1 : Int32))])) (fun t k => XS.iconst X194.here hx rfl (hb hby at_123) k) ?_
          refine Go.st (S' := T194.setTop (mkF m 128 A193 [(.int (1 : Int32))])) (fun t k => XS.goto X194.here hx rfl (pc0 := 124) (pc' := 128) rfl (hb hby at_124) (by decide) (by decide) k) ?_
          refine Go.st (S' := T194.setTop (mkF m 130 A193 [])) (fun t k => XS.istore X194.here hx rfl (hb hby at_128) rfl (l' := A193) rfl k) ?_
          refine Go.st (S' := T194.setTop (mkF m 132 A193 [(.int (1 : Int32))])) (fun t k => XS.iload X194.here hx rfl (hb hby at_130) rfl k) ?_
          refine Go.st (S' := T194.setTop (mkF m 135 A193 [])) (fun t k => XS.ifNo X194.here hx rfl (hb hby at_132) rfl ((if0 _ _).trans (feq (by decide : (¬ ((1 : Int32) = (0 : Int32))))).1) k) ?_
          refine Go.st (S' := T194.setTop (mkF m 137 A193 [(.ref b154)])) (fun t k => XS.aload X194.here hx rfl (hb hby at_135) rfl rfl k) ?_
          refine Go.st (S' := T194.setTop (mkF m 139 A193 [(.int r13), (.ref b154)])) (fun t k => XS.iload X194.here hx rfl (hb hby at_137) rfl k) ?_
          obtain ⟨r199, T199, L199, X199, hQ199, st199⟩ := own_callV (W := 0) (a := b154) (C := "com/example/consulate/consulate/ca/ValidityLimits$DayRange") X194 hx hZ e194 hown (y := (⟨"com/example/consulate/consulate/ca/ValidityLimits$DayRange", "contains", "(I)Z"⟩ : MethodName)) (z := (⟨"com/example/consulate/consulate/ca/ValidityLimits$DayRange", "contains", "(I)Z"⟩ : MethodName)) (hw _ (List.mem_of_getElem? (i := 26) rfl)) (hw _ (List.mem_of_getElem? (i := 27) rfl)) (notFace_of_selects (args := #[]) (mvT hZ (hw _ (List.mem_of_getElem? (i := 29) rfl)))) (hw _ (List.mem_of_getElem? (i := 29) rfl)) (hw _ (List.mem_of_getElem? (i := 28) rfl)) (hw _ (List.mem_of_getElem? (i := 10) rfl)) (hw _ (List.mem_of_getElem? (i := 30) rfl)) (by decide) (f164) (rm5 l Z a0 hw [] b154 r13 r8 r13 T161.heap n0 Z167 (f165) (f166)) (by decide) (by decide) (by decide) (by decide) (g := (mkF m 139 A193 [(.int r13), (.ref b154)])) rfl (by rw [hml]; rfl) (argsL := [(.int r13)]) (rest := []) rfl (lenOf pd_3 rfl) rfl (by show 2 * 0 + _ ≤ _; exact Nat.le_of_eq rfl) (hb hby at_139)
          obtain ⟨r200, hc201, rfl, N199, e199⟩ := hQ199
          have N199_ := Fr.app N194_ N199
          refine Go.st (S' := T199.setTop (mkF m 142 A193 [(.int r200)])) st199 ?_
          by_cases hc203 : (r200 = (0 : Int32))
          · exfalso
            have rv4 := rng32 v4
            have wv4 := c_mask p1 (2147483647 : Int32) 31 (by decide) (by decide)
            rw [← hv4] at wv4
            have rv2 := rng32 v2
            have wv2 := c_mask p0 (2147483647 : Int32) 31 (by decide) (by decide)
            rw [← hv2] at wv2
            have rv169 := rng64 v169
            have wv169 := c_i2l p2
            rw [← hv169] at wv169
            have rv170 := rng64 v170
            have wv170 := c_i2l r8
            rw [← hv170] at wv170
            have rv171 := rng64 v171
            have wv171 := c_lsub v169 v170
            rw [← hv171] at wv171
            have rv173 := rng64 v173
            have wv173 := c_i2l r13
            rw [← hv173] at wv173
            have rv175 := rng64 v175
            have wv175 := c_lsub v173 v169
            rw [← hv175] at wv175
            have rp0 := rng32 p0
            have rp1 := rng32 p1
            have rp2 := rng32 p2
            have rr13 := rng32 r13
            have rr185 := rng32 r185
            have rr189 := rng32 r189
            have rr195 := rng32 r195
            have rr200 := rng32 r200
            have rr8 := rng32 r8
            have lI0 : (0 : Int32).toInt = 0 := by decide
            have lI1 : (1 : Int32).toInt = 1 := by decide
            have lI2147483647 : (2147483647 : Int32).toInt = 2147483647 := by decide
            have lJ0 : (0 : Int64).toInt = 0 := by decide
            simp only [Int32.lt_iff_toInt_lt, Int64.lt_iff_toInt_lt, ← Int32.toInt_inj, ← Int64.toInt_inj] at hc9 hc14 hc162 hc163 hc186 hc190 hc192 hc196 hc198 hc201 hc203
            omega
          · refine Go.st (S' := T199.setTop (mkF m 145 A193 [])) (fun t k => XS.ifNo X199.here hx rfl (hb hby at_142) rfl ((if0 _ _).trans (feq hc203).1) k) ?_
            refine Go.st (S' := T199.setTop (mkF m 146 A193 [(.int (1 : Int32))])) (fun t k => XS.iconst X199.here hx rfl (hb hby at_145) k) ?_
            refine Go.st (S' := T199.setTop (mkF m 150 A193 [(.int (1 : Int32))])) (fun t k => XS.goto X199.here hx rfl (pc0 := 146) (pc' := 150) rfl (hb hby at_146) (by decide) (by decide) k) ?_
            refine Go.st (S' := T199.setTop (mkF m 152 A193 [])) (fun t k => XS.istore X199.here hx rfl (hb hby at_150) rfl (l' := A193) rfl k) ?_
            refine Go.st (S' := T199.setTop (mkF m 154 A193 [(.int (1 : Int32))])) (fun t k => XS.iload X199.here hx rfl (hb hby at_152) rfl k) ?_
            refine Go.st (S' := T199.setTop (mkF m 157 A193 [])) (fun t k => XS.ifNo X199.here hx rfl (hb hby at_154) rfl ((if0 _ _).trans (feq (by decide : (¬ ((1 : Int32) = (0 : Int32))))).1) k) ?_
            refine Go.st (S' := T199.setTop (mkF m 159 A193 [(.ref b154)])) (fun t k => XS.aload X199.here hx rfl (hb hby at_157) rfl rfl k) ?_
            refine Go.st (S' := T199.setTop (mkF m 161 A193 [(.int r8), (.ref b154)])) (fun t k => XS.iload X199.here hx rfl (hb hby at_159) rfl k) ?_
            refine Go.st (S' := T199.setTop (mkF m 162 A193 [(.int (1 : Int32)), (.int r8), (.ref b154)])) (fun t k => XS.iconst X199.here hx rfl (hb hby at_161) k) ?_
            refine Go.op (F := fun z => T199.setTop (mkF m 163 A193 [(.int z), (.ref b154)])) (x := (r8 - (1 : Int32))) (fun t k => XS.isub X199.here hx rfl (hb hby at_162) rfl k) ?_
            intro v204 hv204
            obtain ⟨r205, T205, L205, X205, hQ205, st205⟩ := own_callV (W := 0) (a := b154) (C := "com/example/consulate/consulate/ca/ValidityLimits$DayRange") X199 hx hZ e199 hown (y := (⟨"com/example/consulate/consulate/ca/ValidityLimits$DayRange", "contains", "(I)Z"⟩ : MethodName)) (z := (⟨"com/example/consulate/consulate/ca/ValidityLimits$DayRange", "contains", "(I)Z"⟩ : MethodName)) (hw _ (List.mem_of_getElem? (i := 26) rfl)) (hw _ (List.mem_of_getElem? (i := 27) rfl)) (notFace_of_selects (args := #[]) (mvT hZ (hw _ (List.mem_of_getElem? (i := 29) rfl)))) (hw _ (List.mem_of_getElem? (i := 29) rfl)) (hw _ (List.mem_of_getElem? (i := 28) rfl)) (hw _ (List.mem_of_getElem? (i := 10) rfl)) (hw _ (List.mem_of_getElem? (i := 30) rfl)) (by decide) (f164) (rm5 l Z a0 hw [] b154 v204 r8 r13 T161.heap n0 Z167 (f165) (f166)) (by decide) (by decide) (by decide) (by decide) (g := (mkF m 163 A193 [(.int v204), (.ref b154)])) rfl (by rw [hml]; rfl) (argsL := [(.int v204)]) (rest := []) rfl (lenOf pd_3 rfl) rfl (by show 2 * 0 + _ ≤ _; exact Nat.le_of_eq rfl) (hb hby at_163)
            obtain ⟨r206, hc207, rfl, N205, e205⟩ := hQ205
            have N205_ := Fr.app N199_ N205
            refine Go.st (S' := T205.setTop (mkF m 166 A193 [(.int r206)])) st205 ?_
            by_cases hc209 : (r206 = (0 : Int32))
            · refine Go.st (S' := T205.setTop (mkF m 169 A193 [])) (fun t k => XS.ifNo X205.here hx rfl (hb hby at_166) rfl ((if0 _ _).trans (teq hc209).2) k) ?_
              refine Go.st (S' := T205.setTop (mkF m 170 A193 [(.int (1 : Int32))])) (fun t k => XS.iconst X205.here hx rfl (hb hby at_169) k) ?_
              refine Go.st (S' := T205.setTop (mkF m 174 A193 [(.int (1 : Int32))])) (fun t k => XS.goto X205.here hx rfl (pc0 := 170) (pc' := 174) rfl (hb hby at_170) (by decide) (by decide) k) ?_
              refine Go.st (S' := T205.setTop (mkF m 176 A193 [])) (fun t k => XS.istore X205.here hx rfl (hb hby at_174) rfl (l' := A193) rfl k) ?_
              refine Go.st (S' := T205.setTop (mkF m 178 A193 [(.int (1 : Int32))])) (fun t k => XS.iload X205.here hx rfl (hb hby at_176) rfl k) ?_
              refine Go.st (S' := T205.setTop (mkF m 181 A193 [])) (fun t k => XS.ifNo X205.here hx rfl (hb hby at_178) rfl ((if0 _ _).trans (feq (by decide : (¬ ((1 : Int32) = (0 : Int32))))).1) k) ?_
              refine Go.st (S' := T205.setTop (mkF m 183 A193 [(.ref b154)])) (fun t k => XS.aload X205.here hx rfl (hb hby at_181) rfl rfl k) ?_
              refine Go.st (S' := T205.setTop (mkF m 185 A193 [(.int r13), (.ref b154)])) (fun t k => XS.iload X205.here hx rfl (hb hby at_183) rfl k) ?_
              refine Go.st (S' := T205.setTop (mkF m 186 A193 [(.int (1 : Int32)), (.int r13), (.ref b154)])) (fun t k => XS.iconst X205.here hx rfl (hb hby at_185) k) ?_
              refine Go.op (F := fun z => T205.setTop (mkF m 187 A193 [(.int z), (.ref b154)])) (x := (r13 + (1 : Int32))) (fun t k => XS.iadd X205.here hx rfl (hb hby at_186) rfl k) ?_
              intro v210 hv210
              obtain ⟨r211, T211, L211, X211, hQ211, st211⟩ := own_callV (W := 0) (a := b154) (C := "com/example/consulate/consulate/ca/ValidityLimits$DayRange") X205 hx hZ e205 hown (y := (⟨"com/example/consulate/consulate/ca/ValidityLimits$DayRange", "contains", "(I)Z"⟩ : MethodName)) (z := (⟨"com/example/consulate/consulate/ca/ValidityLimits$DayRange", "contains", "(I)Z"⟩ : MethodName)) (hw _ (List.mem_of_getElem? (i := 26) rfl)) (hw _ (List.mem_of_getElem? (i := 27) rfl)) (notFace_of_selects (args := #[]) (mvT hZ (hw _ (List.mem_of_getElem? (i := 29) rfl)))) (hw _ (List.mem_of_getElem? (i := 29) rfl)) (hw _ (List.mem_of_getElem? (i := 28) rfl)) (hw _ (List.mem_of_getElem? (i := 10) rfl)) (hw _ (List.mem_of_getElem? (i := 30) rfl)) (by decide) (f164) (rm5 l Z a0 hw [] b154 v210 r8 r13 T161.heap n0 Z167 (f165) (f166)) (by decide) (by decide) (by decide) (by decide) (g := (mkF m 187 A193 [(.int v210), (.ref b154)])) rfl (by rw [hml]; rfl) (argsL := [(.int v210)]) (rest := []) rfl (lenOf pd_3 rfl) rfl (by show 2 * 0 + _ ≤ _; exact Nat.le_of_eq rfl) (hb hby at_187)
              obtain ⟨r212, hc213, rfl, N211, e211⟩ := hQ211
              have N211_ := Fr.app N205_ N211
              refine Go.st (S' := T211.setTop (mkF m 190 A193 [(.int r212)])) st211 ?_
              by_cases hc215 : (r212 = (0 : Int32))
              · refine Go.st (S' := T211.setTop (mkF m 193 A193 [])) (fun t k => XS.ifNo X211.here hx rfl (hb hby at_190) rfl ((if0 _ _).trans (teq hc215).2) k) ?_
                refine Go.st (S' := T211.setTop (mkF m 194 A193 [(.int (1 : Int32))])) (fun t k => XS.iconst X211.here hx rfl (hb hby at_193) k) ?_
                refine Go.st (S' := T211.setTop (mkF m 198 A193 [(.int (1 : Int32))])) (fun t k => XS.goto X211.here hx rfl (pc0 := 194) (pc' := 198) rfl (hb hby at_194) (by decide) (by decide) k) ?_
                refine Go.st (S' := T211.setTop (mkF m 200 A193 [])) (fun t k => XS.istore X211.here hx rfl (hb hby at_198) rfl (l' := A193) rfl k) ?_
                refine Go.st (S' := T211.setTop (mkF m 202 A193 [(.int (1 : Int32))])) (fun t k => XS.iload X211.here hx rfl (hb hby at_200) rfl k) ?_
                exact Go.ret X211 (v := some (.int (1 : Int32))) (fun h => by rw [Bd.returns] at h; cases h) Bd.notSynchronized (fun fs hr => retN X211 hx (t := .boolean) Bd.returns (by simp) (hb hby at_202) hr) (by decide) (by decide) ⟨rfl, N211_⟩
              · exfalso
                have rv4 := rng32 v4
                have wv4 := c_mask p1 (2147483647 : Int32) 31 (by decide) (by decide)
                rw [← hv4] at wv4
                have rv2 := rng32 v2
                have wv2 := c_mask p0 (2147483647 : Int32) 31 (by decide) (by decide)
                rw [← hv2] at wv2
                have rv169 := rng64 v169
                have wv169 := c_i2l p2
                rw [← hv169] at wv169
                have rv170 := rng64 v170
                have wv170 := c_i2l r8
                rw [← hv170] at wv170
                have rv171 := rng64 v171
                have wv171 := c_lsub v169 v170
                rw [← hv171] at wv171
                have rv173 := rng64 v173
                have wv173 := c_i2l r13
                rw [← hv173] at wv173
                have rv175 := rng64 v175
                have wv175 := c_lsub v173 v169
                rw [← hv175] at wv175
                have rv204 := rng32 v204
                have wv204 := c_isub r8 (1 : Int32)
                rw [← hv204] at wv204
                have rv210 := rng32 v210
                have wv210 := c_iadd r13 (1 : Int32)
                rw [← hv210] at wv210
                have rp0 := rng32 p0
                have rp1 := rng32 p1
                have rp2 := rng32 p2
                have rr13 := rng32 r13
                have rr185 := rng32 r185
                have rr189 := rng32 r189
                have rr195 := rng32 r195
                have rr200 := rng32 r200
                have rr206 := rng32 r206
                have rr212 := rng32 r212
                have rr8 := rng32 r8
                have lI0 : (0 : Int32).toInt = 0 := by decide
                have lI1 : (1 : Int32).toInt = 1 := by decide
                have lI2147483647 : (2147483647 : Int32).toInt = 2147483647 := by decide
                have lJ0 : (0 : Int64).toInt = 0 := by decide
                simp only [Int32.lt_iff_toInt_lt, Int64.lt_iff_toInt_lt, ← Int32.toInt_inj, ← Int64.toInt_inj] at hc9 hc14 hc162 hc163 hc186 hc190 hc192 hc196 hc198 hc201 hc203 hc207 hc209 hc213 hc215
                omega
            · exfalso
              have rv4 := rng32 v4
              have wv4 := c_mask p1 (2147483647 : Int32) 31 (by decide) (by decide)
              rw [← hv4] at wv4
              have rv2 := rng32 v2
              have wv2 := c_mask p0 (2147483647 : Int32) 31 (by decide) (by decide)
              rw [← hv2] at wv2
              have rv169 := rng64 v169
              have wv169 := c_i2l p2
              rw [← hv169] at wv169
              have rv170 := rng64 v170
              have wv170 := c_i2l r8
              rw [← hv170] at wv170
              have rv171 := rng64 v171
              have wv171 := c_lsub v169 v170
              rw [← hv171] at wv171
              have rv173 := rng64 v173
              have wv173 := c_i2l r13
              rw [← hv173] at wv173
              have rv175 := rng64 v175
              have wv175 := c_lsub v173 v169
              rw [← hv175] at wv175
              have rv204 := rng32 v204
              have wv204 := c_isub r8 (1 : Int32)
              rw [← hv204] at wv204
              have rp0 := rng32 p0
              have rp1 := rng32 p1
              have rp2 := rng32 p2
              have rr13 := rng32 r13
              have rr185 := rng32 r185
              have rr189 := rng32 r189
              have rr195 := rng32 r195
              have rr200 := rng32 r200
              have rr206 := rng32 r206
              have rr8 := rng32 r8
              have lI0 : (0 : Int32).toInt = 0 := by decide
              have lI1 : (1 : Int32).toInt = 1 := by decide
              have lI2147483647 : (2147483647 : Int32).toInt = 2147483647 := by decide
              have lJ0 : (0 : Int64).toInt = 0 := by decide
              simp only [Int32.lt_iff_toInt_lt, Int64.lt_iff_toInt_lt, ← Int32.toInt_inj, ← Int64.toInt_inj] at hc9 hc14 hc162 hc163 hc186 hc190 hc192 hc196 hc198 hc201 hc203 hc207 hc209
              omega
      · exfalso
        have rv4 := rng32 v4
        have wv4 := c_mask p1 (2147483647 : Int32) 31 (by decide) (by decide)
        rw [← hv4] at wv4
        have rv2 := rng32 v2
        have wv2 := c_mask p0 (2147483647 : Int32) 31 (by decide) (by decide)
        rw [← hv2] at wv2
        have rv169 := rng64 v169
        have wv169 := c_i2l p2
        rw [← hv169] at wv169
        have rv170 := rng64 v170
        have wv170 := c_i2l r8
        rw [← hv170] at wv170
        have rv171 := rng64 v171
        have wv171 := c_lsub v169 v170
        rw [← hv171] at wv171
        have rv173 := rng64 v173
        have wv173 := c_i2l r13
        rw [← hv173] at wv173
        have rv175 := rng64 v175
        have wv175 := c_lsub v173 v169
        rw [← hv175] at wv175
        have rp0 := rng32 p0
        have rp1 := rng32 p1
        have rp2 := rng32 p2
        have rr13 := rng32 r13
        have rr185 := rng32 r185
        have rr189 := rng32 r189
        have rr8 := rng32 r8
        have lI0 : (0 : Int32).toInt = 0 := by decide
        have lI1 : (1 : Int32).toInt = 1 := by decide
        have lI2147483647 : (2147483647 : Int32).toInt = 2147483647 := by decide
        have lJ0 : (0 : Int64).toInt = 0 := by decide
        simp only [Int32.lt_iff_toInt_lt, Int64.lt_iff_toInt_lt, ← Int32.toInt_inj, ← Int64.toInt_inj] at hc9 hc14 hc162 hc163 hc186 hc190 hc192
        omega
    · intro J216
      by_cases hc217 : (v171 < (0 : Int64))
      · refine Go.st (S' := T161.setTop (mkF m 87 A176 [])) (fun t k => XS.ifYes X161.here hx rfl (pc0 := 73) (pc' := 87) rfl (hb hby at_73) rfl ((if0 _ _).trans (tlt (by rw [hv177]; exact (lw_lt _ _).2 hc217)).1) (by decide) (by decide) k) ?_
        refine Go.st (S' := T161.setTop (mkF m 88 A176 [(.int (0 : Int32))])) (fun t k => XS.iconst X161.here hx rfl (hb hby at_87) k) ?_
        exact J216 ((0 : Int32)) (Or.inl ⟨hc217, rfl⟩)
      · refine Go.st (S' := T161.setTop (mkF m 76 A176 [])) (fun t k => XS.ifNo X161.here hx rfl (hb hby at_73) rfl ((if0 _ _).trans (flt (by rw [hv177]; exact fun z => hc217 ((lw_lt _ _).1 z))).1) k) ?_
        refine Go.st (S' := T161.setTop (mkF m 78 A176 [(.long v175)])) (fun t k => XS.lload X161.here hx rfl (hb hby at_76) rfl k) ?_
        refine Go.st (S' := T161.setTop (mkF m 79 A176 [(.long (0 : Int64)), (.long v175)])) (fun t k => XS.lconst X161.here hx rfl (hb hby at_78) k) ?_
        refine Go.op (F := fun z => T161.setTop (mkF m 80 A176 [(.int z)])) (x := (lcmpW v175 (0 : Int64))) (fun t k => XS.lcmp X161.here hx rfl (hb hby at_79) rfl k) ?_
        intro v218 hv218
        obtain rfl : v181 = v218 := hv181.trans hv218.symm
        by_cases hc219 : (v175 < (0 : Int64))
        · refine Go.st (S' := T161.setTop (mkF m 87 A176 [])) (fun t k => XS.ifYes X161.here hx rfl (pc0 := 80) (pc' := 87) rfl (hb hby at_80) rfl ((if0 _ _).trans (tlt (by rw [hv181]; exact (lw_lt _ _).2 hc219)).1) (by decide) (by decide) k) ?_
          refine Go.st (S' := T161.setTop (mkF m 88 A176 [(.int (0 : Int32))])) (fun t k => XS.iconst X161.here hx rfl (hb hby at_87) k) ?_
          exact J216 ((0 : Int32)) (Or.inr (Or.inl ⟨hc217, hc219, rfl⟩))
        · refine Go.st (S' := T161.setTop (mkF m 83 A176 [])) (fun t k => XS.ifNo X161.here hx rfl (hb hby at_80) rfl ((if0 _ _).trans (flt (by rw [hv181]; exact fun z => hc219 ((lw_lt _ _).1 z))).1) k) ?_
          refine Go.st (S' := T161.setTop (mkF m 84 A176 [(.int (1 : Int32))])) (fun t k => XS.iconst X161.here hx rfl (hb hby at_83) k) ?_
          refine Go.st (S' := T161.setTop (mkF m 88 A176 [(.int (1 : Int32))])) (fun t k => XS.goto X161.here hx rfl (pc0 := 84) (pc' := 88) rfl (hb hby at_84) (by decide) (by decide) k) ?_
          exact J216 ((1 : Int32)) (Or.inr (Or.inr ⟨hc217, hc219, rfl⟩))
  · refine Go.st (S' := T12.setTop (mkF m 36 A15 [])) (fun t k => XS.ifNo X12.here hx rfl (hb hby at_33) rfl ((if0 _ _).trans (feq hc153).1) k) ?_
    refine Go.st (S' := T12.setTop (mkF m 38 A15 [(.int r8)])) (fun t k => XS.iload X12.here hx rfl (hb hby at_36) rfl k) ?_
    let A220 : Array Slot := #[.val (.int p0), .val (.int p1), .val (.int p2), .val (.int p3), .val (.int v2), .val (.int v4), .val (.int r8), .val (.int r8), .unset, .unset, .unset, .unset, .unset, .unset, .unset]
    refine Go.st (S' := T12.setTop (mkF m 40 A220 [])) (fun t k => XS.istore X12.here hx rfl (hb hby at_38) rfl (l' := A220) rfl k) ?_
    obtain ⟨T221, h221, X221, e221, E221, A221, D221, -, st221⟩ := newO X12 hx hZ hown (hw _ (List.mem_of_getElem? (i := 8) rfl)) (hw _ (List.mem_of_getElem? (i := 9) rfl)) (hw _ (List.mem_of_getElem? (i := 10) rfl)) e12 (g := (mkF m 40 A220 [])) rfl (hb hby at_40) (by decide) (by decide)
    obtain ⟨b221, gg221⟩ : ∃ z, z = h0.size := ⟨_, rfl⟩
    rw [← gg221] at A221 D221 st221
    have g_b221 : n0 ≤ b221 := Nat.le_trans Z0 (Nat.le_of_eq gg221.symm)
    have sz_b221 : h0.size ≤ b221 := Nat.le_trans (Keep.refl h0 []).1 (Nat.le_of_eq gg221.symm)
    have Z222 : n0 ≤ h221.size := Nat.le_trans Z0 E221.1
    have K222 : Keep h0 h221 [] := (Keep.refl h0 []).ext E221
    have Fb221_min : Fld Z h221 b221 "com/example/consulate/consulate/ca/ValidityLimits$DayRange" "min" "I" (.int (0 : Int32)) := D221 (Or.inr (hw _ (List.mem_of_getElem? (i := 23) rfl))) (ty := .int) (by decide)
    have Fb221_max : Fld Z h221 b221 "com/example/consulate/consulate/ca/ValidityLimits$DayRange" "max" "I" (.int (0 : Int32)) := D221 (Or.inr (hw _ (List.mem_of_getElem? (i := 25) rfl))) (ty := .int) (by decide)
    refine Go.st (S' := T221.setTop (mkF m 43 A220 [(.ref b221)])) st221 ?_
    refine Go.st (S' := T221.setTop (mkF m 44 A220 [(.ref b221), (.ref b221)])) (fun t k => XS.dup X221.here hx rfl (hb hby at_43) rfl rfl k) ?_
    refine Go.st (S' := T221.setTop (mkF m 46 A220 [(.int r8), (.ref b221), (.ref b221)])) (fun t k => XS.iload X221.here hx rfl (hb hby at_44) rfl k) ?_
    refine Go.st (S' := T221.setTop (mkF m 48 A220 [(.int r8), (.int r8), (.ref b221), (.ref b221)])) (fun t k => XS.iload X221.here hx rfl (hb hby at_46) rfl k) ?_
    have no223 : ¬ ((r8 < (0 : Int32))) := by
      intro hc224
      have rv4 := rng32 v4
      have wv4 := c_mask p1 (2147483647 : Int32) 31 (by decide) (by decide)
      rw [← hv4] at wv4
      have rv2 := rng32 v2
      have wv2 := c_mask p0 (2147483647 : Int32) 31 (by decide) (by decide)
      rw [← hv2] at wv2
      have rp0 := rng32 p0
      have rp1 := rng32 p1
      have rr13 := rng32 r13
      have rr8 := rng32 r8
      have lI0 : (0 : Int32).toInt = 0 := by decide
      have lI2147483647 : (2147483647 : Int32).toInt = 2147483647 := by decide
      simp only [Int32.lt_iff_toInt_lt, Int64.lt_iff_toInt_lt, ← Int32.toInt_inj, ← Int64.toInt_inj] at hc9 hc14 hc224
      omega
    have no225 : ¬ ((¬ (r8 < (0 : Int32))) ∧ (r8 < r8)) := by
      rintro ⟨hc226, hc227⟩
      have rv4 := rng32 v4
      have wv4 := c_mask p1 (2147483647 : Int32) 31 (by decide) (by decide)
      rw [← hv4] at wv4
      have rv2 := rng32 v2
      have wv2 := c_mask p0 (2147483647 : Int32) 31 (by decide) (by decide)
      rw [← hv2] at wv2
      have rp0 := rng32 p0
      have rp1 := rng32 p1
      have rr13 := rng32 r13
      have rr8 := rng32 r8
      have lI0 : (0 : Int32).toInt = 0 := by decide
      have lI2147483647 : (2147483647 : Int32).toInt = 2147483647 := by decide
      simp only [Int32.lt_iff_toInt_lt, Int64.lt_iff_toInt_lt, ← Int32.toInt_inj, ← Int64.toInt_inj] at hc9 hc14 hc226 hc227
      omega
    obtain ⟨r228, T228, L228, X228, hQ228, st228⟩ := own_callI (W := 1) (a := b221) X221 hx hZ e221 hown (y := (⟨"com/example/consulate/consulate/ca/ValidityLimits$DayRange", "<init>", "(II)V"⟩ : MethodName)) rfl (hw _ (List.mem_of_getElem? (i := 11) rfl)) (hw _ (List.mem_of_getElem? (i := 12) rfl)) (hw _ (List.mem_of_getElem? (i := 10) rfl)) (hw _ (List.mem_of_getElem? (i := 13) rfl)) (by decide) (rm4 l Z a0 hw [] b221 r8 r8 ((.int (0 : Int32))) ((.int (0 : Int32))) h221 n0 Z222 (no223) (no225) (A221) (Fb221_min) (g_b221) (Fb221_max)) (by decide) (by decide) (by decide) (by decide) (g := (mkF m 48 A220 [(.int r8), (.int r8), (.ref b221), (.ref b221)])) rfl (by rw [hml]; rfl) (argsL := [(.int r8), (.int r8)]) (rest := [(.ref b221)]) rfl (lenOf pd_2 rfl) rfl (by show 2 * 0 + _ ≤ _; exact Nat.le_of_eq rfl) (hb hby at_48)
    obtain ⟨hc229, hc230, rfl, N228, K228_, f231, f232, f233⟩ := hQ228
    have N228_ := Fr.app N12_ N228
    have Z234 : n0 ≤ T228.heap.size := Nat.le_trans Z222 K228_.1
    have K234 : Keep h0 T228.heap [] := K222.trans K228_ (allS (Or.inr sz_b221) all0)
    refine Go.st (S' := T228.setTop (mkF m 51 A220 [(.ref b221)])) st228 ?_
    let A235 : Array Slot := #[.val (.int p0), .val (.int p1), .val (.int p2), .val (.int p3), .val (.int v2), .val (.int v4), .val (.int r8), .val (.int r8), .val (.ref b221), .unset, .unset, .unset, .unset, .unset, .unset]
    refine Go.st (S' := T228.setTop (mkF m 53 A235 [])) (fun t k => XS.astore X228.here hx rfl (hb hby at_51) rfl rfl (l' := A235) rfl k) ?_
    refine Go.st (S' := T228.setTop (mkF m 54 A235 [(.int p2)])) (fun t k => XS.iloadN X228.here hx rfl (hb hby at_53) rfl k) ?_
    refine Go.op (F := fun z => T228.setTop (mkF m 55 A235 [(.long z)])) (x := p2.toInt64) (fun t k => XS.i2l X228.here hx rfl (hb hby at_54) rfl k) ?_
    intro v236 hv236
    refine Go.st (S' := T228.setTop (mkF m 57 A235 [(.int r8), (.long v236)])) (fun t k => XS.iload X228.here hx rfl (hb hby at_55) rfl k) ?_
    refine Go.op (F := fun z => T228.setTop (mkF m 58 A235 [(.long z), (.long v236)])) (x := r8.toInt64) (fun t k => XS.i2l X228.here hx rfl (hb hby at_57) rfl k) ?_
    intro v237 hv237
    refine Go.op (F := fun z => T228.setTop (mkF m 59 A235 [(.long z)])) (x := (v236 - v237)) (fun t k => XS.lsub X228.here hx rfl (hb hby at_58) rfl k) ?_
    intro v238 hv238
    let A239 : Array Slot := #[.val (.int p0), .val (.int p1), .val (.int p2), .val (.int p3), .val (.int v2), .val (.int v4), .val (.int r8), .val (.int r8), .val (.ref b221), .val (.long v238), .second, .unset, .unset, .unset, .unset]
    refine Go.st (S' := T228.setTop (mkF m 61 A239 [])) (fun t k => XS.lstore X228.here hx rfl (hb hby at_59) rfl (l' := A239) rfl k) ?_
    refine Go.st (S' := T228.setTop (mkF m 63 A239 [(.int r8)])) (fun t k => XS.iload X228.here hx rfl (hb hby at_61) rfl k) ?_
    refine Go.op (F := fun z => T228.setTop (mkF m 64 A239 [(.long z)])) (x := r8.toInt64) (fun t k => XS.i2l X228.here hx rfl (hb hby at_63) rfl k) ?_
    intro v240 hv240
    obtain rfl : v237 = v240 := hv237.trans hv240.symm
    refine Go.st (S' := T228.setTop (mkF m 65 A239 [(.int p2), (.long v237)])) (fun t k => XS.iloadN X228.here hx rfl (hb hby at_64) rfl k) ?_
    refine Go.op (F := fun z => T228.setTop (mkF m 66 A239 [(.long z), (.long v237)])) (x := p2.toInt64) (fun t k => XS.i2l X228.here hx rfl (hb hby at_65) rfl k) ?_
    intro v241 hv241
    obtain rfl : v236 = v241 := hv236.trans hv241.symm
    refine Go.op (F := fun z => T228.setTop (mkF m 67 A239 [(.long z)])) (x := (v237 - v236)) (fun t k => XS.lsub X228.here hx rfl (hb hby at_66) rfl k) ?_
    intro v242 hv242
    let A243 : Array Slot := #[.val (.int p0), .val (.int p1), .val (.int p2), .val (.int p3), .val (.int v2), .val (.int v4), .val (.int r8), .val (.int r8), .val (.ref b221), .val (.long v238), .second, .val (.long v242), .second, .unset, .unset]
    refine Go.st (S' := T228.setTop (mkF m 69 A243 [])) (fun t k => XS.lstore X228.here hx rfl (hb hby at_67) rfl (l' := A243) rfl k) ?_
    refine Go.st (S' := T228.setTop (mkF m 71 A243 [(.long v238)])) (fun t k => XS.lload X228.here hx rfl (hb hby at_69) rfl k) ?_
    refine Go.st (S' := T228.setTop (mkF m 72 A243 [(.long (0 : Int64)), (.long v238)])) (fun t k => XS.lconst X228.here hx rfl (hb hby at_71) k) ?_
    refine Go.op (F := fun z => T228.setTop (mkF m 73 A243 [(.int z)])) (x := (lcmpW v238 (0 : Int64))) (fun t k => XS.lcmp X228.here hx rfl (hb hby at_72) rfl k) ?_
    intro v244 hv244
    obtain ⟨v248, hv248⟩ : ∃ z, z = (lcmpW v242 (0 : Int64)) := ⟨_, rfl⟩
    refine Go.join (α := Int32) (fun r => (((v238 < (0 : Int64)) ∧ (r = (0 : Int32))) ∨ ((¬ (v238 < (0 : Int64))) ∧ (v242 < (0 : Int64)) ∧ (r = (0 : Int32))) ∨ ((¬ (v238 < (0 : Int64))) ∧ (¬ (v242 < (0 : Int64))) ∧ (r = (1 : Int32))))) (fun r => T228.setTop (mkF m 88 A243 [(.int r)])) ?_ ?_
    · intro r252 hc253
      let A254 : Array Slot := #[.val (.int p0), .val (.int p1), .val (.int p2), .val (.int p3), .val (.int v2), .val (.int v4), .val (.int r8), .val (.int r8), .val (.ref b221), .val (.long v238), .second, .val (.long v242), .second, .val (.int r252), .unset]
      refine Go.st (S' := T228.setTop (mkF m 90 A254 [])) (fun t k => XS.istore X228.here hx rfl (hb hby at_88) rfl (l' := A254) rfl k) ?_
      refine Go.st (S' := T228.setTop (mkF m 92 A254 [(.ref b221)])) (fun t k => XS.aload X228.here hx rfl (hb hby at_90) rfl rfl k) ?_
      refine Go.st (S' := T228.setTop (mkF m 93 A254 [(.int p2), (.ref b221)])) (fun t k => XS.iloadN X228.here hx rfl (hb hby at_92) rfl k) ?_
      obtain ⟨r255, T255, L255, X255, hQ255, st255⟩ := own_callV (W := 0) (a := b221) (C := "com/example/consulate/consulate/ca/ValidityLimits$DayRange") X228 hx hZ rfl hown (y := (⟨"com/example/consulate/consulate/ca/ValidityLimits$DayRange", "contains", "(I)Z"⟩ : MethodName)) (z := (⟨"com/example/consulate/consulate/ca/ValidityLimits$DayRange", "contains", "(I)Z"⟩ : MethodName)) (hw _ (List.mem_of_getElem? (i := 26) rfl)) (hw _ (List.mem_of_getElem? (i := 27) rfl)) (notFace_of_selects (args := #[]) (mvT hZ (hw _ (List.mem_of_getElem? (i := 29) rfl)))) (hw _ (List.mem_of_getElem? (i := 29) rfl)) (hw _ (List.mem_of_getElem? (i := 28) rfl)) (hw _ (List.mem_of_getElem? (i := 10) rfl)) (hw _ (List.mem_of_getElem? (i := 30) rfl)) (by decide) (f231) (rm5 l Z a0 hw [] b221 p2 r8 r8 T228.heap n0 Z234 (f232) (f233)) (by decide) (by decide) (by decide) (by decide) (g := (mkF m 93 A254 [(.int p2), (.ref b221)])) rfl (by rw [hml]; rfl) (argsL := [(.int p2)]) (rest := []) rfl (lenOf pd_3 rfl) rfl (by show 2 * 0 + _ ≤ _; exact Nat.le_of_eq rfl) (hb hby at_93)
      obtain ⟨r256, hc257, rfl, N255, e255⟩ := hQ255
      have N255_ := Fr.app N228_ N255
      refine Go.st (S' := T255.setTop (mkF m 96 A254 [(.int r256)])) st255 ?_
      refine Go.st (S' := T255.setTop (mkF m 98 A254 [(.int r252), (.int r256)])) (fun t k => XS.iload X255.here hx rfl (hb hby at_96) rfl k) ?_
      by_cases hc259 : (r256 = r252)
      · refine Go.st (S' := T255.setTop (mkF m 101 A254 [])) (fun t k => XS.icmpNo X255.here hx rfl (hb hby at_98) rfl (teq hc259).2 k) ?_
        refine Go.st (S' := T255.setTop (mkF m 102 A254 [(.int (1 : Int32))])) (fun t k => XS.iconst X255.here hx rfl (hb hby at_101) k) ?_
        refine Go.st (S' := T255.setTop (mkF m 106 A254 [(.int (1 : Int32))])) (fun t k => XS.goto X255.here hx rfl (pc0 := 102) (pc' := 106) rfl (hb hby at_102) (by decide) (by decide) k) ?_
        let A260 : Array Slot := #[.val (.int p0), .val (.int p1), .val (.int p2), .val (.int p3), .val (.int v2), .val (.int v4), .val (.int r8), .val (.int r8), .val (.ref b221), .val (.long v238), .second, .val (.long v242), .second, .val (.int r252), .val (.int (1 : Int32))]
        refine Go.st (S' := T255.setTop (mkF m 108 A260 [])) (fun t k => XS.istore X255.here hx rfl (hb hby at_106) rfl (l' := A260) rfl k) ?_
        refine Go.st (S' := T255.setTop (mkF m 110 A260 [(.int (1 : Int32))])) (fun t k => XS.iload X255.here hx rfl (hb hby at_108) rfl k) ?_
        refine Go.st (S' := T255.setTop (mkF m 113 A260 [])) (fun t k => XS.ifNo X255.here hx rfl (hb hby at_110) rfl ((if0 _ _).trans (feq (by decide : (¬ ((1 : Int32) = (0 : Int32))))).1) k) ?_
        refine Go.st (S' := T255.setTop (mkF m 115 A260 [(.ref b221)])) (fun t k => XS.aload X255.here hx rfl (hb hby at_113) rfl rfl k) ?_
        refine Go.st (S' := T255.setTop (mkF m 117 A260 [(.int r8), (.ref b221)])) (fun t k => XS.iload X255.here hx rfl (hb hby at_115) rfl k) ?_
        obtain ⟨r261, T261, L261, X261, hQ261, st261⟩ := own_callV (W := 0) (a := b221) (C := "com/example/consulate/consulate/ca/ValidityLimits$DayRange") X255 hx hZ e255 hown (y := (⟨"com/example/consulate/consulate/ca/ValidityLimits$DayRange", "contains", "(I)Z"⟩ : MethodName)) (z := (⟨"com/example/consulate/consulate/ca/ValidityLimits$DayRange", "contains", "(I)Z"⟩ : MethodName)) (hw _ (List.mem_of_getElem? (i := 26) rfl)) (hw _ (List.mem_of_getElem? (i := 27) rfl)) (notFace_of_selects (args := #[]) (mvT hZ (hw _ (List.mem_of_getElem? (i := 29) rfl)))) (hw _ (List.mem_of_getElem? (i := 29) rfl)) (hw _ (List.mem_of_getElem? (i := 28) rfl)) (hw _ (List.mem_of_getElem? (i := 10) rfl)) (hw _ (List.mem_of_getElem? (i := 30) rfl)) (by decide) (f231) (rm5 l Z a0 hw [] b221 r8 r8 r8 T228.heap n0 Z234 (f232) (f233)) (by decide) (by decide) (by decide) (by decide) (g := (mkF m 117 A260 [(.int r8), (.ref b221)])) rfl (by rw [hml]; rfl) (argsL := [(.int r8)]) (rest := []) rfl (lenOf pd_3 rfl) rfl (by show 2 * 0 + _ ≤ _; exact Nat.le_of_eq rfl) (hb hby at_117)
        obtain ⟨r262, hc263, rfl, N261, e261⟩ := hQ261
        have N261_ := Fr.app N255_ N261
        refine Go.st (S' := T261.setTop (mkF m 120 A260 [(.int r262)])) st261 ?_
        by_cases hc265 : (r262 = (0 : Int32))
        · exfalso
          have rv4 := rng32 v4
          have wv4 := c_mask p1 (2147483647 : Int32) 31 (by decide) (by decide)
          rw [← hv4] at wv4
          have rv2 := rng32 v2
          have wv2 := c_mask p0 (2147483647 : Int32) 31 (by decide) (by decide)
          rw [← hv2] at wv2
          have rv236 := rng64 v236
          have wv236 := c_i2l p2
          rw [← hv236] at wv236
          have rv237 := rng64 v237
          have wv237 := c_i2l r8
          rw [← hv237] at wv237
          have rv238 := rng64 v238
          have wv238 := c_lsub v236 v237
          rw [← hv238] at wv238
          have rv242 := rng64 v242
          have wv242 := c_lsub v237 v236
          rw [← hv242] at wv242
          have rp0 := rng32 p0
          have rp1 := rng32 p1
          have rp2 := rng32 p2
          have rr13 := rng32 r13
          have rr252 := rng32 r252
          have rr256 := rng32 r256
          have rr262 := rng32 r262
          have rr8 := rng32 r8
          have lI0 : (0 : Int32).toInt = 0 := by decide
          have lI1 : (1 : Int32).toInt = 1 := by decide
          have lI2147483647 : (2147483647 : Int32).toInt = 2147483647 := by decide
          have lJ0 : (0 : Int64).toInt = 0 := by decide
          simp only [Int32.lt_iff_toInt_lt, Int64.lt_iff_toInt_lt, ← Int32.toInt_inj, ← Int64.toInt_inj] at hc9 hc14 hc229 hc230 hc253 hc257 hc259 hc263 hc265
          omega
        · refine Go.st (S' := T261.setTop (mkF m 123 A260 [])) (fun t k => XS.ifNo X261.here hx rfl (hb hby at_120) rfl ((if0 _ _).trans (feq hc265).1) k) ?_
          refine Go.st (S' := T261.setTop (mkF m 124 A260 [(.int (1 : Int32))])) (fun t k => XS.iconst X261.here hx rfl (hb hby at_123) k) ?_
          refine Go.st (S' := T261.setTop (mkF m 128 A260 [(.int (1 : Int32))])) (fun t k => XS.goto X261.here hx rfl (pc0 := 124) (pc' := 128) rfl (hb hby at_124) (by decide) (by decide) k) ?_
          refine Go.st (S' := T261.setTop (mkF m 130 A260 [])) (fun t k => XS.istore X261.here hx rfl (hb hby at_128) rfl (l' := A260) rfl k) ?_
          refine Go.st (S' := T261.setTop (mkF m 132 A260 [(.int (1 : Int32))])) (fun t k => XS.iload X261.here hx rfl (hb hby at_130) rfl k) ?_
          refine Go.st (S' := T261.setTop (mkF m 135 A260 [])) (fun t k => XS.ifNo X261.here hx rfl (hb hby at_132) rfl ((if0 _ _).trans (feq (by decide : (¬ ((1 : Int32) = (0 : Int32))))).1) k) ?_
          refine Go.st (S' := T261.setTop (mkF m 137 A260 [(.ref b221)])) (fun t k => XS.aload X261.here hx rfl (hb hby at_135) rfl rfl k) ?_
          refine Go.st (S' := T261.setTop (mkF m 139 A260 [(.int r8), (.ref b221)])) (fun t k => XS.iload X261.here hx rfl (hb hby at_137) rfl k) ?_
          obtain ⟨r266, T266, L266, X266, hQ266, st266⟩ := own_callV (W := 0) (a := b221) (C := "com/example/consulate/consulate/ca/ValidityLimits$DayRange") X261 hx hZ e261 hown (y := (⟨"com/example/consulate/consulate/ca/ValidityLimits$DayRange", "contains", "(I)Z"⟩ : MethodName)) (z := (⟨"com/example/consulate/consulate/ca/ValidityLimits$DayRange", "contains", "(I)Z"⟩ : MethodName)) (hw _ (List.mem_of_getElem? (i := 26) rfl)) (hw _ (List.mem_of_getElem? (i := 27) rfl)) (notFace_of_selects (args := #[]) (mvT hZ (hw _ (List.mem_of_getElem? (i := 29) rfl)))) (hw _ (List.mem_of_getElem? (i := 29) rfl)) (hw _ (List.mem_of_getElem? (i := 28) rfl)) (hw _ (List.mem_of_getElem? (i := 10) rfl)) (hw _ (List.mem_of_getElem? (i := 30) rfl)) (by decide) (f231) (rm5 l Z a0 hw [] b221 r8 r8 r8 T228.heap n0 Z234 (f232) (f233)) (by decide) (by decide) (by decide) (by decide) (g := (mkF m 139 A260 [(.int r8), (.ref b221)])) rfl (by rw [hml]; rfl) (argsL := [(.int r8)]) (rest := []) rfl (lenOf pd_3 rfl) rfl (by show 2 * 0 + _ ≤ _; exact Nat.le_of_eq rfl) (hb hby at_139)
          obtain ⟨r267, hc268, rfl, N266, e266⟩ := hQ266
          have N266_ := Fr.app N261_ N266
          refine Go.st (S' := T266.setTop (mkF m 142 A260 [(.int r267)])) st266 ?_
          by_cases hc270 : (r267 = (0 : Int32))
          · exfalso
            have rv4 := rng32 v4
            have wv4 := c_mask p1 (2147483647 : Int32) 31 (by decide) (by decide)
            rw [← hv4] at wv4
            have rv2 := rng32 v2
            have wv2 := c_mask p0 (2147483647 : Int32) 31 (by decide) (by decide)
            rw [← hv2] at wv2
            have rv236 := rng64 v236
            have wv236 := c_i2l p2
            rw [← hv236] at wv236
            have rv237 := rng64 v237
            have wv237 := c_i2l r8
            rw [← hv237] at wv237
            have rv238 := rng64 v238
            have wv238 := c_lsub v236 v237
            rw [← hv238] at wv238
            have rv242 := rng64 v242
            have wv242 := c_lsub v237 v236
            rw [← hv242] at wv242
            have rp0 := rng32 p0
            have rp1 := rng32 p1
            have rp2 := rng32 p2
            have rr13 := rng32 r13
            have rr252 := rng32 r252
            have rr256 := rng32 r256
            have rr262 := rng32 r262
            have rr267 := rng32 r267
            have rr8 := rng32 r8
            have lI0 : (0 : Int32).toInt = 0 := by decide
            have lI1 : (1 : Int32).toInt = 1 := by decide
            have lI2147483647 : (2147483647 : Int32).toInt = 2147483647 := by decide
            have lJ0 : (0 : Int64).toInt = 0 := by decide
            simp only [Int32.lt_iff_toInt_lt, Int64.lt_iff_toInt_lt, ← Int32.toInt_inj, ← Int64.toInt_inj] at hc9 hc14 hc229 hc230 hc253 hc257 hc259 hc263 hc265 hc268 hc270
            omega
          · refine Go.st (S' := T266.setTop (mkF m 145 A260 [])) (fun t k => XS.ifNo X266.here hx rfl (hb hby at_142) rfl ((if0 _ _).trans (feq hc270).1) k) ?_
            refine Go.st (S' := T266.setTop (mkF m 146 A260 [(.int (1 : Int32))])) (fun t k => XS.iconst X266.here hx rfl (hb hby at_145) k) ?_
            refine Go.st (S' := T266.setTop (mkF m 150 A260 [(.int (1 : Int32))])) (fun t k => XS.goto X266.here hx rfl (pc0 := 146) (pc' := 150) rfl (hb hby at_146) (by decide) (by decide) k) ?_
            refine Go.st (S' := T266.setTop (mkF m 152 A260 [])) (fun t k => XS.istore X266.here hx rfl (hb hby at_150) rfl (l' := A260) rfl k) ?_
            refine Go.st (S' := T266.setTop (mkF m 154 A260 [(.int (1 : Int32))])) (fun t k => XS.iload X266.here hx rfl (hb hby at_152) rfl k) ?_
            refine Go.st (S' := T266.setTop (mkF m 157 A260 [])) (fun t k => XS.ifNo X266.here hx rfl (hb hby at_154) rfl ((if0 _ _).trans (feq (by decide : (¬ ((1 : Int32) = (0 : Int32))))).1) k) ?_
            refine Go.st (S' := T266.setTop (mkF m 159 A260 [(.ref b221)])) (fun t k => XS.aload X266.here hx rfl (hb hby at_157) rfl rfl k) ?_
            refine Go.st (S' := T266.setTop (mkF m 161 A260 [(.int r8), (.ref b221)])) (fun t k => XS.iload X266.here hx rfl (hb hby at_159) rfl k) ?_
            refine Go.st (S' := T266.setTop (mkF m 162 A260 [(.int (1 : Int32)), (.int r8), (.ref b221)])) (fun t k => XS.iconst X266.here hx rfl (hb hby at_161) k) ?_
            refine Go.op (F := fun z => T266.setTop (mkF m 163 A260 [(.int z), (.ref b221)])) (x := (r8 - (1 : Int32))) (fun t k => XS.isub X266.here hx rfl (hb hby at_162) rfl k) ?_
            intro v271 hv271
            obtain ⟨r272, T272, L272, X272, hQ272, st272⟩ := own_callV (W := 0) (a := b221) (C := "com/example/consulate/consulate/ca/ValidityLimits$DayRange") X266 hx hZ e266 hown (y := (⟨"com/example/consulate/consulate/ca/ValidityLimits$DayRange", "contains", "(I)Z"⟩ : MethodName)) (z := (⟨"com/example/consulate/consulate/ca/ValidityLimits$DayRange", "contains", "(I)Z"⟩ : MethodName)) (hw _ (List.mem_of_getElem? (i := 26) rfl)) (hw _ (List.mem_of_getElem? (i := 27) rfl)) (notFace_of_selects (args := #[]) (mvT hZ (hw _ (List.mem_of_getElem? (i := 29) rfl)))) (hw _ (List.mem_of_getElem? (i := 29) rfl)) (hw _ (List.mem_of_getElem? (i := 28) rfl)) (hw _ (List.mem_of_getElem? (i := 10) rfl)) (hw _ (List.mem_of_getElem? (i := 30) rfl)) (by decide) (f231) (rm5 l Z a0 hw [] b221 v271 r8 r8 T228.heap n0 Z234 (f232) (f233)) (by decide) (by decide) (by decide) (by decide) (g := (mkF m 163 A260 [(.int v271), (.ref b221)])) rfl (by rw [hml]; rfl) (argsL := [(.int v271)]) (rest := []) rfl (lenOf pd_3 rfl) rfl (by show 2 * 0 + _ ≤ _; exact Nat.le_of_eq rfl) (hb hby at_163)
            obtain ⟨r273, hc274, rfl, N272, e272⟩ := hQ272
            have N272_ := Fr.app N266_ N272
            refine Go.st (S' := T272.setTop (mkF m 166 A260 [(.int r273)])) st272 ?_
            by_cases hc276 : (r273 = (0 : Int32))
            · refine Go.st (S' := T272.setTop (mkF m 169 A260 [])) (fun t k => XS.ifNo X272.here hx rfl (hb hby at_166) rfl ((if0 _ _).trans (teq hc276).2) k) ?_
              refine Go.st (S' := T272.setTop (mkF m 170 A260 [(.int (1 : Int32))])) (fun t k => XS.iconst X272.here hx rfl (hb hby at_169) k) ?_
              refine Go.st (S' := T272.setTop (mkF m 174 A260 [(.int (1 : Int32))])) (fun t k => XS.goto X272.here hx rfl (pc0 := 170) (pc' := 174) rfl (hb hby at_170) (by decide) (by decide) k) ?_
              refine Go.st (S' := T272.setTop (mkF m 176 A260 [])) (fun t k => XS.istore X272.here hx rfl (hb hby at_174) rfl (l' := A260) rfl k) ?_
              refine Go.st (S' := T272.setTop (mkF m 178 A260 [(.int (1 : Int32))])) (fun t k => XS.iload X272.here hx rfl (hb hby at_176) rfl k) ?_
              refine Go.st (S' := T272.setTop (mkF m 181 A260 [])) (fun t k => XS.ifNo X272.here hx rfl (hb hby at_178) rfl ((if0 _ _).trans (feq (by decide : (¬ ((1 : Int32) = (0 : Int32))))).1) k) ?_
              refine Go.st (S' := T272.setTop (mkF m 183 A260 [(.ref b221)])) (fun t k => XS.aload X272.here hx rfl (hb hby at_181) rfl rfl k) ?_
              refine Go.st (S' := T272.setTop (mkF m 185 A260 [(.int r8), (.ref b221)])) (fun t k => XS.iload X272.here hx rfl (hb hby at_183) rfl k) ?_
              refine Go.st (S' := T272.setTop (mkF m 186 A260 [(.int (1 : Int32)), (.int r8), (.ref b221)])) (fun t k => XS.iconst X272.here hx rfl (hb hby at_185) k) ?_
              refine Go.op (F := fun z => T272.setTop (mkF m 187 A260 [(.int z), (.ref b221)])) (x := (r8 + (1 : Int32))) (fun t k => XS.iadd X272.here hx rfl (hb hby at_186) rfl k) ?_
              intro v277 hv277
              obtain ⟨r278, T278, L278, X278, hQ278, st278⟩ := own_callV (W := 0) (a := b221) (C := "com/example/consulate/consulate/ca/ValidityLimits$DayRange") X272 hx hZ e272 hown (y := (⟨"com/example/consulate/consulate/ca/ValidityLimits$DayRange", "contains", "(I)Z"⟩ : MethodName)) (z := (⟨"com/example/consulate/consulate/ca/ValidityLimits$DayRange", "contains", "(I)Z"⟩ : MethodName)) (hw _ (List.mem_of_getElem? (i := 26) rfl)) (hw _ (List.mem_of_getElem? (i := 27) rfl)) (notFace_of_selects (args := #[]) (mvT hZ (hw _ (List.mem_of_getElem? (i := 29) rfl)))) (hw _ (List.mem_of_getElem? (i := 29) rfl)) (hw _ (List.mem_of_getElem? (i := 28) rfl)) (hw _ (List.mem_of_getElem? (i := 10) rfl)) (hw _ (List.mem_of_getElem? (i := 30) rfl)) (by decide) (f231) (rm5 l Z a0 hw [] b221 v277 r8 r8 T228.heap n0 Z234 (f232) (f233)) (by decide) (by decide) (by decide) (by decide) (g := (mkF m 187 A260 [(.int v277), (.ref b221)])) rfl (by rw [hml]; rfl) (argsL := [(.int v277)]) (rest := []) rfl (lenOf pd_3 rfl) rfl (by show 2 * 0 + _ ≤ _; exact Nat.le_of_eq rfl) (hb hby at_187)
              obtain ⟨r279, hc280, rfl, N278, e278⟩ := hQ278
              have N278_ := Fr.app N272_ N278
              refine Go.st (S' := T278.setTop (mkF m 190 A260 [(.int r279)])) st278 ?_
              by_cases hc282 : (r279 = (0 : Int32))
              · refine Go.st (S' := T278.setTop (mkF m 193 A260 [])) (fun t k => XS.ifNo X278.here hx rfl (hb hby at_190) rfl ((if0 _ _).trans (teq hc282).2) k) ?_
                refine Go.st (S' := T278.setTop (mkF m 194 A260 [(.int (1 : Int32))])) (fun t k => XS.iconst X278.here hx rfl (hb hby at_193) k) ?_
                refine Go.st (S' := T278.setTop (mkF m 198 A260 [(.int (1 : Int32))])) (fun t k => XS.goto X278.here hx rfl (pc0 := 194) (pc' := 198) rfl (hb hby at_194) (by decide) (by decide) k) ?_
                refine Go.st (S' := T278.setTop (mkF m 200 A260 [])) (fun t k => XS.istore X278.here hx rfl (hb hby at_198) rfl (l' := A260) rfl k) ?_
                refine Go.st (S' := T278.setTop (mkF m 202 A260 [(.int (1 : Int32))])) (fun t k => XS.iload X278.here hx rfl (hb hby at_200) rfl k) ?_
                exact Go.ret X278 (v := some (.int (1 : Int32))) (fun h => by rw [Bd.returns] at h; cases h) Bd.notSynchronized (fun fs hr => retN X278 hx (t := .boolean) Bd.returns (by simp) (hb hby at_202) hr) (by decide) (by decide) ⟨rfl, N278_⟩
              · exfalso
                have rv4 := rng32 v4
                have wv4 := c_mask p1 (2147483647 : Int32) 31 (by decide) (by decide)
                rw [← hv4] at wv4
                have rv2 := rng32 v2
                have wv2 := c_mask p0 (2147483647 : Int32) 31 (by decide) (by decide)
                rw [← hv2] at wv2
                have rv236 := rng64 v236
                have wv236 := c_i2l p2
                rw [← hv236] at wv236
                have rv237 := rng64 v237
                have wv237 := c_i2l r8
                rw [← hv237] at wv237
                have rv238 := rng64 v238
                have wv238 := c_lsub v236 v237
                rw [← hv238] at wv238
                have rv242 := rng64 v242
                have wv242 := c_lsub v237 v236
                rw [← hv242] at wv242
                have rv271 := rng32 v271
                have wv271 := c_isub r8 (1 : Int32)
                rw [← hv271] at wv271
                have rv277 := rng32 v277
                have wv277 := c_iadd r8 (1 : Int32)
                rw [← hv277] at wv277
                have rp0 := rng32 p0
                have rp1 := rng32 p1
                have rp2 := rng32 p2
                have rr13 := rng32 r13
                have rr252 := rng32 r252
                have rr256 := rng32 r256
                have rr262 := rng32 r262
                have rr267 := rng32 r267
                have rr273 := rng32 r273
                have rr279 := rng32 r279
                have rr8 := rng32 r8
                have lI0 : (0 : Int32).toInt = 0 := by decide
                have lI1 : (1 : Int32).toInt = 1 := by decide
                have lI2147483647 : (2147483647 : Int32).toInt = 2147483647 := by decide
                have lJ0 : (0 : Int64).toInt = 0 := by decide
                simp only [Int32.lt_iff_toInt_lt, Int64.lt_iff_toInt_lt, ← Int32.toInt_inj, ← Int64.toInt_inj] at hc9 hc14 hc229 hc230 hc253 hc257 hc259 hc263 hc265 hc268 hc270 hc274 hc276 hc280 hc282
                omega
            · exfalso
              have rv4 := rng32 v4
              have wv4 := c_mask p1 (2147483647 : Int32) 31 (by decide) (by decide)
              rw [← hv4] at wv4
              have rv2 := rng32 v2
              have wv2 := c_mask p0 (2147483647 : Int32) 31 (by decide) (by decide)
              rw [← hv2] at wv2
              have rv236 := rng64 v236
              have wv236 := c_i2l p2
              rw [← hv236] at wv236
              have rv237 := rng64 v237
              have wv237 := c_i2l r8
              rw [← hv237] at wv237
              have rv238 := rng64 v238
              have wv238 := c_lsub v236 v237
              rw [← hv238] at wv238
              have rv242 := rng64 v242
              have wv242 := c_lsub v237 v236
              rw [← hv242] at wv242
              have rv271 := rng32 v271
              have wv271 := c_isub r8 (1 : Int32)
              rw [← hv271] at wv271
              have rp0 := rng32 p0
              have rp1 := rng32 p1
              have rp2 := rng32 p2
              have rr13 := rng32 r13
              have rr252 := rng32 r252
              have rr256 := rng32 r256
              have rr262 := rng32 r262
              have rr267 := rng32 r267
              have rr273 := rng32 r273
              have rr8 := rng32 r8
              have lI0 : (0 : Int32).toInt = 0 := by decide
              have lI1 : (1 : Int32).toInt = 1 := by decide
              have lI2147483647 : (2147483647 : Int32).toInt = 2147483647 := by decide
              have lJ0 : (0 : Int64).toInt = 0 := by decide
              simp only [Int32.lt_iff_toInt_lt, Int64.lt_iff_toInt_lt, ← Int32.toInt_inj, ← Int64.toInt_inj] at hc9 hc14 hc229 hc230 hc253 hc257 hc259 hc263 hc265 hc268 hc270 hc274 hc276
              omega
      · exfalso
        have rv4 := rng32 v4
        have wv4 := c_mask p1 (2147483647 : Int32) 31 (by decide) (by decide)
        rw [← hv4] at wv4
        have rv2 := rng32 v2
        have wv2 := c_mask p0 (2147483647 : Int32) 31 (by decide) (by decide)
        rw [← hv2] at wv2
        have rv236 := rng64 v236
        have wv236 := c_i2l p2
        rw [← hv236] at wv236
        have rv237 := rng64 v237
        have wv237 := c_i2l r8
        rw [← hv237] at wv237
        have rv238 := rng64 v238
        have wv238 := c_lsub v236 v237
        rw [← hv238] at wv238
        have rv242 := rng64 v242
        have wv242 := c_lsub v237 v236
        rw [← hv242] at wv242
        have rp0 := rng32 p0
        have rp1 := rng32 p1
        have rp2 := rng32 p2
        have rr13 := rng32 r13
        have rr252 := rng32 r252
        have rr256 := rng32 r256
        have rr8 := rng32 r8
        have lI0 : (0 : Int32).toInt = 0 := by decide
        have lI1 : (1 : Int32).toInt = 1 := by decide
        have lI2147483647 : (2147483647 : Int32).toInt = 2147483647 := by decide
        have lJ0 : (0 : Int64).toInt = 0 := by decide
        simp only [Int32.lt_iff_toInt_lt, Int64.lt_iff_toInt_lt, ← Int32.toInt_inj, ← Int64.toInt_inj] at hc9 hc14 hc229 hc230 hc253 hc257 hc259
        omega
    · intro J283
      by_cases hc284 : (v238 < (0 : Int64))
      · refine Go.st (S' := T228.setTop (mkF m 87 A243 [])) (fun t k => XS.ifYes X228.here hx rfl (pc0 := 73) (pc' := 87) rfl (hb hby at_73) rfl ((if0 _ _).trans (tlt (by rw [hv244]; exact (lw_lt _ _).2 hc284)).1) (by decide) (by decide) k) ?_
        refine Go.st (S' := T228.setTop (mkF m 88 A243 [(.int (0 : Int32))])) (fun t k => XS.iconst X228.here hx rfl (hb hby at_87) k) ?_
        exact J283 ((0 : Int32)) (Or.inl ⟨hc284, rfl⟩)
      · refine Go.st (S' := T228.setTop (mkF m 76 A243 [])) (fun t k => XS.ifNo X228.here hx rfl (hb hby at_73) rfl ((if0 _ _).trans (flt (by rw [hv244]; exact fun z => hc284 ((lw_lt _ _).1 z))).1) k) ?_
        refine Go.st (S' := T228.setTop (mkF m 78 A243 [(.long v242)])) (fun t k => XS.lload X228.here hx rfl (hb hby at_76) rfl k) ?_
        refine Go.st (S' := T228.setTop (mkF m 79 A243 [(.long (0 : Int64)), (.long v242)])) (fun t k => XS.lconst X228.here hx rfl (hb hby at_78) k) ?_
        refine Go.op (F := fun z => T228.setTop (mkF m 80 A243 [(.int z)])) (x := (lcmpW v242 (0 : Int64))) (fun t k => XS.lcmp X228.here hx rfl (hb hby at_79) rfl k) ?_
        intro v285 hv285
        obtain rfl : v248 = v285 := hv248.trans hv285.symm
        by_cases hc286 : (v242 < (0 : Int64))
        · refine Go.st (S' := T228.setTop (mkF m 87 A243 [])) (fun t k => XS.ifYes X228.here hx rfl (pc0 := 80) (pc' := 87) rfl (hb hby at_80) rfl ((if0 _ _).trans (tlt (by rw [hv248]; exact (lw_lt _ _).2 hc286)).1) (by decide) (by decide) k) ?_
          refine Go.st (S' := T228.setTop (mkF m 88 A243 [(.int (0 : Int32))])) (fun t k => XS.iconst X228.here hx rfl (hb hby at_87) k) ?_
          exact J283 ((0 : Int32)) (Or.inr (Or.inl ⟨hc284, hc286, rfl⟩))
        · refine Go.st (S' := T228.setTop (mkF m 83 A243 [])) (fun t k => XS.ifNo X228.here hx rfl (hb hby at_80) rfl ((if0 _ _).trans (flt (by rw [hv248]; exact fun z => hc286 ((lw_lt _ _).1 z))).1) k) ?_
          refine Go.st (S' := T228.setTop (mkF m 84 A243 [(.int (1 : Int32))])) (fun t k => XS.iconst X228.here hx rfl (hb hby at_83) k) ?_
          refine Go.st (S' := T228.setTop (mkF m 88 A243 [(.int (1 : Int32))])) (fun t k => XS.goto X228.here hx rfl (pc0 := 84) (pc' := 88) rfl (hb hby at_84) (by decide) (by decide) k) ?_
          exact J283 ((1 : Int32)) (Or.inr (Or.inr ⟨hc284, hc286, rfl⟩))
set_option maxRecDepth 65536 in
set_option maxHeartbeats 40000000 in
theorem comes_1 {Post : Tables → Env → Array Value → State → Outcome → State → Prop} (hpost : ∀ tb e args s v u, (limb_1_1.after args s (.returned v) u = true ∧ limb_1_2.after args s (.returned v) u = true ∧ True) → FrameEnd s (.returned v) u (Jvm.fieldLocs frame_1_writes args s ++ Jvm.arrayLocs frame_1_arrays args s ++ Jvm.staticLocs frame_1_statics s) 16 128 → Post tb e args s (.returned v) u) :
    ArmFor flags0 classFile x code maxLocals ret World_1 tables_1 room_1 Calls_1 rest_1 Pre_1 Post := by
  intro l hfl _ _ p e ha hc hk s m args below hf hA hF happ hP
  obtain ⟨hcalls, hrest, hpre⟩ := hP
  obtain ⟨-, -, -, hnamed, -, -, -, hat⟩ := (Spec.applies_iff hf).mp happ
  obtain ⟨hg, hn⟩ := and_e (Cond.before_iff.mp (show (Jvm.Cond.and given_1 narrow_1).before args s = true from hpre))
  obtain ⟨h1, h2⟩ := and_e hg
  obtain ⟨w0, w1, w2, w3, rfl⟩ : ∃ w0 w1 w2 w3 : Value, args = #[w0, w1, w2, w3] := by
    have hs : args.size = 4 := by simpa [Cond.value, given_1] using h1
    obtain ⟨L⟩ := args
    match L, hs with
    | [w0, w1, w2, w3], _ => exact ⟨w0, w1, w2, w3, rfl⟩
  have hw := fun d (hd : d ∈ tables_1) => atoms_spec (ws := Jvm.Cond.code x code maxLocals ret :: tables_1) hat d (List.mem_cons_of_mem _ hd)
  have hfit : Fit s := fun {y c} hc i hi => by
    obtain ⟨ha, rfl⟩ := Array.getElem?_eq_some_iff.mp hc
    have q := List.all_eq_true.mp ((Array.all_eq_true_iff_forall_mem.mp hF) _ (Array.getElem_mem ha)) i (List.mem_range.mpr hi)
    simpa [Array.getElem?_eq_getElem hi] using q
  obtain ⟨q0, h2_0⟩ := and_e h2
  obtain ⟨i0, ee0⟩ := is_v q0
  obtain rfl : w0 = (.int i0) := Option.some.inj ee0
  obtain ⟨q1, h2_1⟩ := and_e h2_0
  obtain ⟨i1, ee1⟩ := is_v q1
  obtain rfl : w1 = (.int i1) := Option.some.inj ee1
  obtain ⟨q2, h2_2⟩ := and_e h2_1
  obtain ⟨i2, ee2⟩ := is_v q2
  obtain rfl : w2 = (.int i2) := Option.some.inj ee2
  obtain ⟨i3, ee3⟩ := is_v h2_2
  obtain rfl : w3 = (.int i3) := Option.some.inj ee3
  obtain ⟨n, o, h1, h2, h3, _, L, rfl, ⟨rfl, N⟩, hq⟩ := rm6 l s _ hw tables_1 i0 i1 i2 i3 s.heap s.heap.size (Nat.le_refl _)  p e ha hc hk s m _ below hf ((Spec.applies_iff_loose hf).mp happ).1 ⟨rfl, State.Warmed39.refl s, rfl⟩ trivial
  refine ⟨n, _, h1, h2, h3, hpost _ _ _ _ _ _ ⟨Cond.after_iff.mpr rfl, Cond.after_iff.mpr (eq_i res_at (Term.int_eval (1)) rfl), trivial⟩ ⟨hq.1, hq.2.1, (hq.2.2.sift fun y hy => Or.inr (N y hy)).mono (by decide) (by decide)⟩⟩
theorem main_1_1 : Claimed_1_1 := comes_1 fun _ _ _ _ _ _ h hF => ⟨h.1, hF⟩
theorem main_1_2 : Claimed_1_2 := comes_1 fun _ _ _ _ _ _ h hF => ⟨h.2.1, hF⟩
end Jvm.Pilot.@@N@@
namespace Jvm.Pilot.@@N@@
open Jvm Jvm.ClassFile Sem Op Lib Jvm.Free Jvm.Stand Jvm.Pilot.@@N@@.Jvm.D
/-! MADE BY PROGRAM (witnessworld.py) out of the Statement's table words and the real class files: 11 classes; the members and pool entries that the words name. The judged class is class 1, her method 1. -/
namespace start1
open Jvm.ClassFile
def u (s : String) : CpInfo := .utf8 (stringToUtf16 s)
/-- a pool by its gaps: so many unusable entries, then the entry; so many at the end -/
def gap : Nat → List CpInfo → List CpInfo
  | 0, r => r
  | n + 1, r => .unusable :: gap n r
def poolList (es : List (Nat × CpInfo)) (last : Nat) : List CpInfo := es.foldr (fun e r => gap e.1 (e.2 :: r)) (gap last [])
def pool (es : List (Nat × CpInfo)) (last : Nat) : Array CpInfo := ⟨poolList es last⟩
def fileOf (pool : Array CpInfo) (this : Nat) (attrs : Array Attribute := #[]) (ms : Array MethodInfo := #[]) (fl : Nat := 33) (sup : Nat := 0) (ifs : Array Nat := #[]) (fds : Array FieldInfo := #[]) : ClassFile where
  minorVersion := 0
  majorVersion := 65
  constantPool := pool
  accessFlags := fl
  thisClass := this
  superClass := sup
  interfaces := ifs
  fields := fds
  methods := ms
  attributes := attrs
def plain (name : String) (sup : Option ClassId) : Class where
  name := name
  kind := .ordinary
  loader := none
  accessFlags := 33
  super := sup
  interfaces := #[]
  cf := none
  fields := #[]
  methods := #[]
  instanceTypes := #[]
  staticTypes := #[]
  resolved := #[]
  callSites := []
  init := .initialized
  statics := none
  mirror := none

def pool0 : Array CpInfo := pool [(5, u "<init>"), (0, u "()V"), (1, .class_ 10), (1, u "java/lang/Object")] 113

def k0c0 : Code := { maxStack := 0, maxLocals := 1, code := object_method_1_code, exceptionTable := #[], attributes := #[] }
def k0m0 : Method := { name := "<init>", desc := "()V", sig := { parameters := [], returnType := none }, accessFlags := 1, code := some k0c0 }
/-- java/lang/Object -/
def k0 : Class := { plain "java/lang/Object" none with
  accessFlags := 33
  interfaces := #[]
  cf := some (fileOf pool0 8 #[] #[{ accessFlags := 1, nameIndex := 5, descriptorIndex := 6, attributes := #[] }] 33 0 #[] #[])
  fields := #[]
  methods := #[k0m0]
  instanceTypes := #[]
  staticTypes := #[]
  resolved := Array.replicate 124 none
  statics := none }

def pool1 : Array CpInfo := pool [(2, .class_ 4), (1, u "java/lang/Object"), (0, u "<init>"), (0, u "()V"), (0, .integer 2147483647), (0, .methodref 9 10), (0, .class_ 11), (0, .nameAndType 12 13), (0, u "java/lang/Math"), (0, u "min"), (0, u "(II)I"), (0, .methodref 9 15), (0, .nameAndType 16 13), (0, u "max"), (0, .class_ 18), (0, u "com/example/consulate/consulate/ca/ValidityLimits$DayRange"), (0, .methodref 17 20), (0, .nameAndType 5 21), (0, u "(II)V"), (0, .methodref 17 23), (0, .nameAndType 24 25), (0, u "contains"), (0, u "(I)Z"), (0, .class_ 27), (0, u "com/example/consulate/consulate/ca/DayRangeContainsPinLaw"), (2, u "law"), (0, u "(IIII)Z")] 7

def k1m0 : Method := { name := "<init>", desc := "()V", sig := { parameters := [], returnType := none }, accessFlags := 1, code := none }
def k1c1 : Code := { maxStack := 4, maxLocals := 15, code := code, exceptionTable := #[], attributes := #[] }
def k1m1 : Method := { name := "law", desc := "(IIII)Z", sig := { parameters := [.int, .int, .int, .int], returnType := some .boolean }, accessFlags := 9, code := some k1c1 }
/-- com/example/consulate/consulate/ca/DayRangeContainsPinLaw -/
def k1 : Class := { plain "com/example/consulate/consulate/ca/DayRangeContainsPinLaw" (some 0) with
  accessFlags := 49
  interfaces := #[]
  cf := some (fileOf pool1 26 #[] #[{ accessFlags := 1, nameIndex := 5, descriptorIndex := 6, attributes := #[] }, { accessFlags := 9, nameIndex := 30, descriptorIndex := 31, attributes := #[] }] 49 2 #[] #[])
  fields := #[]
  methods := #[k1m0, k1m1]
  instanceTypes := #[]
  staticTypes := #[]
  resolved := Array.replicate 39 none
  statics := none }

def pool2 : Array CpInfo := pool [(1, .class_ 2), (0, u "java/lang/Math"), (1, .class_ 6), (1, u "java/lang/Object"), (0, u "<init>"), (0, u "()V"), (89, .class_ 100), (1, u "java/lang/Math$RandomNumberGeneratorHolder"), (71, u "negativeZeroFloatBits"), (0, u "J"), (2, u "negativeZeroDoubleBits"), (21, u "max"), (2, u "min"), (43, u "$assertionsDisabled"), (0, u "Z"), (88, u "(II)I"), (2, u "twoToTheDoubleScaleDown"), (0, u "D"), (4, u "twoToTheDoubleScaleUp"), (9, u "E"), (3, u "PI"), (2, u "TAU"), (2, u "DEGREES_TO_RADIANS"), (0, u "RADIANS_TO_DEGREES")] 94

def k2m0 : Method := { name := "<init>", desc := "()V", sig := { parameters := [], returnType := none }, accessFlags := 2, code := none }
def k2c1 : Code := { maxStack := 2, maxLocals := 2, code := jdk_29_method_65_code, exceptionTable := #[], attributes := #[] }
def k2m1 : Method := { name := "max", desc := "(II)I", sig := { parameters := [.int, .int], returnType := some .int }, accessFlags := 9, code := some k2c1 }
def k2c2 : Code := { maxStack := 2, maxLocals := 2, code := jdk_29_method_69_code, exceptionTable := #[], attributes := #[] }
def k2m2 : Method := { name := "min", desc := "(II)I", sig := { parameters := [.int, .int], returnType := some .int }, accessFlags := 9, code := some k2c2 }
/-- java/lang/Math -/
def k2 : Class := { plain "java/lang/Math" (some 0) with
  accessFlags := 49
  interfaces := #[]
  cf := some (fileOf pool2 1 #[.nestMembers #[98]] #[{ accessFlags := 2, nameIndex := 7, descriptorIndex := 8, attributes := #[] }, { accessFlags := 9, nameIndex := 198, descriptorIndex := 335, attributes := #[] }, { accessFlags := 9, nameIndex := 201, descriptorIndex := 335, attributes := #[] }] 49 4 #[] #[{ accessFlags := 25, nameIndex := 354, descriptorIndex := 339, attributes := #[] }, { accessFlags := 25, nameIndex := 358, descriptorIndex := 339, attributes := #[] }, { accessFlags := 25, nameIndex := 361, descriptorIndex := 339, attributes := #[] }, { accessFlags := 26, nameIndex := 364, descriptorIndex := 339, attributes := #[] }, { accessFlags := 26, nameIndex := 365, descriptorIndex := 339, attributes := #[] }, { accessFlags := 26, nameIndex := 172, descriptorIndex := 173, attributes := #[] }, { accessFlags := 26, nameIndex := 176, descriptorIndex := 173, attributes := #[] }, { accessFlags := 8, nameIndex := 344, descriptorIndex := 339, attributes := #[] }, { accessFlags := 8, nameIndex := 338, descriptorIndex := 339, attributes := #[] }, { accessFlags := 4120, nameIndex := 245, descriptorIndex := 246, attributes := #[] }])
  fields := #[{ name := "E", type := .double, accessFlags := 25, slot := 0, constantValue := 0 }, { name := "PI", type := .double, accessFlags := 25, slot := 1, constantValue := 0 }, { name := "TAU", type := .double, accessFlags := 25, slot := 2, constantValue := 0 }, { name := "DEGREES_TO_RADIANS", type := .double, accessFlags := 26, slot := 3, constantValue := 0 }, { name := "RADIANS_TO_DEGREES", type := .double, accessFlags := 26, slot := 4, constantValue := 0 }, { name := "negativeZeroFloatBits", type := .long, accessFlags := 26, slot := 5, constantValue := 0 }, { name := "negativeZeroDoubleBits", type := .long, accessFlags := 26, slot := 6, constantValue := 0 }, { name := "twoToTheDoubleScaleUp", type := .double, accessFlags := 8, slot := 7, constantValue := 0 }, { name := "twoToTheDoubleScaleDown", type := .double, accessFlags := 8, slot := 8, constantValue := 0 }, { name := "$assertionsDisabled", type := .boolean, accessFlags := 4120, slot := 9, constantValue := 0 }]
  methods := #[k2m0, k2m1, k2m2]
  instanceTypes := #[]
  staticTypes := #[.double, .double, .double, .double, .double, .long, .long, .double, .double, .boolean]
  resolved := Array.replicate 460 none
  statics := none }

def pool3 : Array CpInfo := pool [(1, .methodref 2 3), (0, .class_ 4), (0, .nameAndType 5 6), (0, u "java/lang/Object"), (0, u "<init>"), (0, u "()V"), (0, .class_ 8), (0, u "java/lang/Record")] 13

def k3c0 : Code := { maxStack := 1, maxLocals := 1, code := jdk_30_method_1_code, exceptionTable := #[], attributes := #[] }
def k3m0 : Method := { name := "<init>", desc := "()V", sig := { parameters := [], returnType := none }, accessFlags := 4, code := some k3c0 }
/-- java/lang/Record -/
def k3 : Class := { plain "java/lang/Record" (some 0) with
  accessFlags := 1057
  interfaces := #[]
  cf := some (fileOf pool3 7 #[] #[{ accessFlags := 4, nameIndex := 5, descriptorIndex := 6, attributes := #[] }] 1057 2 #[] #[])
  fields := #[]
  methods := #[k3m0]
  instanceTypes := #[]
  staticTypes := #[]
  resolved := Array.replicate 22 none
  statics := none }

def pool4 : Array CpInfo := pool [(1, .methodref 2 3), (0, .class_ 4), (0, .nameAndType 5 6), (0, u "java/lang/Record"), (0, u "<init>"), (0, u "()V"), (9, .fieldref 17 18), (0, .class_ 19), (0, .nameAndType 20 21), (0, u "com/example/consulate/consulate/ca/ValidityLimits$DayRange"), (0, u "min"), (0, u "I"), (0, .fieldref 17 23), (0, .nameAndType 24 21), (0, u "max"), (9, u "(II)V"), (4, u "contains"), (0, u "(I)Z"), (7, .class_ 49), (0, u "com/example/consulate/consulate/ca/ValidityLimits")] 30

def k4c0 : Code := { maxStack := 4, maxLocals := 3, code := prog_10_method_1_code, exceptionTable := #[], attributes := #[] }
def k4m0 : Method := { name := "<init>", desc := "(II)V", sig := { parameters := [.int, .int], returnType := none }, accessFlags := 1, code := some k4c0 }
def k4c1 : Code := { maxStack := 2, maxLocals := 2, code := prog_10_method_2_code, exceptionTable := #[], attributes := #[] }
def k4m1 : Method := { name := "contains", desc := "(I)Z", sig := { parameters := [.int], returnType := some .boolean }, accessFlags := 1, code := some k4c1 }
/-- com/example/consulate/consulate/ca/ValidityLimits$DayRange -/
def k4 : Class := { plain "com/example/consulate/consulate/ca/ValidityLimits$DayRange" (some 3) with
  accessFlags := 49
  interfaces := #[]
  cf := some (fileOf pool4 17 #[.nestHost 48] #[{ accessFlags := 1, nameIndex := 5, descriptorIndex := 34, attributes := #[] }, { accessFlags := 1, nameIndex := 39, descriptorIndex := 40, attributes := #[] }] 49 2 #[] #[{ accessFlags := 18, nameIndex := 20, descriptorIndex := 21, attributes := #[] }, { accessFlags := 18, nameIndex := 24, descriptorIndex := 21, attributes := #[] }])
  fields := #[{ name := "min", type := .int, accessFlags := 18, slot := 0, constantValue := 0 }, { name := "max", type := .int, accessFlags := 18, slot := 1, constantValue := 0 }]
  methods := #[k4m0, k4m1]
  instanceTypes := #[.int, .int]
  staticTypes := #[]
  resolved := Array.replicate 80 none
  statics := none }

def pool5 : Array CpInfo := pool [(1, u "java/lang/Cloneable"), (0, .class_ 1), (0, u "java/lang/Object"), (0, .class_ 3)] 3

/-- java/lang/Cloneable -/
def k5 : Class := { plain "java/lang/Cloneable" (some 0) with
  accessFlags := 1537
  interfaces := #[]
  cf := some (fileOf pool5 2 #[] #[] 1537 4 #[] #[])
  fields := #[]
  methods := #[]
  instanceTypes := #[]
  staticTypes := #[]
  resolved := Array.replicate 8 none
  statics := none }

def pool6 : Array CpInfo := pool [(1, u "java/io/Serializable"), (0, .class_ 1), (0, u "java/lang/Object"), (0, .class_ 3)] 3

/-- java/io/Serializable -/
def k6 : Class := { plain "java/io/Serializable" (some 0) with
  accessFlags := 1537
  interfaces := #[]
  cf := some (fileOf pool6 2 #[] #[] 1537 4 #[] #[])
  fields := #[]
  methods := #[]
  instanceTypes := #[]
  staticTypes := #[]
  resolved := Array.replicate 8 none
  statics := none }

/-- the primitive byte -/
def k7 : Class := { plain "byte" none with kind := .primitive 'B', accessFlags := 0x411 }
/-- [B -/
def k8 : Class := { plain "[B" (some 0) with kind := .array 7 .byte, interfaces := #[5, 6], accessFlags := 1041 }

/-- the primitive int -/
def k9 : Class := { plain "int" none with kind := .primitive 'I', accessFlags := 0x411 }
/-- [I -/
def k10 : Class := { plain "[I" (some 0) with kind := .array 9 .int, interfaces := #[5, 6], accessFlags := 1041 }

def heap : Heap := #[]
def classes : Array Class := #[k0, k1, k2, k3, k4, k5, k6, k7, k8, k9, k10]
def interned : List (Array UInt16 × Addr) := []
def slotsUsed : Nat := 0
def theMethod : MethodId := ⟨1, 1⟩
def args0 : Array Value := #[.int 5, .int 300, .int 7, .int 2]
def aboutOver (below : List Frame) : State where
  vm := { classes := classes, interned := interned.toArray }
  heap := heap
  slotsUsed := slotsUsed
  threads := #[{ frames := .invoking theMethod args0 :: below }]
def below0 : List Frame := [.native { method := ⟨0, 0⟩, args := #[] }]
def about1 : State := aboutOver below0
def p0 : Program := .bare "" "" ""
def e0 : Env := launch0.env 0 0 0
theorem w_frames : about1.frames = Frame.invoking theMethod args0 :: below0 := rfl
set_option maxRecDepth 65536 in
theorem w_args : argsFit about1.vm theMethod args0 = true := by decide +kernel
set_option maxRecDepth 65536 in
theorem w_heap : heapFits about1 = true := by decide +kernel
set_option maxRecDepth 65536 in
theorem w_runnable : about1.curStatus? = some .runnable := by decide +kernel
set_option maxRecDepth 65536 in
theorem w_alone : about1.alone = true := by decide +kernel
set_option maxRecDepth 65536 in
theorem w_named : about1.methodNamed? x = some theMethod := by decide +kernel
set_option maxRecDepth 65536 in
theorem w_hears : about1.hears theMethod below0 = true := by decide +kernel
set_option maxRecDepth 65536 in
theorem w_ripe : about1.ripe theMethod args0 below0 = true := by decide +kernel
theorem w_running : about1.status = .running := rfl
set_option maxRecDepth 65536 in
theorem w_room : about1.hasRoom e0.platform room_1 = true :=
  launch0.hasRoom_least _ room_1 (by decide +kernel) (by decide +kernel) (by decide +kernel) (by decide +kernel) (by decide +kernel) (by decide +kernel)
theorem allAtoms_all (ts : List Jvm.Cond) (a : Array Jvm.Value) (st : Jvm.State) : (allAtoms ts).before a st = ts.all (fun c => c.before a st) := by
  induction ts with
  | nil => rfl
  | cons c t ih =>
    show (Jvm.Cond.and c (allAtoms t)).before a st = _
    rw [Jvm.Cond.before_and, ih, List.all_cons]
def words1 : List Jvm.Cond := Jvm.Cond.code x code maxLocals ret :: tables_1
/-- a 'code' word, met by the world's own term for the bytes: nothing is compared byte by byte -/
theorem code_word {y : MethodName} {bytes : ByteArray} {mx : Nat} {rt : Option FieldType} {a : Array Value} {s : State} {m : MethodId} {meth : Method} {c : Code} (h1 : s.methodNamed? y = some m) (h2 : s.vm.method? m = some meth) (h3 : meth.code = some c) (h4 : c.code = bytes)
    (h5 : (c.maxLocals == mx && c.exceptionTable.isEmpty && decide (c.maxStack ≤ mostOperands) && decide (meth.sig.returnType = rt) && !meth.locks && decide (parseMethodDescriptor y.desc = some meth.sig)) = true) : (Jvm.Cond.code y bytes mx rt).before a s = true := by
  simp only [Bool.and_eq_true, beq_iff_eq, Bool.not_eq_true', decide_eq_true_eq] at h5
  obtain ⟨⟨⟨⟨⟨g1, g2⟩, g3⟩, g4⟩, g5⟩, g6⟩ := h5
  simp [Cond.before, Cond.holds, Cond.value, h1, h2, h3, h4, g1, g2, g3, g4, g5, g6]
def isCode : Jvm.Cond → Bool
  | .code _ _ _ _ => true
  | _ => false
theorem all_split {L : List Jvm.Cond} {P : Jvm.Cond → Bool} (h1 : L.all (fun c => isCode c || P c) = true) (h2 : ∀ c ∈ L.filter isCode, P c = true) : L.all P = true := by
  refine List.all_eq_true.mpr fun c hc => ?_
  have h := List.all_eq_true.mp h1 c hc
  rcases Bool.eq_false_or_eq_true (isCode c) with hi | hi
  · exact h2 c (List.mem_filter.mpr ⟨hc, hi⟩)
  · simpa [hi] using h
set_option maxRecDepth 65536 in
theorem w_c0 : (Jvm.Cond.code x code maxLocals ret).before args0 about1 = true := code_word (m := ⟨1, 1⟩) (meth := k1m1) (c := k1c1) (by decide +kernel) rfl rfl rfl (by decide +kernel)
set_option maxRecDepth 65536 in
theorem w_c1 : (Jvm.Cond.code ({ cls := "java/lang/Math", name := "min", desc := "(II)I" } : Jvm.MethodName) jdk_29_method_69_code (2 : Nat) (Option.some Jvm.ClassFile.FieldType.int)).before args0 about1 = true := code_word (m := ⟨2, 2⟩) (meth := k2m2) (c := k2c2) (by decide +kernel) rfl rfl rfl (by decide +kernel)
set_option maxRecDepth 65536 in
theorem w_c2 : (Jvm.Cond.code ({ cls := "java/lang/Math", name := "max", desc := "(II)I" } : Jvm.MethodName) jdk_29_method_65_code (2 : Nat) (Option.some Jvm.ClassFile.FieldType.int)).before args0 about1 = true := code_word (m := ⟨2, 1⟩) (meth := k2m1) (c := k2c1) (by decide +kernel) rfl rfl rfl (by decide +kernel)
set_option maxRecDepth 65536 in
theorem w_c3 : (Jvm.Cond.code ({ cls := "com/example/consulate/consulate/ca/ValidityLimits$DayRange", name := "<init>", desc := "(II)V" } : Jvm.MethodName) prog_10_method_1_code (3 : Nat) (Option.none : Option Jvm.ClassFile.FieldType)).before args0 about1 = true := code_word (m := ⟨4, 0⟩) (meth := k4m0) (c := k4c0) (by decide +kernel) rfl rfl rfl (by decide +kernel)
set_option maxRecDepth 65536 in
theorem w_c4 : (Jvm.Cond.code ({ cls := "java/lang/Record", name := "<init>", desc := "()V" } : Jvm.MethodName) jdk_30_method_1_code (1 : Nat) (Option.none : Option Jvm.ClassFile.FieldType)).before args0 about1 = true := code_word (m := ⟨3, 0⟩) (meth := k3m0) (c := k3c0) (by decide +kernel) rfl rfl rfl (by decide +kernel)
set_option maxRecDepth 65536 in
theorem w_c5 : (Jvm.Cond.code ({ cls := "java/lang/Object", name := "<init>", desc := "()V" } : Jvm.MethodName) object_method_1_code (1 : Nat) (Option.none : Option Jvm.ClassFile.FieldType)).before args0 about1 = true := code_word (m := ⟨0, 0⟩) (meth := k0m0) (c := k0c0) (by decide +kernel) rfl rfl rfl (by decide +kernel)
set_option maxRecDepth 65536 in
theorem w_c6 : (Jvm.Cond.code ({ cls := "com/example/consulate/consulate/ca/ValidityLimits$DayRange", name := "contains", desc := "(I)Z" } : Jvm.MethodName) prog_10_method_2_code (2 : Nat) (Option.some Jvm.ClassFile.FieldType.boolean)).before args0 about1 = true := code_word (m := ⟨4, 1⟩) (meth := k4m1) (c := k4c1) (by decide +kernel) rfl rfl rfl (by decide +kernel)
def codes1 : List Jvm.Cond := [Jvm.Cond.code x code maxLocals ret, Jvm.Cond.code ({ cls := "java/lang/Math", name := "min", desc := "(II)I" } : Jvm.MethodName) jdk_29_method_69_code (2 : Nat) (Option.some Jvm.ClassFile.FieldType.int), Jvm.Cond.code ({ cls := "java/lang/Math", name := "max", desc := "(II)I" } : Jvm.MethodName) jdk_29_method_65_code (2 : Nat) (Option.some Jvm.ClassFile.FieldType.int), Jvm.Cond.code ({ cls := "com/example/consulate/consulate/ca/ValidityLimits$DayRange", name := "<init>", desc := "(II)V" } : Jvm.MethodName) prog_10_method_1_code (3 : Nat) (Option.none : Option Jvm.ClassFile.FieldType), Jvm.Cond.code ({ cls := "java/lang/Record", name := "<init>", desc := "()V" } : Jvm.MethodName) jdk_30_method_1_code (1 : Nat) (Option.none : Option Jvm.ClassFile.FieldType), Jvm.Cond.code ({ cls := "java/lang/Object", name := "<init>", desc := "()V" } : Jvm.MethodName) object_method_1_code (1 : Nat) (Option.none : Option Jvm.ClassFile.FieldType), Jvm.Cond.code ({ cls := "com/example/consulate/consulate/ca/ValidityLimits$DayRange", name := "contains", desc := "(I)Z" } : Jvm.MethodName) prog_10_method_2_code (2 : Nat) (Option.some Jvm.ClassFile.FieldType.boolean)]
set_option maxRecDepth 65536 in
theorem codes_eq : words1.filter isCode = codes1 := rfl
theorem w_codes : ∀ c ∈ words1.filter isCode, c.before args0 about1 = true := by
  rw [codes_eq]
  intro c hc
  simp only [codes1, List.mem_cons, List.not_mem_nil, or_false] at hc
  rcases hc with rfl | rfl | rfl | rfl | rfl | rfl | rfl
  · exact w_c0
  · exact w_c1
  · exact w_c2
  · exact w_c3
  · exact w_c4
  · exact w_c5
  · exact w_c6
set_option maxRecDepth 65536 in
theorem w_t1 : (words1.take 24).all (fun c => isCode c || c.before args0 about1) = true := by decide +kernel
set_option maxRecDepth 65536 in
theorem w_t2 : (words1.drop 24).all (fun c => isCode c || c.before args0 about1) = true := by decide +kernel
theorem w_tables : (allAtoms (Jvm.Cond.code x code maxLocals ret :: tables_1)).before args0 about1 = true := by
  rw [allAtoms_all]
  show words1.all (fun c => c.before args0 about1) = true
  refine all_split ?_ w_codes
  rw [← List.take_append_drop 24 words1, List.all_append, w_t1, w_t2]
  rfl
set_option maxRecDepth 65536 in
theorem w_case : (Jvm.Cond.and given_1 narrow_1).before args0 about1 = true := by decide +kernel
theorem w_applies : (headSpec (Jvm.Cond.code x code maxLocals ret :: tables_1) room_1).applies x e0.platform about1 = true :=
  (Spec.applies_iff w_frames).mpr ⟨w_running, w_runnable, w_alone, w_named, w_hears, w_ripe, w_room, w_tables⟩
theorem atStart : AtStart classFile x code maxLocals ret World_1 tables_1 room_1 Calls_1 rest_1 Pre_1 launch0 p0 e0 about1 theMethod args0 below0 :=
  ⟨lists_1, trivial, launch0.admits_env _ _ _, launch0.least_env, fairChoices_fair.cas, fairChoices_fair.clock, w_frames, w_args, w_heap, w_applies, trivial, trivial, w_case⟩
end start1
theorem witness_1 : WitnessClaimed_1 := ⟨start1.p0, start1.e0, start1.about1, start1.theMethod, start1.args0, start1.below0, start1.atStart⟩
end Jvm.Pilot.@@N@@
