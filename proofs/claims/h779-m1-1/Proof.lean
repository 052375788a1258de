import JvmDerived
import JvmDerived.Pilot.@@N@@Statement
import JvmDerived.Pilot.@@N@@Code
set_option linter.unusedVariables false
set_option linter.unusedSimpArgs false
namespace Jvm.RoadKit
open Sem ClassFile Op Lib Jvm.Stand Jvm.Free Jvm.LawKit
section New
variable {p : Program} {l : Launch} {e : Env} {R : Room} {s : State} {m : MethodId} {args : Array Value} {below : List Frame} {meth : Method} {c : Code} {T : State} {locs : List Loc} {cells slots : Nat}
theorem retI (X : Stand p l e R s m args below meth c T locs cells slots) (hx : p.tables.exec = Jvm.exec) {pc : Nat} {Ls : Array Slot} {z : Int32} {rest : List Value} (hret : meth.sig.returnType = some .int) (hd : decode c.code pc = .ok (.ireturn, 1)) {fs : List Frame}
    (hl : ∀ (f : JFrame) (acts : List Action), f.method = m → f.locked = none → f.entered = [] → (doReturn e (T.setTop f) acts (some (.int z))).1 = T.setFrames fs) : Steps p.tables e below (T.setTop (mkF m pc Ls (.int z :: rest))) (T.setFrames fs) := retOut X hx hret rfl (Or.inl ⟨rfl, Or.inl rfl, _, rfl⟩) hd hl
end New
end Jvm.RoadKit
namespace Jvm.Pilot.@@N@@
open Jvm Jvm.ClassFile Sem Op Lib Jvm.Free Jvm.Stand Jvm.LawKit Jvm.RoadKit Bundle Jvm.Pilot.@@N@@.Jvm.D
section OwnKit
variable {p : Program} {l : Launch} {e : Env} {R : Room} {s : State} {m : MethodId} {args : Array Value} {below : List Frame} {meth : Method} {c : Code} {T : State} {locs : List Loc} {cells slots : Nat} {Z : State} {a0 : Array Value} {h : Heap}
def Go (p : Program) (e : Env) (below : List Frame) (Q : Outcome → State → Prop) (S : State) : Prop := ∃ s₂ o, Steps p.tables e below S s₂ ∧ s₂.status = .running ∧ Ended s₂ below o ∧ Q o s₂
theorem Go.of {Q : Outcome → State → Prop} {S : State} (k : Go p e below Q S) : ∃ s₂ o, Steps p.tables e below S s₂ ∧ s₂.status = .running ∧ Ended s₂ below o ∧ Q o s₂ := k
theorem Go.st {Q : Outcome → State → Prop} {S S' : State} (h : ∀ t, Steps p.tables e below S' t → Steps p.tables e below S t) (k : Go p e below Q S') : Go p e below Q S := by
  obtain ⟨s2, o, h1, h2⟩ := k; exact ⟨s2, o, h _ h1, h2⟩
theorem Go.op {α : Type} {Q : Outcome → State → Prop} {S : State} {F : α → State} {x : α} (h : ∀ t, Steps p.tables e below (F x) t → Steps p.tables e below S t) (k : ∀ z, z = x → Go p e below Q (F z)) : Go p e below Q S := Go.st h (k x rfl)
theorem Go.join {α : Type} {Q : Outcome → State → Prop} {S : State} (C : α → Prop) (F : α → State) (k : ∀ r, C r → Go p e below Q (F r)) (j : (∀ r, C r → Go p e below Q (F r)) → Go p e below Q S) : Go p e below Q S := j k
theorem Go.joinT {α : Type} {Q : Outcome → State → Prop} {S : State} (X : Stand p l e R s m args below meth c T locs cells slots) (eT : T.heap = h) (C : α → Prop) (F : State → α → State) (k : ∀ T', Stand p l e R s m args below meth c T' locs cells slots → T'.heap = h → ∀ r, C r → Go p e below Q (F T' r)) (j : (∀ T', Stand p l e R s m args below meth c T' locs cells slots → T'.heap = h → ∀ r, C r → Go p e below Q (F T' r)) → Go p e below Q S) : Go p e below Q S := j k
theorem Go.loop {α : Type} {Q : Outcome → State → Prop} (I : Nat → α → Prop) (F : α → State) (k0 : Nat) (x0 : α) (h0 : I k0 x0) (step : ∀ k x, I k x → (∀ k' x', k' < k → I k' x' → Go p e below Q (F x')) → Go p e below Q (F x)) : Go p e below Q (F x0) := by
  have H : ∀ k x, I k x → Go p e below Q (F x) := by
    intro k
    induction k using Nat.strongRecOn with
    | _ k ih => intro x hx; exact step k x hx fun k' x' hk hx' => ih k' hk x' hx'
  exact H k0 x0 h0
theorem Go.ret {Qn : Option Value → Heap → List Loc → Prop} {rc rs : Nat} (X : Stand p l e R s m args below meth c T locs cells slots) {v : Option Value} (hv : meth.sig.returnType = none → v = none) (hlk : meth.locks = false) {f : JFrame}
    (st : ∀ fs, (∀ (f : JFrame) (acts : List Action), f.method = m → f.locked = none → f.entered = [] → (doReturn e (T.setTop f) acts v).1 = T.setFrames fs) → Steps p.tables e below (T.setTop f) (T.setFrames fs))
    (hc : cells ≤ rc) (hs : slots ≤ rs) (hQ : Qn v T.heap locs) : Go p e below (fun o U' => ∃ v L, o = .returned v ∧ Qn v U'.heap L ∧ FrameEnd s o U' L rc rs) (T.setTop f) := by
  obtain ⟨fs, hr, hrun, hended, hW, hsame⟩ := X.leave (v := v) hv hlk
  exact ⟨_, _, st fs hr, hrun, hended, v, locs, rfl, hQ, ⟨_, rfl⟩, hW, hsame.mono hc hs⟩
abbrev Con (l : Launch) (Z : State) (y : MethodName) (bytes : ByteArray) (maxL : Nat) (ret : Option FieldType) (ws : List Jvm.Cond) (rm : Room) (as' : Array Value) (h : Heap) (rc rs : Nat) (Q : Option Value → Heap → List Loc → Prop) : Prop :=
  MetFree l y (head1 (Jvm.Cond.code y bytes maxL ret :: ws) rm) (fun a U => a = as' ∧ Z.Warmed39 U.vm ∧ U.heap = h) (fun _ _ _ _ _ => True) (fun _ U o U' => ∃ v L, o = .returned v ∧ Q v U'.heap L ∧ FrameEnd U o U' L rc rs)
theorem own_callS {own : String} {index : Nat} {y : MethodName} {bytes : ByteArray} {maxL : Nat} {ret : Option FieldType} {rm : Room} {as' : Array Value} {Q : Option Value → Heap → List Loc → Prop} {W : Nat} {g : JFrame} {argsL rest : List Value}
    (X : Stand p l e R s m args below meth c T locs cells slots) (hx : p.tables.exec = Jvm.exec) (hZ : Z.Warmed39 s.vm) (eT : T.heap = h) (hown : s.vm.findClass own = some m.cls)
    (w1 : (Jvm.Cond.methodLink own index y).before a0 Z = true) (w2 : (Jvm.Cond.static y).before a0 Z = true) (w3 : (Jvm.Cond.initialized y.cls).before a0 Z = true) (w4 : (Jvm.Cond.code y bytes maxL ret).before a0 Z = true)
    (hy : y.cls ≠ "java/lang/invoke/MethodHandle" ∧ y.cls ≠ "java/lang/invoke/VarHandle")
    (hM : Con l Z y bytes maxL ret [] rm as' h rm.cells rm.slots Q)
    (hf : rm.frames + 1 ≤ R.frames) (hl : W + (maxL + 11) + rm.locals ≤ R.locals) (hc : cells + rm.cells ≤ R.cells) (hs : slots + rm.slots ≤ R.slots)
    (hg : g.method = m) (hsize : g.locals.size = c.maxLocals) (has : argsL.toArray = as') (hlen : ∀ sig, parseMethodDescriptor y.desc = some sig → argsL.length = sig.parameters.length)
    (hstack : g.stack = argsL.reverse ++ rest) (hW : 2 * g.monitorRoom + (rest.map fun v => v.category).sum ≤ W) (hdg : decode c.code g.pc = .ok (.invokestatic index, 3)) :
    ∃ v T' L, Stand p l e R s m args below meth c T' (locs ++ L) (cells + rm.cells) (slots + rm.slots) ∧ Q v T'.heap L ∧ ∀ target, Steps p.tables e below (T'.setTop { g with pc := g.pc + 3, stack := v.toList ++ rest }) target → Steps p.tables e below (T.setTop g) target := by
  obtain ⟨v, _, ⟨T', L', k', n'⟩, -, X', ⟨L, hQ, l', y', z'⟩, st⟩ := Jvm.LawKit.callS X hx (y := y) hown (mvT hZ w1) (mvT hZ w2) (mvT hZ w3) (mvT hZ w4) hy (backOf (W := W) hM hZ w4 w3 hf hl) (g := g) hg hsize (argsL := argsL) (rest := rest) hlen hstack hW hdg (fun _ _ => ⟨has, eT, hc, hs⟩)
  dsimp only [Pt.U, Pt.locs, Pt.cells, Pt.slots] at X' l' y' z' st hQ
  subst l' y' z'
  exact ⟨v, T', L, X', hQ, st⟩
theorem own_callI {own : String} {index : Nat} {y : MethodName} {bytes : ByteArray} {maxL : Nat} {rm : Room} {as' : Array Value} {Q : Option Value → Heap → List Loc → Prop} {W : Nat} {g : JFrame} {a : Addr} {argsL rest : List Value}
    (X : Stand p l e R s m args below meth c T locs cells slots) (hx : p.tables.exec = Jvm.exec) (hZ : Z.Warmed39 s.vm) (eT : T.heap = h) (hown : s.vm.findClass own = some m.cls) (hyn : y.name = "<init>")
    (w1 : (Jvm.Cond.methodLink own index y).before a0 Z = true) (w2 : (Jvm.Cond.instanceMethod y).before a0 Z = true) (w3 : (Jvm.Cond.initialized y.cls).before a0 Z = true) (w4 : (Jvm.Cond.code y bytes maxL none).before a0 Z = true)
    (hy : y.cls ≠ "java/lang/invoke/MethodHandle" ∧ y.cls ≠ "java/lang/invoke/VarHandle")
    (hM : Con l Z y bytes maxL none [] rm as' h rm.cells rm.slots Q)
    (hf : rm.frames + 1 ≤ R.frames) (hl : W + (maxL + 11) + rm.locals ≤ R.locals) (hc : cells + rm.cells ≤ R.cells) (hs : slots + rm.slots ≤ R.slots)
    (hg : g.method = m) (hsize : g.locals.size = c.maxLocals) (has : (Value.ref a :: argsL).toArray = as') (hlen : ∀ sig, parseMethodDescriptor y.desc = some sig → argsL.length = sig.parameters.length)
    (hstack : g.stack = argsL.reverse ++ .ref a :: rest) (hW : 2 * g.monitorRoom + (rest.map fun v => v.category).sum ≤ W) (hdg : decode c.code g.pc = .ok (.invokespecial index, 3)) :
    ∃ v T' L, Stand p l e R s m args below meth c T' (locs ++ L) (cells + rm.cells) (slots + rm.slots) ∧ Q v T'.heap L ∧ ∀ target, Steps p.tables e below (T'.setTop { g with pc := g.pc + 3, stack := v.toList ++ rest }) target → Steps p.tables e below (T.setTop g) target := by
  obtain ⟨v, _, ⟨T', L', k', n'⟩, -, X', ⟨L, hQ, l', y', z'⟩, st⟩ := X.specialBack hx (y := y) hyn hown (mvT hZ w1) (mvT hZ w2) (mvT hZ w4) hy (backOf (W := W) hM hZ w4 w3 hf hl) (g := g) hg hsize (Steps.refl _) (a := a) (argsL := argsL) (rest := rest) hlen hstack hW hdg (fun _ _ => ⟨has, eT, hc, hs⟩)
  dsimp only [Pt.U, Pt.locs, Pt.cells, Pt.slots] at X' l' y' z' st hQ
  subst l' y' z'
  exact ⟨v, T', L, X', hQ, fun _ k => st.trans k⟩
theorem own_callV {own C : String} {index : Nat} {y z : MethodName} {bytes : ByteArray} {maxL : Nat} {ret : Option FieldType} {rm : Room} {as' : Array Value} {Q : Option Value → Heap → List Loc → Prop} {W : Nat} {g : JFrame} {a : Addr} {argsL rest : List Value}
    (X : Stand p l e R s m args below meth c T locs cells slots) (hx : p.tables.exec = Jvm.exec) (hZ : Z.Warmed39 s.vm) (eT : T.heap = h) (hown : s.vm.findClass own = some m.cls)
    (w1 : (Jvm.Cond.methodLink own index y).before a0 Z = true) (w2 : (Jvm.Cond.declares y).before a0 Z = true) (nf : NotFace s y) (w5 : (Jvm.Cond.selects C y z).before a0 Z = true) (w6 : (Jvm.Cond.instanceMethod z).before a0 Z = true) (w3 : (Jvm.Cond.initialized z.cls).before a0 Z = true) (w4 : (Jvm.Cond.code z bytes maxL ret).before a0 Z = true)
    (hy : y.cls ≠ "java/lang/invoke/MethodHandle" ∧ y.cls ≠ "java/lang/invoke/VarHandle") (E : Exa Z h a C)
    (hM : Con l Z z bytes maxL ret [] rm as' h rm.cells rm.slots Q)
    (hf : rm.frames + 1 ≤ R.frames) (hl : W + (maxL + 11) + rm.locals ≤ R.locals) (hc : cells + rm.cells ≤ R.cells) (hs : slots + rm.slots ≤ R.slots)
    (hg : g.method = m) (hsize : g.locals.size = c.maxLocals) (has : (Value.ref a :: argsL).toArray = as') (hlen : ∀ sig, parseMethodDescriptor y.desc = some sig → argsL.length = sig.parameters.length)
    (hstack : g.stack = argsL.reverse ++ .ref a :: rest) (hW : 2 * g.monitorRoom + (rest.map fun v => v.category).sum ≤ W) (hdg : decode c.code g.pc = .ok (.invokevirtual index, 3)) :
    ∃ v T' L, Stand p l e R s m args below meth c T' (locs ++ L) (cells + rm.cells) (slots + rm.slots) ∧ Q v T'.heap L ∧ ∀ target, Steps p.tables e below (T'.setTop { g with pc := g.pc + 3, stack := v.toList ++ rest }) target → Steps p.tables e below (T.setTop g) target := by
  obtain ⟨cq, kq, qa, qb, qc⟩ := isOf hZ eT E
  obtain ⟨v, _, ⟨T', L', k', n'⟩, -, X', ⟨L, hQ, l', y', z'⟩, st⟩ := X.virtualBack hx (y := y) (z := z) hown (mvT hZ w1) (mvT hZ w2) nf (mvT hZ w5) (mvT hZ w6) hy (backOf (W := W) hM hZ w4 w3 hf hl) qa qc (g := g) hg hsize (Steps.refl _) (argsL := argsL) (rest := rest) hlen hstack hW hdg (fun _ _ => ⟨has, eT, hc, hs⟩)
  dsimp only [Pt.U, Pt.locs, Pt.cells, Pt.slots] at X' l' y' z' st hQ
  subst l' y' z'
  exact ⟨v, T', L, X', hQ, fun _ k => st.trans k⟩
theorem own_sta_keep {C n d : String} {w : Value} {h h' : Heap} {ws : List Addr} (F : Sta Z h C n d w) (K : Keep h h' ws) (q : ∀ x ∈ ws, ∃ cl : Cell, h[x]? = some cl ∧ cl.vm.isStatics = false) : Sta Z h' C n d w := by
  obtain ⟨cf, i, k, f, st, cell, h1, h2, h3, h4, h5, h6, h7⟩ := F
  refine ⟨cf, i, k, f, st, cell, h1, h2, h3, h4, K.2.1 st cell h5 fun z => ?_, h6, h7⟩
  obtain ⟨cl, q1, q2⟩ := q st z
  cases h5.symm.trans q1
  rw [h6] at q2; cases q2
theorem own_exa_plain {a : Addr} {C : String} {h : Heap} (F : Exa Z h a C) : ∃ cl : Cell, h[a]? = some cl ∧ cl.vm.isStatics = false := by
  obtain ⟨cell, k, h1, -, -, h4, -⟩ := F; exact ⟨cell, h1, h4⟩
theorem own_arv_plain {a : Addr} {k : ClassId} {ty : FieldType} {z : Int32} {vs : List Value} {dv : Value} {h : Heap} (F : Arv Z h a k ty z vs dv) : ∃ cl : Cell, h[a]? = some cl ∧ cl.vm.isStatics = false := by
  obtain ⟨cell, A, -⟩ := F; exact ⟨cell, A.1, A.plain⟩
theorem own_getR {own O n d : String} {index : Nat} {a : Addr} {v : Value} {g : JFrame} {rest : List Value} (X : Stand p l e R s m args below meth c T locs cells slots) (hx : p.tables.exec = Jvm.exec) (hZ : Z.Warmed39 s.vm) (hown : s.vm.findClass own = some m.cls)
    (w : (Jvm.Cond.fieldRef own index O n d).before a0 Z = true) (eT : T.heap = h) (F : Fld Z h a O n d v) (hg : g.method = m) (hs : g.stack = .ref a :: rest) (hd : decode c.code g.pc = .ok (.getfield index, 3)) :
    ∀ target, Steps p.tables e below (T.setTop { g with pc := g.pc + 3, stack := v :: rest }) target → Steps p.tables e below (T.setTop g) target := by
  have hU : Z.Warmed39 T.vm := wtrans hZ X.warmed
  have w2 := Cond.fieldRef_warmed39 hU w
  have hc : (Z.setVm T.vm).vm.findClass own = some m.cls := by
    show T.vm.findClass own = some m.cls
    rw [X.warmed.alike.findClass]; exact hown
  obtain ⟨c1, k1, i1, f1, hf1, hr⟩ := Cond.fieldRef_spec hc w2
  obtain ⟨cell, cf, k, i, f, h1, h2, h3, h4, -, -, h7⟩ := F
  obtain ⟨k', hi, -⟩ := State.fieldFound?_setVm (s := Z) hU.alike h2
  cases hi.symm.trans hf1
  intro t kk
  exact (X.getfieldR hx hg hr h3 hs (by rw [eT]; exact h1) h4 h7 hd (Steps.refl _)).trans kk
theorem own_callP {own C : String} {index : Nat} {y : MethodName} {bytes : ByteArray} {maxL : Nat} {ret : Option FieldType} {rm : Room} {as' : Array Value} {Q : Option Value → Heap → List Loc → Prop} {W : Nat} {g : JFrame} {a : Addr} {argsL rest : List Value}
    (X : Stand p l e R s m args below meth c T locs cells slots) (hx : p.tables.exec = Jvm.exec) (hZ : Z.Warmed39 s.vm) (eT : T.heap = h) (hown : s.vm.findClass own = some m.cls)
    (w1 : (Jvm.Cond.methodLink own index y).before a0 Z = true) (w2 : (Jvm.Cond.instanceMethod y).before a0 Z = true) (w5 : (Jvm.Cond.selects y.cls y y).before a0 Z = true) (w6 : (Jvm.Cond.privateMethod y).before a0 Z = true) (w3 : (Jvm.Cond.initialized y.cls).before a0 Z = true) (w4 : (Jvm.Cond.code y bytes maxL ret).before a0 Z = true)
    (hy : y.cls ≠ "java/lang/invoke/MethodHandle" ∧ y.cls ≠ "java/lang/invoke/VarHandle") (E : Exa Z h a C)
    (hM : Con l Z y bytes maxL ret [] rm as' h rm.cells rm.slots Q)
    (hf : rm.frames + 1 ≤ R.frames) (hl : W + (maxL + 11) + rm.locals ≤ R.locals) (hc : cells + rm.cells ≤ R.cells) (hs : slots + rm.slots ≤ R.slots)
    (hg : g.method = m) (hsize : g.locals.size = c.maxLocals) (has : (Value.ref a :: argsL).toArray = as') (hlen : ∀ sig, parseMethodDescriptor y.desc = some sig → argsL.length = sig.parameters.length)
    (hstack : g.stack = argsL.reverse ++ .ref a :: rest) (hW : 2 * g.monitorRoom + (rest.map fun v => v.category).sum ≤ W) (hdg : decode c.code g.pc = .ok (.invokevirtual index, 3)) :
    ∃ v T' L, Stand p l e R s m args below meth c T' (locs ++ L) (cells + rm.cells) (slots + rm.slots) ∧ Q v T'.heap L ∧ ∀ target, Steps p.tables e below (T'.setTop { g with pc := g.pc + 3, stack := v.toList ++ rest }) target → Steps p.tables e below (T.setTop g) target := by
  obtain ⟨cq, q1, q2⟩ := E.cell
  obtain ⟨v, _, ⟨T', L', k', n'⟩, -, X', ⟨L, hQ, l', y', z'⟩, st⟩ := X.privateBack hx (y := y) hown (mvT hZ w1) (mvT hZ w2) (mvT hZ w5) (Cond.privateMethod_at (mvP hZ w6 (args := #[]))) (mvT hZ w4) hy (backOf (W := W) hM hZ w4 w3 hf hl) (g := g) hg hsize (Steps.refl _) (a := a) (by rw [eT]; exact q1) q2 (argsL := argsL) (rest := rest) hlen hstack hW hdg (fun _ _ => ⟨has, eT, hc, hs⟩)
  dsimp only [Pt.U, Pt.locs, Pt.cells, Pt.slots] at X' l' y' z' st hQ
  subst l' y' z'
  exact ⟨v, T', L, X', hQ, fun _ k => st.trans k⟩
theorem own_callF {own C : String} {index count : Nat} {xi y : MethodName} {bytes : ByteArray} {maxL : Nat} {ret : Option FieldType} {rm : Room} {as' : Array Value} {Q : Option Value → Heap → List Loc → Prop} {W : Nat} {g : JFrame} {a : Addr} {argsL rest : List Value}
    (X : Stand p l e R s m args below meth c T locs cells slots) (hx : p.tables.exec = Jvm.exec) (hZ : Z.Warmed39 s.vm) (eT : T.heap = h) (hown : s.vm.findClass own = some m.cls)
    (w1 : (Jvm.Cond.methodLink own index xi).before a0 Z = true) (w2 : (Jvm.Cond.declares xi).before a0 Z = true) (w7 : (Jvm.Cond.interfaceMethod xi.cls xi.cls xi.name xi.desc).before args s = true) (w5 : (Jvm.Cond.selects C xi y).before a0 Z = true) (w6 : (Jvm.Cond.instanceMethod y).before a0 Z = true)
    (w8 : (Jvm.Cond.publicMethod y).before a0 Z = true) (w9 : (Jvm.Cond.unhidden C xi.name xi.desc).before a0 Z = true) (w10 : (Jvm.Cond.castable C xi.cls).before a0 Z = true) (w3 : (Jvm.Cond.initialized y.cls).before a0 Z = true) (w4 : (Jvm.Cond.code y bytes maxL ret).before a0 Z = true)
    (hy : xi.cls ≠ "java/lang/invoke/MethodHandle" ∧ xi.cls ≠ "java/lang/invoke/VarHandle") (E : Exa Z h a C)
    (hM : Con l Z y bytes maxL ret [] rm as' h rm.cells rm.slots Q)
    (hf : rm.frames + 1 ≤ R.frames) (hl : W + (maxL + 11) + rm.locals ≤ R.locals) (hc : cells + rm.cells ≤ R.cells) (hs : slots + rm.slots ≤ R.slots)
    (hg : g.method = m) (hsize : g.locals.size = c.maxLocals) (has : (Value.ref a :: argsL).toArray = as') (hlen : ∀ sig, parseMethodDescriptor xi.desc = some sig → argsL.length = sig.parameters.length)
    (hstack : g.stack = argsL.reverse ++ .ref a :: rest) (hW : 2 * g.monitorRoom + (rest.map fun v => v.category).sum ≤ W) (hdg : decode c.code g.pc = .ok (.invokeinterface index count, 5)) :
    ∃ v T' L, Stand p l e R s m args below meth c T' (locs ++ L) (cells + rm.cells) (slots + rm.slots) ∧ Q v T'.heap L ∧ ∀ target, Steps p.tables e below (T'.setTop { g with pc := g.pc + 5, stack := v.toList ++ rest }) target → Steps p.tables e below (T.setTop g) target := by
  obtain ⟨cq, kq, qa, qb, qc⟩ := isOf hZ eT E
  obtain ⟨v, _, ⟨T', L', k', n'⟩, -, X', ⟨L, hQ, l', y', z'⟩, st⟩ := X.interfaceBack hx (xi := xi) (y := y) hown (mvT hZ w1) (mvT hZ w2) w7 (mvT hZ w5) (mvT hZ w6) (mvT hZ w8) (mvT hZ w9) (mvT hZ w10) hy (backOf (W := W) hM hZ w4 w3 hf hl) qa qb qc (g := g) hg hsize (Steps.refl _) (argsL := argsL) (rest := rest) hlen hstack hW hdg (fun _ _ => ⟨has, eT, hc, hs⟩)
  dsimp only [Pt.U, Pt.locs, Pt.cells, Pt.slots] at X' l' y' z' st hQ
  subst l' y' z'
  exact ⟨v, T', L, X', hQ, fun _ k => st.trans k⟩
theorem own_ns_root {O K : String} {n : Nat} (w : (Jvm.Cond.noSuperclass O).before a0 Z = true) (wk : (Jvm.Cond.instantiable K n).before a0 Z = true) (hn : O ≠ K) : NS Z O K := by
  obtain ⟨c, k, h1, h2, h3, -, -⟩ := Cond.noSuperclass_spec w
  obtain ⟨t, kt, g1, -⟩ := Cond.instantiable_spec wk
  have ne := ids_ne h1 g1 hn
  refine ⟨c, t, h1, g1, fun fuel => ?_⟩
  cases fuel with
  | zero => rfl
  | succ f => simp [Vm.isSubclassAux, ne, h2, h3]
theorem own_ns_no {C S K : String} {n : Nat} (w : (Jvm.Cond.superclass C S).before a0 Z = true) (wk : (Jvm.Cond.instantiable K n).before a0 Z = true) (hN : NS Z C K) (hn : C ≠ K) : ∃ c t, Z.vm.findClass C = some c ∧ Z.vm.findClass K = some t ∧ Z.vm.assignable c t = false := by
  obtain ⟨c, t, h0, g0, n3⟩ := hN
  obtain ⟨p, k, kp, h1, h2, h3, h4, h5, -, h7⟩ := Cond.superclass_spec h0 w
  obtain ⟨t', kt, g1, g2, g3, g4, -⟩ := Cond.instantiable_spec wk
  cases g0.symm.trans g1
  have g7 : kt.isInterface = false := by
    cases hq : kt.isInterface
    · rfl
    · simp [hq] at g4
  have ne := ids_ne h0 g0 hn
  refine ⟨c, t, h0, g0, ?_⟩
  show Z.vm.assignableAux (255 + 1) c t = false
  simp [Vm.assignableAux, ne, h2, g2, h5, g3, g7, Vm.isSubclass, n3]
end OwnKit
def xsL (k : Int32) (x : Int64) : Int64 := x ^^^ ((x.toUInt64 >>> (k &&& 0x3f).toInt64.toUInt64).toInt64)
def mixL (x : Int64) : Int64 := xsL 31 (xsL 27 (xsL 30 x * (-4658895280553007687 : Int64)) * (-7723592293110705685 : Int64))
theorem xs_bv {b c : BitVec 64} {k : Nat} (hk : 0 < k) (h : b ^^^ (b >>> k) = c ^^^ (c >>> k)) : b = c := by
  have d : (b ^^^ c) = (b ^^^ c) >>> k := by
    rw [BitVec.ushiftRight_xor_distrib]
    have h2 : (b ^^^ (b >>> k)) ^^^ (c ^^^ (c >>> k)) = 0#64 := by rw [h, BitVec.xor_self]
    have h3 : (b ^^^ c) ^^^ (b >>> k ^^^ c >>> k) = 0#64 := by rw [← h2]; ac_rfl
    have h4 := congrArg (fun z => z ^^^ (b >>> k ^^^ c >>> k)) h3
    simpa [BitVec.xor_assoc, BitVec.xor_self] using h4
  have n : (b ^^^ c).toNat = (b ^^^ c).toNat / 2 ^ k := by
    have := congrArg BitVec.toNat d
    rwa [BitVec.toNat_ushiftRight, Nat.shiftRight_eq_div_pow] at this
  have z : (b ^^^ c).toNat = 0 := by
    rcases Nat.eq_zero_or_pos (b ^^^ c).toNat with q | q
    · exact q
    · have := Nat.div_lt_self q (show 1 < 2 ^ k from Nat.one_lt_two_pow (by omega))
      omega
  have e : b ^^^ c = 0#64 := BitVec.eq_of_toNat_eq (by simpa using z)
  have := congrArg (fun z => z ^^^ c) e
  simpa [BitVec.xor_assoc, BitVec.xor_self] using this
theorem xs_inj (k : Int32) (n : Nat) (hn : 0 < n) (hk : ∀ x : Int64, (xsL k x).toBitVec = x.toBitVec ^^^ (x.toBitVec >>> n)) {x y : Int64} (h : xsL k x = xsL k y) : x = y := by
  have q := congrArg Int64.toBitVec h
  rw [hk, hk] at q
  exact Int64.toBitVec_inj.mp (xs_bv hn q)
theorem xs30 (x : Int64) : (xsL 30 x).toBitVec = x.toBitVec ^^^ (x.toBitVec >>> 30) := rfl
theorem xs27 (x : Int64) : (xsL 27 x).toBitVec = x.toBitVec ^^^ (x.toBitVec >>> 27) := rfl
theorem xs31 (x : Int64) : (xsL 31 x).toBitVec = x.toBitVec ^^^ (x.toBitVec >>> 31) := rfl
theorem mul_inj {c d x y : Int64} (hc : c * d = 1) (h : x * c = y * c) : x = y := by
  have q := congrArg (fun z => z * d) h
  simpa [Int64.mul_assoc, hc] using q
theorem mix_inj {x y : Int64} (h : mixL x = mixL y) : x = y := by
  have h1 := xs_inj 31 31 (by decide) xs31 h
  have h2 := mul_inj (d := (3573116690164977347 : Int64)) (by decide +kernel) h1
  have h3 := xs_inj 27 27 (by decide) xs27 h2
  have h4 := mul_inj (d := (-7575587736534282103 : Int64)) (by decide +kernel) h3
  exact xs_inj 30 30 (by decide) xs30 h4
theorem gam_ne {x y : Int64} (hy : y = x + (-7046029254386353131 : Int64)) (h : x = y) : False := by
  have c1 := c_ladd x (-7046029254386353131 : Int64)
  rw [← hy, ← h] at c1
  have l1 : (-7046029254386353131 : Int64).toInt = -7046029254386353131 := by decide
  omega
theorem dprog_71_method_1_code_0 : decode prog_71_method_1_code 0 = .ok (.aload_n 0, 1) := by decide +kernel
theorem dprog_71_method_1_code_1 : decode prog_71_method_1_code 1 = .ok (.invokespecial 1, 3) := by decide +kernel
theorem dprog_71_method_1_code_4 : decode prog_71_method_1_code 4 = .ok (.aload_n 0, 1) := by decide +kernel
theorem dprog_71_method_1_code_5 : decode prog_71_method_1_code 5 = .ok (.lload_n 1, 1) := by decide +kernel
theorem dprog_71_method_1_code_6 : decode prog_71_method_1_code 6 = .ok (.putfield 7, 3) := by decide +kernel
theorem dprog_71_method_1_code_9 : decode prog_71_method_1_code 9 = .ok (.return_, 1) := by decide +kernel
theorem dprog_71_method_2_code_0 : decode prog_71_method_2_code 0 = .ok (.aload_n 0, 1) := by decide +kernel
theorem dprog_71_method_2_code_1 : decode prog_71_method_2_code 1 = .ok (.dup, 1) := by decide +kernel
theorem dprog_71_method_2_code_2 : decode prog_71_method_2_code 2 = .ok (.getfield 7, 3) := by decide +kernel
theorem dprog_71_method_2_code_5 : decode prog_71_method_2_code 5 = .ok (.ldc2_w 13, 3) := by decide +kernel
theorem dprog_71_method_2_code_8 : decode prog_71_method_2_code 8 = .ok (.ladd, 1) := by decide +kernel
theorem dprog_71_method_2_code_9 : decode prog_71_method_2_code 9 = .ok (.putfield 7, 3) := by decide +kernel
theorem dprog_71_method_2_code_12 : decode prog_71_method_2_code 12 = .ok (.aload_n 0, 1) := by decide +kernel
theorem dprog_71_method_2_code_13 : decode prog_71_method_2_code 13 = .ok (.getfield 7, 3) := by decide +kernel
theorem dprog_71_method_2_code_16 : decode prog_71_method_2_code 16 = .ok (.lstore_n 1, 1) := by decide +kernel
theorem dprog_71_method_2_code_17 : decode prog_71_method_2_code 17 = .ok (.lload_n 1, 1) := by decide +kernel
theorem dprog_71_method_2_code_18 : decode prog_71_method_2_code 18 = .ok (.lload_n 1, 1) := by decide +kernel
theorem dprog_71_method_2_code_19 : decode prog_71_method_2_code 19 = .ok (.bipush 30, 2) := by decide +kernel
theorem dprog_71_method_2_code_21 : decode prog_71_method_2_code 21 = .ok (.lushr, 1) := by decide +kernel
theorem dprog_71_method_2_code_22 : decode prog_71_method_2_code 22 = .ok (.lxor, 1) := by decide +kernel
theorem dprog_71_method_2_code_23 : decode prog_71_method_2_code 23 = .ok (.ldc2_w 15, 3) := by decide +kernel
theorem dprog_71_method_2_code_26 : decode prog_71_method_2_code 26 = .ok (.lmul, 1) := by decide +kernel
theorem dprog_71_method_2_code_27 : decode prog_71_method_2_code 27 = .ok (.lstore_n 1, 1) := by decide +kernel
theorem dprog_71_method_2_code_28 : decode prog_71_method_2_code 28 = .ok (.lload_n 1, 1) := by decide +kernel
theorem dprog_71_method_2_code_29 : decode prog_71_method_2_code 29 = .ok (.lload_n 1, 1) := by decide +kernel
theorem dprog_71_method_2_code_30 : decode prog_71_method_2_code 30 = .ok (.bipush 27, 2) := by decide +kernel
theorem dprog_71_method_2_code_32 : decode prog_71_method_2_code 32 = .ok (.lushr, 1) := by decide +kernel
theorem dprog_71_method_2_code_33 : decode prog_71_method_2_code 33 = .ok (.lxor, 1) := by decide +kernel
theorem dprog_71_method_2_code_34 : decode prog_71_method_2_code 34 = .ok (.ldc2_w 17, 3) := by decide +kernel
theorem dprog_71_method_2_code_37 : decode prog_71_method_2_code 37 = .ok (.lmul, 1) := by decide +kernel
theorem dprog_71_method_2_code_38 : decode prog_71_method_2_code 38 = .ok (.lstore_n 1, 1) := by decide +kernel
theorem dprog_71_method_2_code_39 : decode prog_71_method_2_code 39 = .ok (.lload_n 1, 1) := by decide +kernel
theorem dprog_71_method_2_code_40 : decode prog_71_method_2_code 40 = .ok (.lload_n 1, 1) := by decide +kernel
theorem dprog_71_method_2_code_41 : decode prog_71_method_2_code 41 = .ok (.bipush 31, 2) := by decide +kernel
theorem dprog_71_method_2_code_43 : decode prog_71_method_2_code 43 = .ok (.lushr, 1) := by decide +kernel
theorem dprog_71_method_2_code_44 : decode prog_71_method_2_code 44 = .ok (.lxor, 1) := by decide +kernel
theorem dprog_71_method_2_code_45 : decode prog_71_method_2_code 45 = .ok (.lreturn, 1) := by decide +kernel
theorem pn_0 : plainName "com/example/tuneless/tuneless/space/RandomSource" = true := by first | (simp [plainName, overriddenIn]; done) | decide +kernel
theorem pn_1 : plainName "com/example/tuneless/tuneless/space/RandomSourceNextLongPinLaw" = true := by first | (simp [plainName, overriddenIn]; done) | decide +kernel
theorem pd_0 : parseMethodDescriptor "(J)V" = some ⟨[.long], none⟩ := by decide +kernel
theorem pd_1 : parseMethodDescriptor "()J" = some ⟨[], some .long⟩ := by decide +kernel
theorem ef_1 (m : MethodId) (o0 : Addr) (q1 : Int64) : entryFrame m #[(.ref o0), (.long q1)] 3 = mkF m 0 #[.val (.ref o0), .val (.long q1), .second] [] := by first | (simp [entryFrame, mkF, argsToLocals, Value.category, maxLocals]; done) | rfl
def Q1 (Z : State) (o0 : Addr) (q1 : Int64) (u_o0_state : Value) (h0 : Heap) (n0 : Nat) (v : Option Value) (h : Heap) (L : List Loc) : Prop := (v = none ∧ Fr n0 L ∧ Keep h0 h [o0] ∧ Exa Z h o0 "com/example/tuneless/tuneless/space/RandomSource" ∧ Fld Z h o0 "com/example/tuneless/tuneless/space/RandomSource" "state" "J" (.long q1))
set_option maxRecDepth 65536 in
set_option maxHeartbeats 40000000 in
theorem rm1 (l : Launch) (Z : State) (a0 : Array Value) (hw : ∀ d ∈ tables_1, d.before a0 Z = true) (ws : List Jvm.Cond) (o0 : Addr) (q1 : Int64) (u_o0_state : Value) (h0 : Heap) (n0 : Nat) (Z0 : n0 ≤ h0.size) (E_o0 : Exa Z h0 o0 "com/example/tuneless/tuneless/space/RandomSource") (F_o0_state : Fld Z h0 o0 "com/example/tuneless/tuneless/space/RandomSource" "state" "J" u_o0_state) (g_o0 : n0 ≤ o0) :
    Con l Z (⟨"com/example/tuneless/tuneless/space/RandomSource", "<init>", "(J)V"⟩ : MethodName) prog_71_method_1_code 3 none ws ({ frames := 1, cells := 0, slots := 0, locals := 12 } : Room) #[(.ref o0), (.long q1)] h0 0 0 (Q1 Z o0 q1 u_o0_state h0 n0) := by
  refine MetFree.of_bodySF (plainFor_of_name pn_0) hisR ?_
  intro p e s m args below meth c s₁ Bd hml0 hP hK
  obtain ⟨rfl, hZ, hh⟩ := hP
  have hx := Bd.exec
  have hby := Bd.bytes
  have hml : c.maxLocals = 3 := hml0
  have hown : s.vm.findClass "com/example/tuneless/tuneless/space/RandomSource" = some m.cls := findClass_of_methodNamed Bd.named
  have hnm := (name_of_methodNamed Bd.named Bd.method).1
  have X0 : Stand p l e ({ frames := 1, cells := 0, slots := 0, locals := 12 } : Room) s m #[(.ref o0), (.long q1)] below meth c s₁ [] 0 0 := Stand.of_body Bd
  have e0 : s₁.heap = h0 := by rw [← hh, Bd.state]; rfl
  have N0 := Fr.nil n0
  refine Go.of ?_
  refine Go.st (S' := s₁.setTop (mkF m 0 #[.val (.ref o0), .val (.long q1), .second] [])) (fun t k => castTop (ef_1 m o0 q1) k) ?_
  refine Go.st (S' := s₁.setTop (mkF m 1 #[.val (.ref o0), .val (.long q1), .second] [(.ref o0)])) (fun t k => XS.aloadN X0.here hx rfl (hb hby dprog_71_method_1_code_0) rfl rfl k) ?_
  obtain ⟨T5, X5, e5, st5⟩ := initO X0 hx hZ hown (hw _ (List.mem_of_getElem? (i := 7) rfl)) (hw _ (List.mem_of_getElem? (i := 8) rfl)) (hw _ (List.mem_of_getElem? (i := 9) rfl)) e0 (g := (mkF m 1 #[.val (.ref o0), .val (.long q1), .second] [(.ref o0)])) rfl (by rw [hml]; rfl) rfl (hb hby dprog_71_method_1_code_1) (by decide) (W := 0) (by show 2 * 0 + _ ≤ _; exact Nat.le_of_eq rfl) (by decide)
  refine Go.st (S' := T5.setTop (mkF m 4 #[.val (.ref o0), .val (.long q1), .second] [])) st5 ?_
  refine Go.st (S' := T5.setTop (mkF m 5 #[.val (.ref o0), .val (.long q1), .second] [(.ref o0)])) (fun t k => XS.aloadN X5.here hx rfl (hb hby dprog_71_method_1_code_4) rfl rfl k) ?_
  refine Go.st (S' := T5.setTop (mkF m 6 #[.val (.ref o0), .val (.long q1), .second] [(.long q1), (.ref o0)])) (fun t k => XS.lloadN X5.here hx rfl (hb hby dprog_71_method_1_code_5) rfl k) ?_
  obtain ⟨T6, h6, X6, e6, W6, st6⟩ := putF X5 hx hZ hown (host := "") (Or.inl (hw _ (List.mem_of_getElem? (i := 10) rfl))) Via.refl e5 F_o0_state E_o0 (Or.inl (hw _ (List.mem_of_getElem? (i := 11) rfl))) (hw _ (List.mem_of_getElem? (i := 2) rfl)) (ty := .long) (by decide) rfl rfl (g := (mkF m 6 #[.val (.ref o0), .val (.long q1), .second] [(.long q1), (.ref o0)])) rfl rfl (hb hby dprog_71_method_1_code_6)
  have Fw6 := (F_o0_state).same W6
  have N6 := Fr.snoc X6 N0 g_o0
  have Z7 : n0 ≤ h6.size := Nat.le_trans Z0 (Keep.of_wr W6).1
  have K7 : Keep h0 h6 [o0] := (Keep.refl h0 [o0]).wr W6 (Or.inl (by simp))
  refine Go.st (S' := T6.setTop (mkF m 9 #[.val (.ref o0), .val (.long q1), .second] [])) st6 ?_
  have f8 := ((E_o0).wr W6)
  exact Go.ret X6 (v := none) (fun _ => rfl) Bd.notSynchronized (fun fs hr => X6.returnOut hx Bd.returns (hb hby dprog_71_method_1_code_9) hr) (by decide) (by decide) (by rw [e6]; exact ⟨rfl, N6, K7, f8, Fw6⟩)
theorem ef_2 (m : MethodId) (o0 : Addr) : entryFrame m #[(.ref o0)] 3 = mkF m 0 #[.val (.ref o0), .unset, .unset] [] := by first | (simp [entryFrame, mkF, argsToLocals, Value.category, maxLocals]; done) | rfl
def Q2 (Z : State) (o0 : Addr) (u_o0_state : Int64) (h0 : Heap) (n0 : Nat) (v : Option Value) (h : Heap) (L : List Loc) : Prop := (∃ (v15 : Int64) (v19 : Int64) (v20 : Int64) (v21 : Int64) (v22 : Int64) (v23 : Int64) (v24 : Int64) (v25 : Int64) (v26 : Int64), v15 = (u_o0_state + (-7046029254386353131 : Int64)) ∧ v19 = ((v15.toUInt64 >>> ((30 : Int32) &&& 0x3f).toInt64.toUInt64).toInt64) ∧ v20 = (v15 ^^^ v19) ∧ v21 = (v20 * (-4658895280553007687 : Int64)) ∧ v22 = ((v21.toUInt64 >>> ((27 : Int32) &&& 0x3f).toInt64.toUInt64).toInt64) ∧ v23 = (v21 ^^^ v22) ∧ v24 = (v23 * (-7723592293110705685 : Int64)) ∧ v25 = ((v24.toUInt64 >>> ((31 : Int32) &&& 0x3f).toInt64.toUInt64).toInt64) ∧ v26 = (v24 ^^^ v25) ∧ v = some (.long v26) ∧ Fr n0 L ∧ Keep h0 h [o0] ∧ Fld Z h o0 "com/example/tuneless/tuneless/space/RandomSource" "state" "J" (.long v15) ∧ Exa Z h o0 "com/example/tuneless/tuneless/space/RandomSource")
set_option maxRecDepth 65536 in
set_option maxHeartbeats 40000000 in
theorem rm2 (l : Launch) (Z : State) (a0 : Array Value) (hw : ∀ d ∈ tables_1, d.before a0 Z = true) (ws : List Jvm.Cond) (o0 : Addr) (u_o0_state : Int64) (h0 : Heap) (n0 : Nat) (Z0 : n0 ≤ h0.size) (F_o0_state : Fld Z h0 o0 "com/example/tuneless/tuneless/space/RandomSource" "state" "J" (.long u_o0_state)) (E_o0 : Exa Z h0 o0 "com/example/tuneless/tuneless/space/RandomSource") (g_o0 : n0 ≤ o0) :
    Con l Z (⟨"com/example/tuneless/tuneless/space/RandomSource", "nextLong", "()J"⟩ : MethodName) prog_71_method_2_code 3 (some .long) ws ({ frames := 0, cells := 0, slots := 0, locals := 0 } : Room) #[(.ref o0)] h0 0 0 (Q2 Z o0 u_o0_state h0 n0) := by
  refine MetFree.of_bodySF (plainFor_of_name pn_0) hisR ?_
  intro p e s m args below meth c s₁ Bd hml0 hP hK
  obtain ⟨rfl, hZ, hh⟩ := hP
  have hx := Bd.exec
  have hby := Bd.bytes
  have hml : c.maxLocals = 3 := hml0
  have hown : s.vm.findClass "com/example/tuneless/tuneless/space/RandomSource" = some m.cls := findClass_of_methodNamed Bd.named
  have hnm := (name_of_methodNamed Bd.named Bd.method).1
  have X0 : Stand p l e ({ frames := 0, cells := 0, slots := 0, locals := 0 } : Room) s m #[(.ref o0)] below meth c s₁ [] 0 0 := Stand.of_body Bd
  have e0 : s₁.heap = h0 := by rw [← hh, Bd.state]; rfl
  have N0 := Fr.nil n0
  refine Go.of ?_
  refine Go.st (S' := s₁.setTop (mkF m 0 #[.val (.ref o0), .unset, .unset] [])) (fun t k => castTop (ef_2 m o0) k) ?_
  refine Go.st (S' := s₁.setTop (mkF m 1 #[.val (.ref o0), .unset, .unset] [(.ref o0)])) (fun t k => XS.aloadN X0.here hx rfl (hb hby dprog_71_method_2_code_0) rfl rfl k) ?_
  refine Go.st (S' := s₁.setTop (mkF m 2 #[.val (.ref o0), .unset, .unset] [(.ref o0), (.ref o0)])) (fun t k => XS.dup X0.here hx rfl (hb hby dprog_71_method_2_code_1) rfl rfl k) ?_
  obtain ⟨T14, X14, e14, st14⟩ := getF X0 hx hZ hown (host := "") (Or.inl (hw _ (List.mem_of_getElem? (i := 10) rfl))) Via.refl e0 F_o0_state (g := (mkF m 2 #[.val (.ref o0), .unset, .unset] [(.ref o0), (.ref o0)])) rfl rfl (hb hby dprog_71_method_2_code_2)
  refine Go.st (S' := T14.setTop (mkF m 5 #[.val (.ref o0), .unset, .unset] [(.long u_o0_state), (.ref o0)])) st14 ?_
  refine Go.st (S' := T14.setTop (mkF m 8 #[.val (.ref o0), .unset, .unset] [(.long (-7046029254386353131 : Int64)), (.long u_o0_state), (.ref o0)])) (fun t k => X14.ldc2Long hx hown (mvT hZ (hw _ (List.mem_of_getElem? (i := 17) rfl))) (g := (mkF m 5 #[.val (.ref o0), .unset, .unset] [(.long u_o0_state), (.ref o0)])) rfl (hb hby dprog_71_method_2_code_5) t k) ?_
  refine Go.op (F := fun z => T14.setTop (mkF m 9 #[.val (.ref o0), .unset, .unset] [(.long z), (.ref o0)])) (x := (u_o0_state + (-7046029254386353131 : Int64))) (fun t k => XS.ladd X14.here hx rfl (hb hby dprog_71_method_2_code_8) rfl k) ?_
  intro v15 hv15
  obtain ⟨T16, h16, X16, e16, W16, st16⟩ := putF X14 hx hZ hown (host := "") (Or.inl (hw _ (List.mem_of_getElem? (i := 10) rfl))) Via.refl e14 F_o0_state E_o0 (Or.inl (hw _ (List.mem_of_getElem? (i := 11) rfl))) (hw _ (List.mem_of_getElem? (i := 2) rfl)) (ty := .long) (by decide) rfl rfl (g := (mkF m 9 #[.val (.ref o0), .unset, .unset] [(.long v15), (.ref o0)])) rfl rfl (hb hby dprog_71_method_2_code_9)
  have Fw16 := (F_o0_state).same W16
  have N16 := Fr.snoc X16 N0 g_o0
  have Z17 : n0 ≤ h16.size := Nat.le_trans Z0 (Keep.of_wr W16).1
  have K17 : Keep h0 h16 [o0] := (Keep.refl h0 [o0]).wr W16 (Or.inl (by simp))
  refine Go.st (S' := T16.setTop (mkF m 12 #[.val (.ref o0), .unset, .unset] [])) st16 ?_
  refine Go.st (S' := T16.setTop (mkF m 13 #[.val (.ref o0), .unset, .unset] [(.ref o0)])) (fun t k => XS.aloadN X16.here hx rfl (hb hby dprog_71_method_2_code_12) rfl rfl k) ?_
  obtain ⟨T18, X18, e18, st18⟩ := getF X16 hx hZ hown (host := "") (Or.inl (hw _ (List.mem_of_getElem? (i := 10) rfl))) Via.refl e16 Fw16 (g := (mkF m 13 #[.val (.ref o0), .unset, .unset] [(.ref o0)])) rfl rfl (hb hby dprog_71_method_2_code_13)
  refine Go.st (S' := T18.setTop (mkF m 16 #[.val (.ref o0), .unset, .unset] [(.long v15)])) st18 ?_
  refine Go.st (S' := T18.setTop (mkF m 17 #[.val (.ref o0), .val (.long v15), .second] [])) (fun t k => XS.lstoreN X18.here hx rfl (hb hby dprog_71_method_2_code_16) rfl (l' := #[.val (.ref o0), .val (.long v15), .second]) rfl k) ?_
  refine Go.st (S' := T18.setTop (mkF m 18 #[.val (.ref o0), .val (.long v15), .second] [(.long v15)])) (fun t k => XS.lloadN X18.here hx rfl (hb hby dprog_71_method_2_code_17) rfl k) ?_
  refine Go.st (S' := T18.setTop (mkF m 19 #[.val (.ref o0), .val (.long v15), .second] [(.long v15), (.long v15)])) (fun t k => XS.lloadN X18.here hx rfl (hb hby dprog_71_method_2_code_18) rfl k) ?_
  refine Go.st (S' := T18.setTop (mkF m 21 #[.val (.ref o0), .val (.long v15), .second] [(.int (30 : Int32)), (.long v15), (.long v15)])) (fun t k => XS.bipush X18.here hx rfl (hb hby dprog_71_method_2_code_19) k) ?_
  refine Go.op (F := fun z => T18.setTop (mkF m 22 #[.val (.ref o0), .val (.long v15), .second] [(.long z), (.long v15)])) (x := ((v15.toUInt64 >>> ((30 : Int32) &&& 0x3f).toInt64.toUInt64).toInt64)) (fun t k => XS.lushr X18.here hx rfl (hb hby dprog_71_method_2_code_21) rfl k) ?_
  intro v19 hv19
  refine Go.op (F := fun z => T18.setTop (mkF m 23 #[.val (.ref o0), .val (.long v15), .second] [(.long z)])) (x := (v15 ^^^ v19)) (fun t k => XS.lxor X18.here hx rfl (hb hby dprog_71_method_2_code_22) rfl k) ?_
  intro v20 hv20
  refine Go.st (S' := T18.setTop (mkF m 26 #[.val (.ref o0), .val (.long v15), .second] [(.long (-4658895280553007687 : Int64)), (.long v20)])) (fun t k => X18.ldc2Long hx hown (mvT hZ (hw _ (List.mem_of_getElem? (i := 18) rfl))) (g := (mkF m 23 #[.val (.ref o0), .val (.long v15), .second] [(.long v20)])) rfl (hb hby dprog_71_method_2_code_23) t k) ?_
  refine Go.op (F := fun z => T18.setTop (mkF m 27 #[.val (.ref o0), .val (.long v15), .second] [(.long z)])) (x := (v20 * (-4658895280553007687 : Int64))) (fun t k => XS.lmul X18.here hx rfl (hb hby dprog_71_method_2_code_26) rfl k) ?_
  intro v21 hv21
  refine Go.st (S' := T18.setTop (mkF m 28 #[.val (.ref o0), .val (.long v21), .second] [])) (fun t k => XS.lstoreN X18.here hx rfl (hb hby dprog_71_method_2_code_27) rfl (l' := #[.val (.ref o0), .val (.long v21), .second]) rfl k) ?_
  refine Go.st (S' := T18.setTop (mkF m 29 #[.val (.ref o0), .val (.long v21), .second] [(.long v21)])) (fun t k => XS.lloadN X18.here hx rfl (hb hby dprog_71_method_2_code_28) rfl k) ?_
  refine Go.st (S' := T18.setTop (mkF m 30 #[.val (.ref o0), .val (.long v21), .second] [(.long v21), (.long v21)])) (fun t k => XS.lloadN X18.here hx rfl (hb hby dprog_71_method_2_code_29) rfl k) ?_
  refine Go.st (S' := T18.setTop (mkF m 32 #[.val (.ref o0), .val (.long v21), .second] [(.int (27 : Int32)), (.long v21), (.long v21)])) (fun t k => XS.bipush X18.here hx rfl (hb hby dprog_71_method_2_code_30) k) ?_
  refine Go.op (F := fun z => T18.setTop (mkF m 33 #[.val (.ref o0), .val (.long v21), .second] [(.long z), (.long v21)])) (x := ((v21.toUInt64 >>> ((27 : Int32) &&& 0x3f).toInt64.toUInt64).toInt64)) (fun t k => XS.lushr X18.here hx rfl (hb hby dprog_71_method_2_code_32) rfl k) ?_
  intro v22 hv22
  refine Go.op (F := fun z => T18.setTop (mkF m 34 #[.val (.ref o0), .val (.long v21), .second] [(.long z)])) (x := (v21 ^^^ v22)) (fun t k => XS.lxor X18.here hx rfl (hb hby dprog_71_method_2_code_33) rfl k) ?_
  intro v23 hv23
  refine Go.st (S' := T18.setTop (mkF m 37 #[.val (.ref o0), .val (.long v21), .second] [(.long (-7723592293110705685 : Int64)), (.long v23)])) (fun t k => X18.ldc2Long hx hown (mvT hZ (hw _ (List.mem_of_getElem? (i := 19) rfl))) (g := (mkF m 34 #[.val (.ref o0), .val (.long v21), .second] [(.long v23)])) rfl (hb hby dprog_71_method_2_code_34) t k) ?_
  refine Go.op (F := fun z => T18.setTop (mkF m 38 #[.val (.ref o0), .val (.long v21), .second] [(.long z)])) (x := (v23 * (-7723592293110705685 : Int64))) (fun t k => XS.lmul X18.here hx rfl (hb hby dprog_71_method_2_code_37) rfl k) ?_
  intro v24 hv24
  refine Go.st (S' := T18.setTop (mkF m 39 #[.val (.ref o0), .val (.long v24), .second] [])) (fun t k => XS.lstoreN X18.here hx rfl (hb hby dprog_71_method_2_code_38) rfl (l' := #[.val (.ref o0), .val (.long v24), .second]) rfl k) ?_
  refine Go.st (S' := T18.setTop (mkF m 40 #[.val (.ref o0), .val (.long v24), .second] [(.long v24)])) (fun t k => XS.lloadN X18.here hx rfl (hb hby dprog_71_method_2_code_39) rfl k) ?_
  refine Go.st (S' := T18.setTop (mkF m 41 #[.val (.ref o0), .val (.long v24), .second] [(.long v24), (.long v24)])) (fun t k => XS.lloadN X18.here hx rfl (hb hby dprog_71_method_2_code_40) rfl k) ?_
  refine Go.st (S' := T18.setTop (mkF m 43 #[.val (.ref o0), .val (.long v24), .second] [(.int (31 : Int32)), (.long v24), (.long v24)])) (fun t k => XS.bipush X18.here hx rfl (hb hby dprog_71_method_2_code_41) k) ?_
  refine Go.op (F := fun z => T18.setTop (mkF m 44 #[.val (.ref o0), .val (.long v24), .second] [(.long z), (.long v24)])) (x := ((v24.toUInt64 >>> ((31 : Int32) &&& 0x3f).toInt64.toUInt64).toInt64)) (fun t k => XS.lushr X18.here hx rfl (hb hby dprog_71_method_2_code_43) rfl k) ?_
  intro v25 hv25
  refine Go.op (F := fun z => T18.setTop (mkF m 45 #[.val (.ref o0), .val (.long v24), .second] [(.long z)])) (x := (v24 ^^^ v25)) (fun t k => XS.lxor X18.here hx rfl (hb hby dprog_71_method_2_code_44) rfl k) ?_
  intro v26 hv26
  have f27 := ((E_o0).wr W16)
  exact Go.ret X18 (v := some (.long v26)) (fun h => by rw [Bd.returns] at h; cases h) Bd.notSynchronized (fun fs hr => retOut X18 hx Bd.returns rfl (Or.inr (Or.inl ⟨rfl, rfl, _, rfl⟩)) (hb hby dprog_71_method_2_code_45) hr) (by decide) (by decide) (by rw [e18]; exact ⟨v15, v19, v20, v21, v22, v23, v24, v25, v26, hv15, hv19, hv20, hv21, hv22, hv23, hv24, hv25, hv26, rfl, N16, K17, Fw16, f27⟩)
theorem ef_3 (m : MethodId) (q0 : Int64) : entryFrame m #[(.long q0)] maxLocals = mkF m 0 #[.val (.long q0), .second, .unset, .unset, .unset, .unset, .unset, .unset, .unset, .unset, .unset, .unset, .unset, .unset, .unset, .unset, .unset, .unset, .unset, .unset, .unset, .unset] [] := by first | (simp [entryFrame, mkF, argsToLocals, Value.category, maxLocals]; done) | rfl
def Q3 (Z : State) (q0 : Int64) (h0 : Heap) (n0 : Nat) (v : Option Value) (h : Heap) (L : List Loc) : Prop := v = some (.int 1) ∧ Fr n0 L
set_option maxRecDepth 65536 in
set_option maxHeartbeats 40000000 in
theorem rm3 (l : Launch) (Z : State) (a0 : Array Value) (hw : ∀ d ∈ tables_1, d.before a0 Z = true) (ws : List Jvm.Cond) (q0 : Int64) (h0 : Heap) (n0 : Nat) (Z0 : n0 ≤ h0.size)  :
    Con l Z x code maxLocals ret ws room_1 #[(.long q0)] h0 4 12 (Q3 Z q0 h0 n0) := by
  refine MetFree.of_bodySF (plainFor_of_name pn_1) hisR ?_
  intro p e s m args below meth c s₁ Bd hml0 hP hK
  obtain ⟨rfl, hZ, hh⟩ := hP
  have hx := Bd.exec
  have hby := Bd.bytes
  have hml : c.maxLocals = 22 := hml0
  have hown : s.vm.findClass "com/example/tuneless/tuneless/space/RandomSourceNextLongPinLaw" = some m.cls := findClass_of_methodNamed Bd.named
  have hnm := (name_of_methodNamed Bd.named Bd.method).1
  have X0 : Stand p l e room_1 s m #[(.long q0)] below meth c s₁ [] 0 0 := Stand.of_body Bd
  have e0 : s₁.heap = h0 := by rw [← hh, Bd.state]; rfl
  have N0 := Fr.nil n0
  refine Go.of ?_
  refine Go.st (S' := s₁.setTop (mkF m 0 #[.val (.long q0), .second, .unset, .unset, .unset, .unset, .unset, .unset, .unset, .unset, .unset, .unset, .unset, .unset, .unset, .unset, .unset, .unset, .unset, .unset, .unset, .unset] [])) (fun t k => castTop (ef_3 m q0) k) ?_
  let A1 : Array Slot := #[.val (.long q0), .second, .unset, .unset, .unset, .unset, .unset, .unset, .unset, .unset, .unset, .unset, .unset, .unset, .unset, .unset, .unset, .unset, .unset, .unset, .unset, .unset]
  refine Go.st (S' := s₁.setTop (mkF m 3 A1 [(.long (-7046029254386353131 : Int64))])) (fun t k => X0.ldc2Long hx hown (mvT hZ (hw _ (List.mem_of_getElem? (i := 0) rfl))) (g := (mkF m 0 A1 [])) rfl (hb hby at_0) t k) ?_
  let A2 : Array Slot := #[.val (.long q0), .second, .val (.long (-7046029254386353131 : Int64)), .second, .unset, .unset, .unset, .unset, .unset, .unset, .unset, .unset, .unset, .unset, .unset, .unset, .unset, .unset, .unset, .unset, .unset, .unset]
  refine Go.st (S' := s₁.setTop (mkF m 4 A2 [])) (fun t k => XS.lstoreN X0.here hx rfl (hb hby at_3) rfl (l' := A2) rfl k) ?_
  obtain ⟨T3, h3, X3, e3, E3, A3, D3, -, st3⟩ := newO X0 hx hZ hown (hw _ (List.mem_of_getElem? (i := 1) rfl)) (hw _ (List.mem_of_getElem? (i := 2) rfl)) (hw _ (List.mem_of_getElem? (i := 3) rfl)) e0 (g := (mkF m 4 A2 [])) rfl (hb hby at_4) (by decide) (by decide)
  obtain ⟨b3, gg3⟩ : ∃ z, z = h0.size := ⟨_, rfl⟩
  rw [← gg3] at A3 D3 st3
  have g_b3 : n0 ≤ b3 := Nat.le_trans Z0 (Nat.le_of_eq gg3.symm)
  have sz_b3 : h0.size ≤ b3 := Nat.le_trans (Keep.refl h0 []).1 (Nat.le_of_eq gg3.symm)
  have Z4 : n0 ≤ h3.size := Nat.le_trans Z0 E3.1
  have K4 : Keep h0 h3 [] := (Keep.refl h0 []).ext E3
  have Fb3_state : Fld Z h3 b3 "com/example/tuneless/tuneless/space/RandomSource" "state" "J" (.long (0 : Int64)) := D3 (Or.inl (hw _ (List.mem_of_getElem? (i := 11) rfl))) (ty := .long) (by decide)
  refine Go.st (S' := T3.setTop (mkF m 7 A2 [(.ref b3)])) st3 ?_
  refine Go.st (S' := T3.setTop (mkF m 8 A2 [(.ref b3), (.ref b3)])) (fun t k => XS.dup X3.here hx rfl (hb hby at_7) rfl rfl k) ?_
  refine Go.st (S' := T3.setTop (mkF m 9 A2 [(.long q0), (.ref b3), (.ref b3)])) (fun t k => XS.lloadN X3.here hx rfl (hb hby at_8) rfl k) ?_
  obtain ⟨r9, T9, L9, X9, hQ9, st9⟩ := own_callI (W := 1) (a := b3) X3 hx hZ e3 hown (y := (⟨"com/example/tuneless/tuneless/space/RandomSource", "<init>", "(J)V"⟩ : MethodName)) rfl (hw _ (List.mem_of_getElem? (i := 4) rfl)) (hw _ (List.mem_of_getElem? (i := 5) rfl)) (hw _ (List.mem_of_getElem? (i := 3) rfl)) (hw _ (List.mem_of_getElem? (i := 6) rfl)) (by decide) (rm1 l Z a0 hw [] b3 q0 ((.long (0 : Int64))) h3 n0 Z4 (A3) (Fb3_state) (g_b3)) (by decide) (by decide) (by decide) (by decide) (g := (mkF m 9 A2 [(.long q0), (.ref b3), (.ref b3)])) rfl (by rw [hml]; rfl) (argsL := [(.long q0)]) (rest := [(.ref b3)]) rfl (lenOf pd_0 rfl) rfl (by show 2 * 0 + _ ≤ _; exact Nat.le_of_eq rfl) (hb hby at_9)
  obtain ⟨rfl, N9, K9_, f10, f11⟩ := hQ9
  have N9_ := Fr.app N0 N9
  have Z12 : n0 ≤ T9.heap.size := Nat.le_trans Z4 K9_.1
  have K12 : Keep h0 T9.heap [] := K4.trans K9_ (allS (Or.inr sz_b3) all0)
  refine Go.st (S' := T9.setTop (mkF m 12 A2 [(.ref b3)])) st9 ?_
  let A13 : Array Slot := #[.val (.long q0), .second, .val (.long (-7046029254386353131 : Int64)), .second, .val (.ref b3), .unset, .unset, .unset, .unset, .unset, .unset, .unset, .unset, .unset, .unset, .unset, .unset, .unset, .unset, .unset, .unset, .unset]
  refine Go.st (S' := T9.setTop (mkF m 14 A13 [])) (fun t k => XS.astore X9.here hx rfl (hb hby at_12) rfl rfl (l' := A13) rfl k) ?_
  refine Go.st (S' := T9.setTop (mkF m 16 A13 [(.ref b3)])) (fun t k => XS.aload X9.here hx rfl (hb hby at_14) rfl rfl k) ?_
  obtain ⟨r28, T28, L28, X28, hQ28, st28⟩ := own_callV (W := 0) (a := b3) (C := "com/example/tuneless/tuneless/space/RandomSource") X9 hx hZ rfl hown (y := (⟨"com/example/tuneless/tuneless/space/RandomSource", "nextLong", "()J"⟩ : MethodName)) (z := (⟨"com/example/tuneless/tuneless/space/RandomSource", "nextLong", "()J"⟩ : MethodName)) (hw _ (List.mem_of_getElem? (i := 12) rfl)) (hw _ (List.mem_of_getElem? (i := 13) rfl)) (notFace_of_selects (args := #[]) (mvT hZ (hw _ (List.mem_of_getElem? (i := 15) rfl)))) (hw _ (List.mem_of_getElem? (i := 15) rfl)) (hw _ (List.mem_of_getElem? (i := 14) rfl)) (hw _ (List.mem_of_getElem? (i := 3) rfl)) (hw _ (List.mem_of_getElem? (i := 16) rfl)) (by decide) (f10) (rm2 l Z a0 hw [] b3 q0 T9.heap n0 Z12 (f11) (f10) (g_b3)) (by decide) (by decide) (by decide) (by decide) (g := (mkF m 16 A13 [(.ref b3)])) rfl (by rw [hml]; rfl) (argsL := []) (rest := []) rfl (lenOf pd_1 rfl) rfl (by show 2 * 0 + _ ≤ _; exact Nat.le_of_eq rfl) (hb hby at_16)
  obtain ⟨v29, v30, v31, v32, v33, v34, v35, v36, v37, hv29, hv30, hv31, hv32, hv33, hv34, hv35, hv36, hv37, rfl, N28, K28_, f38, f39⟩ := hQ28
  have N28_ := Fr.app N9_ N28
  have Z40 : n0 ≤ T28.heap.size := Nat.le_trans Z12 K28_.1
  have K40 : Keep h0 T28.heap [] := K12.trans K28_ (allS (Or.inr sz_b3) all0)
  refine Go.st (S' := T28.setTop (mkF m 19 A13 [(.long v37)])) st28 ?_
  let A41 : Array Slot := #[.val (.long q0), .second, .val (.long (-7046029254386353131 : Int64)), .second, .val (.ref b3), .val (.long v37), .second, .unset, .unset, .unset, .unset, .unset, .unset, .unset, .unset, .unset, .unset, .unset, .unset, .unset, .unset, .unset]
  refine Go.st (S' := T28.setTop (mkF m 21 A41 [])) (fun t k => XS.lstore X28.here hx rfl (hb hby at_19) rfl (l' := A41) rfl k) ?_
  refine Go.st (S' := T28.setTop (mkF m 23 A41 [(.ref b3)])) (fun t k => XS.aload X28.here hx rfl (hb hby at_21) rfl rfl k) ?_
  obtain ⟨r42, T42, L42, X42, hQ42, st42⟩ := own_callV (W := 0) (a := b3) (C := "com/example/tuneless/tuneless/space/RandomSource") X28 hx hZ rfl hown (y := (⟨"com/example/tuneless/tuneless/space/RandomSource", "nextLong", "()J"⟩ : MethodName)) (z := (⟨"com/example/tuneless/tuneless/space/RandomSource", "nextLong", "()J"⟩ : MethodName)) (hw _ (List.mem_of_getElem? (i := 12) rfl)) (hw _ (List.mem_of_getElem? (i := 13) rfl)) (notFace_of_selects (args := #[]) (mvT hZ (hw _ (List.mem_of_getElem? (i := 15) rfl)))) (hw _ (List.mem_of_getElem? (i := 15) rfl)) (hw _ (List.mem_of_getElem? (i := 14) rfl)) (hw _ (List.mem_of_getElem? (i := 3) rfl)) (hw _ (List.mem_of_getElem? (i := 16) rfl)) (by decide) (f39) (rm2 l Z a0 hw [] b3 v29 T28.heap n0 Z40 (f38) (f39) (g_b3)) (by decide) (by decide) (by decide) (by decide) (g := (mkF m 23 A41 [(.ref b3)])) rfl (by rw [hml]; rfl) (argsL := []) (rest := []) rfl (lenOf pd_1 rfl) rfl (by show 2 * 0 + _ ≤ _; exact Nat.le_of_eq rfl) (hb hby at_23)
  obtain ⟨v43, v44, v45, v46, v47, v48, v49, v50, v51, hv43, hv44, hv45, hv46, hv47, hv48, hv49, hv50, hv51, rfl, N42, K42_, f52, f53⟩ := hQ42
  have N42_ := Fr.app N28_ N42
  have Z54 : n0 ≤ T42.heap.size := Nat.le_trans Z40 K42_.1
  have K54 : Keep h0 T42.heap [] := K40.trans K42_ (allS (Or.inr sz_b3) all0)
  refine Go.st (S' := T42.setTop (mkF m 26 A41 [(.long v51)])) st42 ?_
  let A55 : Array Slot := #[.val (.long q0), .second, .val (.long (-7046029254386353131 : Int64)), .second, .val (.ref b3), .val (.long v37), .second, .val (.long v51), .second, .unset, .unset, .unset, .unset, .unset, .unset, .unset, .unset, .unset, .unset, .unset, .unset, .unset]
  refine Go.st (S' := T42.setTop (mkF m 28 A55 [])) (fun t k => XS.lstore X42.here hx rfl (hb hby at_26) rfl (l' := A55) rfl k) ?_
  obtain ⟨T56, h56, X56, e56, E56, A56, D56, -, st56⟩ := newO X42 hx hZ hown (hw _ (List.mem_of_getElem? (i := 1) rfl)) (hw _ (List.mem_of_getElem? (i := 2) rfl)) (hw _ (List.mem_of_getElem? (i := 3) rfl)) rfl (g := (mkF m 28 A55 [])) rfl (hb hby at_28) (by decide) (by decide)
  obtain ⟨b56, gg56⟩ : ∃ z, z = T42.heap.size := ⟨_, rfl⟩
  rw [← gg56] at A56 D56 st56
  have g_b56 : n0 ≤ b56 := Nat.le_trans Z54 (Nat.le_of_eq gg56.symm)
  have sz_b56 : h0.size ≤ b56 := Nat.le_trans K54.1 (Nat.le_of_eq gg56.symm)
  have lt_b3_b56 : b3 < b56 := Nat.lt_of_lt_of_le (f53).lt (Nat.le_of_eq gg56.symm)
  have Z57 : n0 ≤ h56.size := Nat.le_trans Z54 E56.1
  have K57 : Keep h0 h56 [] := K54.ext E56
  have Fb56_state : Fld Z h56 b56 "com/example/tuneless/tuneless/space/RandomSource" "state" "J" (.long (0 : Int64)) := D56 (Or.inl (hw _ (List.mem_of_getElem? (i := 11) rfl))) (ty := .long) (by decide)
  refine Go.st (S' := T56.setTop (mkF m 31 A55 [(.ref b56)])) st56 ?_
  refine Go.st (S' := T56.setTop (mkF m 32 A55 [(.ref b56), (.ref b56)])) (fun t k => XS.dup X56.here hx rfl (hb hby at_31) rfl rfl k) ?_
  refine Go.st (S' := T56.setTop (mkF m 33 A55 [(.long q0), (.ref b56), (.ref b56)])) (fun t k => XS.lloadN X56.here hx rfl (hb hby at_32) rfl k) ?_
  refine Go.st (S' := T56.setTop (mkF m 34 A55 [(.long (-7046029254386353131 : Int64)), (.long q0), (.ref b56), (.ref b56)])) (fun t k => XS.lloadN X56.here hx rfl (hb hby at_33) rfl k) ?_
  refine Go.op (F := fun z => T56.setTop (mkF m 35 A55 [(.long z), (.ref b56), (.ref b56)])) (x := (q0 + (-7046029254386353131 : Int64))) (fun t k => XS.ladd X56.here hx rfl (hb hby at_34) rfl k) ?_
  intro v58 hv58
  obtain rfl : v29 = v58 := hv29.trans hv58.symm
  obtain ⟨r59, T59, L59, X59, hQ59, st59⟩ := own_callI (W := 1) (a := b56) X56 hx hZ e56 hown (y := (⟨"com/example/tuneless/tuneless/space/RandomSource", "<init>", "(J)V"⟩ : MethodName)) rfl (hw _ (List.mem_of_getElem? (i := 4) rfl)) (hw _ (List.mem_of_getElem? (i := 5) rfl)) (hw _ (List.mem_of_getElem? (i := 3) rfl)) (hw _ (List.mem_of_getElem? (i := 6) rfl)) (by decide) (rm1 l Z a0 hw [] b56 v29 ((.long (0 : Int64))) h56 n0 Z57 (A56) (Fb56_state) (g_b56)) (by decide) (by decide) (by decide) (by decide) (g := (mkF m 35 A55 [(.long v29), (.ref b56), (.ref b56)])) rfl (by rw [hml]; rfl) (argsL := [(.long v29)]) (rest := [(.ref b56)]) rfl (lenOf pd_0 rfl) rfl (by show 2 * 0 + _ ≤ _; exact Nat.le_of_eq rfl) (hb hby at_35)
  obtain ⟨rfl, N59, K59_, f60, f61⟩ := hQ59
  have N59_ := Fr.app N42_ N59
  have Z62 : n0 ≤ T59.heap.size := Nat.le_trans Z57 K59_.1
  have K62 : Keep h0 T59.heap [] := K57.trans K59_ (allS (Or.inr sz_b56) all0)
  refine Go.st (S' := T59.setTop (mkF m 38 A55 [(.ref b56)])) st59 ?_
  let A63 : Array Slot := #[.val (.long q0), .second, .val (.long (-7046029254386353131 : Int64)), .second, .val (.ref b3), .val (.long v37), .second, .val (.long v51), .second, .val (.ref b56), .unset, .unset, .unset, .unset, .unset, .unset, .unset, .unset, .unset, .unset, .unset, .unset]
  refine Go.st (S' := T59.setTop (mkF m 40 A63 [])) (fun t k => XS.astore X59.here hx rfl (hb hby at_38) rfl rfl (l' := A63) rfl k) ?_
  refine Go.st (S' := T59.setTop (mkF m 42 A63 [(.ref b56)])) (fun t k => XS.aload X59.here hx rfl (hb hby at_40) rfl rfl k) ?_
  obtain ⟨r64, T64, L64, X64, hQ64, st64⟩ := own_callV (W := 0) (a := b56) (C := "com/example/tuneless/tuneless/space/RandomSource") X59 hx hZ rfl hown (y := (⟨"com/example/tuneless/tuneless/space/RandomSource", "nextLong", "()J"⟩ : MethodName)) (z := (⟨"com/example/tuneless/tuneless/space/RandomSource", "nextLong", "()J"⟩ : MethodName)) (hw _ (List.mem_of_getElem? (i := 12) rfl)) (hw _ (List.mem_of_getElem? (i := 13) rfl)) (notFace_of_selects (args := #[]) (mvT hZ (hw _ (List.mem_of_getElem? (i := 15) rfl)))) (hw _ (List.mem_of_getElem? (i := 15) rfl)) (hw _ (List.mem_of_getElem? (i := 14) rfl)) (hw _ (List.mem_of_getElem? (i := 3) rfl)) (hw _ (List.mem_of_getElem? (i := 16) rfl)) (by decide) (f60) (rm2 l Z a0 hw [] b56 v29 T59.heap n0 Z62 (f61) (f60) (g_b56)) (by decide) (by decide) (by decide) (by decide) (g := (mkF m 42 A63 [(.ref b56)])) rfl (by rw [hml]; rfl) (argsL := []) (rest := []) rfl (lenOf pd_1 rfl) rfl (by show 2 * 0 + _ ≤ _; exact Nat.le_of_eq rfl) (hb hby at_42)
  obtain ⟨v65, v66, v67, v68, v69, v70, v71, v72, v73, hv65, hv66, hv67, hv68, hv69, hv70, hv71, hv72, hv73, rfl, N64, K64_, f74, f75⟩ := hQ64
  have N64_ := Fr.app N59_ N64
  have Z76 : n0 ≤ T64.heap.size := Nat.le_trans Z62 K64_.1
  have K76 : Keep h0 T64.heap [] := K62.trans K64_ (allS (Or.inr sz_b56) all0)
  refine Go.st (S' := T64.setTop (mkF m 45 A63 [(.long v73)])) st64 ?_
  let A77 : Array Slot := #[.val (.long q0), .second, .val (.long (-7046029254386353131 : Int64)), .second, .val (.ref b3), .val (.long v37), .second, .val (.long v51), .second, .val (.ref b56), .val (.long v73), .second, .unset, .unset, .unset, .unset, .unset, .unset, .unset, .unset, .unset, .unset]
  refine Go.st (S' := T64.setTop (mkF m 47 A77 [])) (fun t k => XS.lstore X64.here hx rfl (hb hby at_45) rfl (l' := A77) rfl k) ?_
  obtain ⟨T78, h78, X78, e78, E78, A78, D78, -, st78⟩ := newO X64 hx hZ hown (hw _ (List.mem_of_getElem? (i := 1) rfl)) (hw _ (List.mem_of_getElem? (i := 2) rfl)) (hw _ (List.mem_of_getElem? (i := 3) rfl)) rfl (g := (mkF m 47 A77 [])) rfl (hb hby at_47) (by decide) (by decide)
  obtain ⟨b78, gg78⟩ : ∃ z, z = T64.heap.size := ⟨_, rfl⟩
  rw [← gg78] at A78 D78 st78
  have g_b78 : n0 ≤ b78 := Nat.le_trans Z76 (Nat.le_of_eq gg78.symm)
  have sz_b78 : h0.size ≤ b78 := Nat.le_trans K76.1 (Nat.le_of_eq gg78.symm)
  have f79 := ((((((f53).ext E56)).keep K59_)).keep K64_)
  have lt_b3_b78 : b3 < b78 := Nat.lt_of_lt_of_le (f79).lt (Nat.le_of_eq gg78.symm)
  have lt_b56_b78 : b56 < b78 := Nat.lt_of_lt_of_le (f75).lt (Nat.le_of_eq gg78.symm)
  have Z80 : n0 ≤ h78.size := Nat.le_trans Z76 E78.1
  have K80 : Keep h0 h78 [] := K76.ext E78
  have Fb78_state : Fld Z h78 b78 "com/example/tuneless/tuneless/space/RandomSource" "state" "J" (.long (0 : Int64)) := D78 (Or.inl (hw _ (List.mem_of_getElem? (i := 11) rfl))) (ty := .long) (by decide)
  refine Go.st (S' := T78.setTop (mkF m 50 A77 [(.ref b78)])) st78 ?_
  refine Go.st (S' := T78.setTop (mkF m 51 A77 [(.ref b78), (.ref b78)])) (fun t k => XS.dup X78.here hx rfl (hb hby at_50) rfl rfl k) ?_
  refine Go.st (S' := T78.setTop (mkF m 52 A77 [(.long (-7046029254386353131 : Int64)), (.ref b78), (.ref b78)])) (fun t k => XS.lloadN X78.here hx rfl (hb hby at_51) rfl k) ?_
  refine Go.op (F := fun z => T78.setTop (mkF m 53 A77 [(.long z), (.ref b78), (.ref b78)])) (x := (-(-7046029254386353131 : Int64))) (fun t k => XS.lneg X78.here hx rfl (hb hby at_52) rfl k) ?_
  intro v81 hv81
  obtain rfl : (7046029254386353131 : Int64) = v81 := (hv81.trans (by decide)).symm
  obtain ⟨r82, T82, L82, X82, hQ82, st82⟩ := own_callI (W := 1) (a := b78) X78 hx hZ e78 hown (y := (⟨"com/example/tuneless/tuneless/space/RandomSource", "<init>", "(J)V"⟩ : MethodName)) rfl (hw _ (List.mem_of_getElem? (i := 4) rfl)) (hw _ (List.mem_of_getElem? (i := 5) rfl)) (hw _ (List.mem_of_getElem? (i := 3) rfl)) (hw _ (List.mem_of_getElem? (i := 6) rfl)) (by decide) (rm1 l Z a0 hw [] b78 (7046029254386353131 : Int64) ((.long (0 : Int64))) h78 n0 Z80 (A78) (Fb78_state) (g_b78)) (by decide) (by decide) (by decide) (by decide) (g := (mkF m 53 A77 [(.long (7046029254386353131 : Int64)), (.ref b78), (.ref b78)])) rfl (by rw [hml]; rfl) (argsL := [(.long (7046029254386353131 : Int64))]) (rest := [(.ref b78)]) rfl (lenOf pd_0 rfl) rfl (by show 2 * 0 + _ ≤ _; exact Nat.le_of_eq rfl) (hb hby at_53)
  obtain ⟨rfl, N82, K82_, f83, f84⟩ := hQ82
  have N82_ := Fr.app N64_ N82
  have Z85 : n0 ≤ T82.heap.size := Nat.le_trans Z80 K82_.1
  have K85 : Keep h0 T82.heap [] := K80.trans K82_ (allS (Or.inr sz_b78) all0)
  refine Go.st (S' := T82.setTop (mkF m 56 A77 [(.ref b78)])) st82 ?_
  let A86 : Array Slot := #[.val (.long q0), .second, .val (.long (-7046029254386353131 : Int64)), .second, .val (.ref b3), .val (.long v37), .second, .val (.long v51), .second, .val (.ref b56), .val (.long v73), .second, .val (.ref b78), .unset, .unset, .unset, .unset, .unset, .unset, .unset, .unset, .unset]
  refine Go.st (S' := T82.setTop (mkF m 58 A86 [])) (fun t k => XS.astore X82.here hx rfl (hb hby at_56) rfl rfl (l' := A86) rfl k) ?_
  refine Go.st (S' := T82.setTop (mkF m 60 A86 [(.ref b78)])) (fun t k => XS.aload X82.here hx rfl (hb hby at_58) rfl rfl k) ?_
  obtain ⟨r87, T87, L87, X87, hQ87, st87⟩ := own_callV (W := 0) (a := b78) (C := "com/example/tuneless/tuneless/space/RandomSource") X82 hx hZ rfl hown (y := (⟨"com/example/tuneless/tuneless/space/RandomSource", "nextLong", "()J"⟩ : MethodName)) (z := (⟨"com/example/tuneless/tuneless/space/RandomSource", "nextLong", "()J"⟩ : MethodName)) (hw _ (List.mem_of_getElem? (i := 12) rfl)) (hw _ (List.mem_of_getElem? (i := 13) rfl)) (notFace_of_selects (args := #[]) (mvT hZ (hw _ (List.mem_of_getElem? (i := 15) rfl)))) (hw _ (List.mem_of_getElem? (i := 15) rfl)) (hw _ (List.mem_of_getElem? (i := 14) rfl)) (hw _ (List.mem_of_getElem? (i := 3) rfl)) (hw _ (List.mem_of_getElem? (i := 16) rfl)) (by decide) (f83) (rm2 l Z a0 hw [] b78 (7046029254386353131 : Int64) T82.heap n0 Z85 (f84) (f83) (g_b78)) (by decide) (by decide) (by decide) (by decide) (g := (mkF m 60 A86 [(.ref b78)])) rfl (by rw [hml]; rfl) (argsL := []) (rest := []) rfl (lenOf pd_1 rfl) rfl (by show 2 * 0 + _ ≤ _; exact Nat.le_of_eq rfl) (hb hby at_60)
  obtain ⟨v88, v89, v90, v91, v92, v93, v94, v95, v96, hv88, hv89, hv90, hv91, hv92, hv93, hv94, hv95, hv96, rfl, N87, K87_, f97, f98⟩ := hQ87
  have N87_ := Fr.app N82_ N87
  have Z99 : n0 ≤ T87.heap.size := Nat.le_trans Z85 K87_.1
  have K99 : Keep h0 T87.heap [] := K85.trans K87_ (allS (Or.inr sz_b78) all0)
  refine Go.st (S' := T87.setTop (mkF m 63 A86 [(.long v96)])) st87 ?_
  let A100 : Array Slot := #[.val (.long q0), .second, .val (.long (-7046029254386353131 : Int64)), .second, .val (.ref b3), .val (.long v37), .second, .val (.long v51), .second, .val (.ref b56), .val (.long v73), .second, .val (.ref b78), .val (.long v96), .second, .unset, .unset, .unset, .unset, .unset, .unset, .unset]
  refine Go.st (S' := T87.setTop (mkF m 65 A100 [])) (fun t k => XS.lstore X87.here hx rfl (hb hby at_63) rfl (l' := A100) rfl k) ?_
  obtain ⟨T101, h101, X101, e101, E101, A101, D101, -, st101⟩ := newO X87 hx hZ hown (hw _ (List.mem_of_getElem? (i := 1) rfl)) (hw _ (List.mem_of_getElem? (i := 2) rfl)) (hw _ (List.mem_of_getElem? (i := 3) rfl)) rfl (g := (mkF m 65 A100 [])) rfl (hb hby at_65) (by decide) (by decide)
  obtain ⟨b101, gg101⟩ : ∃ z, z = T87.heap.size := ⟨_, rfl⟩
  rw [← gg101] at A101 D101 st101
  have g_b101 : n0 ≤ b101 := Nat.le_trans Z99 (Nat.le_of_eq gg101.symm)
  have sz_b101 : h0.size ≤ b101 := Nat.le_trans K99.1 (Nat.le_of_eq gg101.symm)
  have f102 := ((((((f79).ext E78)).keep K82_)).keep K87_)
  have lt_b3_b101 : b3 < b101 := Nat.lt_of_lt_of_le (f102).lt (Nat.le_of_eq gg101.symm)
  have f103 := ((((((f75).ext E78)).keep K82_)).keep K87_)
  have lt_b56_b101 : b56 < b101 := Nat.lt_of_lt_of_le (f103).lt (Nat.le_of_eq gg101.symm)
  have lt_b78_b101 : b78 < b101 := Nat.lt_of_lt_of_le (f98).lt (Nat.le_of_eq gg101.symm)
  have Z104 : n0 ≤ h101.size := Nat.le_trans Z99 E101.1
  have K104 : Keep h0 h101 [] := K99.ext E101
  have Fb101_state : Fld Z h101 b101 "com/example/tuneless/tuneless/space/RandomSource" "state" "J" (.long (0 : Int64)) := D101 (Or.inl (hw _ (List.mem_of_getElem? (i := 11) rfl))) (ty := .long) (by decide)
  refine Go.st (S' := T101.setTop (mkF m 68 A100 [(.ref b101)])) st101 ?_
  refine Go.st (S' := T101.setTop (mkF m 69 A100 [(.ref b101), (.ref b101)])) (fun t k => XS.dup X101.here hx rfl (hb hby at_68) rfl rfl k) ?_
  refine Go.st (S' := T101.setTop (mkF m 70 A100 [(.long (0 : Int64)), (.ref b101), (.ref b101)])) (fun t k => XS.lconst X101.here hx rfl (hb hby at_69) k) ?_
  obtain ⟨r105, T105, L105, X105, hQ105, st105⟩ := own_callI (W := 1) (a := b101) X101 hx hZ e101 hown (y := (⟨"com/example/tuneless/tuneless/space/RandomSource", "<init>", "(J)V"⟩ : MethodName)) rfl (hw _ (List.mem_of_getElem? (i := 4) rfl)) (hw _ (List.mem_of_getElem? (i := 5) rfl)) (hw _ (List.mem_of_getElem? (i := 3) rfl)) (hw _ (List.mem_of_getElem? (i := 6) rfl)) (by decide) (rm1 l Z a0 hw [] b101 (0 : Int64) ((.long (0 : Int64))) h101 n0 Z104 (A101) (Fb101_state) (g_b101)) (by decide) (by decide) (by decide) (by decide) (g := (mkF m 70 A100 [(.long (0 : Int64)), (.ref b101), (.ref b101)])) rfl (by rw [hml]; rfl) (argsL := [(.long (0 : Int64))]) (rest := [(.ref b101)]) rfl (lenOf pd_0 rfl) rfl (by show 2 * 0 + _ ≤ _; exact Nat.le_of_eq rfl) (hb hby at_70)
  obtain ⟨rfl, N105, K105_, f106, f107⟩ := hQ105
  have N105_ := Fr.app N87_ N105
  have Z108 : n0 ≤ T105.heap.size := Nat.le_trans Z104 K105_.1
  have K108 : Keep h0 T105.heap [] := K104.trans K105_ (allS (Or.inr sz_b101) all0)
  refine Go.st (S' := T105.setTop (mkF m 73 A100 [(.ref b101)])) st105 ?_
  let A109 : Array Slot := #[.val (.long q0), .second, .val (.long (-7046029254386353131 : Int64)), .second, .val (.ref b3), .val (.long v37), .second, .val (.long v51), .second, .val (.ref b56), .val (.long v73), .second, .val (.ref b78), .val (.long v96), .second, .val (.ref b101), .unset, .unset, .unset, .unset, .unset, .unset]
  refine Go.st (S' := T105.setTop (mkF m 75 A109 [])) (fun t k => XS.astore X105.here hx rfl (hb hby at_73) rfl rfl (l' := A109) rfl k) ?_
  refine Go.st (S' := T105.setTop (mkF m 77 A109 [(.ref b101)])) (fun t k => XS.aload X105.here hx rfl (hb hby at_75) rfl rfl k) ?_
  obtain ⟨r110, T110, L110, X110, hQ110, st110⟩ := own_callV (W := 0) (a := b101) (C := "com/example/tuneless/tuneless/space/RandomSource") X105 hx hZ rfl hown (y := (⟨"com/example/tuneless/tuneless/space/RandomSource", "nextLong", "()J"⟩ : MethodName)) (z := (⟨"com/example/tuneless/tuneless/space/RandomSource", "nextLong", "()J"⟩ : MethodName)) (hw _ (List.mem_of_getElem? (i := 12) rfl)) (hw _ (List.mem_of_getElem? (i := 13) rfl)) (notFace_of_selects (args := #[]) (mvT hZ (hw _ (List.mem_of_getElem? (i := 15) rfl)))) (hw _ (List.mem_of_getElem? (i := 15) rfl)) (hw _ (List.mem_of_getElem? (i := 14) rfl)) (hw _ (List.mem_of_getElem? (i := 3) rfl)) (hw _ (List.mem_of_getElem? (i := 16) rfl)) (by decide) (f106) (rm2 l Z a0 hw [] b101 (0 : Int64) T105.heap n0 Z108 (f107) (f106) (g_b101)) (by decide) (by decide) (by decide) (by decide) (g := (mkF m 77 A109 [(.ref b101)])) rfl (by rw [hml]; rfl) (argsL := []) (rest := []) rfl (lenOf pd_1 rfl) rfl (by show 2 * 0 + _ ≤ _; exact Nat.le_of_eq rfl) (hb hby at_77)
  obtain ⟨v111, v112, v113, v114, v115, v116, v117, v118, v119, hv111, hv112, hv113, hv114, hv115, hv116, hv117, hv118, hv119, rfl, N110, K110_, f120, f121⟩ := hQ110
  have N110_ := Fr.app N105_ N110
  have Z122 : n0 ≤ T110.heap.size := Nat.le_trans Z108 K110_.1
  have K122 : Keep h0 T110.heap [] := K108.trans K110_ (allS (Or.inr sz_b101) all0)
  refine Go.st (S' := T110.setTop (mkF m 80 A109 [(.long v119)])) st110 ?_
  let A123 : Array Slot := #[.val (.long q0), .second, .val (.long (-7046029254386353131 : Int64)), .second, .val (.ref b3), .val (.long v37), .second, .val (.long v51), .second, .val (.ref b56), .val (.long v73), .second, .val (.ref b78), .val (.long v96), .second, .val (.ref b101), .val (.long v119), .second, .unset, .unset, .unset, .unset]
  refine Go.st (S' := T110.setTop (mkF m 82 A123 [])) (fun t k => XS.lstore X110.here hx rfl (hb hby at_80) rfl (l' := A123) rfl k) ?_
  refine Go.st (S' := T110.setTop (mkF m 84 A123 [(.long v51)])) (fun t k => XS.lload X110.here hx rfl (hb hby at_82) rfl k) ?_
  refine Go.st (S' := T110.setTop (mkF m 86 A123 [(.long v73), (.long v51)])) (fun t k => XS.lload X110.here hx rfl (hb hby at_84) rfl k) ?_
  refine Go.op (F := fun z => T110.setTop (mkF m 87 A123 [(.int z)])) (x := (lcmpW v51 v73)) (fun t k => XS.lcmp X110.here hx rfl (hb hby at_86) rfl k) ?_
  intro v124 hv124
  by_cases hc126 : (v51 = v73)
  · refine Go.st (S' := T110.setTop (mkF m 90 A123 [])) (fun t k => XS.ifNo X110.here hx rfl (hb hby at_87) rfl ((if0 _ _).trans (teq (by rw [hv124]; exact (lw_eq _ _).2 hc126)).2) k) ?_
    refine Go.st (S' := T110.setTop (mkF m 91 A123 [(.int (1 : Int32))])) (fun t k => XS.iconst X110.here hx rfl (hb hby at_90) k) ?_
    refine Go.st (S' := T110.setTop (mkF m 95 A123 [(.int (1 : Int32))])) (fun t k => XS.goto X110.here hx rfl (pc0 := 91) (pc' := 95) rfl (hb hby at_91) (by decide) (by decide) k) ?_
    let A127 : Array Slot := #[.val (.long q0), .second, .val (.long (-7046029254386353131 : Int64)), .second, .val (.ref b3), .val (.long v37), .second, .val (.long v51), .second, .val (.ref b56), .val (.long v73), .second, .val (.ref b78), .val (.long v96), .second, .val (.ref b101), .val (.long v119), .second, .val (.int (1 : Int32)), .unset, .unset, .unset]
    refine Go.st (S' := T110.setTop (mkF m 97 A127 [])) (fun t k => XS.istore X110.here hx rfl (hb hby at_95) rfl (l' := A127) rfl k) ?_
    refine Go.st (S' := T110.setTop (mkF m 99 A127 [(.long v37)])) (fun t k => XS.lload X110.here hx rfl (hb hby at_97) rfl k) ?_
    refine Go.st (S' := T110.setTop (mkF m 101 A127 [(.long v51), (.long v37)])) (fun t k => XS.lload X110.here hx rfl (hb hby at_99) rfl k) ?_
    refine Go.op (F := fun z => T110.setTop (mkF m 102 A127 [(.int z)])) (x := (lcmpW v37 v51)) (fun t k => XS.lcmp X110.here hx rfl (hb hby at_101) rfl k) ?_
    intro v128 hv128
    by_cases hc132 : (v37 = v51)
    · exfalso
      have em133 : v37 = mixL v29 := by simp only [mixL, xsL, hv30, hv31, hv32, hv33, hv34, hv35, hv36, hv37]
      have em134 : v51 = mixL v43 := by simp only [mixL, xsL, hv44, hv45, hv46, hv47, hv48, hv49, hv50, hv51]
      exact gam_ne hv43 (mix_inj (em133.symm.trans (hc132.trans em134)))
    · refine Go.st (S' := T110.setTop (mkF m 105 A127 [])) (fun t k => XS.ifNo X110.here hx rfl (hb hby at_102) rfl ((if0 _ _).trans (feq (by rw [hv128]; exact fun z => hc132 ((lw_eq _ _).1 z))).1) k) ?_
      refine Go.st (S' := T110.setTop (mkF m 106 A127 [(.int (1 : Int32))])) (fun t k => XS.iconst X110.here hx rfl (hb hby at_105) k) ?_
      refine Go.st (S' := T110.setTop (mkF m 110 A127 [(.int (1 : Int32))])) (fun t k => XS.goto X110.here hx rfl (pc0 := 106) (pc' := 110) rfl (hb hby at_106) (by decide) (by decide) k) ?_
      let A135 : Array Slot := #[.val (.long q0), .second, .val (.long (-7046029254386353131 : Int64)), .second, .val (.ref b3), .val (.long v37), .second, .val (.long v51), .second, .val (.ref b56), .val (.long v73), .second, .val (.ref b78), .val (.long v96), .second, .val (.ref b101), .val (.long v119), .second, .val (.int (1 : Int32)), .val (.int (1 : Int32)), .unset, .unset]
      refine Go.st (S' := T110.setTop (mkF m 112 A135 [])) (fun t k => XS.istore X110.here hx rfl (hb hby at_110) rfl (l' := A135) rfl k) ?_
      refine Go.st (S' := T110.setTop (mkF m 114 A135 [(.long v96)])) (fun t k => XS.lload X110.here hx rfl (hb hby at_112) rfl k) ?_
      refine Go.st (S' := T110.setTop (mkF m 115 A135 [(.long (0 : Int64)), (.long v96)])) (fun t k => XS.lconst X110.here hx rfl (hb hby at_114) k) ?_
      refine Go.op (F := fun z => T110.setTop (mkF m 116 A135 [(.int z)])) (x := (lcmpW v96 (0 : Int64))) (fun t k => XS.lcmp X110.here hx rfl (hb hby at_115) rfl k) ?_
      intro v136 hv136
      by_cases hc138 : (v96 = (0 : Int64))
      · refine Go.st (S' := T110.setTop (mkF m 119 A135 [])) (fun t k => XS.ifNo X110.here hx rfl (hb hby at_116) rfl ((if0 _ _).trans (teq (by rw [hv136]; exact (lw_eq _ _).2 hc138)).2) k) ?_
        refine Go.st (S' := T110.setTop (mkF m 120 A135 [(.int (1 : Int32))])) (fun t k => XS.iconst X110.here hx rfl (hb hby at_119) k) ?_
        refine Go.st (S' := T110.setTop (mkF m 124 A135 [(.int (1 : Int32))])) (fun t k => XS.goto X110.here hx rfl (pc0 := 120) (pc' := 124) rfl (hb hby at_120) (by decide) (by decide) k) ?_
        let A139 : Array Slot := #[.val (.long q0), .second, .val (.long (-7046029254386353131 : Int64)), .second, .val (.ref b3), .val (.long v37), .second, .val (.long v51), .second, .val (.ref b56), .val (.long v73), .second, .val (.ref b78), .val (.long v96), .second, .val (.ref b101), .val (.long v119), .second, .val (.int (1 : Int32)), .val (.int (1 : Int32)), .val (.int (1 : Int32)), .unset]
        refine Go.st (S' := T110.setTop (mkF m 126 A139 [])) (fun t k => XS.istore X110.here hx rfl (hb hby at_124) rfl (l' := A139) rfl k) ?_
        refine Go.st (S' := T110.setTop (mkF m 128 A139 [(.long v119)])) (fun t k => XS.lload X110.here hx rfl (hb hby at_126) rfl k) ?_
        refine Go.st (S' := T110.setTop (mkF m 131 A139 [(.long (-2152535657050944081 : Int64)), (.long v119)])) (fun t k => X110.ldc2Long hx hown (mvT hZ (hw _ (List.mem_of_getElem? (i := 20) rfl))) (g := (mkF m 128 A139 [(.long v119)])) rfl (hb hby at_128) t k) ?_
        refine Go.op (F := fun z => T110.setTop (mkF m 132 A139 [(.int z)])) (x := (lcmpW v119 (-2152535657050944081 : Int64))) (fun t k => XS.lcmp X110.here hx rfl (hb hby at_131) rfl k) ?_
        intro v140 hv140
        by_cases hc142 : (v119 = (-2152535657050944081 : Int64))
        · refine Go.st (S' := T110.setTop (mkF m 135 A139 [])) (fun t k => XS.ifNo X110.here hx rfl (hb hby at_132) rfl ((if0 _ _).trans (teq (by rw [hv140]; exact (lw_eq _ _).2 hc142)).2) k) ?_
          refine Go.st (S' := T110.setTop (mkF m 136 A139 [(.int (1 : Int32))])) (fun t k => XS.iconst X110.here hx rfl (hb hby at_135) k) ?_
          refine Go.st (S' := T110.setTop (mkF m 140 A139 [(.int (1 : Int32))])) (fun t k => XS.goto X110.here hx rfl (pc0 := 136) (pc' := 140) rfl (hb hby at_136) (by decide) (by decide) k) ?_
          let A143 : Array Slot := #[.val (.long q0), .second, .val (.long (-7046029254386353131 : Int64)), .second, .val (.ref b3), .val (.long v37), .second, .val (.long v51), .second, .val (.ref b56), .val (.long v73), .second, .val (.ref b78), .val (.long v96), .second, .val (.ref b101), .val (.long v119), .second, .val (.int (1 : Int32)), .val (.int (1 : Int32)), .val (.int (1 : Int32)), .val (.int (1 : Int32))]
          refine Go.st (S' := T110.setTop (mkF m 142 A143 [])) (fun t k => XS.istore X110.here hx rfl (hb hby at_140) rfl (l' := A143) rfl k) ?_
          refine Go.st (S' := T110.setTop (mkF m 144 A143 [(.int (1 : Int32))])) (fun t k => XS.iload X110.here hx rfl (hb hby at_142) rfl k) ?_
          refine Go.st (S' := T110.setTop (mkF m 147 A143 [])) (fun t k => XS.ifNo X110.here hx rfl (hb hby at_144) rfl ((if0 _ _).trans (feq (by decide : (¬ ((1 : Int32) = (0 : Int32))))).1) k) ?_
          refine Go.st (S' := T110.setTop (mkF m 149 A143 [(.int (1 : Int32))])) (fun t k => XS.iload X110.here hx rfl (hb hby at_147) rfl k) ?_
          refine Go.st (S' := T110.setTop (mkF m 152 A143 [])) (fun t k => XS.ifNo X110.here hx rfl (hb hby at_149) rfl ((if0 _ _).trans (feq (by decide : (¬ ((1 : Int32) = (0 : Int32))))).1) k) ?_
          refine Go.st (S' := T110.setTop (mkF m 154 A143 [(.int (1 : Int32))])) (fun t k => XS.iload X110.here hx rfl (hb hby at_152) rfl k) ?_
          refine Go.st (S' := T110.setTop (mkF m 157 A143 [])) (fun t k => XS.ifNo X110.here hx rfl (hb hby at_154) rfl ((if0 _ _).trans (feq (by decide : (¬ ((1 : Int32) = (0 : Int32))))).1) k) ?_
          refine Go.st (S' := T110.setTop (mkF m 159 A143 [(.int (1 : Int32))])) (fun t k => XS.iload X110.here hx rfl (hb hby at_157) rfl k) ?_
          refine Go.st (S' := T110.setTop (mkF m 162 A143 [])) (fun t k => XS.ifNo X110.here hx rfl (hb hby at_159) rfl ((if0 _ _).trans (feq (by decide : (¬ ((1 : Int32) = (0 : Int32))))).1) k) ?_
          refine Go.st (S' := T110.setTop (mkF m 163 A143 [(.int (1 : Int32))])) (fun t k => XS.iconst X110.here hx rfl (hb hby at_162) k) ?_
          refine Go.st (S' := T110.setTop (mkF m 167 A143 [(.int (1 : Int32))])) (fun t k => XS.goto X110.here hx rfl (pc0 := 163) (pc' := 167) rfl (hb hby at_163) (by decide) (by decide) k) ?_
          exact Go.ret X110 (v := some (.int (1 : Int32))) (fun h => by rw [Bd.returns] at h; cases h) Bd.notSynchronized (fun fs hr => retN X110 hx (t := .boolean) Bd.returns (by simp) (hb hby at_167) hr) (by decide) (by decide) ⟨rfl, N110_⟩
        · exfalso
          exact hc142 (by simp only [hv111, hv112, hv113, hv114, hv115, hv116, hv117, hv118, hv119] <;> decide +kernel)
      · exfalso
        exact hc138 (by simp only [hv88, hv89, hv90, hv91, hv92, hv93, hv94, hv95, hv96] <;> decide +kernel)
  · exfalso
    exact hc126 (by simp only [hv29, hv43, hv44, hv45, hv46, hv47, hv48, hv49, hv50, hv51, hv65, hv66, hv67, hv68, hv69, hv70, hv71, hv72, hv73] <;> decide +kernel)
set_option maxRecDepth 65536 in
set_option maxHeartbeats 40000000 in
theorem comes_1 {Post : Tables → Env → Array Value → State → Outcome → State → Prop} (hpost : ∀ tb e args s v u, (limb_1_1.after args s (.returned v) u = true ∧ limb_1_2.after args s (.returned v) u = true ∧ True) → FrameEnd s (.returned v) u (Jvm.fieldLocs frame_1_writes args s ++ Jvm.arrayLocs frame_1_arrays args s ++ Jvm.staticLocs frame_1_statics s) 16 128 → Post tb e args s (.returned v) u) :
    ArmFor flags0 classFile x code maxLocals ret World_1 tables_1 room_1 Calls_1 rest_1 Pre_1 Post := by
  intro l hfl _ _ p e ha hc hk s m args below hf hA hF happ hP
  obtain ⟨hcalls, hrest, hpre⟩ := hP
  obtain ⟨-, -, -, hnamed, -, -, -, hat⟩ := (Spec.applies_iff hf).mp happ
  obtain ⟨hg, hn⟩ := and_e (Cond.before_iff.mp (show (Jvm.Cond.and given_1 narrow_1).before args s = true from hpre))
  obtain ⟨h1, h2⟩ := and_e hg
  obtain ⟨w0, rfl⟩ : ∃ w0 : Value, args = #[w0] := by
    have hs : args.size = 1 := by simpa [Cond.value, given_1] using h1
    obtain ⟨L⟩ := args
    match L, hs with
    | [w0], _ => exact ⟨w0, rfl⟩
  have hw := fun d (hd : d ∈ tables_1) => atoms_spec (ws := Jvm.Cond.code x code maxLocals ret :: tables_1) hat d (List.mem_cons_of_mem _ hd)
  have hfit : Fit s := fun {y c} hc i hi => by
    obtain ⟨ha, rfl⟩ := Array.getElem?_eq_some_iff.mp hc
    have q := List.all_eq_true.mp ((Array.all_eq_true_iff_forall_mem.mp hF) _ (Array.getElem_mem ha)) i (List.mem_range.mpr hi)
    simpa [Array.getElem?_eq_getElem hi] using q
  obtain ⟨i0, ee0⟩ := isL_v h2
  obtain rfl : w0 = (.long i0) := Option.some.inj ee0
  obtain ⟨n, o, h1, h2, h3, _, L, rfl, ⟨rfl, N⟩, hq⟩ := rm3 l s _ hw tables_1 i0 s.heap s.heap.size (Nat.le_refl _)  p e ha hc hk s m _ below hf ((Spec.applies_iff_loose hf).mp happ).1 ⟨rfl, State.Warmed39.refl s, rfl⟩ trivial
  refine ⟨n, _, h1, h2, h3, hpost _ _ _ _ _ _ ⟨Cond.after_iff.mpr rfl, Cond.after_iff.mpr (eq_i res_at (Term.int_eval (1)) rfl), trivial⟩ ⟨hq.1, hq.2.1, (hq.2.2.sift fun y hy => Or.inr (N y hy)).mono (by decide) (by decide)⟩⟩
theorem main_1_1 : Claimed_1_1 := comes_1 fun _ _ _ _ _ _ h hF => ⟨h.1, hF⟩
theorem main_1_2 : Claimed_1_2 := comes_1 fun _ _ _ _ _ _ h hF => ⟨h.2.1, hF⟩
end Jvm.Pilot.@@N@@
namespace Jvm.Pilot.@@N@@
open Jvm Jvm.ClassFile Sem Op Lib Jvm.Free Jvm.Stand Jvm.Pilot.@@N@@.Jvm.D
/-! MADE BY PROGRAM (witnessworld.py) out of the Statement's table words and the real class files: 9 classes; the members and pool entries that the words name. The judged class is class 1, her method 1. -/
namespace start1
open Jvm.ClassFile
def u (s : String) : CpInfo := .utf8 (stringToUtf16 s)
/-- a pool by its gaps: so many unusable entries, then the entry; so many at the end -/
def gap : Nat → List CpInfo → List CpInfo
  | 0, r => r
  | n + 1, r => .unusable :: gap n r
def poolList (es : List (Nat × CpInfo)) (last : Nat) : List CpInfo := es.foldr (fun e r => gap e.1 (e.2 :: r)) (gap last [])
def pool (es : List (Nat × CpInfo)) (last : Nat) : Array CpInfo := ⟨poolList es last⟩
def fileOf (pool : Array CpInfo) (this : Nat) (attrs : Array Attribute := #[]) (ms : Array MethodInfo := #[]) (fl : Nat := 33) (sup : Nat := 0) (ifs : Array Nat := #[]) (fds : Array FieldInfo := #[]) : ClassFile where
  minorVersion := 0
  majorVersion := 65
  constantPool := pool
  accessFlags := fl
  thisClass := this
  superClass := sup
  interfaces := ifs
  fields := fds
  methods := ms
  attributes := attrs
def plain (name : String) (sup : Option ClassId) : Class where
  name := name
  kind := .ordinary
  loader := none
  accessFlags := 33
  super := sup
  interfaces := #[]
  cf := none
  fields := #[]
  methods := #[]
  instanceTypes := #[]
  staticTypes := #[]
  resolved := #[]
  callSites := []
  init := .initialized
  statics := none
  mirror := none

def pool0 : Array CpInfo := pool [(5, u "<init>"), (0, u "()V"), (1, .class_ 10), (1, u "java/lang/Object")] 113

def k0c0 : Code := { maxStack := 0, maxLocals := 1, code := object_method_1_code, exceptionTable := #[], attributes := #[] }
def k0m0 : Method := { name := "<init>", desc := "()V", sig := { parameters := [], returnType := none }, accessFlags := 1, code := some k0c0 }
/-- java/lang/Object -/
def k0 : Class := { plain "java/lang/Object" none with
  accessFlags := 33
  interfaces := #[]
  cf := some (fileOf pool0 8 #[] #[{ accessFlags := 1, nameIndex := 5, descriptorIndex := 6, attributes := #[] }] 33 0 #[] #[])
  fields := #[]
  methods := #[k0m0]
  instanceTypes := #[]
  staticTypes := #[]
  resolved := Array.replicate 124 none
  statics := none }

def pool1 : Array CpInfo := pool [(2, .class_ 4), (1, u "java/lang/Object"), (0, u "<init>"), (0, u "()V"), (0, .long 11400714819323198485), (1, .class_ 10), (0, u "com/example/tuneless/tuneless/space/RandomSource"), (0, .methodref 9 12), (0, .nameAndType 5 13), (0, u "(J)V"), (0, .methodref 9 15), (0, .nameAndType 16 17), (0, u "nextLong"), (0, u "()J"), (0, .long 16294208416658607535), (1, .class_ 21), (0, u "com/example/tuneless/tuneless/space/RandomSourceNextLongPinLaw"), (2, u "law"), (0, u "(J)Z")] 3

def k1m0 : Method := { name := "<init>", desc := "()V", sig := { parameters := [], returnType := none }, accessFlags := 2, code := none }
def k1c1 : Code := { maxStack := 6, maxLocals := 22, code := code, exceptionTable := #[], attributes := #[] }
def k1m1 : Method := { name := "law", desc := "(J)Z", sig := { parameters := [.long], returnType := some .boolean }, accessFlags := 9, code := some k1c1 }
/-- com/example/tuneless/tuneless/space/RandomSourceNextLongPinLaw -/
def k1 : Class := { plain "com/example/tuneless/tuneless/space/RandomSourceNextLongPinLaw" (some 0) with
  accessFlags := 49
  interfaces := #[]
  cf := some (fileOf pool1 20 #[] #[{ accessFlags := 2, nameIndex := 5, descriptorIndex := 6, attributes := #[] }, { accessFlags := 9, nameIndex := 24, descriptorIndex := 25, attributes := #[] }] 49 2 #[] #[])
  fields := #[]
  methods := #[k1m0, k1m1]
  instanceTypes := #[]
  staticTypes := #[]
  resolved := Array.replicate 29 none
  statics := none }

def pool2 : Array CpInfo := pool [(1, .methodref 2 3), (0, .class_ 4), (0, .nameAndType 5 6), (0, u "java/lang/Object"), (0, u "<init>"), (0, u "()V"), (0, .fieldref 8 9), (0, .class_ 10), (0, .nameAndType 11 12), (0, u "com/example/tuneless/tuneless/space/RandomSource"), (0, u "state"), (0, u "J"), (0, .long 11400714819323198485), (1, .long 13787848793156543929), (1, .long 10723151780598845931), (3, u "nextLong"), (0, u "()J"), (4, u "hasSpareGaussian"), (0, u "Z"), (2, u "spareGaussian"), (0, u "D"), (35, u "GAMMA"), (1, u "TWO_TO_THE_32"), (0, u "(J)V")] 29

def k2c0 : Code := { maxStack := 3, maxLocals := 3, code := prog_71_method_1_code, exceptionTable := #[], attributes := #[] }
def k2m0 : Method := { name := "<init>", desc := "(J)V", sig := { parameters := [.long], returnType := none }, accessFlags := 1, code := some k2c0 }
def k2c1 : Code := { maxStack := 5, maxLocals := 3, code := prog_71_method_2_code, exceptionTable := #[], attributes := #[] }
def k2m1 : Method := { name := "nextLong", desc := "()J", sig := { parameters := [], returnType := some .long }, accessFlags := 1, code := some k2c1 }
/-- com/example/tuneless/tuneless/space/RandomSource -/
def k2 : Class := { plain "com/example/tuneless/tuneless/space/RandomSource" (some 0) with
  accessFlags := 49
  interfaces := #[]
  cf := some (fileOf pool2 8 #[] #[{ accessFlags := 1, nameIndex := 5, descriptorIndex := 71, attributes := #[] }, { accessFlags := 1, nameIndex := 21, descriptorIndex := 22, attributes := #[] }] 49 2 #[] #[{ accessFlags := 26, nameIndex := 68, descriptorIndex := 12, attributes := #[] }, { accessFlags := 26, nameIndex := 70, descriptorIndex := 12, attributes := #[] }, { accessFlags := 2, nameIndex := 11, descriptorIndex := 12, attributes := #[] }, { accessFlags := 2, nameIndex := 31, descriptorIndex := 32, attributes := #[] }, { accessFlags := 2, nameIndex := 27, descriptorIndex := 28, attributes := #[] }])
  fields := #[{ name := "GAMMA", type := .long, accessFlags := 26, slot := 0, constantValue := 0 }, { name := "TWO_TO_THE_32", type := .long, accessFlags := 26, slot := 1, constantValue := 0 }, { name := "state", type := .long, accessFlags := 2, slot := 0, constantValue := 0 }, { name := "spareGaussian", type := .double, accessFlags := 2, slot := 1, constantValue := 0 }, { name := "hasSpareGaussian", type := .boolean, accessFlags := 2, slot := 2, constantValue := 0 }]
  methods := #[k2m0, k2m1]
  instanceTypes := #[.long, .double, .boolean]
  staticTypes := #[.long, .long]
  resolved := Array.replicate 101 none
  statics := none }

def pool3 : Array CpInfo := pool [(1, u "java/lang/Cloneable"), (0, .class_ 1), (0, u "java/lang/Object"), (0, .class_ 3)] 3

/-- java/lang/Cloneable -/
def k3 : Class := { plain "java/lang/Cloneable" (some 0) with
  accessFlags := 1537
  interfaces := #[]
  cf := some (fileOf pool3 2 #[] #[] 1537 4 #[] #[])
  fields := #[]
  methods := #[]
  instanceTypes := #[]
  staticTypes := #[]
  resolved := Array.replicate 8 none
  statics := none }

def pool4 : Array CpInfo := pool [(1, u "java/io/Serializable"), (0, .class_ 1), (0, u "java/lang/Object"), (0, .class_ 3)] 3

/-- java/io/Serializable -/
def k4 : Class := { plain "java/io/Serializable" (some 0) with
  accessFlags := 1537
  interfaces := #[]
  cf := some (fileOf pool4 2 #[] #[] 1537 4 #[] #[])
  fields := #[]
  methods := #[]
  instanceTypes := #[]
  staticTypes := #[]
  resolved := Array.replicate 8 none
  statics := none }

/-- the primitive byte -/
def k5 : Class := { plain "byte" none with kind := .primitive 'B', accessFlags := 0x411 }
/-- [B -/
def k6 : Class := { plain "[B" (some 0) with kind := .array 5 .byte, interfaces := #[3, 4], accessFlags := 1041 }

/-- the primitive int -/
def k7 : Class := { plain "int" none with kind := .primitive 'I', accessFlags := 0x411 }
/-- [I -/
def k8 : Class := { plain "[I" (some 0) with kind := .array 7 .int, interfaces := #[3, 4], accessFlags := 1041 }

def heap : Heap := #[]
def classes : Array Class := #[k0, k1, k2, k3, k4, k5, k6, k7, k8]
def interned : List (Array UInt16 × Addr) := []
def slotsUsed : Nat := 0
def theMethod : MethodId := ⟨1, 1⟩
def args0 : Array Value := #[.long 5]
def aboutOver (below : List Frame) : State where
  vm := { classes := classes, interned := interned.toArray }
  heap := heap
  slotsUsed := slotsUsed
  threads := #[{ frames := .invoking theMethod args0 :: below }]
def below0 : List Frame := [.native { method := ⟨0, 0⟩, args := #[] }]
def about1 : State := aboutOver below0
def p0 : Program := .bare "" "" ""
def e0 : Env := launch0.env 0 0 0
theorem w_frames : about1.frames = Frame.invoking theMethod args0 :: below0 := rfl
set_option maxRecDepth 65536 in
theorem w_args : argsFit about1.vm theMethod args0 = true := by decide +kernel
set_option maxRecDepth 65536 in
theorem w_heap : heapFits about1 = true := by decide +kernel
set_option maxRecDepth 65536 in
theorem w_runnable : about1.curStatus? = some .runnable := by decide +kernel
set_option maxRecDepth 65536 in
theorem w_alone : about1.alone = true := by decide +kernel
set_option maxRecDepth 65536 in
theorem w_named : about1.methodNamed? x = some theMethod := by decide +kernel
set_option maxRecDepth 65536 in
theorem w_hears : about1.hears theMethod below0 = true := by decide +kernel
set_option maxRecDepth 65536 in
theorem w_ripe : about1.ripe theMethod args0 below0 = true := by decide +kernel
theorem w_running : about1.status = .running := rfl
set_option maxRecDepth 65536 in
theorem w_room : about1.hasRoom e0.platform room_1 = true :=
  launch0.hasRoom_least _ room_1 (by decide +kernel) (by decide +kernel) (by decide +kernel) (by decide +kernel) (by decide +kernel) (by decide +kernel)
theorem allAtoms_all (ts : List Jvm.Cond) (a : Array Jvm.Value) (st : Jvm.State) : (allAtoms ts).before a st = ts.all (fun c => c.before a st) := by
  induction ts with
  | nil => rfl
  | cons c t ih =>
    show (Jvm.Cond.and c (allAtoms t)).before a st = _
    rw [Jvm.Cond.before_and, ih, List.all_cons]
def words1 : List Jvm.Cond := Jvm.Cond.code x code maxLocals ret :: tables_1
/-- a 'code' word, met by the world's own term for the bytes: nothing is compared byte by byte -/
theorem code_word {y : MethodName} {bytes : ByteArray} {mx : Nat} {rt : Option FieldType} {a : Array Value} {s : State} {m : MethodId} {meth : Method} {c : Code} (h1 : s.methodNamed? y = some m) (h2 : s.vm.method? m = some meth) (h3 : meth.code = some c) (h4 : c.code = bytes)
    (h5 : (c.maxLocals == mx && c.exceptionTable.isEmpty && decide (c.maxStack ≤ mostOperands) && decide (meth.sig.returnType = rt) && !meth.locks && decide (parseMethodDescriptor y.desc = some meth.sig)) = true) : (Jvm.Cond.code y bytes mx rt).before a s = true := by
  simp only [Bool.and_eq_true, beq_iff_eq, Bool.not_eq_true', decide_eq_true_eq] at h5
  obtain ⟨⟨⟨⟨⟨g1, g2⟩, g3⟩, g4⟩, g5⟩, g6⟩ := h5
  simp [Cond.before, Cond.holds, Cond.value, h1, h2, h3, h4, g1, g2, g3, g4, g5, g6]
def isCode : Jvm.Cond → Bool
  | .code _ _ _ _ => true
  | _ => false
theorem all_split {L : List Jvm.Cond} {P : Jvm.Cond → Bool} (h1 : L.all (fun c => isCode c || P c) = true) (h2 : ∀ c ∈ L.filter isCode, P c = true) : L.all P = true := by
  refine List.all_eq_true.mpr fun c hc => ?_
  have h := List.all_eq_true.mp h1 c hc
  rcases Bool.eq_false_or_eq_true (isCode c) with hi | hi
  · exact h2 c (List.mem_filter.mpr ⟨hc, hi⟩)
  · simpa [hi] using h
set_option maxRecDepth 65536 in
theorem w_c0 : (Jvm.Cond.code x code maxLocals ret).before args0 about1 = true := code_word (m := ⟨1, 1⟩) (meth := k1m1) (c := k1c1) (by decide +kernel) rfl rfl rfl (by decide +kernel)
set_option maxRecDepth 65536 in
theorem w_c1 : (Jvm.Cond.code ({ cls := "com/example/tuneless/tuneless/space/RandomSource", name := "<init>", desc := "(J)V" } : Jvm.MethodName) prog_71_method_1_code (3 : Nat) (Option.none : Option Jvm.ClassFile.FieldType)).before args0 about1 = true := code_word (m := ⟨2, 0⟩) (meth := k2m0) (c := k2c0) (by decide +kernel) rfl rfl rfl (by decide +kernel)
set_option maxRecDepth 65536 in
theorem w_c2 : (Jvm.Cond.code ({ cls := "java/lang/Object", name := "<init>", desc := "()V" } : Jvm.MethodName) object_method_1_code (1 : Nat) (Option.none : Option Jvm.ClassFile.FieldType)).before args0 about1 = true := code_word (m := ⟨0, 0⟩) (meth := k0m0) (c := k0c0) (by decide +kernel) rfl rfl rfl (by decide +kernel)
set_option maxRecDepth 65536 in
theorem w_c3 : (Jvm.Cond.code ({ cls := "com/example/tuneless/tuneless/space/RandomSource", name := "nextLong", desc := "()J" } : Jvm.MethodName) prog_71_method_2_code (3 : Nat) (Option.some Jvm.ClassFile.FieldType.long)).before args0 about1 = true := code_word (m := ⟨2, 1⟩) (meth := k2m1) (c := k2c1) (by decide +kernel) rfl rfl rfl (by decide +kernel)
def codes1 : List Jvm.Cond := [Jvm.Cond.code x code maxLocals ret, Jvm.Cond.code ({ cls := "com/example/tuneless/tuneless/space/RandomSource", name := "<init>", desc := "(J)V" } : Jvm.MethodName) prog_71_method_1_code (3 : Nat) (Option.none : Option Jvm.ClassFile.FieldType), Jvm.Cond.code ({ cls := "java/lang/Object", name := "<init>", desc := "()V" } : Jvm.MethodName) object_method_1_code (1 : Nat) (Option.none : Option Jvm.ClassFile.FieldType), Jvm.Cond.code ({ cls := "com/example/tuneless/tuneless/space/RandomSource", name := "nextLong", desc := "()J" } : Jvm.MethodName) prog_71_method_2_code (3 : Nat) (Option.some Jvm.ClassFile.FieldType.long)]
set_option maxRecDepth 65536 in
theorem codes_eq : words1.filter isCode = codes1 := rfl
theorem w_codes : ∀ c ∈ words1.filter isCode, c.before args0 about1 = true := by
  rw [codes_eq]
  intro c hc
  simp only [codes1, List.mem_cons, List.not_mem_nil, or_false] at hc
  rcases hc with rfl | rfl | rfl | rfl
  · exact w_c0
  · exact w_c1
  · exact w_c2
  · exact w_c3
set_option maxRecDepth 65536 in
theorem w_t1 : words1.all (fun c => isCode c || c.before args0 about1) = true := by decide +kernel
theorem w_tables : (allAtoms (Jvm.Cond.code x code maxLocals ret :: tables_1)).before args0 about1 = true := by
  rw [allAtoms_all]
  show words1.all (fun c => c.before args0 about1) = true
  refine all_split ?_ w_codes
  rw [w_t1]
set_option maxRecDepth 65536 in
theorem w_case : (Jvm.Cond.and given_1 narrow_1).before args0 about1 = true := by decide +kernel
theorem w_applies : (headSpec (Jvm.Cond.code x code maxLocals ret :: tables_1) room_1).applies x e0.platform about1 = true :=
  (Spec.applies_iff w_frames).mpr ⟨w_running, w_runnable, w_alone, w_named, w_hears, w_ripe, w_room, w_tables⟩
theorem atStart : AtStart classFile x code maxLocals ret World_1 tables_1 room_1 Calls_1 rest_1 Pre_1 launch0 p0 e0 about1 theMethod args0 below0 :=
  ⟨lists_1, trivial, launch0.admits_env _ _ _, launch0.least_env, fairChoices_fair.cas, fairChoices_fair.clock, w_frames, w_args, w_heap, w_applies, trivial, trivial, w_case⟩
end start1
theorem witness_1 : WitnessClaimed_1 := ⟨start1.p0, start1.e0, start1.about1, start1.theMethod, start1.args0, start1.below0, start1.atStart⟩
end Jvm.Pilot.@@N@@
