import JvmDerived
import JvmDerived.Pilot.@@N@@Statement
import JvmDerived.Pilot.@@N@@Code
set_option linter.unusedVariables false
set_option linter.unusedSimpArgs false
namespace Jvm.RoadKit
open Sem ClassFile Op Lib Jvm.Stand Jvm.Free Jvm.LawKit
section New
variable {p : Program} {l : Launch} {e : Env} {R : Room} {s : State} {m : MethodId} {args : Array Value} {below : List Frame} {meth : Method} {c : Code} {T : State} {locs : List Loc} {cells slots : Nat}
theorem retI (X : Stand p l e R s m args below meth c T locs cells slots) (hx : p.tables.exec = Jvm.exec) {pc : Nat} {Ls : Array Slot} {z : Int32} {rest : List Value} (hret : meth.sig.returnType = some .int) (hd : decode c.code pc = .ok (.ireturn, 1)) {fs : List Frame}
    (hl : ∀ (f : JFrame) (acts : List Action), f.method = m → f.locked = none → f.entered = [] → (doReturn e (T.setTop f) acts (some (.int z))).1 = T.setFrames fs) : Steps p.tables e below (T.setTop (mkF m pc Ls (.int z :: rest))) (T.setFrames fs) := retOut X hx hret rfl (Or.inl ⟨rfl, Or.inl rfl, _, rfl⟩) hd hl
end New
end Jvm.RoadKit
namespace Jvm.Pilot.@@N@@
open Jvm Jvm.ClassFile Sem Op Lib Jvm.Free Jvm.Stand Jvm.LawKit Jvm.RoadKit Bundle Jvm.Pilot.@@N@@.Jvm.D
section OwnKit
variable {p : Program} {l : Launch} {e : Env} {R : Room} {s : State} {m : MethodId} {args : Array Value} {below : List Frame} {meth : Method} {c : Code} {T : State} {locs : List Loc} {cells slots : Nat} {Z : State} {a0 : Array Value} {h : Heap}
def Go (p : Program) (e : Env) (below : List Frame) (Q : Outcome → State → Prop) (S : State) : Prop := ∃ s₂ o, Steps p.tables e below S s₂ ∧ s₂.status = .running ∧ Ended s₂ below o ∧ Q o s₂
theorem Go.of {Q : Outcome → State → Prop} {S : State} (k : Go p e below Q S) : ∃ s₂ o, Steps p.tables e below S s₂ ∧ s₂.status = .running ∧ Ended s₂ below o ∧ Q o s₂ := k
theorem Go.st {Q : Outcome → State → Prop} {S S' : State} (h : ∀ t, Steps p.tables e below S' t → Steps p.tables e below S t) (k : Go p e below Q S') : Go p e below Q S := by
  obtain ⟨s2, o, h1, h2⟩ := k; exact ⟨s2, o, h _ h1, h2⟩
theorem Go.op {α : Type} {Q : Outcome → State → Prop} {S : State} {F : α → State} {x : α} (h : ∀ t, Steps p.tables e below (F x) t → Steps p.tables e below S t) (k : ∀ z, z = x → Go p e below Q (F z)) : Go p e below Q S := Go.st h (k x rfl)
theorem Go.join {α : Type} {Q : Outcome → State → Prop} {S : State} (C : α → Prop) (F : α → State) (k : ∀ r, C r → Go p e below Q (F r)) (j : (∀ r, C r → Go p e below Q (F r)) → Go p e below Q S) : Go p e below Q S := j k
theorem Go.joinT {α : Type} {Q : Outcome → State → Prop} {S : State} (X : Stand p l e R s m args below meth c T locs cells slots) (eT : T.heap = h) (C : α → Prop) (F : State → α → State) (k : ∀ T', Stand p l e R s m args below meth c T' locs cells slots → T'.heap = h → ∀ r, C r → Go p e below Q (F T' r)) (j : (∀ T', Stand p l e R s m args below meth c T' locs cells slots → T'.heap = h → ∀ r, C r → Go p e below Q (F T' r)) → Go p e below Q S) : Go p e below Q S := j k
theorem Go.loop {α : Type} {Q : Outcome → State → Prop} (I : Nat → α → Prop) (F : α → State) (k0 : Nat) (x0 : α) (h0 : I k0 x0) (step : ∀ k x, I k x → (∀ k' x', k' < k → I k' x' → Go p e below Q (F x')) → Go p e below Q (F x)) : Go p e below Q (F x0) := by
  have H : ∀ k x, I k x → Go p e below Q (F x) := by
    intro k
    induction k using Nat.strongRecOn with
    | _ k ih => intro x hx; exact step k x hx fun k' x' hk hx' => ih k' hk x' hx'
  exact H k0 x0 h0
theorem Go.ret {Qn : Option Value → Heap → List Loc → Prop} {rc rs : Nat} (X : Stand p l e R s m args below meth c T locs cells slots) {v : Option Value} (hv : meth.sig.returnType = none → v = none) (hlk : meth.locks = false) {f : JFrame}
    (st : ∀ fs, (∀ (f : JFrame) (acts : List Action), f.method = m → f.locked = none → f.entered = [] → (doReturn e (T.setTop f) acts v).1 = T.setFrames fs) → Steps p.tables e below (T.setTop f) (T.setFrames fs))
    (hc : cells ≤ rc) (hs : slots ≤ rs) (hQ : Qn v T.heap locs) : Go p e below (fun o U' => ∃ v L, o = .returned v ∧ Qn v U'.heap L ∧ FrameEnd s o U' L rc rs) (T.setTop f) := by
  obtain ⟨fs, hr, hrun, hended, hW, hsame⟩ := X.leave (v := v) hv hlk
  exact ⟨_, _, st fs hr, hrun, hended, v, locs, rfl, hQ, ⟨_, rfl⟩, hW, hsame.mono hc hs⟩
abbrev Con (l : Launch) (Z : State) (y : MethodName) (bytes : ByteArray) (maxL : Nat) (ret : Option FieldType) (ws : List Jvm.Cond) (rm : Room) (as' : Array Value) (h : Heap) (rc rs : Nat) (Q : Option Value → Heap → List Loc → Prop) : Prop :=
  MetFree l y (head1 (Jvm.Cond.code y bytes maxL ret :: ws) rm) (fun a U => a = as' ∧ Z.Warmed39 U.vm ∧ U.heap = h) (fun _ _ _ _ _ => True) (fun _ U o U' => ∃ v L, o = .returned v ∧ Q v U'.heap L ∧ FrameEnd U o U' L rc rs)
theorem own_callS {own : String} {index : Nat} {y : MethodName} {bytes : ByteArray} {maxL : Nat} {ret : Option FieldType} {rm : Room} {as' : Array Value} {Q : Option Value → Heap → List Loc → Prop} {W : Nat} {g : JFrame} {argsL rest : List Value}
    (X : Stand p l e R s m args below meth c T locs cells slots) (hx : p.tables.exec = Jvm.exec) (hZ : Z.Warmed39 s.vm) (eT : T.heap = h) (hown : s.vm.findClass own = some m.cls)
    (w1 : (Jvm.Cond.methodLink own index y).before a0 Z = true) (w2 : (Jvm.Cond.static y).before a0 Z = true) (w3 : (Jvm.Cond.initialized y.cls).before a0 Z = true) (w4 : (Jvm.Cond.code y bytes maxL ret).before a0 Z = true)
    (hy : y.cls ≠ "java/lang/invoke/MethodHandle" ∧ y.cls ≠ "java/lang/invoke/VarHandle")
    (hM : Con l Z y bytes maxL ret [] rm as' h rm.cells rm.slots Q)
    (hf : rm.frames + 1 ≤ R.frames) (hl : W + (maxL + 11) + rm.locals ≤ R.locals) (hc : cells + rm.cells ≤ R.cells) (hs : slots + rm.slots ≤ R.slots)
    (hg : g.method = m) (hsize : g.locals.size = c.maxLocals) (has : argsL.toArray = as') (hlen : ∀ sig, parseMethodDescriptor y.desc = some sig → argsL.length = sig.parameters.length)
    (hstack : g.stack = argsL.reverse ++ rest) (hW : 2 * g.monitorRoom + (rest.map fun v => v.category).sum ≤ W) (hdg : decode c.code g.pc = .ok (.invokestatic index, 3)) :
    ∃ v T' L, Stand p l e R s m args below meth c T' (locs ++ L) (cells + rm.cells) (slots + rm.slots) ∧ Q v T'.heap L ∧ ∀ target, Steps p.tables e below (T'.setTop { g with pc := g.pc + 3, stack := v.toList ++ rest }) target → Steps p.tables e below (T.setTop g) target := by
  obtain ⟨v, _, ⟨T', L', k', n'⟩, -, X', ⟨L, hQ, l', y', z'⟩, st⟩ := Jvm.LawKit.callS X hx (y := y) hown (mvT hZ w1) (mvT hZ w2) (mvT hZ w3) (mvT hZ w4) hy (backOf (W := W) hM hZ w4 w3 hf hl) (g := g) hg hsize (argsL := argsL) (rest := rest) hlen hstack hW hdg (fun _ _ => ⟨has, eT, hc, hs⟩)
  dsimp only [Pt.U, Pt.locs, Pt.cells, Pt.slots] at X' l' y' z' st hQ
  subst l' y' z'
  exact ⟨v, T', L, X', hQ, st⟩
theorem own_callI {own : String} {index : Nat} {y : MethodName} {bytes : ByteArray} {maxL : Nat} {rm : Room} {as' : Array Value} {Q : Option Value → Heap → List Loc → Prop} {W : Nat} {g : JFrame} {a : Addr} {argsL rest : List Value}
    (X : Stand p l e R s m args below meth c T locs cells slots) (hx : p.tables.exec = Jvm.exec) (hZ : Z.Warmed39 s.vm) (eT : T.heap = h) (hown : s.vm.findClass own = some m.cls) (hyn : y.name = "<init>")
    (w1 : (Jvm.Cond.methodLink own index y).before a0 Z = true) (w2 : (Jvm.Cond.instanceMethod y).before a0 Z = true) (w3 : (Jvm.Cond.initialized y.cls).before a0 Z = true) (w4 : (Jvm.Cond.code y bytes maxL none).before a0 Z = true)
    (hy : y.cls ≠ "java/lang/invoke/MethodHandle" ∧ y.cls ≠ "java/lang/invoke/VarHandle")
    (hM : Con l Z y bytes maxL none [] rm as' h rm.cells rm.slots Q)
    (hf : rm.frames + 1 ≤ R.frames) (hl : W + (maxL + 11) + rm.locals ≤ R.locals) (hc : cells + rm.cells ≤ R.cells) (hs : slots + rm.slots ≤ R.slots)
    (hg : g.method = m) (hsize : g.locals.size = c.maxLocals) (has : (Value.ref a :: argsL).toArray = as') (hlen : ∀ sig, parseMethodDescriptor y.desc = some sig → argsL.length = sig.parameters.length)
    (hstack : g.stack = argsL.reverse ++ .ref a :: rest) (hW : 2 * g.monitorRoom + (rest.map fun v => v.category).sum ≤ W) (hdg : decode c.code g.pc = .ok (.invokespecial index, 3)) :
    ∃ v T' L, Stand p l e R s m args below meth c T' (locs ++ L) (cells + rm.cells) (slots + rm.slots) ∧ Q v T'.heap L ∧ ∀ target, Steps p.tables e below (T'.setTop { g with pc := g.pc + 3, stack := v.toList ++ rest }) target → Steps p.tables e below (T.setTop g) target := by
  obtain ⟨v, _, ⟨T', L', k', n'⟩, -, X', ⟨L, hQ, l', y', z'⟩, st⟩ := X.specialBack hx (y := y) hyn hown (mvT hZ w1) (mvT hZ w2) (mvT hZ w4) hy (backOf (W := W) hM hZ w4 w3 hf hl) (g := g) hg hsize (Steps.refl _) (a := a) (argsL := argsL) (rest := rest) hlen hstack hW hdg (fun _ _ => ⟨has, eT, hc, hs⟩)
  dsimp only [Pt.U, Pt.locs, Pt.cells, Pt.slots] at X' l' y' z' st hQ
  subst l' y' z'
  exact ⟨v, T', L, X', hQ, fun _ k => st.trans k⟩
theorem own_callV {own C : String} {index : Nat} {y z : MethodName} {bytes : ByteArray} {maxL : Nat} {ret : Option FieldType} {rm : Room} {as' : Array Value} {Q : Option Value → Heap → List Loc → Prop} {W : Nat} {g : JFrame} {a : Addr} {argsL rest : List Value}
    (X : Stand p l e R s m args below meth c T locs cells slots) (hx : p.tables.exec = Jvm.exec) (hZ : Z.Warmed39 s.vm) (eT : T.heap = h) (hown : s.vm.findClass own = some m.cls)
    (w1 : (Jvm.Cond.methodLink own index y).before a0 Z = true) (w2 : (Jvm.Cond.declares y).before a0 Z = true) (nf : NotFace s y) (w5 : (Jvm.Cond.selects C y z).before a0 Z = true) (w6 : (Jvm.Cond.instanceMethod z).before a0 Z = true) (w3 : (Jvm.Cond.initialized z.cls).before a0 Z = true) (w4 : (Jvm.Cond.code z bytes maxL ret).before a0 Z = true)
    (hy : y.cls ≠ "java/lang/invoke/MethodHandle" ∧ y.cls ≠ "java/lang/invoke/VarHandle") (E : Exa Z h a C)
    (hM : Con l Z z bytes maxL ret [] rm as' h rm.cells rm.slots Q)
    (hf : rm.frames + 1 ≤ R.frames) (hl : W + (maxL + 11) + rm.locals ≤ R.locals) (hc : cells + rm.cells ≤ R.cells) (hs : slots + rm.slots ≤ R.slots)
    (hg : g.method = m) (hsize : g.locals.size = c.maxLocals) (has : (Value.ref a :: argsL).toArray = as') (hlen : ∀ sig, parseMethodDescriptor y.desc = some sig → argsL.length = sig.parameters.length)
    (hstack : g.stack = argsL.reverse ++ .ref a :: rest) (hW : 2 * g.monitorRoom + (rest.map fun v => v.category).sum ≤ W) (hdg : decode c.code g.pc = .ok (.invokevirtual index, 3)) :
    ∃ v T' L, Stand p l e R s m args below meth c T' (locs ++ L) (cells + rm.cells) (slots + rm.slots) ∧ Q v T'.heap L ∧ ∀ target, Steps p.tables e below (T'.setTop { g with pc := g.pc + 3, stack := v.toList ++ rest }) target → Steps p.tables e below (T.setTop g) target := by
  obtain ⟨cq, kq, qa, qb, qc⟩ := isOf hZ eT E
  obtain ⟨v, _, ⟨T', L', k', n'⟩, -, X', ⟨L, hQ, l', y', z'⟩, st⟩ := X.virtualBack hx (y := y) (z := z) hown (mvT hZ w1) (mvT hZ w2) nf (mvT hZ w5) (mvT hZ w6) hy (backOf (W := W) hM hZ w4 w3 hf hl) qa qc (g := g) hg hsize (Steps.refl _) (argsL := argsL) (rest := rest) hlen hstack hW hdg (fun _ _ => ⟨has, eT, hc, hs⟩)
  dsimp only [Pt.U, Pt.locs, Pt.cells, Pt.slots] at X' l' y' z' st hQ
  subst l' y' z'
  exact ⟨v, T', L, X', hQ, fun _ k => st.trans k⟩
theorem own_sta_keep {C n d : String} {w : Value} {h h' : Heap} {ws : List Addr} (F : Sta Z h C n d w) (K : Keep h h' ws) (q : ∀ x ∈ ws, ∃ cl : Cell, h[x]? = some cl ∧ cl.vm.isStatics = false) : Sta Z h' C n d w := by
  obtain ⟨cf, i, k, f, st, cell, h1, h2, h3, h4, h5, h6, h7⟩ := F
  refine ⟨cf, i, k, f, st, cell, h1, h2, h3, h4, K.2.1 st cell h5 fun z => ?_, h6, h7⟩
  obtain ⟨cl, q1, q2⟩ := q st z
  cases h5.symm.trans q1
  rw [h6] at q2; cases q2
theorem own_exa_plain {a : Addr} {C : String} {h : Heap} (F : Exa Z h a C) : ∃ cl : Cell, h[a]? = some cl ∧ cl.vm.isStatics = false := by
  obtain ⟨cell, k, h1, -, -, h4, -⟩ := F; exact ⟨cell, h1, h4⟩
theorem own_arv_plain {a : Addr} {k : ClassId} {ty : FieldType} {z : Int32} {vs : List Value} {dv : Value} {h : Heap} (F : Arv Z h a k ty z vs dv) : ∃ cl : Cell, h[a]? = some cl ∧ cl.vm.isStatics = false := by
  obtain ⟨cell, A, -⟩ := F; exact ⟨cell, A.1, A.plain⟩
theorem own_getR {own O n d : String} {index : Nat} {a : Addr} {v : Value} {g : JFrame} {rest : List Value} (X : Stand p l e R s m args below meth c T locs cells slots) (hx : p.tables.exec = Jvm.exec) (hZ : Z.Warmed39 s.vm) (hown : s.vm.findClass own = some m.cls)
    (w : (Jvm.Cond.fieldRef own index O n d).before a0 Z = true) (eT : T.heap = h) (F : Fld Z h a O n d v) (hg : g.method = m) (hs : g.stack = .ref a :: rest) (hd : decode c.code g.pc = .ok (.getfield index, 3)) :
    ∀ target, Steps p.tables e below (T.setTop { g with pc := g.pc + 3, stack := v :: rest }) target → Steps p.tables e below (T.setTop g) target := by
  have hU : Z.Warmed39 T.vm := wtrans hZ X.warmed
  have w2 := Cond.fieldRef_warmed39 hU w
  have hc : (Z.setVm T.vm).vm.findClass own = some m.cls := by
    show T.vm.findClass own = some m.cls
    rw [X.warmed.alike.findClass]; exact hown
  obtain ⟨c1, k1, i1, f1, hf1, hr⟩ := Cond.fieldRef_spec hc w2
  obtain ⟨cell, cf, k, i, f, h1, h2, h3, h4, -, -, h7⟩ := F
  obtain ⟨k', hi, -⟩ := State.fieldFound?_setVm (s := Z) hU.alike h2
  cases hi.symm.trans hf1
  intro t kk
  exact (X.getfieldR hx hg hr h3 hs (by rw [eT]; exact h1) h4 h7 hd (Steps.refl _)).trans kk
theorem own_callP {own C : String} {index : Nat} {y : MethodName} {bytes : ByteArray} {maxL : Nat} {ret : Option FieldType} {rm : Room} {as' : Array Value} {Q : Option Value → Heap → List Loc → Prop} {W : Nat} {g : JFrame} {a : Addr} {argsL rest : List Value}
    (X : Stand p l e R s m args below meth c T locs cells slots) (hx : p.tables.exec = Jvm.exec) (hZ : Z.Warmed39 s.vm) (eT : T.heap = h) (hown : s.vm.findClass own = some m.cls)
    (w1 : (Jvm.Cond.methodLink own index y).before a0 Z = true) (w2 : (Jvm.Cond.instanceMethod y).before a0 Z = true) (w5 : (Jvm.Cond.selects y.cls y y).before a0 Z = true) (w6 : (Jvm.Cond.privateMethod y).before a0 Z = true) (w3 : (Jvm.Cond.initialized y.cls).before a0 Z = true) (w4 : (Jvm.Cond.code y bytes maxL ret).before a0 Z = true)
    (hy : y.cls ≠ "java/lang/invoke/MethodHandle" ∧ y.cls ≠ "java/lang/invoke/VarHandle") (E : Exa Z h a C)
    (hM : Con l Z y bytes maxL ret [] rm as' h rm.cells rm.slots Q)
    (hf : rm.frames + 1 ≤ R.frames) (hl : W + (maxL + 11) + rm.locals ≤ R.locals) (hc : cells + rm.cells ≤ R.cells) (hs : slots + rm.slots ≤ R.slots)
    (hg : g.method = m) (hsize : g.locals.size = c.maxLocals) (has : (Value.ref a :: argsL).toArray = as') (hlen : ∀ sig, parseMethodDescriptor y.desc = some sig → argsL.length = sig.parameters.length)
    (hstack : g.stack = argsL.reverse ++ .ref a :: rest) (hW : 2 * g.monitorRoom + (rest.map fun v => v.category).sum ≤ W) (hdg : decode c.code g.pc = .ok (.invokevirtual index, 3)) :
    ∃ v T' L, Stand p l e R s m args below meth c T' (locs ++ L) (cells + rm.cells) (slots + rm.slots) ∧ Q v T'.heap L ∧ ∀ target, Steps p.tables e below (T'.setTop { g with pc := g.pc + 3, stack := v.toList ++ rest }) target → Steps p.tables e below (T.setTop g) target := by
  obtain ⟨cq, q1, q2⟩ := E.cell
  obtain ⟨v, _, ⟨T', L', k', n'⟩, -, X', ⟨L, hQ, l', y', z'⟩, st⟩ := X.privateBack hx (y := y) hown (mvT hZ w1) (mvT hZ w2) (mvT hZ w5) (Cond.privateMethod_at (mvP hZ w6 (args := #[]))) (mvT hZ w4) hy (backOf (W := W) hM hZ w4 w3 hf hl) (g := g) hg hsize (Steps.refl _) (a := a) (by rw [eT]; exact q1) q2 (argsL := argsL) (rest := rest) hlen hstack hW hdg (fun _ _ => ⟨has, eT, hc, hs⟩)
  dsimp only [Pt.U, Pt.locs, Pt.cells, Pt.slots] at X' l' y' z' st hQ
  subst l' y' z'
  exact ⟨v, T', L, X', hQ, fun _ k => st.trans k⟩
theorem own_callF {own C : String} {index count : Nat} {xi y : MethodName} {bytes : ByteArray} {maxL : Nat} {ret : Option FieldType} {rm : Room} {as' : Array Value} {Q : Option Value → Heap → List Loc → Prop} {W : Nat} {g : JFrame} {a : Addr} {argsL rest : List Value}
    (X : Stand p l e R s m args below meth c T locs cells slots) (hx : p.tables.exec = Jvm.exec) (hZ : Z.Warmed39 s.vm) (eT : T.heap = h) (hown : s.vm.findClass own = some m.cls)
    (w1 : (Jvm.Cond.methodLink own index xi).before a0 Z = true) (w2 : (Jvm.Cond.declares xi).before a0 Z = true) (w7 : (Jvm.Cond.interfaceMethod xi.cls xi.cls xi.name xi.desc).before args s = true) (w5 : (Jvm.Cond.selects C xi y).before a0 Z = true) (w6 : (Jvm.Cond.instanceMethod y).before a0 Z = true)
    (w8 : (Jvm.Cond.publicMethod y).before a0 Z = true) (w9 : (Jvm.Cond.unhidden C xi.name xi.desc).before a0 Z = true) (w10 : (Jvm.Cond.castable C xi.cls).before a0 Z = true) (w3 : (Jvm.Cond.initialized y.cls).before a0 Z = true) (w4 : (Jvm.Cond.code y bytes maxL ret).before a0 Z = true)
    (hy : xi.cls ≠ "java/lang/invoke/MethodHandle" ∧ xi.cls ≠ "java/lang/invoke/VarHandle") (E : Exa Z h a C)
    (hM : Con l Z y bytes maxL ret [] rm as' h rm.cells rm.slots Q)
    (hf : rm.frames + 1 ≤ R.frames) (hl : W + (maxL + 11) + rm.locals ≤ R.locals) (hc : cells + rm.cells ≤ R.cells) (hs : slots + rm.slots ≤ R.slots)
    (hg : g.method = m) (hsize : g.locals.size = c.maxLocals) (has : (Value.ref a :: argsL).toArray = as') (hlen : ∀ sig, parseMethodDescriptor xi.desc = some sig → argsL.length = sig.parameters.length)
    (hstack : g.stack = argsL.reverse ++ .ref a :: rest) (hW : 2 * g.monitorRoom + (rest.map fun v => v.category).sum ≤ W) (hdg : decode c.code g.pc = .ok (.invokeinterface index count, 5)) :
    ∃ v T' L, Stand p l e R s m args below meth c T' (locs ++ L) (cells + rm.cells) (slots + rm.slots) ∧ Q v T'.heap L ∧ ∀ target, Steps p.tables e below (T'.setTop { g with pc := g.pc + 5, stack := v.toList ++ rest }) target → Steps p.tables e below (T.setTop g) target := by
  obtain ⟨cq, kq, qa, qb, qc⟩ := isOf hZ eT E
  obtain ⟨v, _, ⟨T', L', k', n'⟩, -, X', ⟨L, hQ, l', y', z'⟩, st⟩ := X.interfaceBack hx (xi := xi) (y := y) hown (mvT hZ w1) (mvT hZ w2) w7 (mvT hZ w5) (mvT hZ w6) (mvT hZ w8) (mvT hZ w9) (mvT hZ w10) hy (backOf (W := W) hM hZ w4 w3 hf hl) qa qb qc (g := g) hg hsize (Steps.refl _) (argsL := argsL) (rest := rest) hlen hstack hW hdg (fun _ _ => ⟨has, eT, hc, hs⟩)
  dsimp only [Pt.U, Pt.locs, Pt.cells, Pt.slots] at X' l' y' z' st hQ
  subst l' y' z'
  exact ⟨v, T', L, X', hQ, fun _ k => st.trans k⟩
theorem own_ns_root {O K : String} {n : Nat} (w : (Jvm.Cond.noSuperclass O).before a0 Z = true) (wk : (Jvm.Cond.instantiable K n).before a0 Z = true) (hn : O ≠ K) : NS Z O K := by
  obtain ⟨c, k, h1, h2, h3, -, -⟩ := Cond.noSuperclass_spec w
  obtain ⟨t, kt, g1, -⟩ := Cond.instantiable_spec wk
  have ne := ids_ne h1 g1 hn
  refine ⟨c, t, h1, g1, fun fuel => ?_⟩
  cases fuel with
  | zero => rfl
  | succ f => simp [Vm.isSubclassAux, ne, h2, h3]
theorem own_ns_no {C S K : String} {n : Nat} (w : (Jvm.Cond.superclass C S).before a0 Z = true) (wk : (Jvm.Cond.instantiable K n).before a0 Z = true) (hN : NS Z C K) (hn : C ≠ K) : ∃ c t, Z.vm.findClass C = some c ∧ Z.vm.findClass K = some t ∧ Z.vm.assignable c t = false := by
  obtain ⟨c, t, h0, g0, n3⟩ := hN
  obtain ⟨p, k, kp, h1, h2, h3, h4, h5, -, h7⟩ := Cond.superclass_spec h0 w
  obtain ⟨t', kt, g1, g2, g3, g4, -⟩ := Cond.instantiable_spec wk
  cases g0.symm.trans g1
  have g7 : kt.isInterface = false := by
    cases hq : kt.isInterface
    · rfl
    · simp [hq] at g4
  have ne := ids_ne h0 g0 hn
  refine ⟨c, t, h0, g0, ?_⟩
  show Z.vm.assignableAux (255 + 1) c t = false
  simp [Vm.assignableAux, ne, h2, g2, h5, g3, g7, Vm.isSubclass, n3]
end OwnKit
theorem djdk_29_method_65_code_0 : decode jdk_29_method_65_code 0 = .ok (.iload_n 0, 1) := by decide +kernel
theorem djdk_29_method_65_code_1 : decode jdk_29_method_65_code 1 = .ok (.iload_n 1, 1) := by decide +kernel
theorem djdk_29_method_65_code_2 : decode jdk_29_method_65_code 2 = .ok (.if_icmp .lt 7, 3) := by decide +kernel
theorem djdk_29_method_65_code_5 : decode jdk_29_method_65_code 5 = .ok (.iload_n 0, 1) := by decide +kernel
theorem djdk_29_method_65_code_6 : decode jdk_29_method_65_code 6 = .ok (.goto 4, 3) := by decide +kernel
theorem djdk_29_method_65_code_9 : decode jdk_29_method_65_code 9 = .ok (.iload_n 1, 1) := by decide +kernel
theorem djdk_29_method_65_code_10 : decode jdk_29_method_65_code 10 = .ok (.ireturn, 1) := by decide +kernel
theorem djdk_29_method_66_code_0 : decode jdk_29_method_66_code 0 = .ok (.lload_n 0, 1) := by decide +kernel
theorem djdk_29_method_66_code_1 : decode jdk_29_method_66_code 1 = .ok (.lload_n 2, 1) := by decide +kernel
theorem djdk_29_method_66_code_2 : decode jdk_29_method_66_code 2 = .ok (.lcmp, 1) := by decide +kernel
theorem djdk_29_method_66_code_3 : decode jdk_29_method_66_code 3 = .ok (.ifCond .lt 7, 3) := by decide +kernel
theorem djdk_29_method_66_code_6 : decode jdk_29_method_66_code 6 = .ok (.lload_n 0, 1) := by decide +kernel
theorem djdk_29_method_66_code_7 : decode jdk_29_method_66_code 7 = .ok (.goto 4, 3) := by decide +kernel
theorem djdk_29_method_66_code_10 : decode jdk_29_method_66_code 10 = .ok (.lload_n 2, 1) := by decide +kernel
theorem djdk_29_method_66_code_11 : decode jdk_29_method_66_code 11 = .ok (.lreturn, 1) := by decide +kernel
theorem djdk_30_method_1_code_0 : decode jdk_30_method_1_code 0 = .ok (.aload_n 0, 1) := by decide +kernel
theorem djdk_30_method_1_code_1 : decode jdk_30_method_1_code 1 = .ok (.invokespecial 1, 3) := by decide +kernel
theorem djdk_30_method_1_code_4 : decode jdk_30_method_1_code 4 = .ok (.return_, 1) := by decide +kernel
theorem dprog_8_method_1_code_0 : decode prog_8_method_1_code 0 = .ok (.aload_n 0, 1) := by decide +kernel
theorem dprog_8_method_1_code_1 : decode prog_8_method_1_code 1 = .ok (.invokespecial 1, 3) := by decide +kernel
theorem dprog_8_method_1_code_4 : decode prog_8_method_1_code 4 = .ok (.aload_n 0, 1) := by decide +kernel
theorem dprog_8_method_1_code_5 : decode prog_8_method_1_code 5 = .ok (.iload_n 1, 1) := by decide +kernel
theorem dprog_8_method_1_code_6 : decode prog_8_method_1_code 6 = .ok (.putfield 7, 3) := by decide +kernel
theorem dprog_8_method_1_code_9 : decode prog_8_method_1_code 9 = .ok (.aload_n 0, 1) := by decide +kernel
theorem dprog_8_method_1_code_10 : decode prog_8_method_1_code 10 = .ok (.lload_n 2, 1) := by decide +kernel
theorem dprog_8_method_1_code_11 : decode prog_8_method_1_code 11 = .ok (.putfield 13, 3) := by decide +kernel
theorem dprog_8_method_1_code_14 : decode prog_8_method_1_code 14 = .ok (.aload_n 0, 1) := by decide +kernel
theorem dprog_8_method_1_code_15 : decode prog_8_method_1_code 15 = .ok (.lload 4, 2) := by decide +kernel
theorem dprog_8_method_1_code_17 : decode prog_8_method_1_code 17 = .ok (.putfield 17, 3) := by decide +kernel
theorem dprog_8_method_1_code_20 : decode prog_8_method_1_code 20 = .ok (.aload_n 0, 1) := by decide +kernel
theorem dprog_8_method_1_code_21 : decode prog_8_method_1_code 21 = .ok (.iload 6, 2) := by decide +kernel
theorem dprog_8_method_1_code_23 : decode prog_8_method_1_code 23 = .ok (.putfield 20, 3) := by decide +kernel
theorem dprog_8_method_1_code_26 : decode prog_8_method_1_code 26 = .ok (.return_, 1) := by decide +kernel
theorem dprog_8_method_2_code_0 : decode prog_8_method_2_code 0 = .ok (.aload_n 0, 1) := by decide +kernel
theorem dprog_8_method_2_code_1 : decode prog_8_method_2_code 1 = .ok (.getfield 7, 3) := by decide +kernel
theorem dprog_8_method_2_code_4 : decode prog_8_method_2_code 4 = .ok (.ifCond .le 11, 3) := by decide +kernel
theorem dprog_8_method_2_code_7 : decode prog_8_method_2_code 7 = .ok (.iload_n 1, 1) := by decide +kernel
theorem dprog_8_method_2_code_8 : decode prog_8_method_2_code 8 = .ok (.aload_n 0, 1) := by decide +kernel
theorem dprog_8_method_2_code_9 : decode prog_8_method_2_code 9 = .ok (.getfield 7, 3) := by decide +kernel
theorem dprog_8_method_2_code_12 : decode prog_8_method_2_code 12 = .ok (.if_icmp .ge 12, 3) := by decide +kernel
theorem dprog_8_method_2_code_15 : decode prog_8_method_2_code 15 = .ok (.lload_n 2, 1) := by decide +kernel
theorem dprog_8_method_2_code_16 : decode prog_8_method_2_code 16 = .ok (.aload_n 0, 1) := by decide +kernel
theorem dprog_8_method_2_code_17 : decode prog_8_method_2_code 17 = .ok (.getfield 13, 3) := by decide +kernel
theorem dprog_8_method_2_code_20 : decode prog_8_method_2_code 20 = .ok (.lcmp, 1) := by decide +kernel
theorem dprog_8_method_2_code_21 : decode prog_8_method_2_code 21 = .ok (.ifCond .lt 7, 3) := by decide +kernel
theorem dprog_8_method_2_code_24 : decode prog_8_method_2_code 24 = .ok (.iconst 1, 1) := by decide +kernel
theorem dprog_8_method_2_code_25 : decode prog_8_method_2_code 25 = .ok (.goto 4, 3) := by decide +kernel
theorem dprog_8_method_2_code_28 : decode prog_8_method_2_code 28 = .ok (.iconst 0, 1) := by decide +kernel
theorem dprog_8_method_2_code_29 : decode prog_8_method_2_code 29 = .ok (.ireturn, 1) := by decide +kernel
theorem pn_0 : plainName "java/lang/Record" = true := by first | (simp [plainName, overriddenIn]; done) | decide +kernel
theorem pn_1 : plainName "com/example/hale_ledger/haleledger/bookie/JournalGrouping" = true := by first | (simp [plainName, overriddenIn]; done) | decide +kernel
theorem pn_2 : plainName "com/example/hale_ledger/haleledger/bookie/JournalGroupingIsFullPinLaw" = true := by first | (simp [plainName, overriddenIn]; done) | decide +kernel
theorem pd_0 : parseMethodDescriptor "()V" = some ⟨[], none⟩ := by decide +kernel
theorem pd_1 : parseMethodDescriptor "(IJJZ)V" = some ⟨[.int, .long, .long, .boolean], none⟩ := by decide +kernel
theorem pd_2 : parseMethodDescriptor "(IJ)Z" = some ⟨[.int, .long], some .boolean⟩ := by decide +kernel
theorem pd_3 : parseMethodDescriptor "(II)I" = some ⟨[.int, .int], some .int⟩ := by decide +kernel
theorem pd_4 : parseMethodDescriptor "(JJ)J" = some ⟨[.long, .long], some .long⟩ := by decide +kernel
theorem ef_1 (m : MethodId) (o0 : Addr) : entryFrame m #[(.ref o0)] 1 = mkF m 0 #[.val (.ref o0)] [] := by first | (simp [entryFrame, mkF, argsToLocals, Value.category, maxLocals]; done) | rfl
def Q1 (Z : State) (o0 : Addr) (h0 : Heap) (n0 : Nat) (v : Option Value) (h : Heap) (L : List Loc) : Prop := (v = none ∧ Fr n0 L ∧ h = h0)
set_option maxRecDepth 65536 in
set_option maxHeartbeats 40000000 in
theorem rm1 (l : Launch) (Z : State) (a0 : Array Value) (hw : ∀ d ∈ tables_1, d.before a0 Z = true) (ws : List Jvm.Cond) (o0 : Addr) (h0 : Heap) (n0 : Nat) (Z0 : n0 ≤ h0.size)  :
    Con l Z (⟨"java/lang/Record", "<init>", "()V"⟩ : MethodName) jdk_30_method_1_code 1 none ws ({ frames := 1, cells := 0, slots := 0, locals := 12 } : Room) #[(.ref o0)] h0 0 0 (Q1 Z o0 h0 n0) := by
  refine MetFree.of_bodySF (plainFor_of_name pn_0) hisR ?_
  intro p e s m args below meth c s₁ Bd hml0 hP hK
  obtain ⟨rfl, hZ, hh⟩ := hP
  have hx := Bd.exec
  have hby := Bd.bytes
  have hml : c.maxLocals = 1 := hml0
  have hown : s.vm.findClass "java/lang/Record" = some m.cls := findClass_of_methodNamed Bd.named
  have hnm := (name_of_methodNamed Bd.named Bd.method).1
  have X0 : Stand p l e ({ frames := 1, cells := 0, slots := 0, locals := 12 } : Room) s m #[(.ref o0)] below meth c s₁ [] 0 0 := Stand.of_body Bd
  have e0 : s₁.heap = h0 := by rw [← hh, Bd.state]; rfl
  have N0 := Fr.nil n0
  refine Go.of ?_
  refine Go.st (S' := s₁.setTop (mkF m 0 #[.val (.ref o0)] [])) (fun t k => castTop (ef_1 m o0) k) ?_
  refine Go.st (S' := s₁.setTop (mkF m 1 #[.val (.ref o0)] [(.ref o0)])) (fun t k => XS.aloadN X0.here hx rfl (hb hby djdk_30_method_1_code_0) rfl rfl k) ?_
  obtain ⟨T17, X17, e17, st17⟩ := initO X0 hx hZ hown (hw _ (List.mem_of_getElem? (i := 14) rfl)) (hw _ (List.mem_of_getElem? (i := 15) rfl)) (hw _ (List.mem_of_getElem? (i := 16) rfl)) e0 (g := (mkF m 1 #[.val (.ref o0)] [(.ref o0)])) rfl (by rw [hml]; rfl) rfl (hb hby djdk_30_method_1_code_1) (by decide) (W := 0) (by show 2 * 0 + _ ≤ _; exact Nat.le_of_eq rfl) (by decide)
  refine Go.st (S' := T17.setTop (mkF m 4 #[.val (.ref o0)] [])) st17 ?_
  exact Go.ret X17 (v := none) (fun _ => rfl) Bd.notSynchronized (fun fs hr => X17.returnOut hx Bd.returns (hb hby djdk_30_method_1_code_4) hr) (by decide) (by decide) (⟨rfl, N0, (e17)⟩)
theorem ef_2 (m : MethodId) (o0 : Addr) (p1 : Int32) (q2 : Int64) (q3 : Int64) (p4 : Int32) : entryFrame m #[(.ref o0), (.int p1), (.long q2), (.long q3), (.int p4)] 7 = mkF m 0 #[.val (.ref o0), .val (.int p1), .val (.long q2), .second, .val (.long q3), .second, .val (.int p4)] [] := by first | (simp [entryFrame, mkF, argsToLocals, Value.category, maxLocals]; done) | rfl
def Q2 (Z : State) (o0 : Addr) (p1 : Int32) (q2 : Int64) (q3 : Int64) (p4 : Int32) (u_o0_maxEntries : Value) (u_o0_maxBytes : Value) (u_o0_waitMillis : Value) (u_o0_flushWhenIdle : Value) (h0 : Heap) (n0 : Nat) (v : Option Value) (h : Heap) (L : List Loc) : Prop := (∃ (v32 : Int32), v32 = (p4 &&& (1 : Int32)) ∧ v = none ∧ Fr n0 L ∧ Keep h0 h [o0] ∧ Exa Z h o0 "com/example/hale_ledger/haleledger/bookie/JournalGrouping" ∧ Fld Z h o0 "com/example/hale_ledger/haleledger/bookie/JournalGrouping" "maxEntries" "I" (.int p1) ∧ Fld Z h o0 "com/example/hale_ledger/haleledger/bookie/JournalGrouping" "maxBytes" "J" (.long q2) ∧ Fld Z h o0 "com/example/hale_ledger/haleledger/bookie/JournalGrouping" "waitMillis" "J" (.long q3) ∧ Fld Z h o0 "com/example/hale_ledger/haleledger/bookie/JournalGrouping" "flushWhenIdle" "Z" (.int v32))
set_option maxRecDepth 65536 in
set_option maxHeartbeats 40000000 in
theorem rm2 (l : Launch) (Z : State) (a0 : Array Value) (hw : ∀ d ∈ tables_1, d.before a0 Z = true) (ws : List Jvm.Cond) (o0 : Addr) (p1 : Int32) (q2 : Int64) (q3 : Int64) (p4 : Int32) (u_o0_maxEntries : Value) (u_o0_maxBytes : Value) (u_o0_waitMillis : Value) (u_o0_flushWhenIdle : Value) (h0 : Heap) (n0 : Nat) (Z0 : n0 ≤ h0.size) (E_o0 : Exa Z h0 o0 "com/example/hale_ledger/haleledger/bookie/JournalGrouping") (F_o0_maxEntries : Fld Z h0 o0 "com/example/hale_ledger/haleledger/bookie/JournalGrouping" "maxEntries" "I" u_o0_maxEntries) (g_o0 : n0 ≤ o0) (F_o0_maxBytes : Fld Z h0 o0 "com/example/hale_ledger/haleledger/bookie/JournalGrouping" "maxBytes" "J" u_o0_maxBytes) (F_o0_waitMillis : Fld Z h0 o0 "com/example/hale_ledger/haleledger/bookie/JournalGrouping" "waitMillis" "J" u_o0_waitMillis) (F_o0_flushWhenIdle : Fld Z h0 o0 "com/example/hale_ledger/haleledger/bookie/JournalGrouping" "flushWhenIdle" "Z" u_o0_flushWhenIdle) :
    Con l Z (⟨"com/example/hale_ledger/haleledger/bookie/JournalGrouping", "<init>", "(IJJZ)V"⟩ : MethodName) prog_8_method_1_code 7 none ws ({ frames := 2, cells := 0, slots := 0, locals := 24 } : Room) #[(.ref o0), (.int p1), (.long q2), (.long q3), (.int p4)] h0 0 0 (Q2 Z o0 p1 q2 q3 p4 u_o0_maxEntries u_o0_maxBytes u_o0_waitMillis u_o0_flushWhenIdle h0 n0) := by
  refine MetFree.of_bodySF (plainFor_of_name pn_1) hisR ?_
  intro p e s m args below meth c s₁ Bd hml0 hP hK
  obtain ⟨rfl, hZ, hh⟩ := hP
  have hx := Bd.exec
  have hby := Bd.bytes
  have hml : c.maxLocals = 7 := hml0
  have hown : s.vm.findClass "com/example/hale_ledger/haleledger/bookie/JournalGrouping" = some m.cls := findClass_of_methodNamed Bd.named
  have hnm := (name_of_methodNamed Bd.named Bd.method).1
  have X0 : Stand p l e ({ frames := 2, cells := 0, slots := 0, locals := 24 } : Room) s m #[(.ref o0), (.int p1), (.long q2), (.long q3), (.int p4)] below meth c s₁ [] 0 0 := Stand.of_body Bd
  have e0 : s₁.heap = h0 := by rw [← hh, Bd.state]; rfl
  have N0 := Fr.nil n0
  refine Go.of ?_
  refine Go.st (S' := s₁.setTop (mkF m 0 #[.val (.ref o0), .val (.int p1), .val (.long q2), .second, .val (.long q3), .second, .val (.int p4)] [])) (fun t k => castTop (ef_2 m o0 p1 q2 q3 p4) k) ?_
  let A16 : Array Slot := #[.val (.ref o0), .val (.int p1), .val (.long q2), .second, .val (.long q3), .second, .val (.int p4)]
  refine Go.st (S' := s₁.setTop (mkF m 1 A16 [(.ref o0)])) (fun t k => XS.aloadN X0.here hx rfl (hb hby dprog_8_method_1_code_0) rfl rfl k) ?_
  obtain ⟨r18, T18, L18, X18, hQ18, st18⟩ := own_callI (W := 0) (a := o0) X0 hx hZ e0 hown (y := (⟨"java/lang/Record", "<init>", "()V"⟩ : MethodName)) rfl (hw _ (List.mem_of_getElem? (i := 9) rfl)) (hw _ (List.mem_of_getElem? (i := 10) rfl)) (hw _ (List.mem_of_getElem? (i := 12) rfl)) (hw _ (List.mem_of_getElem? (i := 13) rfl)) (by decide) (rm1 l Z a0 hw [] o0 h0 n0 Z0 ) (by decide) (by decide) (by decide) (by decide) (g := (mkF m 1 A16 [(.ref o0)])) rfl (by rw [hml]; rfl) (argsL := []) (rest := []) rfl (lenOf pd_0 rfl) rfl (by show 2 * 0 + _ ≤ _; exact Nat.le_of_eq rfl) (hb hby dprog_8_method_1_code_1)
  obtain ⟨rfl, N18, e18⟩ := hQ18
  have N18_ := Fr.app N0 N18
  refine Go.st (S' := T18.setTop (mkF m 4 A16 [])) st18 ?_
  refine Go.st (S' := T18.setTop (mkF m 5 A16 [(.ref o0)])) (fun t k => XS.aloadN X18.here hx rfl (hb hby dprog_8_method_1_code_4) rfl rfl k) ?_
  refine Go.st (S' := T18.setTop (mkF m 6 A16 [(.int p1), (.ref o0)])) (fun t k => XS.iloadN X18.here hx rfl (hb hby dprog_8_method_1_code_5) rfl k) ?_
  obtain ⟨T19, h19, X19, e19, W19, st19⟩ := putF X18 hx hZ hown (host := "") (Or.inl (hw _ (List.mem_of_getElem? (i := 17) rfl))) Via.refl e18 F_o0_maxEntries E_o0 (Or.inr ⟨(hw _ (List.mem_of_getElem? (i := 18) rfl)), rfl, hnm⟩) (hw _ (List.mem_of_getElem? (i := 4) rfl)) (ty := .int) (by decide) rfl rfl (g := (mkF m 6 A16 [(.int p1), (.ref o0)])) rfl rfl (hb hby dprog_8_method_1_code_6)
  have Fw19 := (F_o0_maxEntries).same W19
  have N19 := Fr.snoc X19 N18_ g_o0
  have Z20 : n0 ≤ h19.size := Nat.le_trans Z0 (Keep.of_wr W19).1
  have K20 : Keep h0 h19 [o0] := (Keep.refl h0 [o0]).wr W19 (Or.inl (by simp))
  refine Go.st (S' := T19.setTop (mkF m 9 A16 [])) st19 ?_
  refine Go.st (S' := T19.setTop (mkF m 10 A16 [(.ref o0)])) (fun t k => XS.aloadN X19.here hx rfl (hb hby dprog_8_method_1_code_9) rfl rfl k) ?_
  refine Go.st (S' := T19.setTop (mkF m 11 A16 [(.long q2), (.ref o0)])) (fun t k => XS.lloadN X19.here hx rfl (hb hby dprog_8_method_1_code_10) rfl k) ?_
  have f21 := ((E_o0).wr W19)
  have f22 := ((F_o0_maxBytes).other W19 (Or.inr (slot_ne (Or.inr (hw _ (List.mem_of_getElem? (i := 20) rfl))) (Or.inr (hw _ (List.mem_of_getElem? (i := 18) rfl))) (by decide) (t := .long) (t' := .int) (by decide) (by decide))))
  obtain ⟨T23, h23, X23, e23, W23, st23⟩ := putF X19 hx hZ hown (host := "") (Or.inl (hw _ (List.mem_of_getElem? (i := 19) rfl))) Via.refl e19 f22 f21 (Or.inr ⟨(hw _ (List.mem_of_getElem? (i := 20) rfl)), rfl, hnm⟩) (hw _ (List.mem_of_getElem? (i := 4) rfl)) (ty := .long) (by decide) rfl rfl (g := (mkF m 11 A16 [(.long q2), (.ref o0)])) rfl rfl (hb hby dprog_8_method_1_code_11)
  have Fw23 := (f22).same W23
  have N23 := Fr.snoc X23 N19 g_o0
  have Z24 : n0 ≤ h23.size := Nat.le_trans Z20 (Keep.of_wr W23).1
  have K24 : Keep h0 h23 [o0] := K20.wr W23 (Or.inl (by simp))
  refine Go.st (S' := T23.setTop (mkF m 14 A16 [])) st23 ?_
  refine Go.st (S' := T23.setTop (mkF m 15 A16 [(.ref o0)])) (fun t k => XS.aloadN X23.here hx rfl (hb hby dprog_8_method_1_code_14) rfl rfl k) ?_
  refine Go.st (S' := T23.setTop (mkF m 17 A16 [(.long q3), (.ref o0)])) (fun t k => XS.lload X23.here hx rfl (hb hby dprog_8_method_1_code_15) rfl k) ?_
  have f25 := ((f21).wr W23)
  have f26 := ((((F_o0_waitMillis).other W19 (Or.inr (slot_ne (Or.inr (hw _ (List.mem_of_getElem? (i := 22) rfl))) (Or.inr (hw _ (List.mem_of_getElem? (i := 18) rfl))) (by decide) (t := .long) (t' := .int) (by decide) (by decide))))).other W23 (Or.inr (slot_ne (Or.inr (hw _ (List.mem_of_getElem? (i := 22) rfl))) (Or.inr (hw _ (List.mem_of_getElem? (i := 20) rfl))) (by decide) (t := .long) (t' := .long) (by decide) (by decide))))
  obtain ⟨T27, h27, X27, e27, W27, st27⟩ := putF X23 hx hZ hown (host := "") (Or.inl (hw _ (List.mem_of_getElem? (i := 21) rfl))) Via.refl e23 f26 f25 (Or.inr ⟨(hw _ (List.mem_of_getElem? (i := 22) rfl)), rfl, hnm⟩) (hw _ (List.mem_of_getElem? (i := 4) rfl)) (ty := .long) (by decide) rfl rfl (g := (mkF m 17 A16 [(.long q3), (.ref o0)])) rfl rfl (hb hby dprog_8_method_1_code_17)
  have Fw27 := (f26).same W27
  have N27 := Fr.snoc X27 N23 g_o0
  have Z28 : n0 ≤ h27.size := Nat.le_trans Z24 (Keep.of_wr W27).1
  have K28 : Keep h0 h27 [o0] := K24.wr W27 (Or.inl (by simp))
  refine Go.st (S' := T27.setTop (mkF m 20 A16 [])) st27 ?_
  refine Go.st (S' := T27.setTop (mkF m 21 A16 [(.ref o0)])) (fun t k => XS.aloadN X27.here hx rfl (hb hby dprog_8_method_1_code_20) rfl rfl k) ?_
  refine Go.st (S' := T27.setTop (mkF m 23 A16 [(.int p4), (.ref o0)])) (fun t k => XS.iload X27.here hx rfl (hb hby dprog_8_method_1_code_21) rfl k) ?_
  have f29 := ((f25).wr W27)
  have f30 := ((((((F_o0_flushWhenIdle).other W19 (Or.inr (slot_ne (Or.inr (hw _ (List.mem_of_getElem? (i := 24) rfl))) (Or.inr (hw _ (List.mem_of_getElem? (i := 18) rfl))) (by decide) (t := .boolean) (t' := .int) (by decide) (by decide))))).other W23 (Or.inr (slot_ne (Or.inr (hw _ (List.mem_of_getElem? (i := 24) rfl))) (Or.inr (hw _ (List.mem_of_getElem? (i := 20) rfl))) (by decide) (t := .boolean) (t' := .long) (by decide) (by decide))))).other W27 (Or.inr (slot_ne (Or.inr (hw _ (List.mem_of_getElem? (i := 24) rfl))) (Or.inr (hw _ (List.mem_of_getElem? (i := 22) rfl))) (by decide) (t := .boolean) (t' := .long) (by decide) (by decide))))
  obtain ⟨v32, hv32⟩ : ∃ z, z = (p4 &&& (1 : Int32)) := ⟨_, rfl⟩
  obtain ⟨T31, h31, X31, e31, W31, st31⟩ := putFN X27 hx hZ hown (hw _ (List.mem_of_getElem? (i := 23) rfl)) Via.refl e27 f30 f29 (Or.inr ⟨(hw _ (List.mem_of_getElem? (i := 24) rfl)), rfl, hnm⟩) (hw _ (List.mem_of_getElem? (i := 4) rfl)) (ty := .boolean) (v' := (.int v32)) (by decide) (by rw [hv32]; rfl) (by rw [hv32]; exact fits_nar_bool _) (g := (mkF m 23 A16 [(.int p4), (.ref o0)])) rfl rfl (hb hby dprog_8_method_1_code_23)
  have Fw31 := (f30).same W31
  have N31 := Fr.snoc X31 N27 g_o0
  have Z33 : n0 ≤ h31.size := Nat.le_trans Z28 (Keep.of_wr W31).1
  have K33 : Keep h0 h31 [o0] := K28.wr W31 (Or.inl (by simp))
  refine Go.st (S' := T31.setTop (mkF m 26 A16 [])) st31 ?_
  have f34 := ((f29).wr W31)
  have f35 := ((((((Fw19).other W23 (Or.inr (slot_ne (Or.inr (hw _ (List.mem_of_getElem? (i := 18) rfl))) (Or.inr (hw _ (List.mem_of_getElem? (i := 20) rfl))) (by decide) (t := .int) (t' := .long) (by decide) (by decide))))).other W27 (Or.inr (slot_ne (Or.inr (hw _ (List.mem_of_getElem? (i := 18) rfl))) (Or.inr (hw _ (List.mem_of_getElem? (i := 22) rfl))) (by decide) (t := .int) (t' := .long) (by decide) (by decide))))).other W31 (Or.inr (slot_ne (Or.inr (hw _ (List.mem_of_getElem? (i := 18) rfl))) (Or.inr (hw _ (List.mem_of_getElem? (i := 24) rfl))) (by decide) (t := .int) (t' := .boolean) (by decide) (by decide))))
  have f36 := ((((Fw23).other W27 (Or.inr (slot_ne (Or.inr (hw _ (List.mem_of_getElem? (i := 20) rfl))) (Or.inr (hw _ (List.mem_of_getElem? (i := 22) rfl))) (by decide) (t := .long) (t' := .long) (by decide) (by decide))))).other W31 (Or.inr (slot_ne (Or.inr (hw _ (List.mem_of_getElem? (i := 20) rfl))) (Or.inr (hw _ (List.mem_of_getElem? (i := 24) rfl))) (by decide) (t := .long) (t' := .boolean) (by decide) (by decide))))
  have f37 := ((Fw27).other W31 (Or.inr (slot_ne (Or.inr (hw _ (List.mem_of_getElem? (i := 22) rfl))) (Or.inr (hw _ (List.mem_of_getElem? (i := 24) rfl))) (by decide) (t := .long) (t' := .boolean) (by decide) (by decide))))
  exact Go.ret X31 (v := none) (fun _ => rfl) Bd.notSynchronized (fun fs hr => X31.returnOut hx Bd.returns (hb hby dprog_8_method_1_code_26) hr) (by decide) (by decide) (by rw [e31]; exact ⟨v32, hv32, rfl, N31, K33, f34, f35, f36, f37, Fw31⟩)
theorem ef_3 (m : MethodId) (o0 : Addr) (p1 : Int32) (q2 : Int64) : entryFrame m #[(.ref o0), (.int p1), (.long q2)] 4 = mkF m 0 #[.val (.ref o0), .val (.int p1), .val (.long q2), .second] [] := by first | (simp [entryFrame, mkF, argsToLocals, Value.category, maxLocals]; done) | rfl
def Q3 (Z : State) (o0 : Addr) (p1 : Int32) (q2 : Int64) (u_o0_maxEntries : Int32) (u_o0_maxBytes : Int64) (h0 : Heap) (n0 : Nat) (v : Option Value) (h : Heap) (L : List Loc) : Prop := (∃ (rv3 : Int32), ((((0 : Int32) < u_o0_maxEntries) ∧ (p1 < u_o0_maxEntries) ∧ (q2 < u_o0_maxBytes) ∧ (rv3 = (0 : Int32))) ∨ (((0 : Int32) < u_o0_maxEntries) ∧ (p1 < u_o0_maxEntries) ∧ (¬ (q2 < u_o0_maxBytes)) ∧ (rv3 = (1 : Int32))) ∨ (((0 : Int32) < u_o0_maxEntries) ∧ (¬ (p1 < u_o0_maxEntries)) ∧ (rv3 = (1 : Int32))) ∨ ((¬ ((0 : Int32) < u_o0_maxEntries)) ∧ (q2 < u_o0_maxBytes) ∧ (rv3 = (0 : Int32))) ∨ ((¬ ((0 : Int32) < u_o0_maxEntries)) ∧ (¬ (q2 < u_o0_maxBytes)) ∧ (rv3 = (1 : Int32)))) ∧ v = some (.int rv3) ∧ Fr n0 L ∧ h = h0)
set_option maxRecDepth 65536 in
set_option maxHeartbeats 40000000 in
theorem rm3 (l : Launch) (Z : State) (a0 : Array Value) (hw : ∀ d ∈ tables_1, d.before a0 Z = true) (ws : List Jvm.Cond) (o0 : Addr) (p1 : Int32) (q2 : Int64) (u_o0_maxEntries : Int32) (u_o0_maxBytes : Int64) (h0 : Heap) (n0 : Nat) (Z0 : n0 ≤ h0.size) (F_o0_maxEntries : Fld Z h0 o0 "com/example/hale_ledger/haleledger/bookie/JournalGrouping" "maxEntries" "I" (.int u_o0_maxEntries)) (F_o0_maxBytes : Fld Z h0 o0 "com/example/hale_ledger/haleledger/bookie/JournalGrouping" "maxBytes" "J" (.long u_o0_maxBytes)) :
    Con l Z (⟨"com/example/hale_ledger/haleledger/bookie/JournalGrouping", "isFull", "(IJ)Z"⟩ : MethodName) prog_8_method_2_code 4 (some .boolean) ws ({ frames := 0, cells := 0, slots := 0, locals := 0 } : Room) #[(.ref o0), (.int p1), (.long q2)] h0 0 0 (Q3 Z o0 p1 q2 u_o0_maxEntries u_o0_maxBytes h0 n0) := by
  refine MetFree.of_bodySF (plainFor_of_name pn_1) hisR ?_
  intro p e s m args below meth c s₁ Bd hml0 hP hK
  obtain ⟨rfl, hZ, hh⟩ := hP
  have hx := Bd.exec
  have hby := Bd.bytes
  have hml : c.maxLocals = 4 := hml0
  have hown : s.vm.findClass "com/example/hale_ledger/haleledger/bookie/JournalGrouping" = some m.cls := findClass_of_methodNamed Bd.named
  have hnm := (name_of_methodNamed Bd.named Bd.method).1
  have X0 : Stand p l e ({ frames := 0, cells := 0, slots := 0, locals := 0 } : Room) s m #[(.ref o0), (.int p1), (.long q2)] below meth c s₁ [] 0 0 := Stand.of_body Bd
  have e0 : s₁.heap = h0 := by rw [← hh, Bd.state]; rfl
  have N0 := Fr.nil n0
  refine Go.of ?_
  refine Go.st (S' := s₁.setTop (mkF m 0 #[.val (.ref o0), .val (.int p1), .val (.long q2), .second] [])) (fun t k => castTop (ef_3 m o0 p1 q2) k) ?_
  refine Go.st (S' := s₁.setTop (mkF m 1 #[.val (.ref o0), .val (.int p1), .val (.long q2), .second] [(.ref o0)])) (fun t k => XS.aloadN X0.here hx rfl (hb hby dprog_8_method_2_code_0) rfl rfl k) ?_
  obtain ⟨T47, X47, e47, st47⟩ := getF X0 hx hZ hown (host := "") (Or.inl (hw _ (List.mem_of_getElem? (i := 17) rfl))) Via.refl e0 F_o0_maxEntries (g := (mkF m 1 #[.val (.ref o0), .val (.int p1), .val (.long q2), .second] [(.ref o0)])) rfl rfl (hb hby dprog_8_method_2_code_1)
  refine Go.st (S' := T47.setTop (mkF m 4 #[.val (.ref o0), .val (.int p1), .val (.long q2), .second] [(.int u_o0_maxEntries)])) st47 ?_
  by_cases hc48 : ((0 : Int32) < u_o0_maxEntries)
  · refine Go.st (S' := T47.setTop (mkF m 7 #[.val (.ref o0), .val (.int p1), .val (.long q2), .second] [])) (fun t k => XS.ifNo X47.here hx rfl (hb hby dprog_8_method_2_code_4) rfl ((if0 _ _).trans (tlt hc48).2.2.2) k) ?_
    refine Go.st (S' := T47.setTop (mkF m 8 #[.val (.ref o0), .val (.int p1), .val (.long q2), .second] [(.int p1)])) (fun t k => XS.iloadN X47.here hx rfl (hb hby dprog_8_method_2_code_7) rfl k) ?_
    refine Go.st (S' := T47.setTop (mkF m 9 #[.val (.ref o0), .val (.int p1), .val (.long q2), .second] [(.ref o0), (.int p1)])) (fun t k => XS.aloadN X47.here hx rfl (hb hby dprog_8_method_2_code_8) rfl rfl k) ?_
    obtain ⟨T49, X49, e49, st49⟩ := getF X47 hx hZ hown (host := "") (Or.inl (hw _ (List.mem_of_getElem? (i := 17) rfl))) Via.refl e47 F_o0_maxEntries (g := (mkF m 9 #[.val (.ref o0), .val (.int p1), .val (.long q2), .second] [(.ref o0), (.int p1)])) rfl rfl (hb hby dprog_8_method_2_code_9)
    refine Go.st (S' := T49.setTop (mkF m 12 #[.val (.ref o0), .val (.int p1), .val (.long q2), .second] [(.int u_o0_maxEntries), (.int p1)])) st49 ?_
    by_cases hc50 : (p1 < u_o0_maxEntries)
    · refine Go.st (S' := T49.setTop (mkF m 15 #[.val (.ref o0), .val (.int p1), .val (.long q2), .second] [])) (fun t k => XS.icmpNo X49.here hx rfl (hb hby dprog_8_method_2_code_12) rfl (tlt hc50).2.1 k) ?_
      refine Go.st (S' := T49.setTop (mkF m 16 #[.val (.ref o0), .val (.int p1), .val (.long q2), .second] [(.long q2)])) (fun t k => XS.lloadN X49.here hx rfl (hb hby dprog_8_method_2_code_15) rfl k) ?_
      refine Go.st (S' := T49.setTop (mkF m 17 #[.val (.ref o0), .val (.int p1), .val (.long q2), .second] [(.ref o0), (.long q2)])) (fun t k => XS.aloadN X49.here hx rfl (hb hby dprog_8_method_2_code_16) rfl rfl k) ?_
      obtain ⟨T51, X51, e51, st51⟩ := getF X49 hx hZ hown (host := "") (Or.inl (hw _ (List.mem_of_getElem? (i := 19) rfl))) Via.refl e49 F_o0_maxBytes (g := (mkF m 17 #[.val (.ref o0), .val (.int p1), .val (.long q2), .second] [(.ref o0), (.long q2)])) rfl rfl (hb hby dprog_8_method_2_code_17)
      refine Go.st (S' := T51.setTop (mkF m 20 #[.val (.ref o0), .val (.int p1), .val (.long q2), .second] [(.long u_o0_maxBytes), (.long q2)])) st51 ?_
      refine Go.op (F := fun z => T51.setTop (mkF m 21 #[.val (.ref o0), .val (.int p1), .val (.long q2), .second] [(.int z)])) (x := (lcmpW q2 u_o0_maxBytes)) (fun t k => XS.lcmp X51.here hx rfl (hb hby dprog_8_method_2_code_20) rfl k) ?_
      intro v52 hv52
      by_cases hc53 : (q2 < u_o0_maxBytes)
      · refine Go.st (S' := T51.setTop (mkF m 28 #[.val (.ref o0), .val (.int p1), .val (.long q2), .second] [])) (fun t k => XS.ifYes X51.here hx rfl (pc0 := 21) (pc' := 28) rfl (hb hby dprog_8_method_2_code_21) rfl ((if0 _ _).trans (tlt (by rw [hv52]; exact (lw_lt _ _).2 hc53)).1) (by decide) (by decide) k) ?_
        refine Go.st (S' := T51.setTop (mkF m 29 #[.val (.ref o0), .val (.int p1), .val (.long q2), .second] [(.int (0 : Int32))])) (fun t k => XS.iconst X51.here hx rfl (hb hby dprog_8_method_2_code_28) k) ?_
        exact Go.ret X51 (v := some (.int (0 : Int32))) (fun h => by rw [Bd.returns] at h; cases h) Bd.notSynchronized (fun fs hr => retN X51 hx (t := .boolean) Bd.returns (by simp) (hb hby dprog_8_method_2_code_29) hr) (by decide) (by decide) (⟨(0 : Int32), (Or.inl ⟨hc48, hc50, hc53, rfl⟩), rfl, N0, (e51)⟩)
      · refine Go.st (S' := T51.setTop (mkF m 24 #[.val (.ref o0), .val (.int p1), .val (.long q2), .second] [])) (fun t k => XS.ifNo X51.here hx rfl (hb hby dprog_8_method_2_code_21) rfl ((if0 _ _).trans (flt (by rw [hv52]; exact fun z => hc53 ((lw_lt _ _).1 z))).1) k) ?_
        refine Go.st (S' := T51.setTop (mkF m 25 #[.val (.ref o0), .val (.int p1), .val (.long q2), .second] [(.int (1 : Int32))])) (fun t k => XS.iconst X51.here hx rfl (hb hby dprog_8_method_2_code_24) k) ?_
        refine Go.st (S' := T51.setTop (mkF m 29 #[.val (.ref o0), .val (.int p1), .val (.long q2), .second] [(.int (1 : Int32))])) (fun t k => XS.goto X51.here hx rfl (pc0 := 25) (pc' := 29) rfl (hb hby dprog_8_method_2_code_25) (by decide) (by decide) k) ?_
        exact Go.ret X51 (v := some (.int (1 : Int32))) (fun h => by rw [Bd.returns] at h; cases h) Bd.notSynchronized (fun fs hr => retN X51 hx (t := .boolean) Bd.returns (by simp) (hb hby dprog_8_method_2_code_29) hr) (by decide) (by decide) (⟨(1 : Int32), (Or.inr (Or.inl ⟨hc48, hc50, hc53, rfl⟩)), rfl, N0, (e51)⟩)
    · refine Go.st (S' := T49.setTop (mkF m 24 #[.val (.ref o0), .val (.int p1), .val (.long q2), .second] [])) (fun t k => XS.icmpYes X49.here hx rfl (pc0 := 12) (pc' := 24) rfl (hb hby dprog_8_method_2_code_12) rfl (flt hc50).2.1 (by decide) (by decide) k) ?_
      refine Go.st (S' := T49.setTop (mkF m 25 #[.val (.ref o0), .val (.int p1), .val (.long q2), .second] [(.int (1 : Int32))])) (fun t k => XS.iconst X49.here hx rfl (hb hby dprog_8_method_2_code_24) k) ?_
      refine Go.st (S' := T49.setTop (mkF m 29 #[.val (.ref o0), .val (.int p1), .val (.long q2), .second] [(.int (1 : Int32))])) (fun t k => XS.goto X49.here hx rfl (pc0 := 25) (pc' := 29) rfl (hb hby dprog_8_method_2_code_25) (by decide) (by decide) k) ?_
      exact Go.ret X49 (v := some (.int (1 : Int32))) (fun h => by rw [Bd.returns] at h; cases h) Bd.notSynchronized (fun fs hr => retN X49 hx (t := .boolean) Bd.returns (by simp) (hb hby dprog_8_method_2_code_29) hr) (by decide) (by decide) (⟨(1 : Int32), (Or.inr (Or.inr (Or.inl ⟨hc48, hc50, rfl⟩))), rfl, N0, (e49)⟩)
  · refine Go.st (S' := T47.setTop (mkF m 15 #[.val (.ref o0), .val (.int p1), .val (.long q2), .second] [])) (fun t k => XS.ifYes X47.here hx rfl (pc0 := 4) (pc' := 15) rfl (hb hby dprog_8_method_2_code_4) rfl ((if0 _ _).trans (flt hc48).2.2.2) (by decide) (by decide) k) ?_
    refine Go.st (S' := T47.setTop (mkF m 16 #[.val (.ref o0), .val (.int p1), .val (.long q2), .second] [(.long q2)])) (fun t k => XS.lloadN X47.here hx rfl (hb hby dprog_8_method_2_code_15) rfl k) ?_
    refine Go.st (S' := T47.setTop (mkF m 17 #[.val (.ref o0), .val (.int p1), .val (.long q2), .second] [(.ref o0), (.long q2)])) (fun t k => XS.aloadN X47.here hx rfl (hb hby dprog_8_method_2_code_16) rfl rfl k) ?_
    obtain ⟨T54, X54, e54, st54⟩ := getF X47 hx hZ hown (host := "") (Or.inl (hw _ (List.mem_of_getElem? (i := 19) rfl))) Via.refl e47 F_o0_maxBytes (g := (mkF m 17 #[.val (.ref o0), .val (.int p1), .val (.long q2), .second] [(.ref o0), (.long q2)])) rfl rfl (hb hby dprog_8_method_2_code_17)
    refine Go.st (S' := T54.setTop (mkF m 20 #[.val (.ref o0), .val (.int p1), .val (.long q2), .second] [(.long u_o0_maxBytes), (.long q2)])) st54 ?_
    refine Go.op (F := fun z => T54.setTop (mkF m 21 #[.val (.ref o0), .val (.int p1), .val (.long q2), .second] [(.int z)])) (x := (lcmpW q2 u_o0_maxBytes)) (fun t k => XS.lcmp X54.here hx rfl (hb hby dprog_8_method_2_code_20) rfl k) ?_
    intro v55 hv55
    by_cases hc56 : (q2 < u_o0_maxBytes)
    · refine Go.st (S' := T54.setTop (mkF m 28 #[.val (.ref o0), .val (.int p1), .val (.long q2), .second] [])) (fun t k => XS.ifYes X54.here hx rfl (pc0 := 21) (pc' := 28) rfl (hb hby dprog_8_method_2_code_21) rfl ((if0 _ _).trans (tlt (by rw [hv55]; exact (lw_lt _ _).2 hc56)).1) (by decide) (by decide) k) ?_
      refine Go.st (S' := T54.setTop (mkF m 29 #[.val (.ref o0), .val (.int p1), .val (.long q2), .second] [(.int (0 : Int32))])) (fun t k => XS.iconst X54.here hx rfl (hb hby dprog_8_method_2_code_28) k) ?_
      exact Go.ret X54 (v := some (.int (0 : Int32))) (fun h => by rw [Bd.returns] at h; cases h) Bd.notSynchronized (fun fs hr => retN X54 hx (t := .boolean) Bd.returns (by simp) (hb hby dprog_8_method_2_code_29) hr) (by decide) (by decide) (⟨(0 : Int32), (Or.inr (Or.inr (Or.inr (Or.inl ⟨hc48, hc56, rfl⟩)))), rfl, N0, (e54)⟩)
    · refine Go.st (S' := T54.setTop (mkF m 24 #[.val (.ref o0), .val (.int p1), .val (.long q2), .second] [])) (fun t k => XS.ifNo X54.here hx rfl (hb hby dprog_8_method_2_code_21) rfl ((if0 _ _).trans (flt (by rw [hv55]; exact fun z => hc56 ((lw_lt _ _).1 z))).1) k) ?_
      refine Go.st (S' := T54.setTop (mkF m 25 #[.val (.ref o0), .val (.int p1), .val (.long q2), .second] [(.int (1 : Int32))])) (fun t k => XS.iconst X54.here hx rfl (hb hby dprog_8_method_2_code_24) k) ?_
      refine Go.st (S' := T54.setTop (mkF m 29 #[.val (.ref o0), .val (.int p1), .val (.long q2), .second] [(.int (1 : Int32))])) (fun t k => XS.goto X54.here hx rfl (pc0 := 25) (pc' := 29) rfl (hb hby dprog_8_method_2_code_25) (by decide) (by decide) k) ?_
      exact Go.ret X54 (v := some (.int (1 : Int32))) (fun h => by rw [Bd.returns] at h; cases h) Bd.notSynchronized (fun fs hr => retN X54 hx (t := .boolean) Bd.returns (by simp) (hb hby dprog_8_method_2_code_29) hr) (by decide) (by decide) (⟨(1 : Int32), (Or.inr (Or.inr (Or.inr (Or.inr ⟨hc48, hc56, rfl⟩)))), rfl, N0, (e54)⟩)
theorem ef_4 (m : MethodId) (p0 : Int32) (p1 : Int32) : entryFrame m #[(.int p0), (.int p1)] 2 = mkF m 0 #[.val (.int p0), .val (.int p1)] [] := by first | (simp [entryFrame, mkF, argsToLocals, Value.category, maxLocals]; done) | rfl
def Q4 (Z : State) (p0 : Int32) (p1 : Int32) (h0 : Heap) (n0 : Nat) (v : Option Value) (h : Heap) (L : List Loc) : Prop := (∃ (rv4 : Int32), (((p0 < p1) ∧ (rv4 = p1)) ∨ ((¬ (p0 < p1)) ∧ (rv4 = p0))) ∧ v = some (.int rv4) ∧ Fr n0 L ∧ h = h0)
set_option maxRecDepth 65536 in
set_option maxHeartbeats 40000000 in
theorem rm4 (l : Launch) (Z : State) (a0 : Array Value) (hw : ∀ d ∈ tables_1, d.before a0 Z = true) (ws : List Jvm.Cond) (p0 : Int32) (p1 : Int32) (h0 : Heap) (n0 : Nat) (Z0 : n0 ≤ h0.size)  :
    Con l Z (⟨"java/lang/Math", "max", "(II)I"⟩ : MethodName) jdk_29_method_65_code 2 (some .int) ws ({ frames := 0, cells := 0, slots := 0, locals := 0 } : Room) #[(.int p0), (.int p1)] h0 0 0 (Q4 Z p0 p1 h0 n0) := by
  refine MetFree.of_bodySF (Jvm.Free.JP.mathPlain rfl (by decide +kernel)) hisR ?_
  intro p e s m args below meth c s₁ Bd hml0 hP hK
  obtain ⟨rfl, hZ, hh⟩ := hP
  have hx := Bd.exec
  have hby := Bd.bytes
  have hml : c.maxLocals = 2 := hml0
  have hown : s.vm.findClass "java/lang/Math" = some m.cls := findClass_of_methodNamed Bd.named
  have hnm := (name_of_methodNamed Bd.named Bd.method).1
  have X0 : Stand p l e ({ frames := 0, cells := 0, slots := 0, locals := 0 } : Room) s m #[(.int p0), (.int p1)] below meth c s₁ [] 0 0 := Stand.of_body Bd
  have e0 : s₁.heap = h0 := by rw [← hh, Bd.state]; rfl
  have N0 := Fr.nil n0
  refine Go.of ?_
  refine Go.st (S' := s₁.setTop (mkF m 0 #[.val (.int p0), .val (.int p1)] [])) (fun t k => castTop (ef_4 m p0 p1) k) ?_
  refine Go.st (S' := s₁.setTop (mkF m 1 #[.val (.int p0), .val (.int p1)] [(.int p0)])) (fun t k => XS.iloadN X0.here hx rfl (hb hby djdk_29_method_65_code_0) rfl k) ?_
  refine Go.st (S' := s₁.setTop (mkF m 2 #[.val (.int p0), .val (.int p1)] [(.int p1), (.int p0)])) (fun t k => XS.iloadN X0.here hx rfl (hb hby djdk_29_method_65_code_1) rfl k) ?_
  by_cases hc68 : (p0 < p1)
  · refine Go.st (S' := s₁.setTop (mkF m 9 #[.val (.int p0), .val (.int p1)] [])) (fun t k => XS.icmpYes X0.here hx rfl (pc0 := 2) (pc' := 9) rfl (hb hby djdk_29_method_65_code_2) rfl (tlt hc68).1 (by decide) (by decide) k) ?_
    refine Go.st (S' := s₁.setTop (mkF m 10 #[.val (.int p0), .val (.int p1)] [(.int p1)])) (fun t k => XS.iloadN X0.here hx rfl (hb hby djdk_29_method_65_code_9) rfl k) ?_
    exact Go.ret X0 (v := some (.int p1)) (fun h => by rw [Bd.returns] at h; cases h) Bd.notSynchronized (fun fs hr => retI X0 hx Bd.returns (hb hby djdk_29_method_65_code_10) hr) (by decide) (by decide) (⟨p1, (Or.inl ⟨hc68, rfl⟩), rfl, N0, (e0)⟩)
  · refine Go.st (S' := s₁.setTop (mkF m 5 #[.val (.int p0), .val (.int p1)] [])) (fun t k => XS.icmpNo X0.here hx rfl (hb hby djdk_29_method_65_code_2) rfl (flt hc68).1 k) ?_
    refine Go.st (S' := s₁.setTop (mkF m 6 #[.val (.int p0), .val (.int p1)] [(.int p0)])) (fun t k => XS.iloadN X0.here hx rfl (hb hby djdk_29_method_65_code_5) rfl k) ?_
    refine Go.st (S' := s₁.setTop (mkF m 10 #[.val (.int p0), .val (.int p1)] [(.int p0)])) (fun t k => XS.goto X0.here hx rfl (pc0 := 6) (pc' := 10) rfl (hb hby djdk_29_method_65_code_6) (by decide) (by decide) k) ?_
    exact Go.ret X0 (v := some (.int p0)) (fun h => by rw [Bd.returns] at h; cases h) Bd.notSynchronized (fun fs hr => retI X0 hx Bd.returns (hb hby djdk_29_method_65_code_10) hr) (by decide) (by decide) (⟨p0, (Or.inr ⟨hc68, rfl⟩), rfl, N0, (e0)⟩)
theorem ef_5 (m : MethodId) (q0 : Int64) (q1 : Int64) : entryFrame m #[(.long q0), (.long q1)] 4 = mkF m 0 #[.val (.long q0), .second, .val (.long q1), .second] [] := by first | (simp [entryFrame, mkF, argsToLocals, Value.category, maxLocals]; done) | rfl
def Q5 (Z : State) (q0 : Int64) (q1 : Int64) (h0 : Heap) (n0 : Nat) (v : Option Value) (h : Heap) (L : List Loc) : Prop := (∃ (rv5 : Int64), (((q0 < q1) ∧ (rv5 = q1)) ∨ ((¬ (q0 < q1)) ∧ (rv5 = q0))) ∧ v = some (.long rv5) ∧ Fr n0 L ∧ h = h0)
set_option maxRecDepth 65536 in
set_option maxHeartbeats 40000000 in
theorem rm5 (l : Launch) (Z : State) (a0 : Array Value) (hw : ∀ d ∈ tables_1, d.before a0 Z = true) (ws : List Jvm.Cond) (q0 : Int64) (q1 : Int64) (h0 : Heap) (n0 : Nat) (Z0 : n0 ≤ h0.size)  :
    Con l Z (⟨"java/lang/Math", "max", "(JJ)J"⟩ : MethodName) jdk_29_method_66_code 4 (some .long) ws ({ frames := 0, cells := 0, slots := 0, locals := 0 } : Room) #[(.long q0), (.long q1)] h0 0 0 (Q5 Z q0 q1 h0 n0) := by
  refine MetFree.of_bodySF (Jvm.Free.JP.mathPlain rfl (by decide +kernel)) hisR ?_
  intro p e s m args below meth c s₁ Bd hml0 hP hK
  obtain ⟨rfl, hZ, hh⟩ := hP
  have hx := Bd.exec
  have hby := Bd.bytes
  have hml : c.maxLocals = 4 := hml0
  have hown : s.vm.findClass "java/lang/Math" = some m.cls := findClass_of_methodNamed Bd.named
  have hnm := (name_of_methodNamed Bd.named Bd.method).1
  have X0 : Stand p l e ({ frames := 0, cells := 0, slots := 0, locals := 0 } : Room) s m #[(.long q0), (.long q1)] below meth c s₁ [] 0 0 := Stand.of_body Bd
  have e0 : s₁.heap = h0 := by rw [← hh, Bd.state]; rfl
  have N0 := Fr.nil n0
  refine Go.of ?_
  refine Go.st (S' := s₁.setTop (mkF m 0 #[.val (.long q0), .second, .val (.long q1), .second] [])) (fun t k => castTop (ef_5 m q0 q1) k) ?_
  refine Go.st (S' := s₁.setTop (mkF m 1 #[.val (.long q0), .second, .val (.long q1), .second] [(.long q0)])) (fun t k => XS.lloadN X0.here hx rfl (hb hby djdk_29_method_66_code_0) rfl k) ?_
  refine Go.st (S' := s₁.setTop (mkF m 2 #[.val (.long q0), .second, .val (.long q1), .second] [(.long q1), (.long q0)])) (fun t k => XS.lloadN X0.here hx rfl (hb hby djdk_29_method_66_code_1) rfl k) ?_
  refine Go.op (F := fun z => s₁.setTop (mkF m 3 #[.val (.long q0), .second, .val (.long q1), .second] [(.int z)])) (x := (lcmpW q0 q1)) (fun t k => XS.lcmp X0.here hx rfl (hb hby djdk_29_method_66_code_2) rfl k) ?_
  intro v73 hv73
  by_cases hc74 : (q0 < q1)
  · refine Go.st (S' := s₁.setTop (mkF m 10 #[.val (.long q0), .second, .val (.long q1), .second] [])) (fun t k => XS.ifYes X0.here hx rfl (pc0 := 3) (pc' := 10) rfl (hb hby djdk_29_method_66_code_3) rfl ((if0 _ _).trans (tlt (by rw [hv73]; exact (lw_lt _ _).2 hc74)).1) (by decide) (by decide) k) ?_
    refine Go.st (S' := s₁.setTop (mkF m 11 #[.val (.long q0), .second, .val (.long q1), .second] [(.long q1)])) (fun t k => XS.lloadN X0.here hx rfl (hb hby djdk_29_method_66_code_10) rfl k) ?_
    exact Go.ret X0 (v := some (.long q1)) (fun h => by rw [Bd.returns] at h; cases h) Bd.notSynchronized (fun fs hr => retOut X0 hx Bd.returns rfl (Or.inr (Or.inl ⟨rfl, rfl, _, rfl⟩)) (hb hby djdk_29_method_66_code_11) hr) (by decide) (by decide) (⟨q1, (Or.inl ⟨hc74, rfl⟩), rfl, N0, (e0)⟩)
  · refine Go.st (S' := s₁.setTop (mkF m 6 #[.val (.long q0), .second, .val (.long q1), .second] [])) (fun t k => XS.ifNo X0.here hx rfl (hb hby djdk_29_method_66_code_3) rfl ((if0 _ _).trans (flt (by rw [hv73]; exact fun z => hc74 ((lw_lt _ _).1 z))).1) k) ?_
    refine Go.st (S' := s₁.setTop (mkF m 7 #[.val (.long q0), .second, .val (.long q1), .second] [(.long q0)])) (fun t k => XS.lloadN X0.here hx rfl (hb hby djdk_29_method_66_code_6) rfl k) ?_
    refine Go.st (S' := s₁.setTop (mkF m 11 #[.val (.long q0), .second, .val (.long q1), .second] [(.long q0)])) (fun t k => XS.goto X0.here hx rfl (pc0 := 7) (pc' := 11) rfl (hb hby djdk_29_method_66_code_7) (by decide) (by decide) k) ?_
    exact Go.ret X0 (v := some (.long q0)) (fun h => by rw [Bd.returns] at h; cases h) Bd.notSynchronized (fun fs hr => retOut X0 hx Bd.returns rfl (Or.inr (Or.inl ⟨rfl, rfl, _, rfl⟩)) (hb hby djdk_29_method_66_code_11) hr) (by decide) (by decide) (⟨q0, (Or.inr ⟨hc74, rfl⟩), rfl, N0, (e0)⟩)
theorem ef_6 (m : MethodId) (p0 : Int32) (q1 : Int64) (p2 : Int32) (q3 : Int64) (p4 : Int32) (q5 : Int64) : entryFrame m #[(.int p0), (.long q1), (.int p2), (.long q3), (.int p4), (.long q5)] maxLocals = mkF m 0 #[.val (.int p0), .val (.long q1), .second, .val (.int p2), .val (.long q3), .second, .val (.int p4), .val (.long q5), .second, .unset, .unset, .unset, .unset, .unset, .unset, .unset, .unset, .unset, .unset, .unset, .unset, .unset, .unset, .unset] [] := by first | (simp [entryFrame, mkF, argsToLocals, Value.category, maxLocals]; done) | rfl
def Q6 (Z : State) (p0 : Int32) (q1 : Int64) (p2 : Int32) (q3 : Int64) (p4 : Int32) (q5 : Int64) (h0 : Heap) (n0 : Nat) (v : Option Value) (h : Heap) (L : List Loc) : Prop := v = some (.int 1) ∧ Fr n0 L
set_option maxRecDepth 65536 in
set_option maxHeartbeats 40000000 in
theorem rm6 (l : Launch) (Z : State) (a0 : Array Value) (hw : ∀ d ∈ tables_1, d.before a0 Z = true) (ws : List Jvm.Cond) (p0 : Int32) (q1 : Int64) (p2 : Int32) (q3 : Int64) (p4 : Int32) (q5 : Int64) (h0 : Heap) (n0 : Nat) (Z0 : n0 ≤ h0.size)  :
    Con l Z x code maxLocals ret ws room_1 #[(.int p0), (.long q1), (.int p2), (.long q3), (.int p4), (.long q5)] h0 1 4 (Q6 Z p0 q1 p2 q3 p4 q5 h0 n0) := by
  refine MetFree.of_bodySF (plainFor_of_name pn_2) hisR ?_
  intro p e s m args below meth c s₁ Bd hml0 hP hK
  obtain ⟨rfl, hZ, hh⟩ := hP
  have hx := Bd.exec
  have hby := Bd.bytes
  have hml : c.maxLocals = 24 := hml0
  have hown : s.vm.findClass "com/example/hale_ledger/haleledger/bookie/JournalGroupingIsFullPinLaw" = some m.cls := findClass_of_methodNamed Bd.named
  have hnm := (name_of_methodNamed Bd.named Bd.method).1
  have X0 : Stand p l e room_1 s m #[(.int p0), (.long q1), (.int p2), (.long q3), (.int p4), (.long q5)] below meth c s₁ [] 0 0 := Stand.of_body Bd
  have e0 : s₁.heap = h0 := by rw [← hh, Bd.state]; rfl
  have N0 := Fr.nil n0
  refine Go.of ?_
  refine Go.st (S' := s₁.setTop (mkF m 0 #[.val (.int p0), .val (.long q1), .second, .val (.int p2), .val (.long q3), .second, .val (.int p4), .val (.long q5), .second, .unset, .unset, .unset, .unset, .unset, .unset, .unset, .unset, .unset, .unset, .unset, .unset, .unset, .unset, .unset] [])) (fun t k => castTop (ef_6 m p0 q1 p2 q3 p4 q5) k) ?_
  let A1 : Array Slot := #[.val (.int p0), .val (.long q1), .second, .val (.int p2), .val (.long q3), .second, .val (.int p4), .val (.long q5), .second, .unset, .unset, .unset, .unset, .unset, .unset, .unset, .unset, .unset, .unset, .unset, .unset, .unset, .unset, .unset]
  refine Go.st (S' := s₁.setTop (mkF m 1 A1 [(.int p0)])) (fun t k => XS.iloadN X0.here hx rfl (hb hby at_0) rfl k) ?_
  refine Go.st (S' := s₁.setTop (mkF m 3 A1 [(.int (2147483647 : Int32)), (.int p0)])) (fun t k => X0.ldcInt hx hown (mvT hZ (hw _ (List.mem_of_getElem? (i := 0) rfl))) (g := (mkF m 1 A1 [(.int p0)])) rfl (hb hby at_1) t k) ?_
  refine Go.op (F := fun z => s₁.setTop (mkF m 4 A1 [(.int z)])) (x := (p0 &&& (2147483647 : Int32))) (fun t k => XS.iand X0.here hx rfl (hb hby at_3) rfl k) ?_
  intro v2 hv2
  let A3 : Array Slot := #[.val (.int p0), .val (.long q1), .second, .val (.int p2), .val (.long q3), .second, .val (.int p4), .val (.long q5), .second, .val (.int v2), .unset, .unset, .unset, .unset, .unset, .unset, .unset, .unset, .unset, .unset, .unset, .unset, .unset, .unset]
  refine Go.st (S' := s₁.setTop (mkF m 6 A3 [])) (fun t k => XS.istore X0.here hx rfl (hb hby at_4) rfl (l' := A3) rfl k) ?_
  refine Go.st (S' := s₁.setTop (mkF m 7 A3 [(.long q1)])) (fun t k => XS.lloadN X0.here hx rfl (hb hby at_6) rfl k) ?_
  refine Go.st (S' := s₁.setTop (mkF m 10 A3 [(.long (9223372036854775807 : Int64)), (.long q1)])) (fun t k => X0.ldc2Long hx hown (mvT hZ (hw _ (List.mem_of_getElem? (i := 1) rfl))) (g := (mkF m 7 A3 [(.long q1)])) rfl (hb hby at_7) t k) ?_
  refine Go.op (F := fun z => s₁.setTop (mkF m 11 A3 [(.long z)])) (x := (q1 &&& (9223372036854775807 : Int64))) (fun t k => XS.land X0.here hx rfl (hb hby at_10) rfl k) ?_
  intro v4 hv4
  let A5 : Array Slot := #[.val (.int p0), .val (.long q1), .second, .val (.int p2), .val (.long q3), .second, .val (.int p4), .val (.long q5), .second, .val (.int v2), .val (.long v4), .second, .unset, .unset, .unset, .unset, .unset, .unset, .unset, .unset, .unset, .unset, .unset, .unset]
  refine Go.st (S' := s₁.setTop (mkF m 13 A5 [])) (fun t k => XS.lstore X0.here hx rfl (hb hby at_11) rfl (l' := A5) rfl k) ?_
  refine Go.st (S' := s₁.setTop (mkF m 15 A5 [(.long v4)])) (fun t k => XS.lload X0.here hx rfl (hb hby at_13) rfl k) ?_
  refine Go.st (S' := s₁.setTop (mkF m 16 A5 [(.long (0 : Int64)), (.long v4)])) (fun t k => XS.lconst X0.here hx rfl (hb hby at_15) k) ?_
  refine Go.op (F := fun z => s₁.setTop (mkF m 17 A5 [(.int z)])) (x := (lcmpW v4 (0 : Int64))) (fun t k => XS.lcmp X0.here hx rfl (hb hby at_16) rfl k) ?_
  intro v6 hv6
  by_cases hc484 : (v4 = (0 : Int64))
  · refine Go.st (S' := s₁.setTop (mkF m 20 A5 [])) (fun t k => XS.ifNo X0.here hx rfl (hb hby at_17) rfl ((if0 _ _).trans (teq (by rw [hv6]; exact (lw_eq _ _).2 hc484)).2) k) ?_
    refine Go.st (S' := s₁.setTop (mkF m 21 A5 [(.long (1 : Int64))])) (fun t k => XS.lconst X0.here hx rfl (hb hby at_20) k) ?_
    let A485 : Array Slot := #[.val (.int p0), .val (.long q1), .second, .val (.int p2), .val (.long q3), .second, .val (.int p4), .val (.long q5), .second, .val (.int v2), .val (.long (1 : Int64)), .second, .unset, .unset, .unset, .unset, .unset, .unset, .unset, .unset, .unset, .unset, .unset, .unset]
    refine Go.st (S' := s₁.setTop (mkF m 23 A485 [])) (fun t k => XS.lstore X0.here hx rfl (hb hby at_21) rfl (l' := A485) rfl k) ?_
    refine Go.st (S' := s₁.setTop (mkF m 25 A485 [(.long q5)])) (fun t k => XS.lload X0.here hx rfl (hb hby at_23) rfl k) ?_
    refine Go.st (S' := s₁.setTop (mkF m 28 A485 [(.long (65535 : Int64)), (.long q5)])) (fun t k => X0.ldc2Long hx hown (mvT hZ (hw _ (List.mem_of_getElem? (i := 2) rfl))) (g := (mkF m 25 A485 [(.long q5)])) rfl (hb hby at_25) t k) ?_
    refine Go.op (F := fun z => s₁.setTop (mkF m 29 A485 [(.long z)])) (x := (q5 &&& (65535 : Int64))) (fun t k => XS.land X0.here hx rfl (hb hby at_28) rfl k) ?_
    intro v486 hv486
    let A487 : Array Slot := #[.val (.int p0), .val (.long q1), .second, .val (.int p2), .val (.long q3), .second, .val (.int p4), .val (.long q5), .second, .val (.int v2), .val (.long (1 : Int64)), .second, .val (.long v486), .second, .unset, .unset, .unset, .unset, .unset, .unset, .unset, .unset, .unset, .unset]
    refine Go.st (S' := s₁.setTop (mkF m 31 A487 [])) (fun t k => XS.lstore X0.here hx rfl (hb hby at_29) rfl (l' := A487) rfl k) ?_
    refine Go.st (S' := s₁.setTop (mkF m 33 A487 [(.int p4)])) (fun t k => XS.iload X0.here hx rfl (hb hby at_31) rfl k) ?_
    refine Go.st (S' := s₁.setTop (mkF m 34 A487 [(.int (1 : Int32)), (.int p4)])) (fun t k => XS.iconst X0.here hx rfl (hb hby at_33) k) ?_
    refine Go.op (F := fun z => s₁.setTop (mkF m 35 A487 [(.int z)])) (x := (p4 &&& (1 : Int32))) (fun t k => XS.iand X0.here hx rfl (hb hby at_34) rfl k) ?_
    intro v488 hv488
    refine Go.join (α := Int32) (fun r => (((v488 = (0 : Int32)) ∧ (r = (0 : Int32))) ∨ ((¬ (v488 = (0 : Int32))) ∧ (r = (1 : Int32))))) (fun r => s₁.setTop (mkF m 43 A487 [(.int r)])) ?_ ?_
    · intro r491 hc492
      let A493 : Array Slot := #[.val (.int p0), .val (.long q1), .second, .val (.int p2), .val (.long q3), .second, .val (.int p4), .val (.long q5), .second, .val (.int v2), .val (.long (1 : Int64)), .second, .val (.long v486), .second, .val (.int r491), .unset, .unset, .unset, .unset, .unset, .unset, .unset, .unset, .unset]
      refine Go.st (S' := s₁.setTop (mkF m 45 A493 [])) (fun t k => XS.istore X0.here hx rfl (hb hby at_43) rfl (l' := A493) rfl k) ?_
      obtain ⟨T494, h494, X494, e494, E494, A494, D494, -, st494⟩ := newO X0 hx hZ hown (hw _ (List.mem_of_getElem? (i := 3) rfl)) (hw _ (List.mem_of_getElem? (i := 4) rfl)) (hw _ (List.mem_of_getElem? (i := 5) rfl)) e0 (g := (mkF m 45 A493 [])) rfl (hb hby at_45) (by decide) (by decide)
      obtain ⟨b494, gg494⟩ : ∃ z, z = h0.size := ⟨_, rfl⟩
      rw [← gg494] at A494 D494 st494
      have g_b494 : n0 ≤ b494 := Nat.le_trans Z0 (Nat.le_of_eq gg494.symm)
      have sz_b494 : h0.size ≤ b494 := Nat.le_trans (Keep.refl h0 []).1 (Nat.le_of_eq gg494.symm)
      have Z495 : n0 ≤ h494.size := Nat.le_trans Z0 E494.1
      have K495 : Keep h0 h494 [] := (Keep.refl h0 []).ext E494
      have Fb494_maxEntries : Fld Z h494 b494 "com/example/hale_ledger/haleledger/bookie/JournalGrouping" "maxEntries" "I" (.int (0 : Int32)) := D494 (Or.inr (hw _ (List.mem_of_getElem? (i := 18) rfl))) (ty := .int) (by decide)
      have Fb494_maxBytes : Fld Z h494 b494 "com/example/hale_ledger/haleledger/bookie/JournalGrouping" "maxBytes" "J" (.long (0 : Int64)) := D494 (Or.inr (hw _ (List.mem_of_getElem? (i := 20) rfl))) (ty := .long) (by decide)
      have Fb494_waitMillis : Fld Z h494 b494 "com/example/hale_ledger/haleledger/bookie/JournalGrouping" "waitMillis" "J" (.long (0 : Int64)) := D494 (Or.inr (hw _ (List.mem_of_getElem? (i := 22) rfl))) (ty := .long) (by decide)
      have Fb494_flushWhenIdle : Fld Z h494 b494 "com/example/hale_ledger/haleledger/bookie/JournalGrouping" "flushWhenIdle" "Z" (.int (0 : Int32)) := D494 (Or.inr (hw _ (List.mem_of_getElem? (i := 24) rfl))) (ty := .boolean) (by decide)
      refine Go.st (S' := T494.setTop (mkF m 48 A493 [(.ref b494)])) st494 ?_
      refine Go.st (S' := T494.setTop (mkF m 49 A493 [(.ref b494), (.ref b494)])) (fun t k => XS.dup X494.here hx rfl (hb hby at_48) rfl rfl k) ?_
      refine Go.st (S' := T494.setTop (mkF m 51 A493 [(.int v2), (.ref b494), (.ref b494)])) (fun t k => XS.iload X494.here hx rfl (hb hby at_49) rfl k) ?_
      refine Go.st (S' := T494.setTop (mkF m 53 A493 [(.long (1 : Int64)), (.int v2), (.ref b494), (.ref b494)])) (fun t k => XS.lload X494.here hx rfl (hb hby at_51) rfl k) ?_
      refine Go.st (S' := T494.setTop (mkF m 55 A493 [(.long v486), (.long (1 : Int64)), (.int v2), (.ref b494), (.ref b494)])) (fun t k => XS.lload X494.here hx rfl (hb hby at_53) rfl k) ?_
      refine Go.st (S' := T494.setTop (mkF m 57 A493 [(.int r491), (.long v486), (.long (1 : Int64)), (.int v2), (.ref b494), (.ref b494)])) (fun t k => XS.iload X494.here hx rfl (hb hby at_55) rfl k) ?_
      obtain ⟨r496, T496, L496, X496, hQ496, st496⟩ := own_callI (W := 1) (a := b494) X494 hx hZ e494 hown (y := (⟨"com/example/hale_ledger/haleledger/bookie/JournalGrouping", "<init>", "(IJJZ)V"⟩ : MethodName)) rfl (hw _ (List.mem_of_getElem? (i := 6) rfl)) (hw _ (List.mem_of_getElem? (i := 7) rfl)) (hw _ (List.mem_of_getElem? (i := 5) rfl)) (hw _ (List.mem_of_getElem? (i := 8) rfl)) (by decide) (rm2 l Z a0 hw [] b494 v2 (1 : Int64) v486 r491 ((.int (0 : Int32))) ((.long (0 : Int64))) ((.long (0 : Int64))) ((.int (0 : Int32))) h494 n0 Z495 (A494) (Fb494_maxEntries) (g_b494) (Fb494_maxBytes) (Fb494_waitMillis) (Fb494_flushWhenIdle)) (by decide) (by decide) (by decide) (by decide) (g := (mkF m 57 A493 [(.int r491), (.long v486), (.long (1 : Int64)), (.int v2), (.ref b494), (.ref b494)])) rfl (by rw [hml]; rfl) (argsL := [(.int v2), (.long (1 : Int64)), (.long v486), (.int r491)]) (rest := [(.ref b494)]) rfl (lenOf pd_1 rfl) rfl (by show 2 * 0 + _ ≤ _; exact Nat.le_of_eq rfl) (hb hby at_57)
      obtain ⟨v497, hv497, rfl, N496, K496_, f498, f499, f500, f501, f502⟩ := hQ496
      have N496_ := Fr.app N0 N496
      have Z503 : n0 ≤ T496.heap.size := Nat.le_trans Z495 K496_.1
      have K503 : Keep h0 T496.heap [] := K495.trans K496_ (allS (Or.inr sz_b494) all0)
      refine Go.st (S' := T496.setTop (mkF m 60 A493 [(.ref b494)])) st496 ?_
      let A504 : Array Slot := #[.val (.int p0), .val (.long q1), .second, .val (.int p2), .val (.long q3), .second, .val (.int p4), .val (.long q5), .second, .val (.int v2), .val (.long (1 : Int64)), .second, .val (.long v486), .second, .val (.int r491), .val (.ref b494), .unset, .unset, .unset, .unset, .unset, .unset, .unset, .unset]
      refine Go.st (S' := T496.setTop (mkF m 62 A504 [])) (fun t k => XS.astore X496.here hx rfl (hb hby at_60) rfl rfl (l' := A504) rfl k) ?_
      refine Go.st (S' := T496.setTop (mkF m 64 A504 [(.ref b494)])) (fun t k => XS.aload X496.here hx rfl (hb hby at_62) rfl rfl k) ?_
      refine Go.st (S' := T496.setTop (mkF m 65 A504 [(.int p2), (.ref b494)])) (fun t k => XS.iloadN X496.here hx rfl (hb hby at_64) rfl k) ?_
      refine Go.st (S' := T496.setTop (mkF m 67 A504 [(.long q3), (.int p2), (.ref b494)])) (fun t k => XS.lload X496.here hx rfl (hb hby at_65) rfl k) ?_
      obtain ⟨r505, T505, L505, X505, hQ505, st505⟩ := own_callV (W := 0) (a := b494) (C := "com/example/hale_ledger/haleledger/bookie/JournalGrouping") X496 hx hZ rfl hown (y := (⟨"com/example/hale_ledger/haleledger/bookie/JournalGrouping", "isFull", "(IJ)Z"⟩ : MethodName)) (z := (⟨"com/example/hale_ledger/haleledger/bookie/JournalGrouping", "isFull", "(IJ)Z"⟩ : MethodName)) (hw _ (List.mem_of_getElem? (i := 25) rfl)) (hw _ (List.mem_of_getElem? (i := 26) rfl)) (notFace_of_selects (args := #[]) (mvT hZ (hw _ (List.mem_of_getElem? (i := 28) rfl)))) (hw _ (List.mem_of_getElem? (i := 28) rfl)) (hw _ (List.mem_of_getElem? (i := 27) rfl)) (hw _ (List.mem_of_getElem? (i := 5) rfl)) (hw _ (List.mem_of_getElem? (i := 29) rfl)) (by decide) (f498) (rm3 l Z a0 hw [] b494 p2 q3 v2 (1 : Int64) T496.heap n0 Z503 (f499) (f500)) (by decide) (by decide) (by decide) (by decide) (g := (mkF m 67 A504 [(.long q3), (.int p2), (.ref b494)])) rfl (by rw [hml]; rfl) (argsL := [(.int p2), (.long q3)]) (rest := []) rfl (lenOf pd_2 rfl) rfl (by show 2 * 0 + _ ≤ _; exact Nat.le_of_eq rfl) (hb hby at_67)
      obtain ⟨r506, hc507, rfl, N505, e505⟩ := hQ505
      have N505_ := Fr.app N496_ N505
      refine Go.st (S' := T505.setTop (mkF m 70 A504 [(.int r506)])) st505 ?_
      let A508 : Array Slot := #[.val (.int p0), .val (.long q1), .second, .val (.int p2), .val (.long q3), .second, .val (.int p4), .val (.long q5), .second, .val (.int v2), .val (.long (1 : Int64)), .second, .val (.long v486), .second, .val (.int r491), .val (.ref b494), .val (.int r506), .unset, .unset, .unset, .unset, .unset, .unset, .unset]
      refine Go.st (S' := T505.setTop (mkF m 72 A508 [])) (fun t k => XS.istore X505.here hx rfl (hb hby at_70) rfl (l' := A508) rfl k) ?_
      refine Go.st (S' := T505.setTop (mkF m 74 A508 [(.long q3)])) (fun t k => XS.lload X505.here hx rfl (hb hby at_72) rfl k) ?_
      refine Go.st (S' := T505.setTop (mkF m 76 A508 [(.long (1 : Int64)), (.long q3)])) (fun t k => XS.lload X505.here hx rfl (hb hby at_74) rfl k) ?_
      refine Go.op (F := fun z => T505.setTop (mkF m 77 A508 [(.int z)])) (x := (lcmpW q3 (1 : Int64))) (fun t k => XS.lcmp X505.here hx rfl (hb hby at_76) rfl k) ?_
      intro v509 hv509
      refine Go.join (α := Int32) (fun r => (((q3 < (1 : Int64)) ∧ (r = (0 : Int32))) ∨ ((¬ (q3 < (1 : Int64))) ∧ (r = (1 : Int32))))) (fun r => T505.setTop (mkF m 85 A508 [(.int r)])) ?_ ?_
      · intro r512 hc513
        let A514 : Array Slot := #[.val (.int p0), .val (.long q1), .second, .val (.int p2), .val (.long q3), .second, .val (.int p4), .val (.long q5), .second, .val (.int v2), .val (.long (1 : Int64)), .second, .val (.long v486), .second, .val (.int r491), .val (.ref b494), .val (.int r506), .val (.int r512), .unset, .unset, .unset, .unset, .unset, .unset]
        refine Go.st (S' := T505.setTop (mkF m 87 A514 [])) (fun t k => XS.istore X505.here hx rfl (hb hby at_85) rfl (l' := A514) rfl k) ?_
        refine Go.st (S' := T505.setTop (mkF m 89 A514 [(.int v2)])) (fun t k => XS.iload X505.here hx rfl (hb hby at_87) rfl k) ?_
        refine Go.join (α := Int32) (fun r => (((v2 = (0 : Int32)) ∧ (r = (0 : Int32))) ∨ ((¬ (v2 = (0 : Int32))) ∧ (p2 < v2) ∧ (r = (0 : Int32))) ∨ ((¬ (v2 = (0 : Int32))) ∧ (¬ (p2 < v2)) ∧ (r = (1 : Int32))))) (fun r => T505.setTop (mkF m 111 #[.val (.int p0), .val (.long q1), .second, .val (.int p2), .val (.long q3), .second, .val (.int p4), .val (.long q5), .second, .val (.int v2), .val (.long (1 : Int64)), .second, .val (.long v486), .second, .val (.int r491), .val (.ref b494), .val (.int r506), .val (.int r512), .val (.int r), .unset, .unset, .unset, .unset, .unset] [])) ?_ ?_
        · intro r525 hc526
          let A527 : Array Slot := #[.val (.int p0), .val (.long q1), .second, .val (.int p2), .val (.long q3), .second, .val (.int p4), .val (.long q5), .second, .val (.int v2), .val (.long (1 : Int64)), .second, .val (.long v486), .second, .val (.int r491), .val (.ref b494), .val (.int r506), .val (.int r512), .val (.int r525), .unset, .unset, .unset, .unset, .unset]
          refine Go.st (S' := T505.setTop (mkF m 113 A527 [(.int r512)])) (fun t k => XS.iload X505.here hx rfl (hb hby at_111) rfl k) ?_
          refine Go.join (α := Int32) (fun r => (((r512 = (0 : Int32)) ∧ (r525 = (0 : Int32)) ∧ (r = (0 : Int32))) ∨ ((r512 = (0 : Int32)) ∧ (¬ (r525 = (0 : Int32))) ∧ (r = (1 : Int32))) ∨ ((¬ (r512 = (0 : Int32))) ∧ (r = (1 : Int32))))) (fun r => T505.setTop (mkF m 126 A527 [(.int r)])) ?_ ?_
          · intro r532 hc533
            let A534 : Array Slot := #[.val (.int p0), .val (.long q1), .second, .val (.int p2), .val (.long q3), .second, .val (.int p4), .val (.long q5), .second, .val (.int v2), .val (.long (1 : Int64)), .second, .val (.long v486), .second, .val (.int r491), .val (.ref b494), .val (.int r506), .val (.int r512), .val (.int r525), .val (.int r532), .unset, .unset, .unset, .unset]
            refine Go.st (S' := T505.setTop (mkF m 128 A534 [])) (fun t k => XS.istore X505.here hx rfl (hb hby at_126) rfl (l' := A534) rfl k) ?_
            refine Go.st (S' := T505.setTop (mkF m 130 A534 [(.int r506)])) (fun t k => XS.iload X505.here hx rfl (hb hby at_128) rfl k) ?_
            refine Go.st (S' := T505.setTop (mkF m 132 A534 [(.int r532), (.int r506)])) (fun t k => XS.iload X505.here hx rfl (hb hby at_130) rfl k) ?_
            by_cases hc535 : (r506 = r532)
            · refine Go.st (S' := T505.setTop (mkF m 137 A534 [])) (fun t k => XS.icmpYes X505.here hx rfl (pc0 := 132) (pc' := 137) rfl (hb hby at_132) rfl (teq hc535).1 (by decide) (by decide) k) ?_
              refine Go.st (S' := T505.setTop (mkF m 138 A534 [(.int p2)])) (fun t k => XS.iloadN X505.here hx rfl (hb hby at_137) rfl k) ?_
              refine Go.st (S' := T505.setTop (mkF m 140 A534 [(.int p4), (.int p2)])) (fun t k => XS.iload X505.here hx rfl (hb hby at_138) rfl k) ?_
              obtain ⟨r536, T536, L536, X536, hQ536, st536⟩ := own_callS (W := 0) X505 hx hZ e505 hown (y := (⟨"java/lang/Math", "max", "(II)I"⟩ : MethodName)) (hw _ (List.mem_of_getElem? (i := 30) rfl)) (hw _ (List.mem_of_getElem? (i := 31) rfl)) (hw _ (List.mem_of_getElem? (i := 32) rfl)) (hw _ (List.mem_of_getElem? (i := 33) rfl)) (by decide) (rm4 l Z a0 hw [] p2 p4 T496.heap n0 Z503 ) (by decide) (by decide) (by decide) (by decide) (g := (mkF m 140 A534 [(.int p4), (.int p2)])) rfl (by rw [hml]; rfl) (argsL := [(.int p2), (.int p4)]) (rest := []) rfl (lenOf pd_3 rfl) rfl (by show 2 * 0 + _ ≤ _; exact Nat.le_of_eq rfl) (hb hby at_140)
              obtain ⟨r537, hc538, rfl, N536, e536⟩ := hQ536
              have N536_ := Fr.app N505_ N536
              refine Go.st (S' := T536.setTop (mkF m 143 A534 [(.int r537)])) st536 ?_
              let A539 : Array Slot := #[.val (.int p0), .val (.long q1), .second, .val (.int p2), .val (.long q3), .second, .val (.int p4), .val (.long q5), .second, .val (.int v2), .val (.long (1 : Int64)), .second, .val (.long v486), .second, .val (.int r491), .val (.ref b494), .val (.int r506), .val (.int r512), .val (.int r525), .val (.int r532), .val (.int r537), .unset, .unset, .unset]
              refine Go.st (S' := T536.setTop (mkF m 145 A539 [])) (fun t k => XS.istore X536.here hx rfl (hb hby at_143) rfl (l' := A539) rfl k) ?_
              refine Go.st (S' := T536.setTop (mkF m 147 A539 [(.long q3)])) (fun t k => XS.lload X536.here hx rfl (hb hby at_145) rfl k) ?_
              refine Go.st (S' := T536.setTop (mkF m 149 A539 [(.long q5), (.long q3)])) (fun t k => XS.lload X536.here hx rfl (hb hby at_147) rfl k) ?_
              obtain ⟨r540, T540, L540, X540, hQ540, st540⟩ := own_callS (W := 0) X536 hx hZ e536 hown (y := (⟨"java/lang/Math", "max", "(JJ)J"⟩ : MethodName)) (hw _ (List.mem_of_getElem? (i := 34) rfl)) (hw _ (List.mem_of_getElem? (i := 35) rfl)) (hw _ (List.mem_of_getElem? (i := 32) rfl)) (hw _ (List.mem_of_getElem? (i := 36) rfl)) (by decide) (rm5 l Z a0 hw [] q3 q5 T496.heap n0 Z503 ) (by decide) (by decide) (by decide) (by decide) (g := (mkF m 149 A539 [(.long q5), (.long q3)])) rfl (by rw [hml]; rfl) (argsL := [(.long q3), (.long q5)]) (rest := []) rfl (lenOf pd_4 rfl) rfl (by show 2 * 0 + _ ≤ _; exact Nat.le_of_eq rfl) (hb hby at_149)
              obtain ⟨r541, hc542, rfl, N540, e540⟩ := hQ540
              have N540_ := Fr.app N536_ N540
              refine Go.st (S' := T540.setTop (mkF m 152 A539 [(.long r541)])) st540 ?_
              let A543 : Array Slot := #[.val (.int p0), .val (.long q1), .second, .val (.int p2), .val (.long q3), .second, .val (.int p4), .val (.long q5), .second, .val (.int v2), .val (.long (1 : Int64)), .second, .val (.long v486), .second, .val (.int r491), .val (.ref b494), .val (.int r506), .val (.int r512), .val (.int r525), .val (.int r532), .val (.int r537), .val (.long r541), .second, .unset]
              refine Go.st (S' := T540.setTop (mkF m 154 A543 [])) (fun t k => XS.lstore X540.here hx rfl (hb hby at_152) rfl (l' := A543) rfl k) ?_
              refine Go.st (S' := T540.setTop (mkF m 156 A543 [(.ref b494)])) (fun t k => XS.aload X540.here hx rfl (hb hby at_154) rfl rfl k) ?_
              refine Go.st (S' := T540.setTop (mkF m 158 A543 [(.int r537), (.ref b494)])) (fun t k => XS.iload X540.here hx rfl (hb hby at_156) rfl k) ?_
              refine Go.st (S' := T540.setTop (mkF m 160 A543 [(.long r541), (.int r537), (.ref b494)])) (fun t k => XS.lload X540.here hx rfl (hb hby at_158) rfl k) ?_
              obtain ⟨r544, T544, L544, X544, hQ544, st544⟩ := own_callV (W := 0) (a := b494) (C := "com/example/hale_ledger/haleledger/bookie/JournalGrouping") X540 hx hZ e540 hown (y := (⟨"com/example/hale_ledger/haleledger/bookie/JournalGrouping", "isFull", "(IJ)Z"⟩ : MethodName)) (z := (⟨"com/example/hale_ledger/haleledger/bookie/JournalGrouping", "isFull", "(IJ)Z"⟩ : MethodName)) (hw _ (List.mem_of_getElem? (i := 25) rfl)) (hw _ (List.mem_of_getElem? (i := 26) rfl)) (notFace_of_selects (args := #[]) (mvT hZ (hw _ (List.mem_of_getElem? (i := 28) rfl)))) (hw _ (List.mem_of_getElem? (i := 28) rfl)) (hw _ (List.mem_of_getElem? (i := 27) rfl)) (hw _ (List.mem_of_getElem? (i := 5) rfl)) (hw _ (List.mem_of_getElem? (i := 29) rfl)) (by decide) (f498) (rm3 l Z a0 hw [] b494 r537 r541 v2 (1 : Int64) T496.heap n0 Z503 (f499) (f500)) (by decide) (by decide) (by decide) (by decide) (g := (mkF m 160 A543 [(.long r541), (.int r537), (.ref b494)])) rfl (by rw [hml]; rfl) (argsL := [(.int r537), (.long r541)]) (rest := []) rfl (lenOf pd_2 rfl) rfl (by show 2 * 0 + _ ≤ _; exact Nat.le_of_eq rfl) (hb hby at_160)
              obtain ⟨r545, hc546, rfl, N544, e544⟩ := hQ544
              have N544_ := Fr.app N540_ N544
              refine Go.st (S' := T544.setTop (mkF m 163 A543 [(.int r545)])) st544 ?_
              let A547 : Array Slot := #[.val (.int p0), .val (.long q1), .second, .val (.int p2), .val (.long q3), .second, .val (.int p4), .val (.long q5), .second, .val (.int v2), .val (.long (1 : Int64)), .second, .val (.long v486), .second, .val (.int r491), .val (.ref b494), .val (.int r506), .val (.int r512), .val (.int r525), .val (.int r532), .val (.int r537), .val (.long r541), .second, .val (.int r545)]
              refine Go.st (S' := T544.setTop (mkF m 165 A547 [])) (fun t k => XS.istore X544.here hx rfl (hb hby at_163) rfl (l' := A547) rfl k) ?_
              refine Go.st (S' := T544.setTop (mkF m 167 A547 [(.int r506)])) (fun t k => XS.iload X544.here hx rfl (hb hby at_165) rfl k) ?_
              by_cases hc548 : (r506 = (0 : Int32))
              · refine Go.st (S' := T544.setTop (mkF m 177 A547 [])) (fun t k => XS.ifYes X544.here hx rfl (pc0 := 167) (pc' := 177) rfl (hb hby at_167) rfl ((if0 _ _).trans (teq hc548).1) (by decide) (by decide) k) ?_
                refine Go.st (S' := T544.setTop (mkF m 179 A547 [(.ref b494)])) (fun t k => XS.aload X544.here hx rfl (hb hby at_177) rfl rfl k) ?_
                refine Go.st (S' := T544.setTop (mkF m 180 A547 [(.int (0 : Int32)), (.ref b494)])) (fun t k => XS.iconst X544.here hx rfl (hb hby at_179) k) ?_
                refine Go.st (S' := T544.setTop (mkF m 182 A547 [(.long (1 : Int64)), (.int (0 : Int32)), (.ref b494)])) (fun t k => XS.lload X544.here hx rfl (hb hby at_180) rfl k) ?_
                obtain ⟨r549, T549, L549, X549, hQ549, st549⟩ := own_callV (W := 0) (a := b494) (C := "com/example/hale_ledger/haleledger/bookie/JournalGrouping") X544 hx hZ e544 hown (y := (⟨"com/example/hale_ledger/haleledger/bookie/JournalGrouping", "isFull", "(IJ)Z"⟩ : MethodName)) (z := (⟨"com/example/hale_ledger/haleledger/bookie/JournalGrouping", "isFull", "(IJ)Z"⟩ : MethodName)) (hw _ (List.mem_of_getElem? (i := 25) rfl)) (hw _ (List.mem_of_getElem? (i := 26) rfl)) (notFace_of_selects (args := #[]) (mvT hZ (hw _ (List.mem_of_getElem? (i := 28) rfl)))) (hw _ (List.mem_of_getElem? (i := 28) rfl)) (hw _ (List.mem_of_getElem? (i := 27) rfl)) (hw _ (List.mem_of_getElem? (i := 5) rfl)) (hw _ (List.mem_of_getElem? (i := 29) rfl)) (by decide) (f498) (rm3 l Z a0 hw [] b494 (0 : Int32) (1 : Int64) v2 (1 : Int64) T496.heap n0 Z503 (f499) (f500)) (by decide) (by decide) (by decide) (by decide) (g := (mkF m 182 A547 [(.long (1 : Int64)), (.int (0 : Int32)), (.ref b494)])) rfl (by rw [hml]; rfl) (argsL := [(.int (0 : Int32)), (.long (1 : Int64))]) (rest := []) rfl (lenOf pd_2 rfl) rfl (by show 2 * 0 + _ ≤ _; exact Nat.le_of_eq rfl) (hb hby at_182)
                obtain ⟨r550, hc551, rfl, N549, e549⟩ := hQ549
                have N549_ := Fr.app N544_ N549
                refine Go.st (S' := T549.setTop (mkF m 185 A547 [(.int r550)])) st549 ?_
                by_cases hc552 : (r550 = (0 : Int32))
                · exfalso
                  have rv488 := rng32 v488
                  have wv488 := c_mask p4 (1 : Int32) 1 (by decide) (by decide)
                  rw [← hv488] at wv488
                  have rv2 := rng32 v2
                  have wv2 := c_mask p0 (2147483647 : Int32) 31 (by decide) (by decide)
                  rw [← hv2] at wv2
                  have rp0 := rng32 p0
                  have rp2 := rng32 p2
                  have rp4 := rng32 p4
                  have rq3 := rng64 q3
                  have rq5 := rng64 q5
                  have rr491 := rng32 r491
                  have rr506 := rng32 r506
                  have rr512 := rng32 r512
                  have rr525 := rng32 r525
                  have rr532 := rng32 r532
                  have rr537 := rng32 r537
                  have rr541 := rng64 r541
                  have rr545 := rng32 r545
                  have rr550 := rng32 r550
                  have lI0 : (0 : Int32).toInt = 0 := by decide
                  have lI1 : (1 : Int32).toInt = 1 := by decide
                  have lI2147483647 : (2147483647 : Int32).toInt = 2147483647 := by decide
                  have lJ1 : (1 : Int64).toInt = 1 := by decide
                  simp only [Int32.lt_iff_toInt_lt, Int64.lt_iff_toInt_lt, ← Int32.toInt_inj, ← Int64.toInt_inj] at hc492 hc507 hc513 hc526 hc533 hc535 hc538 hc542 hc546 hc548 hc551 hc552
                  omega
                · refine Go.st (S' := T549.setTop (mkF m 190 A547 [])) (fun t k => XS.ifYes X549.here hx rfl (pc0 := 185) (pc' := 190) rfl (hb hby at_185) rfl ((if0 _ _).trans (feq hc552).2) (by decide) (by decide) k) ?_
                  refine Go.st (S' := T549.setTop (mkF m 192 A547 [(.ref b494)])) (fun t k => XS.aload X549.here hx rfl (hb hby at_190) rfl rfl k) ?_
                  refine Go.st (S' := T549.setTop (mkF m 193 A547 [(.int (0 : Int32)), (.ref b494)])) (fun t k => XS.iconst X549.here hx rfl (hb hby at_192) k) ?_
                  refine Go.st (S' := T549.setTop (mkF m 195 A547 [(.long (1 : Int64)), (.int (0 : Int32)), (.ref b494)])) (fun t k => XS.lload X549.here hx rfl (hb hby at_193) rfl k) ?_
                  refine Go.st (S' := T549.setTop (mkF m 196 A547 [(.long (1 : Int64)), (.long (1 : Int64)), (.int (0 : Int32)), (.ref b494)])) (fun t k => XS.lconst X549.here hx rfl (hb hby at_195) k) ?_
                  refine Go.op (F := fun z => T549.setTop (mkF m 197 A547 [(.long z), (.int (0 : Int32)), (.ref b494)])) (x := ((1 : Int64) - (1 : Int64))) (fun t k => XS.lsub X549.here hx rfl (hb hby at_196) rfl k) ?_
                  intro v553 hv553
                  obtain rfl : (0 : Int64) = v553 := (hv553.trans (by decide)).symm
                  obtain ⟨r554, T554, L554, X554, hQ554, st554⟩ := own_callV (W := 0) (a := b494) (C := "com/example/hale_ledger/haleledger/bookie/JournalGrouping") X549 hx hZ e549 hown (y := (⟨"com/example/hale_ledger/haleledger/bookie/JournalGrouping", "isFull", "(IJ)Z"⟩ : MethodName)) (z := (⟨"com/example/hale_ledger/haleledger/bookie/JournalGrouping", "isFull", "(IJ)Z"⟩ : MethodName)) (hw _ (List.mem_of_getElem? (i := 25) rfl)) (hw _ (List.mem_of_getElem? (i := 26) rfl)) (notFace_of_selects (args := #[]) (mvT hZ (hw _ (List.mem_of_getElem? (i := 28) rfl)))) (hw _ (List.mem_of_getElem? (i := 28) rfl)) (hw _ (List.mem_of_getElem? (i := 27) rfl)) (hw _ (List.mem_of_getElem? (i := 5) rfl)) (hw _ (List.mem_of_getElem? (i := 29) rfl)) (by decide) (f498) (rm3 l Z a0 hw [] b494 (0 : Int32) (0 : Int64) v2 (1 : Int64) T496.heap n0 Z503 (f499) (f500)) (by decide) (by decide) (by decide) (by decide) (g := (mkF m 197 A547 [(.long (0 : Int64)), (.int (0 : Int32)), (.ref b494)])) rfl (by rw [hml]; rfl) (argsL := [(.int (0 : Int32)), (.long (0 : Int64))]) (rest := []) rfl (lenOf pd_2 rfl) rfl (by show 2 * 0 + _ ≤ _; exact Nat.le_of_eq rfl) (hb hby at_197)
                  obtain ⟨r555, hc556, rfl, N554, e554⟩ := hQ554
                  have N554_ := Fr.app N549_ N554
                  refine Go.st (S' := T554.setTop (mkF m 200 A547 [(.int r555)])) st554 ?_
                  by_cases hc557 : (r555 = (0 : Int32))
                  · refine Go.st (S' := T554.setTop (mkF m 205 A547 [])) (fun t k => XS.ifYes X554.here hx rfl (pc0 := 200) (pc' := 205) rfl (hb hby at_200) rfl ((if0 _ _).trans (teq hc557).1) (by decide) (by decide) k) ?_
                    refine Go.st (S' := T554.setTop (mkF m 207 A547 [(.int v2)])) (fun t k => XS.iload X554.here hx rfl (hb hby at_205) rfl k) ?_
                    by_cases hc558 : ((0 : Int32) < v2)
                    · refine Go.st (S' := T554.setTop (mkF m 210 A547 [])) (fun t k => XS.ifNo X554.here hx rfl (hb hby at_207) rfl ((if0 _ _).trans (tlt hc558).2.2.2) k) ?_
                      refine Go.st (S' := T554.setTop (mkF m 212 A547 [(.ref b494)])) (fun t k => XS.aload X554.here hx rfl (hb hby at_210) rfl rfl k) ?_
                      refine Go.st (S' := T554.setTop (mkF m 214 A547 [(.int v2), (.ref b494)])) (fun t k => XS.iload X554.here hx rfl (hb hby at_212) rfl k) ?_
                      refine Go.st (S' := T554.setTop (mkF m 215 A547 [(.long (0 : Int64)), (.int v2), (.ref b494)])) (fun t k => XS.lconst X554.here hx rfl (hb hby at_214) k) ?_
                      obtain ⟨r559, T559, L559, X559, hQ559, st559⟩ := own_callV (W := 0) (a := b494) (C := "com/example/hale_ledger/haleledger/bookie/JournalGrouping") X554 hx hZ e554 hown (y := (⟨"com/example/hale_ledger/haleledger/bookie/JournalGrouping", "isFull", "(IJ)Z"⟩ : MethodName)) (z := (⟨"com/example/hale_ledger/haleledger/bookie/JournalGrouping", "isFull", "(IJ)Z"⟩ : MethodName)) (hw _ (List.mem_of_getElem? (i := 25) rfl)) (hw _ (List.mem_of_getElem? (i := 26) rfl)) (notFace_of_selects (args := #[]) (mvT hZ (hw _ (List.mem_of_getElem? (i := 28) rfl)))) (hw _ (List.mem_of_getElem? (i := 28) rfl)) (hw _ (List.mem_of_getElem? (i := 27) rfl)) (hw _ (List.mem_of_getElem? (i := 5) rfl)) (hw _ (List.mem_of_getElem? (i := 29) rfl)) (by decide) (f498) (rm3 l Z a0 hw [] b494 v2 (0 : Int64) v2 (1 : Int64) T496.heap n0 Z503 (f499) (f500)) (by decide) (by decide) (by decide) (by decide) (g := (mkF m 215 A547 [(.long (0 : Int64)), (.int v2), (.ref b494)])) rfl (by rw [hml]; rfl) (argsL := [(.int v2), (.long (0 : Int64))]) (rest := []) rfl (lenOf pd_2 rfl) rfl (by show 2 * 0 + _ ≤ _; exact Nat.le_of_eq rfl) (hb hby at_215)
                      obtain ⟨r560, hc561, rfl, N559, e559⟩ := hQ559
                      have N559_ := Fr.app N554_ N559
                      refine Go.st (S' := T559.setTop (mkF m 218 A547 [(.int r560)])) st559 ?_
                      by_cases hc562 : (r560 = (0 : Int32))
                      · exfalso
                        have rv488 := rng32 v488
                        have wv488 := c_mask p4 (1 : Int32) 1 (by decide) (by decide)
                        rw [← hv488] at wv488
                        have rv2 := rng32 v2
                        have wv2 := c_mask p0 (2147483647 : Int32) 31 (by decide) (by decide)
                        rw [← hv2] at wv2
                        have rp0 := rng32 p0
                        have rp2 := rng32 p2
                        have rp4 := rng32 p4
                        have rq3 := rng64 q3
                        have rq5 := rng64 q5
                        have rr491 := rng32 r491
                        have rr506 := rng32 r506
                        have rr512 := rng32 r512
                        have rr525 := rng32 r525
                        have rr532 := rng32 r532
                        have rr537 := rng32 r537
                        have rr541 := rng64 r541
                        have rr545 := rng32 r545
                        have rr550 := rng32 r550
                        have rr555 := rng32 r555
                        have rr560 := rng32 r560
                        have lI0 : (0 : Int32).toInt = 0 := by decide
                        have lI1 : (1 : Int32).toInt = 1 := by decide
                        have lI2147483647 : (2147483647 : Int32).toInt = 2147483647 := by decide
                        have lJ0 : (0 : Int64).toInt = 0 := by decide
                        have lJ1 : (1 : Int64).toInt = 1 := by decide
                        simp only [Int32.lt_iff_toInt_lt, Int64.lt_iff_toInt_lt, ← Int32.toInt_inj, ← Int64.toInt_inj] at hc492 hc507 hc513 hc526 hc533 hc535 hc538 hc542 hc546 hc548 hc551 hc552 hc556 hc557 hc558 hc561 hc562
                        omega
                      · refine Go.st (S' := T559.setTop (mkF m 223 A547 [])) (fun t k => XS.ifYes X559.here hx rfl (pc0 := 218) (pc' := 223) rfl (hb hby at_218) rfl ((if0 _ _).trans (feq hc562).2) (by decide) (by decide) k) ?_
                        refine Go.st (S' := T559.setTop (mkF m 225 A547 [(.ref b494)])) (fun t k => XS.aload X559.here hx rfl (hb hby at_223) rfl rfl k) ?_
                        refine Go.st (S' := T559.setTop (mkF m 227 A547 [(.int v2), (.ref b494)])) (fun t k => XS.iload X559.here hx rfl (hb hby at_225) rfl k) ?_
                        refine Go.st (S' := T559.setTop (mkF m 228 A547 [(.int (1 : Int32)), (.int v2), (.ref b494)])) (fun t k => XS.iconst X559.here hx rfl (hb hby at_227) k) ?_
                        refine Go.op (F := fun z => T559.setTop (mkF m 229 A547 [(.int z), (.ref b494)])) (x := (v2 - (1 : Int32))) (fun t k => XS.isub X559.here hx rfl (hb hby at_228) rfl k) ?_
                        intro v563 hv563
                        refine Go.st (S' := T559.setTop (mkF m 230 A547 [(.long (0 : Int64)), (.int v563), (.ref b494)])) (fun t k => XS.lconst X559.here hx rfl (hb hby at_229) k) ?_
                        obtain ⟨r564, T564, L564, X564, hQ564, st564⟩ := own_callV (W := 0) (a := b494) (C := "com/example/hale_ledger/haleledger/bookie/JournalGrouping") X559 hx hZ e559 hown (y := (⟨"com/example/hale_ledger/haleledger/bookie/JournalGrouping", "isFull", "(IJ)Z"⟩ : MethodName)) (z := (⟨"com/example/hale_ledger/haleledger/bookie/JournalGrouping", "isFull", "(IJ)Z"⟩ : MethodName)) (hw _ (List.mem_of_getElem? (i := 25) rfl)) (hw _ (List.mem_of_getElem? (i := 26) rfl)) (notFace_of_selects (args := #[]) (mvT hZ (hw _ (List.mem_of_getElem? (i := 28) rfl)))) (hw _ (List.mem_of_getElem? (i := 28) rfl)) (hw _ (List.mem_of_getElem? (i := 27) rfl)) (hw _ (List.mem_of_getElem? (i := 5) rfl)) (hw _ (List.mem_of_getElem? (i := 29) rfl)) (by decide) (f498) (rm3 l Z a0 hw [] b494 v563 (0 : Int64) v2 (1 : Int64) T496.heap n0 Z503 (f499) (f500)) (by decide) (by decide) (by decide) (by decide) (g := (mkF m 230 A547 [(.long (0 : Int64)), (.int v563), (.ref b494)])) rfl (by rw [hml]; rfl) (argsL := [(.int v563), (.long (0 : Int64))]) (rest := []) rfl (lenOf pd_2 rfl) rfl (by show 2 * 0 + _ ≤ _; exact Nat.le_of_eq rfl) (hb hby at_230)
                        obtain ⟨r565, hc566, rfl, N564, e564⟩ := hQ564
                        have N564_ := Fr.app N559_ N564
                        refine Go.st (S' := T564.setTop (mkF m 233 A547 [(.int r565)])) st564 ?_
                        by_cases hc567 : (r565 = (0 : Int32))
                        · refine Go.st (S' := T564.setTop (mkF m 238 A547 [])) (fun t k => XS.ifYes X564.here hx rfl (pc0 := 233) (pc' := 238) rfl (hb hby at_233) rfl ((if0 _ _).trans (teq hc567).1) (by decide) (by decide) k) ?_
                          refine Go.st (S' := T564.setTop (mkF m 239 A547 [(.int (1 : Int32))])) (fun t k => XS.iconst X564.here hx rfl (hb hby at_238) k) ?_
                          exact Go.ret X564 (v := some (.int (1 : Int32))) (fun h => by rw [Bd.returns] at h; cases h) Bd.notSynchronized (fun fs hr => retN X564 hx (t := .boolean) Bd.returns (by simp) (hb hby at_239) hr) (by decide) (by decide) ⟨rfl, N564_⟩
                        · exfalso
                          have rv488 := rng32 v488
                          have wv488 := c_mask p4 (1 : Int32) 1 (by decide) (by decide)
                          rw [← hv488] at wv488
                          have rv2 := rng32 v2
                          have wv2 := c_mask p0 (2147483647 : Int32) 31 (by decide) (by decide)
                          rw [← hv2] at wv2
                          have rv563 := rng32 v563
                          have wv563 := c_isub v2 (1 : Int32)
                          rw [← hv563] at wv563
                          have rp0 := rng32 p0
                          have rp2 := rng32 p2
                          have rp4 := rng32 p4
                          have rq3 := rng64 q3
                          have rq5 := rng64 q5
                          have rr491 := rng32 r491
                          have rr506 := rng32 r506
                          have rr512 := rng32 r512
                          have rr525 := rng32 r525
                          have rr532 := rng32 r532
                          have rr537 := rng32 r537
                          have rr541 := rng64 r541
                          have rr545 := rng32 r545
                          have rr550 := rng32 r550
                          have rr555 := rng32 r555
                          have rr560 := rng32 r560
                          have rr565 := rng32 r565
                          have lI0 : (0 : Int32).toInt = 0 := by decide
                          have lI1 : (1 : Int32).toInt = 1 := by decide
                          have lI2147483647 : (2147483647 : Int32).toInt = 2147483647 := by decide
                          have lJ0 : (0 : Int64).toInt = 0 := by decide
                          have lJ1 : (1 : Int64).toInt = 1 := by decide
                          simp only [Int32.lt_iff_toInt_lt, Int64.lt_iff_toInt_lt, ← Int32.toInt_inj, ← Int64.toInt_inj] at hc492 hc507 hc513 hc526 hc533 hc535 hc538 hc542 hc546 hc548 hc551 hc552 hc556 hc557 hc558 hc561 hc562 hc566 hc567
                          omega
                    · refine Go.st (S' := T554.setTop (mkF m 238 A547 [])) (fun t k => XS.ifYes X554.here hx rfl (pc0 := 207) (pc' := 238) rfl (hb hby at_207) rfl ((if0 _ _).trans (flt hc558).2.2.2) (by decide) (by decide) k) ?_
                      refine Go.st (S' := T554.setTop (mkF m 239 A547 [(.int (1 : Int32))])) (fun t k => XS.iconst X554.here hx rfl (hb hby at_238) k) ?_
                      exact Go.ret X554 (v := some (.int (1 : Int32))) (fun h => by rw [Bd.returns] at h; cases h) Bd.notSynchronized (fun fs hr => retN X554 hx (t := .boolean) Bd.returns (by simp) (hb hby at_239) hr) (by decide) (by decide) ⟨rfl, N554_⟩
                  · exfalso
                    have rv488 := rng32 v488
                    have wv488 := c_mask p4 (1 : Int32) 1 (by decide) (by decide)
                    rw [← hv488] at wv488
                    have rv2 := rng32 v2
                    have wv2 := c_mask p0 (2147483647 : Int32) 31 (by decide) (by decide)
                    rw [← hv2] at wv2
                    have rp0 := rng32 p0
                    have rp2 := rng32 p2
                    have rp4 := rng32 p4
                    have rq3 := rng64 q3
                    have rq5 := rng64 q5
                    have rr491 := rng32 r491
                    have rr506 := rng32 r506
                    have rr512 := rng32 r512
                    have rr525 := rng32 r525
                    have rr532 := rng32 r532
                    have rr537 := rng32 r537
                    have rr541 := rng64 r541
                    have rr545 := rng32 r545
                    have rr550 := rng32 r550
                    have rr555 := rng32 r555
                    have lI0 : (0 : Int32).toInt = 0 := by decide
                    have lI1 : (1 : Int32).toInt = 1 := by decide
                    have lI2147483647 : (2147483647 : Int32).toInt = 2147483647 := by decide
                    have lJ0 : (0 : Int64).toInt = 0 := by decide
                    have lJ1 : (1 : Int64).toInt = 1 := by decide
                    simp only [Int32.lt_iff_toInt_lt, Int64.lt_iff_toInt_lt, ← Int32.toInt_inj, ← Int64.toInt_inj] at hc492 hc507 hc513 hc526 hc533 hc535 hc538 hc542 hc546 hc548 hc551 hc552 hc556 hc557
                    omega
              · refine Go.st (S' := T544.setTop (mkF m 170 A547 [])) (fun t k => XS.ifNo X544.here hx rfl (hb hby at_167) rfl ((if0 _ _).trans (feq hc548).1) k) ?_
                refine Go.st (S' := T544.setTop (mkF m 172 A547 [(.int r545)])) (fun t k => XS.iload X544.here hx rfl (hb hby at_170) rfl k) ?_
                by_cases hc568 : (r545 = (0 : Int32))
                · exfalso
                  have rv488 := rng32 v488
                  have wv488 := c_mask p4 (1 : Int32) 1 (by decide) (by decide)
                  rw [← hv488] at wv488
                  have rv2 := rng32 v2
                  have wv2 := c_mask p0 (2147483647 : Int32) 31 (by decide) (by decide)
                  rw [← hv2] at wv2
                  have rp0 := rng32 p0
                  have rp2 := rng32 p2
                  have rp4 := rng32 p4
                  have rq3 := rng64 q3
                  have rq5 := rng64 q5
                  have rr491 := rng32 r491
                  have rr506 := rng32 r506
                  have rr512 := rng32 r512
                  have rr525 := rng32 r525
                  have rr532 := rng32 r532
                  have rr537 := rng32 r537
                  have rr541 := rng64 r541
                  have rr545 := rng32 r545
                  have lI0 : (0 : Int32).toInt = 0 := by decide
                  have lI1 : (1 : Int32).toInt = 1 := by decide
                  have lI2147483647 : (2147483647 : Int32).toInt = 2147483647 := by decide
                  have lJ1 : (1 : Int64).toInt = 1 := by decide
                  simp only [Int32.lt_iff_toInt_lt, Int64.lt_iff_toInt_lt, ← Int32.toInt_inj, ← Int64.toInt_inj] at hc492 hc507 hc513 hc526 hc533 hc535 hc538 hc542 hc546 hc548 hc568
                  omega
                · refine Go.st (S' := T544.setTop (mkF m 177 A547 [])) (fun t k => XS.ifYes X544.here hx rfl (pc0 := 172) (pc' := 177) rfl (hb hby at_172) rfl ((if0 _ _).trans (feq hc568).2) (by decide) (by decide) k) ?_
                  refine Go.st (S' := T544.setTop (mkF m 179 A547 [(.ref b494)])) (fun t k => XS.aload X544.here hx rfl (hb hby at_177) rfl rfl k) ?_
                  refine Go.st (S' := T544.setTop (mkF m 180 A547 [(.int (0 : Int32)), (.ref b494)])) (fun t k => XS.iconst X544.here hx rfl (hb hby at_179) k) ?_
                  refine Go.st (S' := T544.setTop (mkF m 182 A547 [(.long (1 : Int64)), (.int (0 : Int32)), (.ref b494)])) (fun t k => XS.lload X544.here hx rfl (hb hby at_180) rfl k) ?_
                  obtain ⟨r569, T569, L569, X569, hQ569, st569⟩ := own_callV (W := 0) (a := b494) (C := "com/example/hale_ledger/haleledger/bookie/JournalGrouping") X544 hx hZ e544 hown (y := (⟨"com/example/hale_ledger/haleledger/bookie/JournalGrouping", "isFull", "(IJ)Z"⟩ : MethodName)) (z := (⟨"com/example/hale_ledger/haleledger/bookie/JournalGrouping", "isFull", "(IJ)Z"⟩ : MethodName)) (hw _ (List.mem_of_getElem? (i := 25) rfl)) (hw _ (List.mem_of_getElem? (i := 26) rfl)) (notFace_of_selects (args := #[]) (mvT hZ (hw _ (List.mem_of_getElem? (i := 28) rfl)))) (hw _ (List.mem_of_getElem? (i := 28) rfl)) (hw _ (List.mem_of_getElem? (i := 27) rfl)) (hw _ (List.mem_of_getElem? (i := 5) rfl)) (hw _ (List.mem_of_getElem? (i := 29) rfl)) (by decide) (f498) (rm3 l Z a0 hw [] b494 (0 : Int32) (1 : Int64) v2 (1 : Int64) T496.heap n0 Z503 (f499) (f500)) (by decide) (by decide) (by decide) (by decide) (g := (mkF m 182 A547 [(.long (1 : Int64)), (.int (0 : Int32)), (.ref b494)])) rfl (by rw [hml]; rfl) (argsL := [(.int (0 : Int32)), (.long (1 : Int64))]) (rest := []) rfl (lenOf pd_2 rfl) rfl (by show 2 * 0 + _ ≤ _; exact Nat.le_of_eq rfl) (hb hby at_182)
                  obtain ⟨r570, hc571, rfl, N569, e569⟩ := hQ569
                  have N569_ := Fr.app N544_ N569
                  refine Go.st (S' := T569.setTop (mkF m 185 A547 [(.int r570)])) st569 ?_
                  by_cases hc572 : (r570 = (0 : Int32))
                  · exfalso
                    have rv488 := rng32 v488
                    have wv488 := c_mask p4 (1 : Int32) 1 (by decide) (by decide)
                    rw [← hv488] at wv488
                    have rv2 := rng32 v2
                    have wv2 := c_mask p0 (2147483647 : Int32) 31 (by decide) (by decide)
                    rw [← hv2] at wv2
                    have rp0 := rng32 p0
                    have rp2 := rng32 p2
                    have rp4 := rng32 p4
                    have rq3 := rng64 q3
                    have rq5 := rng64 q5
                    have rr491 := rng32 r491
                    have rr506 := rng32 r506
                    have rr512 := rng32 r512
                    have rr525 := rng32 r525
                    have rr532 := rng32 r532
                    have rr537 := rng32 r537
                    have rr541 := rng64 r541
                    have rr545 := rng32 r545
                    have rr570 := rng32 r570
                    have lI0 : (0 : Int32).toInt = 0 := by decide
                    have lI1 : (1 : Int32).toInt = 1 := by decide
                    have lI2147483647 : (2147483647 : Int32).toInt = 2147483647 := by decide
                    have lJ1 : (1 : Int64).toInt = 1 := by decide
                    simp only [Int32.lt_iff_toInt_lt, Int64.lt_iff_toInt_lt, ← Int32.toInt_inj, ← Int64.toInt_inj] at hc492 hc507 hc513 hc526 hc533 hc535 hc538 hc542 hc546 hc548 hc568 hc571 hc572
                    omega
                  · refine Go.st (S' := T569.setTop (mkF m 190 A547 [])) (fun t k => XS.ifYes X569.here hx rfl (pc0 := 185) (pc' := 190) rfl (hb hby at_185) rfl ((if0 _ _).trans (feq hc572).2) (by decide) (by decide) k) ?_
                    refine Go.st (S' := T569.setTop (mkF m 192 A547 [(.ref b494)])) (fun t k => XS.aload X569.here hx rfl (hb hby at_190) rfl rfl k) ?_
                    refine Go.st (S' := T569.setTop (mkF m 193 A547 [(.int (0 : Int32)), (.ref b494)])) (fun t k => XS.iconst X569.here hx rfl (hb hby at_192) k) ?_
                    refine Go.st (S' := T569.setTop (mkF m 195 A547 [(.long (1 : Int64)), (.int (0 : Int32)), (.ref b494)])) (fun t k => XS.lload X569.here hx rfl (hb hby at_193) rfl k) ?_
                    refine Go.st (S' := T569.setTop (mkF m 196 A547 [(.long (1 : Int64)), (.long (1 : Int64)), (.int (0 : Int32)), (.ref b494)])) (fun t k => XS.lconst X569.here hx rfl (hb hby at_195) k) ?_
                    refine Go.op (F := fun z => T569.setTop (mkF m 197 A547 [(.long z), (.int (0 : Int32)), (.ref b494)])) (x := ((1 : Int64) - (1 : Int64))) (fun t k => XS.lsub X569.here hx rfl (hb hby at_196) rfl k) ?_
                    intro v573 hv573
                    obtain rfl : (0 : Int64) = v573 := (hv573.trans (by decide)).symm
                    obtain ⟨r574, T574, L574, X574, hQ574, st574⟩ := own_callV (W := 0) (a := b494) (C := "com/example/hale_ledger/haleledger/bookie/JournalGrouping") X569 hx hZ e569 hown (y := (⟨"com/example/hale_ledger/haleledger/bookie/JournalGrouping", "isFull", "(IJ)Z"⟩ : MethodName)) (z := (⟨"com/example/hale_ledger/haleledger/bookie/JournalGrouping", "isFull", "(IJ)Z"⟩ : MethodName)) (hw _ (List.mem_of_getElem? (i := 25) rfl)) (hw _ (List.mem_of_getElem? (i := 26) rfl)) (notFace_of_selects (args := #[]) (mvT hZ (hw _ (List.mem_of_getElem? (i := 28) rfl)))) (hw _ (List.mem_of_getElem? (i := 28) rfl)) (hw _ (List.mem_of_getElem? (i := 27) rfl)) (hw _ (List.mem_of_getElem? (i := 5) rfl)) (hw _ (List.mem_of_getElem? (i := 29) rfl)) (by decide) (f498) (rm3 l Z a0 hw [] b494 (0 : Int32) (0 : Int64) v2 (1 : Int64) T496.heap n0 Z503 (f499) (f500)) (by decide) (by decide) (by decide) (by decide) (g := (mkF m 197 A547 [(.long (0 : Int64)), (.int (0 : Int32)), (.ref b494)])) rfl (by rw [hml]; rfl) (argsL := [(.int (0 : Int32)), (.long (0 : Int64))]) (rest := []) rfl (lenOf pd_2 rfl) rfl (by show 2 * 0 + _ ≤ _; exact Nat.le_of_eq rfl) (hb hby at_197)
                    obtain ⟨r575, hc576, rfl, N574, e574⟩ := hQ574
                    have N574_ := Fr.app N569_ N574
                    refine Go.st (S' := T574.setTop (mkF m 200 A547 [(.int r575)])) st574 ?_
                    by_cases hc577 : (r575 = (0 : Int32))
                    · refine Go.st (S' := T574.setTop (mkF m 205 A547 [])) (fun t k => XS.ifYes X574.here hx rfl (pc0 := 200) (pc' := 205) rfl (hb hby at_200) rfl ((if0 _ _).trans (teq hc577).1) (by decide) (by decide) k) ?_
                      refine Go.st (S' := T574.setTop (mkF m 207 A547 [(.int v2)])) (fun t k => XS.iload X574.here hx rfl (hb hby at_205) rfl k) ?_
                      by_cases hc578 : ((0 : Int32) < v2)
                      · refine Go.st (S' := T574.setTop (mkF m 210 A547 [])) (fun t k => XS.ifNo X574.here hx rfl (hb hby at_207) rfl ((if0 _ _).trans (tlt hc578).2.2.2) k) ?_
                        refine Go.st (S' := T574.setTop (mkF m 212 A547 [(.ref b494)])) (fun t k => XS.aload X574.here hx rfl (hb hby at_210) rfl rfl k) ?_
                        refine Go.st (S' := T574.setTop (mkF m 214 A547 [(.int v2), (.ref b494)])) (fun t k => XS.iload X574.here hx rfl (hb hby at_212) rfl k) ?_
                        refine Go.st (S' := T574.setTop (mkF m 215 A547 [(.long (0 : Int64)), (.int v2), (.ref b494)])) (fun t k => XS.lconst X574.here hx rfl (hb hby at_214) k) ?_
                        obtain ⟨r579, T579, L579, X579, hQ579, st579⟩ := own_callV (W := 0) (a := b494) (C := "com/example/hale_ledger/haleledger/bookie/JournalGrouping") X574 hx hZ e574 hown (y := (⟨"com/example/hale_ledger/haleledger/bookie/JournalGrouping", "isFull", "(IJ)Z"⟩ : MethodName)) (z := (⟨"com/example/hale_ledger/haleledger/bookie/JournalGrouping", "isFull", "(IJ)Z"⟩ : MethodName)) (hw _ (List.mem_of_getElem? (i := 25) rfl)) (hw _ (List.mem_of_getElem? (i := 26) rfl)) (notFace_of_selects (args := #[]) (mvT hZ (hw _ (List.mem_of_getElem? (i := 28) rfl)))) (hw _ (List.mem_of_getElem? (i := 28) rfl)) (hw _ (List.mem_of_getElem? (i := 27) rfl)) (hw _ (List.mem_of_getElem? (i := 5) rfl)) (hw _ (List.mem_of_getElem? (i := 29) rfl)) (by decide) (f498) (rm3 l Z a0 hw [] b494 v2 (0 : Int64) v2 (1 : Int64) T496.heap n0 Z503 (f499) (f500)) (by decide) (by decide) (by decide) (by decide) (g := (mkF m 215 A547 [(.long (0 : Int64)), (.int v2), (.ref b494)])) rfl (by rw [hml]; rfl) (argsL := [(.int v2), (.long (0 : Int64))]) (rest := []) rfl (lenOf pd_2 rfl) rfl (by show 2 * 0 + _ ≤ _; exact Nat.le_of_eq rfl) (hb hby at_215)
                        obtain ⟨r580, hc581, rfl, N579, e579⟩ := hQ579
                        have N579_ := Fr.app N574_ N579
                        refine Go.st (S' := T579.setTop (mkF m 218 A547 [(.int r580)])) st579 ?_
                        by_cases hc582 : (r580 = (0 : Int32))
                        · exfalso
                          have rv488 := rng32 v488
                          have wv488 := c_mask p4 (1 : Int32) 1 (by decide) (by decide)
                          rw [← hv488] at wv488
                          have rv2 := rng32 v2
                          have wv2 := c_mask p0 (2147483647 : Int32) 31 (by decide) (by decide)
                          rw [← hv2] at wv2
                          have rp0 := rng32 p0
                          have rp2 := rng32 p2
                          have rp4 := rng32 p4
                          have rq3 := rng64 q3
                          have rq5 := rng64 q5
                          have rr491 := rng32 r491
                          have rr506 := rng32 r506
                          have rr512 := rng32 r512
                          have rr525 := rng32 r525
                          have rr532 := rng32 r532
                          have rr537 := rng32 r537
                          have rr541 := rng64 r541
                          have rr545 := rng32 r545
                          have rr570 := rng32 r570
                          have rr575 := rng32 r575
                          have rr580 := rng32 r580
                          have lI0 : (0 : Int32).toInt = 0 := by decide
                          have lI1 : (1 : Int32).toInt = 1 := by decide
                          have lI2147483647 : (2147483647 : Int32).toInt = 2147483647 := by decide
                          have lJ0 : (0 : Int64).toInt = 0 := by decide
                          have lJ1 : (1 : Int64).toInt = 1 := by decide
                          simp only [Int32.lt_iff_toInt_lt, Int64.lt_iff_toInt_lt, ← Int32.toInt_inj, ← Int64.toInt_inj] at hc492 hc507 hc513 hc526 hc533 hc535 hc538 hc542 hc546 hc548 hc568 hc571 hc572 hc576 hc577 hc578 hc581 hc582
                          omega
                        · refine Go.st (S' := T579.setTop (mkF m 223 A547 [])) (fun t k => XS.ifYes X579.here hx rfl (pc0 := 218) (pc' := 223) rfl (hb hby at_218) rfl ((if0 _ _).trans (feq hc582).2) (by decide) (by decide) k) ?_
                          refine Go.st (S' := T579.setTop (mkF m 225 A547 [(.ref b494)])) (fun t k => XS.aload X579.here hx rfl (hb hby at_223) rfl rfl k) ?_
                          refine Go.st (S' := T579.setTop (mkF m 227 A547 [(.int v2), (.ref b494)])) (fun t k => XS.iload X579.here hx rfl (hb hby at_225) rfl k) ?_
                          refine Go.st (S' := T579.setTop (mkF m 228 A547 [(.int (1 : Int32)), (.int v2), (.ref b494)])) (fun t k => XS.iconst X579.here hx rfl (hb hby at_227) k) ?_
                          refine Go.op (F := fun z => T579.setTop (mkF m 229 A547 [(.int z), (.ref b494)])) (x := (v2 - (1 : Int32))) (fun t k => XS.isub X579.here hx rfl (hb hby at_228) rfl k) ?_
                          intro v583 hv583
                          refine Go.st (S' := T579.setTop (mkF m 230 A547 [(.long (0 : Int64)), (.int v583), (.ref b494)])) (fun t k => XS.lconst X579.here hx rfl (hb hby at_229) k) ?_
                          obtain ⟨r584, T584, L584, X584, hQ584, st584⟩ := own_callV (W := 0) (a := b494) (C := "com/example/hale_ledger/haleledger/bookie/JournalGrouping") X579 hx hZ e579 hown (y := (⟨"com/example/hale_ledger/haleledger/bookie/JournalGrouping", "isFull", "(IJ)Z"⟩ : MethodName)) (z := (⟨"com/example/hale_ledger/haleledger/bookie/JournalGrouping", "isFull", "(IJ)Z"⟩ : MethodName)) (hw _ (List.mem_of_getElem? (i := 25) rfl)) (hw _ (List.mem_of_getElem? (i := 26) rfl)) (notFace_of_selects (args := #[]) (mvT hZ (hw _ (List.mem_of_getElem? (i := 28) rfl)))) (hw _ (List.mem_of_getElem? (i := 28) rfl)) (hw _ (List.mem_of_getElem? (i := 27) rfl)) (hw _ (List.mem_of_getElem? (i := 5) rfl)) (hw _ (List.mem_of_getElem? (i := 29) rfl)) (by decide) (f498) (rm3 l Z a0 hw [] b494 v583 (0 : Int64) v2 (1 : Int64) T496.heap n0 Z503 (f499) (f500)) (by decide) (by decide) (by decide) (by decide) (g := (mkF m 230 A547 [(.long (0 : Int64)), (.int v583), (.ref b494)])) rfl (by rw [hml]; rfl) (argsL := [(.int v583), (.long (0 : Int64))]) (rest := []) rfl (lenOf pd_2 rfl) rfl (by show 2 * 0 + _ ≤ _; exact Nat.le_of_eq rfl) (hb hby at_230)
                          obtain ⟨r585, hc586, rfl, N584, e584⟩ := hQ584
                          have N584_ := Fr.app N579_ N584
                          refine Go.st (S' := T584.setTop (mkF m 233 A547 [(.int r585)])) st584 ?_
                          by_cases hc587 : (r585 = (0 : Int32))
                          · refine Go.st (S' := T584.setTop (mkF m 238 A547 [])) (fun t k => XS.ifYes X584.here hx rfl (pc0 := 233) (pc' := 238) rfl (hb hby at_233) rfl ((if0 _ _).trans (teq hc587).1) (by decide) (by decide) k) ?_
                            refine Go.st (S' := T584.setTop (mkF m 239 A547 [(.int (1 : Int32))])) (fun t k => XS.iconst X584.here hx rfl (hb hby at_238) k) ?_
                            exact Go.ret X584 (v := some (.int (1 : Int32))) (fun h => by rw [Bd.returns] at h; cases h) Bd.notSynchronized (fun fs hr => retN X584 hx (t := .boolean) Bd.returns (by simp) (hb hby at_239) hr) (by decide) (by decide) ⟨rfl, N584_⟩
                          · exfalso
                            have rv488 := rng32 v488
                            have wv488 := c_mask p4 (1 : Int32) 1 (by decide) (by decide)
                            rw [← hv488] at wv488
                            have rv2 := rng32 v2
                            have wv2 := c_mask p0 (2147483647 : Int32) 31 (by decide) (by decide)
                            rw [← hv2] at wv2
                            have rv583 := rng32 v583
                            have wv583 := c_isub v2 (1 : Int32)
                            rw [← hv583] at wv583
                            have rp0 := rng32 p0
                            have rp2 := rng32 p2
                            have rp4 := rng32 p4
                            have rq3 := rng64 q3
                            have rq5 := rng64 q5
                            have rr491 := rng32 r491
                            have rr506 := rng32 r506
                            have rr512 := rng32 r512
                            have rr525 := rng32 r525
                            have rr532 := rng32 r532
                            have rr537 := rng32 r537
                            have rr541 := rng64 r541
                            have rr545 := rng32 r545
                            have rr570 := rng32 r570
                            have rr575 := rng32 r575
                            have rr580 := rng32 r580
                            have rr585 := rng32 r585
                            have lI0 : (0 : Int32).toInt = 0 := by decide
                            have lI1 : (1 : Int32).toInt = 1 := by decide
                            have lI2147483647 : (2147483647 : Int32).toInt = 2147483647 := by decide
                            have lJ0 : (0 : Int64).toInt = 0 := by decide
                            have lJ1 : (1 : Int64).toInt = 1 := by decide
                            simp only [Int32.lt_iff_toInt_lt, Int64.lt_iff_toInt_lt, ← Int32.toInt_inj, ← Int64.toInt_inj] at hc492 hc507 hc513 hc526 hc533 hc535 hc538 hc542 hc546 hc548 hc568 hc571 hc572 hc576 hc577 hc578 hc581 hc582 hc586 hc587
                            omega
                      · refine Go.st (S' := T574.setTop (mkF m 238 A547 [])) (fun t k => XS.ifYes X574.here hx rfl (pc0 := 207) (pc' := 238) rfl (hb hby at_207) rfl ((if0 _ _).trans (flt hc578).2.2.2) (by decide) (by decide) k) ?_
                        refine Go.st (S' := T574.setTop (mkF m 239 A547 [(.int (1 : Int32))])) (fun t k => XS.iconst X574.here hx rfl (hb hby at_238) k) ?_
                        exact Go.ret X574 (v := some (.int (1 : Int32))) (fun h => by rw [Bd.returns] at h; cases h) Bd.notSynchronized (fun fs hr => retN X574 hx (t := .boolean) Bd.returns (by simp) (hb hby at_239) hr) (by decide) (by decide) ⟨rfl, N574_⟩
                    · exfalso
                      have rv488 := rng32 v488
                      have wv488 := c_mask p4 (1 : Int32) 1 (by decide) (by decide)
                      rw [← hv488] at wv488
                      have rv2 := rng32 v2
                      have wv2 := c_mask p0 (2147483647 : Int32) 31 (by decide) (by decide)
                      rw [← hv2] at wv2
                      have rp0 := rng32 p0
                      have rp2 := rng32 p2
                      have rp4 := rng32 p4
                      have rq3 := rng64 q3
                      have rq5 := rng64 q5
                      have rr491 := rng32 r491
                      have rr506 := rng32 r506
                      have rr512 := rng32 r512
                      have rr525 := rng32 r525
                      have rr532 := rng32 r532
                      have rr537 := rng32 r537
                      have rr541 := rng64 r541
                      have rr545 := rng32 r545
                      have rr570 := rng32 r570
                      have rr575 := rng32 r575
                      have lI0 : (0 : Int32).toInt = 0 := by decide
                      have lI1 : (1 : Int32).toInt = 1 := by decide
                      have lI2147483647 : (2147483647 : Int32).toInt = 2147483647 := by decide
                      have lJ0 : (0 : Int64).toInt = 0 := by decide
                      have lJ1 : (1 : Int64).toInt = 1 := by decide
                      simp only [Int32.lt_iff_toInt_lt, Int64.lt_iff_toInt_lt, ← Int32.toInt_inj, ← Int64.toInt_inj] at hc492 hc507 hc513 hc526 hc533 hc535 hc538 hc542 hc546 hc548 hc568 hc571 hc572 hc576 hc577
                      omega
            · exfalso
              have rv2 := rng32 v2
              have wv2 := c_mask p0 (2147483647 : Int32) 31 (by decide) (by decide)
              rw [← hv2] at wv2
              have rp0 := rng32 p0
              have rp2 := rng32 p2
              have rq3 := rng64 q3
              have rr506 := rng32 r506
              have rr512 := rng32 r512
              have rr525 := rng32 r525
              have rr532 := rng32 r532
              have lI0 : (0 : Int32).toInt = 0 := by decide
              have lI1 : (1 : Int32).toInt = 1 := by decide
              have lI2147483647 : (2147483647 : Int32).toInt = 2147483647 := by decide
              have lJ1 : (1 : Int64).toInt = 1 := by decide
              simp only [Int32.lt_iff_toInt_lt, Int64.lt_iff_toInt_lt, ← Int32.toInt_inj, ← Int64.toInt_inj] at hc507 hc513 hc526 hc533 hc535
              omega
          · intro J588
            by_cases hc589 : (r512 = (0 : Int32))
            · refine Go.st (S' := T505.setTop (mkF m 116 A527 [])) (fun t k => XS.ifNo X505.here hx rfl (hb hby at_113) rfl ((if0 _ _).trans (teq hc589).2) k) ?_
              refine Go.st (S' := T505.setTop (mkF m 118 A527 [(.int r525)])) (fun t k => XS.iload X505.here hx rfl (hb hby at_116) rfl k) ?_
              by_cases hc590 : (r525 = (0 : Int32))
              · refine Go.st (S' := T505.setTop (mkF m 125 A527 [])) (fun t k => XS.ifYes X505.here hx rfl (pc0 := 118) (pc' := 125) rfl (hb hby at_118) rfl ((if0 _ _).trans (teq hc590).1) (by decide) (by decide) k) ?_
                refine Go.st (S' := T505.setTop (mkF m 126 A527 [(.int (0 : Int32))])) (fun t k => XS.iconst X505.here hx rfl (hb hby at_125) k) ?_
                exact J588 ((0 : Int32)) (Or.inl ⟨hc589, hc590, rfl⟩)
              · refine Go.st (S' := T505.setTop (mkF m 121 A527 [])) (fun t k => XS.ifNo X505.here hx rfl (hb hby at_118) rfl ((if0 _ _).trans (feq hc590).1) k) ?_
                refine Go.st (S' := T505.setTop (mkF m 122 A527 [(.int (1 : Int32))])) (fun t k => XS.iconst X505.here hx rfl (hb hby at_121) k) ?_
                refine Go.st (S' := T505.setTop (mkF m 126 A527 [(.int (1 : Int32))])) (fun t k => XS.goto X505.here hx rfl (pc0 := 122) (pc' := 126) rfl (hb hby at_122) (by decide) (by decide) k) ?_
                exact J588 ((1 : Int32)) (Or.inr (Or.inl ⟨hc589, hc590, rfl⟩))
            · refine Go.st (S' := T505.setTop (mkF m 121 A527 [])) (fun t k => XS.ifYes X505.here hx rfl (pc0 := 113) (pc' := 121) rfl (hb hby at_113) rfl ((if0 _ _).trans (feq hc589).2) (by decide) (by decide) k) ?_
              refine Go.st (S' := T505.setTop (mkF m 122 A527 [(.int (1 : Int32))])) (fun t k => XS.iconst X505.here hx rfl (hb hby at_121) k) ?_
              refine Go.st (S' := T505.setTop (mkF m 126 A527 [(.int (1 : Int32))])) (fun t k => XS.goto X505.here hx rfl (pc0 := 122) (pc' := 126) rfl (hb hby at_122) (by decide) (by decide) k) ?_
              exact J588 ((1 : Int32)) (Or.inr (Or.inr ⟨hc589, rfl⟩))
        · intro J591
          by_cases hc592 : (v2 = (0 : Int32))
          · refine Go.st (S' := T505.setTop (mkF m 92 A514 [])) (fun t k => XS.ifNo X505.here hx rfl (hb hby at_89) rfl ((if0 _ _).trans (teq hc592).2) k) ?_
            refine Go.st (S' := T505.setTop (mkF m 93 A514 [(.int (0 : Int32))])) (fun t k => XS.iconst X505.here hx rfl (hb hby at_92) k) ?_
            let A593 : Array Slot := #[.val (.int p0), .val (.long q1), .second, .val (.int p2), .val (.long q3), .second, .val (.int p4), .val (.long q5), .second, .val (.int v2), .val (.long (1 : Int64)), .second, .val (.long v486), .second, .val (.int r491), .val (.ref b494), .val (.int r506), .val (.int r512), .val (.int (0 : Int32)), .unset, .unset, .unset, .unset, .unset]
            refine Go.st (S' := T505.setTop (mkF m 95 A593 [])) (fun t k => XS.istore X505.here hx rfl (hb hby at_93) rfl (l' := A593) rfl k) ?_
            refine Go.st (S' := T505.setTop (mkF m 111 A593 [])) (fun t k => XS.goto X505.here hx rfl (pc0 := 95) (pc' := 111) rfl (hb hby at_95) (by decide) (by decide) k) ?_
            exact J591 ((0 : Int32)) (Or.inl ⟨hc592, rfl⟩)
          · refine Go.st (S' := T505.setTop (mkF m 98 A514 [])) (fun t k => XS.ifYes X505.here hx rfl (pc0 := 89) (pc' := 98) rfl (hb hby at_89) rfl ((if0 _ _).trans (feq hc592).2) (by decide) (by decide) k) ?_
            refine Go.st (S' := T505.setTop (mkF m 99 A514 [(.int p2)])) (fun t k => XS.iloadN X505.here hx rfl (hb hby at_98) rfl k) ?_
            refine Go.st (S' := T505.setTop (mkF m 101 A514 [(.int v2), (.int p2)])) (fun t k => XS.iload X505.here hx rfl (hb hby at_99) rfl k) ?_
            by_cases hc594 : (p2 < v2)
            · refine Go.st (S' := T505.setTop (mkF m 108 A514 [])) (fun t k => XS.icmpYes X505.here hx rfl (pc0 := 101) (pc' := 108) rfl (hb hby at_101) rfl (tlt hc594).1 (by decide) (by decide) k) ?_
              refine Go.st (S' := T505.setTop (mkF m 109 A514 [(.int (0 : Int32))])) (fun t k => XS.iconst X505.here hx rfl (hb hby at_108) k) ?_
              let A595 : Array Slot := #[.val (.int p0), .val (.long q1), .second, .val (.int p2), .val (.long q3), .second, .val (.int p4), .val (.long q5), .second, .val (.int v2), .val (.long (1 : Int64)), .second, .val (.long v486), .second, .val (.int r491), .val (.ref b494), .val (.int r506), .val (.int r512), .val (.int (0 : Int32)), .unset, .unset, .unset, .unset, .unset]
              refine Go.st (S' := T505.setTop (mkF m 111 A595 [])) (fun t k => XS.istore X505.here hx rfl (hb hby at_109) rfl (l' := A595) rfl k) ?_
              exact J591 ((0 : Int32)) (Or.inr (Or.inl ⟨hc592, hc594, rfl⟩))
            · refine Go.st (S' := T505.setTop (mkF m 104 A514 [])) (fun t k => XS.icmpNo X505.here hx rfl (hb hby at_101) rfl (flt hc594).1 k) ?_
              refine Go.st (S' := T505.setTop (mkF m 105 A514 [(.int (1 : Int32))])) (fun t k => XS.iconst X505.here hx rfl (hb hby at_104) k) ?_
              refine Go.st (S' := T505.setTop (mkF m 109 A514 [(.int (1 : Int32))])) (fun t k => XS.goto X505.here hx rfl (pc0 := 105) (pc' := 109) rfl (hb hby at_105) (by decide) (by decide) k) ?_
              let A596 : Array Slot := #[.val (.int p0), .val (.long q1), .second, .val (.int p2), .val (.long q3), .second, .val (.int p4), .val (.long q5), .second, .val (.int v2), .val (.long (1 : Int64)), .second, .val (.long v486), .second, .val (.int r491), .val (.ref b494), .val (.int r506), .val (.int r512), .val (.int (1 : Int32)), .unset, .unset, .unset, .unset, .unset]
              refine Go.st (S' := T505.setTop (mkF m 111 A596 [])) (fun t k => XS.istore X505.here hx rfl (hb hby at_109) rfl (l' := A596) rfl k) ?_
              exact J591 ((1 : Int32)) (Or.inr (Or.inr ⟨hc592, hc594, rfl⟩))
      · intro J597
        by_cases hc598 : (q3 < (1 : Int64))
        · refine Go.st (S' := T505.setTop (mkF m 84 A508 [])) (fun t k => XS.ifYes X505.here hx rfl (pc0 := 77) (pc' := 84) rfl (hb hby at_77) rfl ((if0 _ _).trans (tlt (by rw [hv509]; exact (lw_lt _ _).2 hc598)).1) (by decide) (by decide) k) ?_
          refine Go.st (S' := T505.setTop (mkF m 85 A508 [(.int (0 : Int32))])) (fun t k => XS.iconst X505.here hx rfl (hb hby at_84) k) ?_
          exact J597 ((0 : Int32)) (Or.inl ⟨hc598, rfl⟩)
        · refine Go.st (S' := T505.setTop (mkF m 80 A508 [])) (fun t k => XS.ifNo X505.here hx rfl (hb hby at_77) rfl ((if0 _ _).trans (flt (by rw [hv509]; exact fun z => hc598 ((lw_lt _ _).1 z))).1) k) ?_
          refine Go.st (S' := T505.setTop (mkF m 81 A508 [(.int (1 : Int32))])) (fun t k => XS.iconst X505.here hx rfl (hb hby at_80) k) ?_
          refine Go.st (S' := T505.setTop (mkF m 85 A508 [(.int (1 : Int32))])) (fun t k => XS.goto X505.here hx rfl (pc0 := 81) (pc' := 85) rfl (hb hby at_81) (by decide) (by decide) k) ?_
          exact J597 ((1 : Int32)) (Or.inr ⟨hc598, rfl⟩)
    · intro J599
      by_cases hc600 : (v488 = (0 : Int32))
      · refine Go.st (S' := s₁.setTop (mkF m 42 A487 [])) (fun t k => XS.ifYes X0.here hx rfl (pc0 := 35) (pc' := 42) rfl (hb hby at_35) rfl ((if0 _ _).trans (teq hc600).1) (by decide) (by decide) k) ?_
        refine Go.st (S' := s₁.setTop (mkF m 43 A487 [(.int (0 : Int32))])) (fun t k => XS.iconst X0.here hx rfl (hb hby at_42) k) ?_
        exact J599 ((0 : Int32)) (Or.inl ⟨hc600, rfl⟩)
      · refine Go.st (S' := s₁.setTop (mkF m 38 A487 [])) (fun t k => XS.ifNo X0.here hx rfl (hb hby at_35) rfl ((if0 _ _).trans (feq hc600).1) k) ?_
        refine Go.st (S' := s₁.setTop (mkF m 39 A487 [(.int (1 : Int32))])) (fun t k => XS.iconst X0.here hx rfl (hb hby at_38) k) ?_
        refine Go.st (S' := s₁.setTop (mkF m 43 A487 [(.int (1 : Int32))])) (fun t k => XS.goto X0.here hx rfl (pc0 := 39) (pc' := 43) rfl (hb hby at_39) (by decide) (by decide) k) ?_
        exact J599 ((1 : Int32)) (Or.inr ⟨hc600, rfl⟩)
  · refine Go.st (S' := s₁.setTop (mkF m 23 A5 [])) (fun t k => XS.ifYes X0.here hx rfl (pc0 := 17) (pc' := 23) rfl (hb hby at_17) rfl ((if0 _ _).trans (feq (by rw [hv6]; exact fun z => hc484 ((lw_eq _ _).1 z))).2) (by decide) (by decide) k) ?_
    refine Go.st (S' := s₁.setTop (mkF m 25 A5 [(.long q5)])) (fun t k => XS.lload X0.here hx rfl (hb hby at_23) rfl k) ?_
    refine Go.st (S' := s₁.setTop (mkF m 28 A5 [(.long (65535 : Int64)), (.long q5)])) (fun t k => X0.ldc2Long hx hown (mvT hZ (hw _ (List.mem_of_getElem? (i := 2) rfl))) (g := (mkF m 25 A5 [(.long q5)])) rfl (hb hby at_25) t k) ?_
    refine Go.op (F := fun z => s₁.setTop (mkF m 29 A5 [(.long z)])) (x := (q5 &&& (65535 : Int64))) (fun t k => XS.land X0.here hx rfl (hb hby at_28) rfl k) ?_
    intro v601 hv601
    let A602 : Array Slot := #[.val (.int p0), .val (.long q1), .second, .val (.int p2), .val (.long q3), .second, .val (.int p4), .val (.long q5), .second, .val (.int v2), .val (.long v4), .second, .val (.long v601), .second, .unset, .unset, .unset, .unset, .unset, .unset, .unset, .unset, .unset, .unset]
    refine Go.st (S' := s₁.setTop (mkF m 31 A602 [])) (fun t k => XS.lstore X0.here hx rfl (hb hby at_29) rfl (l' := A602) rfl k) ?_
    refine Go.st (S' := s₁.setTop (mkF m 33 A602 [(.int p4)])) (fun t k => XS.iload X0.here hx rfl (hb hby at_31) rfl k) ?_
    refine Go.st (S' := s₁.setTop (mkF m 34 A602 [(.int (1 : Int32)), (.int p4)])) (fun t k => XS.iconst X0.here hx rfl (hb hby at_33) k) ?_
    refine Go.op (F := fun z => s₁.setTop (mkF m 35 A602 [(.int z)])) (x := (p4 &&& (1 : Int32))) (fun t k => XS.iand X0.here hx rfl (hb hby at_34) rfl k) ?_
    intro v603 hv603
    refine Go.join (α := Int32) (fun r => (((v603 = (0 : Int32)) ∧ (r = (0 : Int32))) ∨ ((¬ (v603 = (0 : Int32))) ∧ (r = (1 : Int32))))) (fun r => s₁.setTop (mkF m 43 A602 [(.int r)])) ?_ ?_
    · intro r606 hc607
      let A608 : Array Slot := #[.val (.int p0), .val (.long q1), .second, .val (.int p2), .val (.long q3), .second, .val (.int p4), .val (.long q5), .second, .val (.int v2), .val (.long v4), .second, .val (.long v601), .second, .val (.int r606), .unset, .unset, .unset, .unset, .unset, .unset, .unset, .unset, .unset]
      refine Go.st (S' := s₁.setTop (mkF m 45 A608 [])) (fun t k => XS.istore X0.here hx rfl (hb hby at_43) rfl (l' := A608) rfl k) ?_
      obtain ⟨T609, h609, X609, e609, E609, A609, D609, -, st609⟩ := newO X0 hx hZ hown (hw _ (List.mem_of_getElem? (i := 3) rfl)) (hw _ (List.mem_of_getElem? (i := 4) rfl)) (hw _ (List.mem_of_getElem? (i := 5) rfl)) e0 (g := (mkF m 45 A608 [])) rfl (hb hby at_45) (by decide) (by decide)
      obtain ⟨b609, gg609⟩ : ∃ z, z = h0.size := ⟨_, rfl⟩
      rw [← gg609] at A609 D609 st609
      have g_b609 : n0 ≤ b609 := Nat.le_trans Z0 (Nat.le_of_eq gg609.symm)
      have sz_b609 : h0.size ≤ b609 := Nat.le_trans (Keep.refl h0 []).1 (Nat.le_of_eq gg609.symm)
      have Z610 : n0 ≤ h609.size := Nat.le_trans Z0 E609.1
      have K610 : Keep h0 h609 [] := (Keep.refl h0 []).ext E609
      have Fb609_maxEntries : Fld Z h609 b609 "com/example/hale_ledger/haleledger/bookie/JournalGrouping" "maxEntries" "I" (.int (0 : Int32)) := D609 (Or.inr (hw _ (List.mem_of_getElem? (i := 18) rfl))) (ty := .int) (by decide)
      have Fb609_maxBytes : Fld Z h609 b609 "com/example/hale_ledger/haleledger/bookie/JournalGrouping" "maxBytes" "J" (.long (0 : Int64)) := D609 (Or.inr (hw _ (List.mem_of_getElem? (i := 20) rfl))) (ty := .long) (by decide)
      have Fb609_waitMillis : Fld Z h609 b609 "com/example/hale_ledger/haleledger/bookie/JournalGrouping" "waitMillis" "J" (.long (0 : Int64)) := D609 (Or.inr (hw _ (List.mem_of_getElem? (i := 22) rfl))) (ty := .long) (by decide)
      have Fb609_flushWhenIdle : Fld Z h609 b609 "com/example/hale_ledger/haleledger/bookie/JournalGrouping" "flushWhenIdle" "Z" (.int (0 : Int32)) := D609 (Or.inr (hw _ (List.mem_of_getElem? (i := 24) rfl))) (ty := .boolean) (by decide)
      refine Go.st (S' := T609.setTop (mkF m 48 A608 [(.ref b609)])) st609 ?_
      refine Go.st (S' := T609.setTop (mkF m 49 A608 [(.ref b609), (.ref b609)])) (fun t k => XS.dup X609.here hx rfl (hb hby at_48) rfl rfl k) ?_
      refine Go.st (S' := T609.setTop (mkF m 51 A608 [(.int v2), (.ref b609), (.ref b609)])) (fun t k => XS.iload X609.here hx rfl (hb hby at_49) rfl k) ?_
      refine Go.st (S' := T609.setTop (mkF m 53 A608 [(.long v4), (.int v2), (.ref b609), (.ref b609)])) (fun t k => XS.lload X609.here hx rfl (hb hby at_51) rfl k) ?_
      refine Go.st (S' := T609.setTop (mkF m 55 A608 [(.long v601), (.long v4), (.int v2), (.ref b609), (.ref b609)])) (fun t k => XS.lload X609.here hx rfl (hb hby at_53) rfl k) ?_
      refine Go.st (S' := T609.setTop (mkF m 57 A608 [(.int r606), (.long v601), (.long v4), (.int v2), (.ref b609), (.ref b609)])) (fun t k => XS.iload X609.here hx rfl (hb hby at_55) rfl k) ?_
      obtain ⟨r611, T611, L611, X611, hQ611, st611⟩ := own_callI (W := 1) (a := b609) X609 hx hZ e609 hown (y := (⟨"com/example/hale_ledger/haleledger/bookie/JournalGrouping", "<init>", "(IJJZ)V"⟩ : MethodName)) rfl (hw _ (List.mem_of_getElem? (i := 6) rfl)) (hw _ (List.mem_of_getElem? (i := 7) rfl)) (hw _ (List.mem_of_getElem? (i := 5) rfl)) (hw _ (List.mem_of_getElem? (i := 8) rfl)) (by decide) (rm2 l Z a0 hw [] b609 v2 v4 v601 r606 ((.int (0 : Int32))) ((.long (0 : Int64))) ((.long (0 : Int64))) ((.int (0 : Int32))) h609 n0 Z610 (A609) (Fb609_maxEntries) (g_b609) (Fb609_maxBytes) (Fb609_waitMillis) (Fb609_flushWhenIdle)) (by decide) (by decide) (by decide) (by decide) (g := (mkF m 57 A608 [(.int r606), (.long v601), (.long v4), (.int v2), (.ref b609), (.ref b609)])) rfl (by rw [hml]; rfl) (argsL := [(.int v2), (.long v4), (.long v601), (.int r606)]) (rest := [(.ref b609)]) rfl (lenOf pd_1 rfl) rfl (by show 2 * 0 + _ ≤ _; exact Nat.le_of_eq rfl) (hb hby at_57)
      obtain ⟨v612, hv612, rfl, N611, K611_, f613, f614, f615, f616, f617⟩ := hQ611
      have N611_ := Fr.app N0 N611
      have Z618 : n0 ≤ T611.heap.size := Nat.le_trans Z610 K611_.1
      have K618 : Keep h0 T611.heap [] := K610.trans K611_ (allS (Or.inr sz_b609) all0)
      refine Go.st (S' := T611.setTop (mkF m 60 A608 [(.ref b609)])) st611 ?_
      let A619 : Array Slot := #[.val (.int p0), .val (.long q1), .second, .val (.int p2), .val (.long q3), .second, .val (.int p4), .val (.long q5), .second, .val (.int v2), .val (.long v4), .second, .val (.long v601), .second, .val (.int r606), .val (.ref b609), .unset, .unset, .unset, .unset, .unset, .unset, .unset, .unset]
      refine Go.st (S' := T611.setTop (mkF m 62 A619 [])) (fun t k => XS.astore X611.here hx rfl (hb hby at_60) rfl rfl (l' := A619) rfl k) ?_
      refine Go.st (S' := T611.setTop (mkF m 64 A619 [(.ref b609)])) (fun t k => XS.aload X611.here hx rfl (hb hby at_62) rfl rfl k) ?_
      refine Go.st (S' := T611.setTop (mkF m 65 A619 [(.int p2), (.ref b609)])) (fun t k => XS.iloadN X611.here hx rfl (hb hby at_64) rfl k) ?_
      refine Go.st (S' := T611.setTop (mkF m 67 A619 [(.long q3), (.int p2), (.ref b609)])) (fun t k => XS.lload X611.here hx rfl (hb hby at_65) rfl k) ?_
      obtain ⟨r620, T620, L620, X620, hQ620, st620⟩ := own_callV (W := 0) (a := b609) (C := "com/example/hale_ledger/haleledger/bookie/JournalGrouping") X611 hx hZ rfl hown (y := (⟨"com/example/hale_ledger/haleledger/bookie/JournalGrouping", "isFull", "(IJ)Z"⟩ : MethodName)) (z := (⟨"com/example/hale_ledger/haleledger/bookie/JournalGrouping", "isFull", "(IJ)Z"⟩ : MethodName)) (hw _ (List.mem_of_getElem? (i := 25) rfl)) (hw _ (List.mem_of_getElem? (i := 26) rfl)) (notFace_of_selects (args := #[]) (mvT hZ (hw _ (List.mem_of_getElem? (i := 28) rfl)))) (hw _ (List.mem_of_getElem? (i := 28) rfl)) (hw _ (List.mem_of_getElem? (i := 27) rfl)) (hw _ (List.mem_of_getElem? (i := 5) rfl)) (hw _ (List.mem_of_getElem? (i := 29) rfl)) (by decide) (f613) (rm3 l Z a0 hw [] b609 p2 q3 v2 v4 T611.heap n0 Z618 (f614) (f615)) (by decide) (by decide) (by decide) (by decide) (g := (mkF m 67 A619 [(.long q3), (.int p2), (.ref b609)])) rfl (by rw [hml]; rfl) (argsL := [(.int p2), (.long q3)]) (rest := []) rfl (lenOf pd_2 rfl) rfl (by show 2 * 0 + _ ≤ _; exact Nat.le_of_eq rfl) (hb hby at_67)
      obtain ⟨r621, hc622, rfl, N620, e620⟩ := hQ620
      have N620_ := Fr.app N611_ N620
      refine Go.st (S' := T620.setTop (mkF m 70 A619 [(.int r621)])) st620 ?_
      let A623 : Array Slot := #[.val (.int p0), .val (.long q1), .second, .val (.int p2), .val (.long q3), .second, .val (.int p4), .val (.long q5), .second, .val (.int v2), .val (.long v4), .second, .val (.long v601), .second, .val (.int r606), .val (.ref b609), .val (.int r621), .unset, .unset, .unset, .unset, .unset, .unset, .unset]
      refine Go.st (S' := T620.setTop (mkF m 72 A623 [])) (fun t k => XS.istore X620.here hx rfl (hb hby at_70) rfl (l' := A623) rfl k) ?_
      refine Go.st (S' := T620.setTop (mkF m 74 A623 [(.long q3)])) (fun t k => XS.lload X620.here hx rfl (hb hby at_72) rfl k) ?_
      refine Go.st (S' := T620.setTop (mkF m 76 A623 [(.long v4), (.long q3)])) (fun t k => XS.lload X620.here hx rfl (hb hby at_74) rfl k) ?_
      refine Go.op (F := fun z => T620.setTop (mkF m 77 A623 [(.int z)])) (x := (lcmpW q3 v4)) (fun t k => XS.lcmp X620.here hx rfl (hb hby at_76) rfl k) ?_
      intro v624 hv624
      refine Go.join (α := Int32) (fun r => (((q3 < v4) ∧ (r = (0 : Int32))) ∨ ((¬ (q3 < v4)) ∧ (r = (1 : Int32))))) (fun r => T620.setTop (mkF m 85 A623 [(.int r)])) ?_ ?_
      · intro r627 hc628
        let A629 : Array Slot := #[.val (.int p0), .val (.long q1), .second, .val (.int p2), .val (.long q3), .second, .val (.int p4), .val (.long q5), .second, .val (.int v2), .val (.long v4), .second, .val (.long v601), .second, .val (.int r606), .val (.ref b609), .val (.int r621), .val (.int r627), .unset, .unset, .unset, .unset, .unset, .unset]
        refine Go.st (S' := T620.setTop (mkF m 87 A629 [])) (fun t k => XS.istore X620.here hx rfl (hb hby at_85) rfl (l' := A629) rfl k) ?_
        refine Go.st (S' := T620.setTop (mkF m 89 A629 [(.int v2)])) (fun t k => XS.iload X620.here hx rfl (hb hby at_87) rfl k) ?_
        refine Go.join (α := Int32) (fun r => (((v2 = (0 : Int32)) ∧ (r = (0 : Int32))) ∨ ((¬ (v2 = (0 : Int32))) ∧ (p2 < v2) ∧ (r = (0 : Int32))) ∨ ((¬ (v2 = (0 : Int32))) ∧ (¬ (p2 < v2)) ∧ (r = (1 : Int32))))) (fun r => T620.setTop (mkF m 111 #[.val (.int p0), .val (.long q1), .second, .val (.int p2), .val (.long q3), .second, .val (.int p4), .val (.long q5), .second, .val (.int v2), .val (.long v4), .second, .val (.long v601), .second, .val (.int r606), .val (.ref b609), .val (.int r621), .val (.int r627), .val (.int r), .unset, .unset, .unset, .unset, .unset] [])) ?_ ?_
        · intro r640 hc641
          let A642 : Array Slot := #[.val (.int p0), .val (.long q1), .second, .val (.int p2), .val (.long q3), .second, .val (.int p4), .val (.long q5), .second, .val (.int v2), .val (.long v4), .second, .val (.long v601), .second, .val (.int r606), .val (.ref b609), .val (.int r621), .val (.int r627), .val (.int r640), .unset, .unset, .unset, .unset, .unset]
          refine Go.st (S' := T620.setTop (mkF m 113 A642 [(.int r627)])) (fun t k => XS.iload X620.here hx rfl (hb hby at_111) rfl k) ?_
          refine Go.join (α := Int32) (fun r => (((r627 = (0 : Int32)) ∧ (r640 = (0 : Int32)) ∧ (r = (0 : Int32))) ∨ ((r627 = (0 : Int32)) ∧ (¬ (r640 = (0 : Int32))) ∧ (r = (1 : Int32))) ∨ ((¬ (r627 = (0 : Int32))) ∧ (r = (1 : Int32))))) (fun r => T620.setTop (mkF m 126 A642 [(.int r)])) ?_ ?_
          · intro r647 hc648
            let A649 : Array Slot := #[.val (.int p0), .val (.long q1), .second, .val (.int p2), .val (.long q3), .second, .val (.int p4), .val (.long q5), .second, .val (.int v2), .val (.long v4), .second, .val (.long v601), .second, .val (.int r606), .val (.ref b609), .val (.int r621), .val (.int r627), .val (.int r640), .val (.int r647), .unset, .unset, .unset, .unset]
            refine Go.st (S' := T620.setTop (mkF m 128 A649 [])) (fun t k => XS.istore X620.here hx rfl (hb hby at_126) rfl (l' := A649) rfl k) ?_
            refine Go.st (S' := T620.setTop (mkF m 130 A649 [(.int r621)])) (fun t k => XS.iload X620.here hx rfl (hb hby at_128) rfl k) ?_
            refine Go.st (S' := T620.setTop (mkF m 132 A649 [(.int r647), (.int r621)])) (fun t k => XS.iload X620.here hx rfl (hb hby at_130) rfl k) ?_
            by_cases hc650 : (r621 = r647)
            · refine Go.st (S' := T620.setTop (mkF m 137 A649 [])) (fun t k => XS.icmpYes X620.here hx rfl (pc0 := 132) (pc' := 137) rfl (hb hby at_132) rfl (teq hc650).1 (by decide) (by decide) k) ?_
              refine Go.st (S' := T620.setTop (mkF m 138 A649 [(.int p2)])) (fun t k => XS.iloadN X620.here hx rfl (hb hby at_137) rfl k) ?_
              refine Go.st (S' := T620.setTop (mkF m 140 A649 [(.int p4), (.int p2)])) (fun t k => XS.iload X620.here hx rfl (hb hby at_138) rfl k) ?_
              obtain ⟨r651, T651, L651, X651, hQ651, st651⟩ := own_callS (W := 0) X620 hx hZ e620 hown (y := (⟨"java/lang/Math", "max", "(II)I"⟩ : MethodName)) (hw _ (List.mem_of_getElem? (i := 30) rfl)) (hw _ (List.mem_of_getElem? (i := 31) rfl)) (hw _ (List.mem_of_getElem? (i := 32) rfl)) (hw _ (List.mem_of_getElem? (i := 33) rfl)) (by decide) (rm4 l Z a0 hw [] p2 p4 T611.heap n0 Z618 ) (by decide) (by decide) (by decide) (by decide) (g := (mkF m 140 A649 [(.int p4), (.int p2)])) rfl (by rw [hml]; rfl) (argsL := [(.int p2), (.int p4)]) (rest := []) rfl (lenOf pd_3 rfl) rfl (by show 2 * 0 + _ ≤ _; exact Nat.le_of_eq rfl) (hb hby at_140)
              obtain ⟨r652, hc653, rfl, N651, e651⟩ := hQ651
              have N651_ := Fr.app N620_ N651
              refine Go.st (S' := T651.setTop (mkF m 143 A649 [(.int r652)])) st651 ?_
              let A654 : Array Slot := #[.val (.int p0), .val (.long q1), .second, .val (.int p2), .val (.long q3), .second, .val (.int p4), .val (.long q5), .second, .val (.int v2), .val (.long v4), .second, .val (.long v601), .second, .val (.int r606), .val (.ref b609), .val (.int r621), .val (.int r627), .val (.int r640), .val (.int r647), .val (.int r652), .unset, .unset, .unset]
              refine Go.st (S' := T651.setTop (mkF m 145 A654 [])) (fun t k => XS.istore X651.here hx rfl (hb hby at_143) rfl (l' := A654) rfl k) ?_
              refine Go.st (S' := T651.setTop (mkF m 147 A654 [(.long q3)])) (fun t k => XS.lload X651.here hx rfl (hb hby at_145) rfl k) ?_
              refine Go.st (S' := T651.setTop (mkF m 149 A654 [(.long q5), (.long q3)])) (fun t k => XS.lload X651.here hx rfl (hb hby at_147) rfl k) ?_
              obtain ⟨r655, T655, L655, X655, hQ655, st655⟩ := own_callS (W := 0) X651 hx hZ e651 hown (y := (⟨"java/lang/Math", "max", "(JJ)J"⟩ : MethodName)) (hw _ (List.mem_of_getElem? (i := 34) rfl)) (hw _ (List.mem_of_getElem? (i := 35) rfl)) (hw _ (List.mem_of_getElem? (i := 32) rfl)) (hw _ (List.mem_of_getElem? (i := 36) rfl)) (by decide) (rm5 l Z a0 hw [] q3 q5 T611.heap n0 Z618 ) (by decide) (by decide) (by decide) (by decide) (g := (mkF m 149 A654 [(.long q5), (.long q3)])) rfl (by rw [hml]; rfl) (argsL := [(.long q3), (.long q5)]) (rest := []) rfl (lenOf pd_4 rfl) rfl (by show 2 * 0 + _ ≤ _; exact Nat.le_of_eq rfl) (hb hby at_149)
              obtain ⟨r656, hc657, rfl, N655, e655⟩ := hQ655
              have N655_ := Fr.app N651_ N655
              refine Go.st (S' := T655.setTop (mkF m 152 A654 [(.long r656)])) st655 ?_
              let A658 : Array Slot := #[.val (.int p0), .val (.long q1), .second, .val (.int p2), .val (.long q3), .second, .val (.int p4), .val (.long q5), .second, .val (.int v2), .val (.long v4), .second, .val (.long v601), .second, .val (.int r606), .val (.ref b609), .val (.int r621), .val (.int r627), .val (.int r640), .val (.int r647), .val (.int r652), .val (.long r656), .second, .unset]
              refine Go.st (S' := T655.setTop (mkF m 154 A658 [])) (fun t k => XS.lstore X655.here hx rfl (hb hby at_152) rfl (l' := A658) rfl k) ?_
              refine Go.st (S' := T655.setTop (mkF m 156 A658 [(.ref b609)])) (fun t k => XS.aload X655.here hx rfl (hb hby at_154) rfl rfl k) ?_
              refine Go.st (S' := T655.setTop (mkF m 158 A658 [(.int r652), (.ref b609)])) (fun t k => XS.iload X655.here hx rfl (hb hby at_156) rfl k) ?_
              refine Go.st (S' := T655.setTop (mkF m 160 A658 [(.long r656), (.int r652), (.ref b609)])) (fun t k => XS.lload X655.here hx rfl (hb hby at_158) rfl k) ?_
              obtain ⟨r659, T659, L659, X659, hQ659, st659⟩ := own_callV (W := 0) (a := b609) (C := "com/example/hale_ledger/haleledger/bookie/JournalGrouping") X655 hx hZ e655 hown (y := (⟨"com/example/hale_ledger/haleledger/bookie/JournalGrouping", "isFull", "(IJ)Z"⟩ : MethodName)) (z := (⟨"com/example/hale_ledger/haleledger/bookie/JournalGrouping", "isFull", "(IJ)Z"⟩ : MethodName)) (hw _ (List.mem_of_getElem? (i := 25) rfl)) (hw _ (List.mem_of_getElem? (i := 26) rfl)) (notFace_of_selects (args := #[]) (mvT hZ (hw _ (List.mem_of_getElem? (i := 28) rfl)))) (hw _ (List.mem_of_getElem? (i := 28) rfl)) (hw _ (List.mem_of_getElem? (i := 27) rfl)) (hw _ (List.mem_of_getElem? (i := 5) rfl)) (hw _ (List.mem_of_getElem? (i := 29) rfl)) (by decide) (f613) (rm3 l Z a0 hw [] b609 r652 r656 v2 v4 T611.heap n0 Z618 (f614) (f615)) (by decide) (by decide) (by decide) (by decide) (g := (mkF m 160 A658 [(.long r656), (.int r652), (.ref b609)])) rfl (by rw [hml]; rfl) (argsL := [(.int r652), (.long r656)]) (rest := []) rfl (lenOf pd_2 rfl) rfl (by show 2 * 0 + _ ≤ _; exact Nat.le_of_eq rfl) (hb hby at_160)
              obtain ⟨r660, hc661, rfl, N659, e659⟩ := hQ659
              have N659_ := Fr.app N655_ N659
              refine Go.st (S' := T659.setTop (mkF m 163 A658 [(.int r660)])) st659 ?_
              let A662 : Array Slot := #[.val (.int p0), .val (.long q1), .second, .val (.int p2), .val (.long q3), .second, .val (.int p4), .val (.long q5), .second, .val (.int v2), .val (.long v4), .second, .val (.long v601), .second, .val (.int r606), .val (.ref b609), .val (.int r621), .val (.int r627), .val (.int r640), .val (.int r647), .val (.int r652), .val (.long r656), .second, .val (.int r660)]
              refine Go.st (S' := T659.setTop (mkF m 165 A662 [])) (fun t k => XS.istore X659.here hx rfl (hb hby at_163) rfl (l' := A662) rfl k) ?_
              refine Go.st (S' := T659.setTop (mkF m 167 A662 [(.int r621)])) (fun t k => XS.iload X659.here hx rfl (hb hby at_165) rfl k) ?_
              by_cases hc663 : (r621 = (0 : Int32))
              · refine Go.st (S' := T659.setTop (mkF m 177 A662 [])) (fun t k => XS.ifYes X659.here hx rfl (pc0 := 167) (pc' := 177) rfl (hb hby at_167) rfl ((if0 _ _).trans (teq hc663).1) (by decide) (by decide) k) ?_
                refine Go.st (S' := T659.setTop (mkF m 179 A662 [(.ref b609)])) (fun t k => XS.aload X659.here hx rfl (hb hby at_177) rfl rfl k) ?_
                refine Go.st (S' := T659.setTop (mkF m 180 A662 [(.int (0 : Int32)), (.ref b609)])) (fun t k => XS.iconst X659.here hx rfl (hb hby at_179) k) ?_
                refine Go.st (S' := T659.setTop (mkF m 182 A662 [(.long v4), (.int (0 : Int32)), (.ref b609)])) (fun t k => XS.lload X659.here hx rfl (hb hby at_180) rfl k) ?_
                obtain ⟨r664, T664, L664, X664, hQ664, st664⟩ := own_callV (W := 0) (a := b609) (C := "com/example/hale_ledger/haleledger/bookie/JournalGrouping") X659 hx hZ e659 hown (y := (⟨"com/example/hale_ledger/haleledger/bookie/JournalGrouping", "isFull", "(IJ)Z"⟩ : MethodName)) (z := (⟨"com/example/hale_ledger/haleledger/bookie/JournalGrouping", "isFull", "(IJ)Z"⟩ : MethodName)) (hw _ (List.mem_of_getElem? (i := 25) rfl)) (hw _ (List.mem_of_getElem? (i := 26) rfl)) (notFace_of_selects (args := #[]) (mvT hZ (hw _ (List.mem_of_getElem? (i := 28) rfl)))) (hw _ (List.mem_of_getElem? (i := 28) rfl)) (hw _ (List.mem_of_getElem? (i := 27) rfl)) (hw _ (List.mem_of_getElem? (i := 5) rfl)) (hw _ (List.mem_of_getElem? (i := 29) rfl)) (by decide) (f613) (rm3 l Z a0 hw [] b609 (0 : Int32) v4 v2 v4 T611.heap n0 Z618 (f614) (f615)) (by decide) (by decide) (by decide) (by decide) (g := (mkF m 182 A662 [(.long v4), (.int (0 : Int32)), (.ref b609)])) rfl (by rw [hml]; rfl) (argsL := [(.int (0 : Int32)), (.long v4)]) (rest := []) rfl (lenOf pd_2 rfl) rfl (by show 2 * 0 + _ ≤ _; exact Nat.le_of_eq rfl) (hb hby at_182)
                obtain ⟨r665, hc666, rfl, N664, e664⟩ := hQ664
                have N664_ := Fr.app N659_ N664
                refine Go.st (S' := T664.setTop (mkF m 185 A662 [(.int r665)])) st664 ?_
                by_cases hc667 : (r665 = (0 : Int32))
                · exfalso
                  have rv4 := rng64 v4
                  have wv4 := c_maskL q1 (9223372036854775807 : Int64) 63 (by decide) (by decide)
                  rw [← hv4] at wv4
                  have rv603 := rng32 v603
                  have wv603 := c_mask p4 (1 : Int32) 1 (by decide) (by decide)
                  rw [← hv603] at wv603
                  have rv2 := rng32 v2
                  have wv2 := c_mask p0 (2147483647 : Int32) 31 (by decide) (by decide)
                  rw [← hv2] at wv2
                  have rp0 := rng32 p0
                  have rp2 := rng32 p2
                  have rp4 := rng32 p4
                  have rq1 := rng64 q1
                  have rq3 := rng64 q3
                  have rq5 := rng64 q5
                  have rr606 := rng32 r606
                  have rr621 := rng32 r621
                  have rr627 := rng32 r627
                  have rr640 := rng32 r640
                  have rr647 := rng32 r647
                  have rr652 := rng32 r652
                  have rr656 := rng64 r656
                  have rr660 := rng32 r660
                  have rr665 := rng32 r665
                  have lI0 : (0 : Int32).toInt = 0 := by decide
                  have lI1 : (1 : Int32).toInt = 1 := by decide
                  have lI2147483647 : (2147483647 : Int32).toInt = 2147483647 := by decide
                  have lJ0 : (0 : Int64).toInt = 0 := by decide
                  have lJ9223372036854775807 : (9223372036854775807 : Int64).toInt = 9223372036854775807 := by decide
                  simp only [Int32.lt_iff_toInt_lt, Int64.lt_iff_toInt_lt, ← Int32.toInt_inj, ← Int64.toInt_inj] at hc484 hc607 hc622 hc628 hc641 hc648 hc650 hc653 hc657 hc661 hc663 hc666 hc667
                  omega
                · refine Go.st (S' := T664.setTop (mkF m 190 A662 [])) (fun t k => XS.ifYes X664.here hx rfl (pc0 := 185) (pc' := 190) rfl (hb hby at_185) rfl ((if0 _ _).trans (feq hc667).2) (by decide) (by decide) k) ?_
                  refine Go.st (S' := T664.setTop (mkF m 192 A662 [(.ref b609)])) (fun t k => XS.aload X664.here hx rfl (hb hby at_190) rfl rfl k) ?_
                  refine Go.st (S' := T664.setTop (mkF m 193 A662 [(.int (0 : Int32)), (.ref b609)])) (fun t k => XS.iconst X664.here hx rfl (hb hby at_192) k) ?_
                  refine Go.st (S' := T664.setTop (mkF m 195 A662 [(.long v4), (.int (0 : Int32)), (.ref b609)])) (fun t k => XS.lload X664.here hx rfl (hb hby at_193) rfl k) ?_
                  refine Go.st (S' := T664.setTop (mkF m 196 A662 [(.long (1 : Int64)), (.long v4), (.int (0 : Int32)), (.ref b609)])) (fun t k => XS.lconst X664.here hx rfl (hb hby at_195) k) ?_
                  refine Go.op (F := fun z => T664.setTop (mkF m 197 A662 [(.long z), (.int (0 : Int32)), (.ref b609)])) (x := (v4 - (1 : Int64))) (fun t k => XS.lsub X664.here hx rfl (hb hby at_196) rfl k) ?_
                  intro v668 hv668
                  obtain ⟨r669, T669, L669, X669, hQ669, st669⟩ := own_callV (W := 0) (a := b609) (C := "com/example/hale_ledger/haleledger/bookie/JournalGrouping") X664 hx hZ e664 hown (y := (⟨"com/example/hale_ledger/haleledger/bookie/JournalGrouping", "isFull", "(IJ)Z"⟩ : MethodName)) (z := (⟨"com/example/hale_ledger/haleledger/bookie/JournalGrouping", "isFull", "(IJ)Z"⟩ : MethodName)) (hw _ (List.mem_of_getElem? (i := 25) rfl)) (hw _ (List.mem_of_getElem? (i := 26) rfl)) (notFace_of_selects (args := #[]) (mvT hZ (hw _ (List.mem_of_getElem? (i := 28) rfl)))) (hw _ (List.mem_of_getElem? (i := 28) rfl)) (hw _ (List.mem_of_getElem? (i := 27) rfl)) (hw _ (List.mem_of_getElem? (i := 5) rfl)) (hw _ (List.mem_of_getElem? (i := 29) rfl)) (by decide) (f613) (rm3 l Z a0 hw [] b609 (0 : Int32) v668 v2 v4 T611.heap n0 Z618 (f614) (f615)) (by decide) (by decide) (by decide) (by decide) (g := (mkF m 197 A662 [(.long v668), (.int (0 : Int32)), (.ref b609)])) rfl (by rw [hml]; rfl) (argsL := [(.int (0 : Int32)), (.long v668)]) (rest := []) rfl (lenOf pd_2 rfl) rfl (by show 2 * 0 + _ ≤ _; exact Nat.le_of_eq rfl) (hb hby at_197)
                  obtain ⟨r670, hc671, rfl, N669, e669⟩ := hQ669
                  have N669_ := Fr.app N664_ N669
                  refine Go.st (S' := T669.setTop (mkF m 200 A662 [(.int r670)])) st669 ?_
                  by_cases hc672 : (r670 = (0 : Int32))
                  · refine Go.st (S' := T669.setTop (mkF m 205 A662 [])) (fun t k => XS.ifYes X669.here hx rfl (pc0 := 200) (pc' := 205) rfl (hb hby at_200) rfl ((if0 _ _).trans (teq hc672).1) (by decide) (by decide) k) ?_
                    refine Go.st (S' := T669.setTop (mkF m 207 A662 [(.int v2)])) (fun t k => XS.iload X669.here hx rfl (hb hby at_205) rfl k) ?_
                    by_cases hc673 : ((0 : Int32) < v2)
                    · refine Go.st (S' := T669.setTop (mkF m 210 A662 [])) (fun t k => XS.ifNo X669.here hx rfl (hb hby at_207) rfl ((if0 _ _).trans (tlt hc673).2.2.2) k) ?_
                      refine Go.st (S' := T669.setTop (mkF m 212 A662 [(.ref b609)])) (fun t k => XS.aload X669.here hx rfl (hb hby at_210) rfl rfl k) ?_
                      refine Go.st (S' := T669.setTop (mkF m 214 A662 [(.int v2), (.ref b609)])) (fun t k => XS.iload X669.here hx rfl (hb hby at_212) rfl k) ?_
                      refine Go.st (S' := T669.setTop (mkF m 215 A662 [(.long (0 : Int64)), (.int v2), (.ref b609)])) (fun t k => XS.lconst X669.here hx rfl (hb hby at_214) k) ?_
                      obtain ⟨r674, T674, L674, X674, hQ674, st674⟩ := own_callV (W := 0) (a := b609) (C := "com/example/hale_ledger/haleledger/bookie/JournalGrouping") X669 hx hZ e669 hown (y := (⟨"com/example/hale_ledger/haleledger/bookie/JournalGrouping", "isFull", "(IJ)Z"⟩ : MethodName)) (z := (⟨"com/example/hale_ledger/haleledger/bookie/JournalGrouping", "isFull", "(IJ)Z"⟩ : MethodName)) (hw _ (List.mem_of_getElem? (i := 25) rfl)) (hw _ (List.mem_of_getElem? (i := 26) rfl)) (notFace_of_selects (args := #[]) (mvT hZ (hw _ (List.mem_of_getElem? (i := 28) rfl)))) (hw _ (List.mem_of_getElem? (i := 28) rfl)) (hw _ (List.mem_of_getElem? (i := 27) rfl)) (hw _ (List.mem_of_getElem? (i := 5) rfl)) (hw _ (List.mem_of_getElem? (i := 29) rfl)) (by decide) (f613) (rm3 l Z a0 hw [] b609 v2 (0 : Int64) v2 v4 T611.heap n0 Z618 (f614) (f615)) (by decide) (by decide) (by decide) (by decide) (g := (mkF m 215 A662 [(.long (0 : Int64)), (.int v2), (.ref b609)])) rfl (by rw [hml]; rfl) (argsL := [(.int v2), (.long (0 : Int64))]) (rest := []) rfl (lenOf pd_2 rfl) rfl (by show 2 * 0 + _ ≤ _; exact Nat.le_of_eq rfl) (hb hby at_215)
                      obtain ⟨r675, hc676, rfl, N674, e674⟩ := hQ674
                      have N674_ := Fr.app N669_ N674
                      refine Go.st (S' := T674.setTop (mkF m 218 A662 [(.int r675)])) st674 ?_
                      by_cases hc677 : (r675 = (0 : Int32))
                      · exfalso
                        have rv4 := rng64 v4
                        have wv4 := c_maskL q1 (9223372036854775807 : Int64) 63 (by decide) (by decide)
                        rw [← hv4] at wv4
                        have rv603 := rng32 v603
                        have wv603 := c_mask p4 (1 : Int32) 1 (by decide) (by decide)
                        rw [← hv603] at wv603
                        have rv2 := rng32 v2
                        have wv2 := c_mask p0 (2147483647 : Int32) 31 (by decide) (by decide)
                        rw [← hv2] at wv2
                        have rv668 := rng64 v668
                        have wv668 := c_lsub v4 (1 : Int64)
                        rw [← hv668] at wv668
                        have rp0 := rng32 p0
                        have rp2 := rng32 p2
                        have rp4 := rng32 p4
                        have rq1 := rng64 q1
                        have rq3 := rng64 q3
                        have rq5 := rng64 q5
                        have rr606 := rng32 r606
                        have rr621 := rng32 r621
                        have rr627 := rng32 r627
                        have rr640 := rng32 r640
                        have rr647 := rng32 r647
                        have rr652 := rng32 r652
                        have rr656 := rng64 r656
                        have rr660 := rng32 r660
                        have rr665 := rng32 r665
                        have rr670 := rng32 r670
                        have rr675 := rng32 r675
                        have lI0 : (0 : Int32).toInt = 0 := by decide
                        have lI1 : (1 : Int32).toInt = 1 := by decide
                        have lI2147483647 : (2147483647 : Int32).toInt = 2147483647 := by decide
                        have lJ0 : (0 : Int64).toInt = 0 := by decide
                        have lJ1 : (1 : Int64).toInt = 1 := by decide
                        have lJ9223372036854775807 : (9223372036854775807 : Int64).toInt = 9223372036854775807 := by decide
                        simp only [Int32.lt_iff_toInt_lt, Int64.lt_iff_toInt_lt, ← Int32.toInt_inj, ← Int64.toInt_inj] at hc484 hc607 hc622 hc628 hc641 hc648 hc650 hc653 hc657 hc661 hc663 hc666 hc667 hc671 hc672 hc673 hc676 hc677
                        omega
                      · refine Go.st (S' := T674.setTop (mkF m 223 A662 [])) (fun t k => XS.ifYes X674.here hx rfl (pc0 := 218) (pc' := 223) rfl (hb hby at_218) rfl ((if0 _ _).trans (feq hc677).2) (by decide) (by decide) k) ?_
                        refine Go.st (S' := T674.setTop (mkF m 225 A662 [(.ref b609)])) (fun t k => XS.aload X674.here hx rfl (hb hby at_223) rfl rfl k) ?_
                        refine Go.st (S' := T674.setTop (mkF m 227 A662 [(.int v2), (.ref b609)])) (fun t k => XS.iload X674.here hx rfl (hb hby at_225) rfl k) ?_
                        refine Go.st (S' := T674.setTop (mkF m 228 A662 [(.int (1 : Int32)), (.int v2), (.ref b609)])) (fun t k => XS.iconst X674.here hx rfl (hb hby at_227) k) ?_
                        refine Go.op (F := fun z => T674.setTop (mkF m 229 A662 [(.int z), (.ref b609)])) (x := (v2 - (1 : Int32))) (fun t k => XS.isub X674.here hx rfl (hb hby at_228) rfl k) ?_
                        intro v678 hv678
                        refine Go.st (S' := T674.setTop (mkF m 230 A662 [(.long (0 : Int64)), (.int v678), (.ref b609)])) (fun t k => XS.lconst X674.here hx rfl (hb hby at_229) k) ?_
                        obtain ⟨r679, T679, L679, X679, hQ679, st679⟩ := own_callV (W := 0) (a := b609) (C := "com/example/hale_ledger/haleledger/bookie/JournalGrouping") X674 hx hZ e674 hown (y := (⟨"com/example/hale_ledger/haleledger/bookie/JournalGrouping", "isFull", "(IJ)Z"⟩ : MethodName)) (z := (⟨"com/example/hale_ledger/haleledger/bookie/JournalGrouping", "isFull", "(IJ)Z"⟩ : MethodName)) (hw _ (List.mem_of_getElem? (i := 25) rfl)) (hw _ (List.mem_of_getElem? (i := 26) rfl)) (notFace_of_selects (args := #[]) (mvT hZ (hw _ (List.mem_of_getElem? (i := 28) rfl)))) (hw _ (List.mem_of_getElem? (i := 28) rfl)) (hw _ (List.mem_of_getElem? (i := 27) rfl)) (hw _ (List.mem_of_getElem? (i := 5) rfl)) (hw _ (List.mem_of_getElem? (i := 29) rfl)) (by decide) (f613) (rm3 l Z a0 hw [] b609 v678 (0 : Int64) v2 v4 T611.heap n0 Z618 (f614) (f615)) (by decide) (by decide) (by decide) (by decide) (g := (mkF m 230 A662 [(.long (0 : Int64)), (.int v678), (.ref b609)])) rfl (by rw [hml]; rfl) (argsL := [(.int v678), (.long (0 : Int64))]) (rest := []) rfl (lenOf pd_2 rfl) rfl (by show 2 * 0 + _ ≤ _; exact Nat.le_of_eq rfl) (hb hby at_230)
                        obtain ⟨r680, hc681, rfl, N679, e679⟩ := hQ679
                        have N679_ := Fr.app N674_ N679
                        refine Go.st (S' := T679.setTop (mkF m 233 A662 [(.int r680)])) st679 ?_
                        by_cases hc682 : (r680 = (0 : Int32))
                        · refine Go.st (S' := T679.setTop (mkF m 238 A662 [])) (fun t k => XS.ifYes X679.here hx rfl (pc0 := 233) (pc' := 238) rfl (hb hby at_233) rfl ((if0 _ _).trans (teq hc682).1) (by decide) (by decide) k) ?_
                          refine Go.st (S' := T679.setTop (mkF m 239 A662 [(.int (1 : Int32))])) (fun t k => XS.iconst X679.here hx rfl (hb hby at_238) k) ?_
                          exact Go.ret X679 (v := some (.int (1 : Int32))) (fun h => by rw [Bd.returns] at h; cases h) Bd.notSynchronized (fun fs hr => retN X679 hx (t := .boolean) Bd.returns (by simp) (hb hby at_239) hr) (by decide) (by decide) ⟨rfl, N679_⟩
                        · exfalso
                          have rv4 := rng64 v4
                          have wv4 := c_maskL q1 (9223372036854775807 : Int64) 63 (by decide) (by decide)
                          rw [← hv4] at wv4
                          have rv603 := rng32 v603
                          have wv603 := c_mask p4 (1 : Int32) 1 (by decide) (by decide)
                          rw [← hv603] at wv603
                          have rv2 := rng32 v2
                          have wv2 := c_mask p0 (2147483647 : Int32) 31 (by decide) (by decide)
                          rw [← hv2] at wv2
                          have rv668 := rng64 v668
                          have wv668 := c_lsub v4 (1 : Int64)
                          rw [← hv668] at wv668
                          have rv678 := rng32 v678
                          have wv678 := c_isub v2 (1 : Int32)
                          rw [← hv678] at wv678
                          have rp0 := rng32 p0
                          have rp2 := rng32 p2
                          have rp4 := rng32 p4
                          have rq1 := rng64 q1
                          have rq3 := rng64 q3
                          have rq5 := rng64 q5
                          have rr606 := rng32 r606
                          have rr621 := rng32 r621
                          have rr627 := rng32 r627
                          have rr640 := rng32 r640
                          have rr647 := rng32 r647
                          have rr652 := rng32 r652
                          have rr656 := rng64 r656
                          have rr660 := rng32 r660
                          have rr665 := rng32 r665
                          have rr670 := rng32 r670
                          have rr675 := rng32 r675
                          have rr680 := rng32 r680
                          have lI0 : (0 : Int32).toInt = 0 := by decide
                          have lI1 : (1 : Int32).toInt = 1 := by decide
                          have lI2147483647 : (2147483647 : Int32).toInt = 2147483647 := by decide
                          have lJ0 : (0 : Int64).toInt = 0 := by decide
                          have lJ1 : (1 : Int64).toInt = 1 := by decide
                          have lJ9223372036854775807 : (9223372036854775807 : Int64).toInt = 9223372036854775807 := by decide
                          simp only [Int32.lt_iff_toInt_lt, Int64.lt_iff_toInt_lt, ← Int32.toInt_inj, ← Int64.toInt_inj] at hc484 hc607 hc622 hc628 hc641 hc648 hc650 hc653 hc657 hc661 hc663 hc666 hc667 hc671 hc672 hc673 hc676 hc677 hc681 hc682
                          omega
                    · refine Go.st (S' := T669.setTop (mkF m 238 A662 [])) (fun t k => XS.ifYes X669.here hx rfl (pc0 := 207) (pc' := 238) rfl (hb hby at_207) rfl ((if0 _ _).trans (flt hc673).2.2.2) (by decide) (by decide) k) ?_
                      refine Go.st (S' := T669.setTop (mkF m 239 A662 [(.int (1 : Int32))])) (fun t k => XS.iconst X669.here hx rfl (hb hby at_238) k) ?_
                      exact Go.ret X669 (v := some (.int (1 : Int32))) (fun h => by rw [Bd.returns] at h; cases h) Bd.notSynchronized (fun fs hr => retN X669 hx (t := .boolean) Bd.returns (by simp) (hb hby at_239) hr) (by decide) (by decide) ⟨rfl, N669_⟩
                  · exfalso
                    have rv4 := rng64 v4
                    have wv4 := c_maskL q1 (9223372036854775807 : Int64) 63 (by decide) (by decide)
                    rw [← hv4] at wv4
                    have rv603 := rng32 v603
                    have wv603 := c_mask p4 (1 : Int32) 1 (by decide) (by decide)
                    rw [← hv603] at wv603
                    have rv2 := rng32 v2
                    have wv2 := c_mask p0 (2147483647 : Int32) 31 (by decide) (by decide)
                    rw [← hv2] at wv2
                    have rv668 := rng64 v668
                    have wv668 := c_lsub v4 (1 : Int64)
                    rw [← hv668] at wv668
                    have rp0 := rng32 p0
                    have rp2 := rng32 p2
                    have rp4 := rng32 p4
                    have rq1 := rng64 q1
                    have rq3 := rng64 q3
                    have rq5 := rng64 q5
                    have rr606 := rng32 r606
                    have rr621 := rng32 r621
                    have rr627 := rng32 r627
                    have rr640 := rng32 r640
                    have rr647 := rng32 r647
                    have rr652 := rng32 r652
                    have rr656 := rng64 r656
                    have rr660 := rng32 r660
                    have rr665 := rng32 r665
                    have rr670 := rng32 r670
                    have lI0 : (0 : Int32).toInt = 0 := by decide
                    have lI1 : (1 : Int32).toInt = 1 := by decide
                    have lI2147483647 : (2147483647 : Int32).toInt = 2147483647 := by decide
                    have lJ0 : (0 : Int64).toInt = 0 := by decide
                    have lJ1 : (1 : Int64).toInt = 1 := by decide
                    have lJ9223372036854775807 : (9223372036854775807 : Int64).toInt = 9223372036854775807 := by decide
                    simp only [Int32.lt_iff_toInt_lt, Int64.lt_iff_toInt_lt, ← Int32.toInt_inj, ← Int64.toInt_inj] at hc484 hc607 hc622 hc628 hc641 hc648 hc650 hc653 hc657 hc661 hc663 hc666 hc667 hc671 hc672
                    omega
              · refine Go.st (S' := T659.setTop (mkF m 170 A662 [])) (fun t k => XS.ifNo X659.here hx rfl (hb hby at_167) rfl ((if0 _ _).trans (feq hc663).1) k) ?_
                refine Go.st (S' := T659.setTop (mkF m 172 A662 [(.int r660)])) (fun t k => XS.iload X659.here hx rfl (hb hby at_170) rfl k) ?_
                by_cases hc683 : (r660 = (0 : Int32))
                · exfalso
                  have rv4 := rng64 v4
                  have wv4 := c_maskL q1 (9223372036854775807 : Int64) 63 (by decide) (by decide)
                  rw [← hv4] at wv4
                  have rv603 := rng32 v603
                  have wv603 := c_mask p4 (1 : Int32) 1 (by decide) (by decide)
                  rw [← hv603] at wv603
                  have rv2 := rng32 v2
                  have wv2 := c_mask p0 (2147483647 : Int32) 31 (by decide) (by decide)
                  rw [← hv2] at wv2
                  have rp0 := rng32 p0
                  have rp2 := rng32 p2
                  have rp4 := rng32 p4
                  have rq1 := rng64 q1
                  have rq3 := rng64 q3
                  have rq5 := rng64 q5
                  have rr606 := rng32 r606
                  have rr621 := rng32 r621
                  have rr627 := rng32 r627
                  have rr640 := rng32 r640
                  have rr647 := rng32 r647
                  have rr652 := rng32 r652
                  have rr656 := rng64 r656
                  have rr660 := rng32 r660
                  have lI0 : (0 : Int32).toInt = 0 := by decide
                  have lI1 : (1 : Int32).toInt = 1 := by decide
                  have lI2147483647 : (2147483647 : Int32).toInt = 2147483647 := by decide
                  have lJ0 : (0 : Int64).toInt = 0 := by decide
                  have lJ9223372036854775807 : (9223372036854775807 : Int64).toInt = 9223372036854775807 := by decide
                  simp only [Int32.lt_iff_toInt_lt, Int64.lt_iff_toInt_lt, ← Int32.toInt_inj, ← Int64.toInt_inj] at hc484 hc607 hc622 hc628 hc641 hc648 hc650 hc653 hc657 hc661 hc663 hc683
                  omega
                · refine Go.st (S' := T659.setTop (mkF m 177 A662 [])) (fun t k => XS.ifYes X659.here hx rfl (pc0 := 172) (pc' := 177) rfl (hb hby at_172) rfl ((if0 _ _).trans (feq hc683).2) (by decide) (by decide) k) ?_
                  refine Go.st (S' := T659.setTop (mkF m 179 A662 [(.ref b609)])) (fun t k => XS.aload X659.here hx rfl (hb hby at_177) rfl rfl k) ?_
                  refine Go.st (S' := T659.setTop (mkF m 180 A662 [(.int (0 : Int32)), (.ref b609)])) (fun t k => XS.iconst X659.here hx rfl (hb hby at_179) k) ?_
                  refine Go.st (S' := T659.setTop (mkF m 182 A662 [(.long v4), (.int (0 : Int32)), (.ref b609)])) (fun t k => XS.lload X659.here hx rfl (hb hby at_180) rfl k) ?_
                  obtain ⟨r684, T684, L684, X684, hQ684, st684⟩ := own_callV (W := 0) (a := b609) (C := "com/example/hale_ledger/haleledger/bookie/JournalGrouping") X659 hx hZ e659 hown (y := (⟨"com/example/hale_ledger/haleledger/bookie/JournalGrouping", "isFull", "(IJ)Z"⟩ : MethodName)) (z := (⟨"com/example/hale_ledger/haleledger/bookie/JournalGrouping", "isFull", "(IJ)Z"⟩ : MethodName)) (hw _ (List.mem_of_getElem? (i := 25) rfl)) (hw _ (List.mem_of_getElem? (i := 26) rfl)) (notFace_of_selects (args := #[]) (mvT hZ (hw _ (List.mem_of_getElem? (i := 28) rfl)))) (hw _ (List.mem_of_getElem? (i := 28) rfl)) (hw _ (List.mem_of_getElem? (i := 27) rfl)) (hw _ (List.mem_of_getElem? (i := 5) rfl)) (hw _ (List.mem_of_getElem? (i := 29) rfl)) (by decide) (f613) (rm3 l Z a0 hw [] b609 (0 : Int32) v4 v2 v4 T611.heap n0 Z618 (f614) (f615)) (by decide) (by decide) (by decide) (by decide) (g := (mkF m 182 A662 [(.long v4), (.int (0 : Int32)), (.ref b609)])) rfl (by rw [hml]; rfl) (argsL := [(.int (0 : Int32)), (.long v4)]) (rest := []) rfl (lenOf pd_2 rfl) rfl (by show 2 * 0 + _ ≤ _; exact Nat.le_of_eq rfl) (hb hby at_182)
                  obtain ⟨r685, hc686, rfl, N684, e684⟩ := hQ684
                  have N684_ := Fr.app N659_ N684
                  refine Go.st (S' := T684.setTop (mkF m 185 A662 [(.int r685)])) st684 ?_
                  by_cases hc687 : (r685 = (0 : Int32))
                  · exfalso
                    have rv4 := rng64 v4
                    have wv4 := c_maskL q1 (9223372036854775807 : Int64) 63 (by decide) (by decide)
                    rw [← hv4] at wv4
                    have rv603 := rng32 v603
                    have wv603 := c_mask p4 (1 : Int32) 1 (by decide) (by decide)
                    rw [← hv603] at wv603
                    have rv2 := rng32 v2
                    have wv2 := c_mask p0 (2147483647 : Int32) 31 (by decide) (by decide)
                    rw [← hv2] at wv2
                    have rp0 := rng32 p0
                    have rp2 := rng32 p2
                    have rp4 := rng32 p4
                    have rq1 := rng64 q1
                    have rq3 := rng64 q3
                    have rq5 := rng64 q5
                    have rr606 := rng32 r606
                    have rr621 := rng32 r621
                    have rr627 := rng32 r627
                    have rr640 := rng32 r640
                    have rr647 := rng32 r647
                    have rr652 := rng32 r652
                    have rr656 := rng64 r656
                    have rr660 := rng32 r660
                    have rr685 := rng32 r685
                    have lI0 : (0 : Int32).toInt = 0 := by decide
                    have lI1 : (1 : Int32).toInt = 1 := by decide
                    have lI2147483647 : (2147483647 : Int32).toInt = 2147483647 := by decide
                    have lJ0 : (0 : Int64).toInt = 0 := by decide
                    have lJ9223372036854775807 : (9223372036854775807 : Int64).toInt = 9223372036854775807 := by decide
                    simp only [Int32.lt_iff_toInt_lt, Int64.lt_iff_toInt_lt, ← Int32.toInt_inj, ← Int64.toInt_inj] at hc484 hc607 hc622 hc628 hc641 hc648 hc650 hc653 hc657 hc661 hc663 hc683 hc686 hc687
                    omega
                  · refine Go.st (S' := T684.setTop (mkF m 190 A662 [])) (fun t k => XS.ifYes X684.here hx rfl (pc0 := 185) (pc' := 190) rfl (hb hby at_185) rfl ((if0 _ _).trans (feq hc687).2) (by decide) (by decide) k) ?_
                    refine Go.st (S' := T684.setTop (mkF m 192 A662 [(.ref b609)])) (fun t k => XS.aload X684.here hx rfl (hb hby at_190) rfl rfl k) ?_
                    refine Go.st (S' := T684.setTop (mkF m 193 A662 [(.int (0 : Int32)), (.ref b609)])) (fun t k => XS.iconst X684.here hx rfl (hb hby at_192) k) ?_
                    refine Go.st (S' := T684.setTop (mkF m 195 A662 [(.long v4), (.int (0 : Int32)), (.ref b609)])) (fun t k => XS.lload X684.here hx rfl (hb hby at_193) rfl k) ?_
                    refine Go.st (S' := T684.setTop (mkF m 196 A662 [(.long (1 : Int64)), (.long v4), (.int (0 : Int32)), (.ref b609)])) (fun t k => XS.lconst X684.here hx rfl (hb hby at_195) k) ?_
                    refine Go.op (F := fun z => T684.setTop (mkF m 197 A662 [(.long z), (.int (0 : Int32)), (.ref b609)])) (x := (v4 - (1 : Int64))) (fun t k => XS.lsub X684.here hx rfl (hb hby at_196) rfl k) ?_
                    intro v688 hv688
                    obtain ⟨r689, T689, L689, X689, hQ689, st689⟩ := own_callV (W := 0) (a := b609) (C := "com/example/hale_ledger/haleledger/bookie/JournalGrouping") X684 hx hZ e684 hown (y := (⟨"com/example/hale_ledger/haleledger/bookie/JournalGrouping", "isFull", "(IJ)Z"⟩ : MethodName)) (z := (⟨"com/example/hale_ledger/haleledger/bookie/JournalGrouping", "isFull", "(IJ)Z"⟩ : MethodName)) (hw _ (List.mem_of_getElem? (i := 25) rfl)) (hw _ (List.mem_of_getElem? (i := 26) rfl)) (notFace_of_selects (args := #[]) (mvT hZ (hw _ (List.mem_of_getElem? (i := 28) rfl)))) (hw _ (List.mem_of_getElem? (i := 28) rfl)) (hw _ (List.mem_of_getElem? (i := 27) rfl)) (hw _ (List.mem_of_getElem? (i := 5) rfl)) (hw _ (List.mem_of_getElem? (i := 29) rfl)) (by decide) (f613) (rm3 l Z a0 hw [] b609 (0 : Int32) v688 v2 v4 T611.heap n0 Z618 (f614) (f615)) (by decide) (by decide) (by decide) (by decide) (g := (mkF m 197 A662 [(.long v688), (.int (0 : Int32)), (.ref b609)])) rfl (by rw [hml]; rfl) (argsL := [(.int (0 : Int32)), (.long v688)]) (rest := []) rfl (lenOf pd_2 rfl) rfl (by show 2 * 0 + _ ≤ _; exact Nat.le_of_eq rfl) (hb hby at_197)
                    obtain ⟨r690, hc691, rfl, N689, e689⟩ := hQ689
                    have N689_ := Fr.app N684_ N689
                    refine Go.st (S' := T689.setTop (mkF m 200 A662 [(.int r690)])) st689 ?_
                    by_cases hc692 : (r690 = (0 : Int32))
                    · refine Go.st (S' := T689.setTop (mkF m 205 A662 [])) (fun t k => XS.ifYes X689.here hx rfl (pc0 := 200) (pc' := 205) rfl (hb hby at_200) rfl ((if0 _ _).trans (teq hc692).1) (by decide) (by decide) k) ?_
                      refine Go.st (S' := T689.setTop (mkF m 207 A662 [(.int v2)])) (fun t k => XS.iload X689.here hx rfl (hb hby at_205) rfl k) ?_
                      by_cases hc693 : ((0 : Int32) < v2)
                      · refine Go.st (S' := T689.setTop (mkF m 210 A662 [])) (fun t k => XS.ifNo X689.here hx rfl (hb hby at_207) rfl ((if0 _ _).trans (tlt hc693).2.2.2) k) ?_
                        refine Go.st (S' := T689.setTop (mkF m 212 A662 [(.ref b609)])) (fun t k => XS.aload X689.here hx rfl (hb hby at_210) rfl rfl k) ?_
                        refine Go.st (S' := T689.setTop (mkF m 214 A662 [(.int v2), (.ref b609)])) (fun t k => XS.iload X689.here hx rfl (hb hby at_212) rfl k) ?_
                        refine Go.st (S' := T689.setTop (mkF m 215 A662 [(.long (0 : Int64)), (.int v2), (.ref b609)])) (fun t k => XS.lconst X689.here hx rfl (hb hby at_214) k) ?_
                        obtain ⟨r694, T694, L694, X694, hQ694, st694⟩ := own_callV (W := 0) (a := b609) (C := "com/example/hale_ledger/haleledger/bookie/JournalGrouping") X689 hx hZ e689 hown (y := (⟨"com/example/hale_ledger/haleledger/bookie/JournalGrouping", "isFull", "(IJ)Z"⟩ : MethodName)) (z := (⟨"com/example/hale_ledger/haleledger/bookie/JournalGrouping", "isFull", "(IJ)Z"⟩ : MethodName)) (hw _ (List.mem_of_getElem? (i := 25) rfl)) (hw _ (List.mem_of_getElem? (i := 26) rfl)) (notFace_of_selects (args := #[]) (mvT hZ (hw _ (List.mem_of_getElem? (i := 28) rfl)))) (hw _ (List.mem_of_getElem? (i := 28) rfl)) (hw _ (List.mem_of_getElem? (i := 27) rfl)) (hw _ (List.mem_of_getElem? (i := 5) rfl)) (hw _ (List.mem_of_getElem? (i := 29) rfl)) (by decide) (f613) (rm3 l Z a0 hw [] b609 v2 (0 : Int64) v2 v4 T611.heap n0 Z618 (f614) (f615)) (by decide) (by decide) (by decide) (by decide) (g := (mkF m 215 A662 [(.long (0 : Int64)), (.int v2), (.ref b609)])) rfl (by rw [hml]; rfl) (argsL := [(.int v2), (.long (0 : Int64))]) (rest := []) rfl (lenOf pd_2 rfl) rfl (by show 2 * 0 + _ ≤ _; exact Nat.le_of_eq rfl) (hb hby at_215)
                        obtain ⟨r695, hc696, rfl, N694, e694⟩ := hQ694
                        have N694_ := Fr.app N689_ N694
                        refine Go.st (S' := T694.setTop (mkF m 218 A662 [(.int r695)])) st694 ?_
                        by_cases hc697 : (r695 = (0 : Int32))
                        · exfalso
                          have rv4 := rng64 v4
                          have wv4 := c_maskL q1 (9223372036854775807 : Int64) 63 (by decide) (by decide)
                          rw [← hv4] at wv4
                          have rv603 := rng32 v603
                          have wv603 := c_mask p4 (1 : Int32) 1 (by decide) (by decide)
                          rw [← hv603] at wv603
                          have rv2 := rng32 v2
                          have wv2 := c_mask p0 (2147483647 : Int32) 31 (by decide) (by decide)
                          rw [← hv2] at wv2
                          have rv688 := rng64 v688
                          have wv688 := c_lsub v4 (1 : Int64)
                          rw [← hv688] at wv688
                          have rp0 := rng32 p0
                          have rp2 := rng32 p2
                          have rp4 := rng32 p4
                          have rq1 := rng64 q1
                          have rq3 := rng64 q3
                          have rq5 := rng64 q5
                          have rr606 := rng32 r606
                          have rr621 := rng32 r621
                          have rr627 := rng32 r627
                          have rr640 := rng32 r640
                          have rr647 := rng32 r647
                          have rr652 := rng32 r652
                          have rr656 := rng64 r656
                          have rr660 := rng32 r660
                          have rr685 := rng32 r685
                          have rr690 := rng32 r690
                          have rr695 := rng32 r695
                          have lI0 : (0 : Int32).toInt = 0 := by decide
                          have lI1 : (1 : Int32).toInt = 1 := by decide
                          have lI2147483647 : (2147483647 : Int32).toInt = 2147483647 := by decide
                          have lJ0 : (0 : Int64).toInt = 0 := by decide
                          have lJ1 : (1 : Int64).toInt = 1 := by decide
                          have lJ9223372036854775807 : (9223372036854775807 : Int64).toInt = 9223372036854775807 := by decide
                          simp only [Int32.lt_iff_toInt_lt, Int64.lt_iff_toInt_lt, ← Int32.toInt_inj, ← Int64.toInt_inj] at hc484 hc607 hc622 hc628 hc641 hc648 hc650 hc653 hc657 hc661 hc663 hc683 hc686 hc687 hc691 hc692 hc693 hc696 hc697
                          omega
                        · refine Go.st (S' := T694.setTop (mkF m 223 A662 [])) (fun t k => XS.ifYes X694.here hx rfl (pc0 := 218) (pc' := 223) rfl (hb hby at_218) rfl ((if0 _ _).trans (feq hc697).2) (by decide) (by decide) k) ?_
                          refine Go.st (S' := T694.setTop (mkF m 225 A662 [(.ref b609)])) (fun t k => XS.aload X694.here hx rfl (hb hby at_223) rfl rfl k) ?_
                          refine Go.st (S' := T694.setTop (mkF m 227 A662 [(.int v2), (.ref b609)])) (fun t k => XS.iload X694.here hx rfl (hb hby at_225) rfl k) ?_
                          refine Go.st (S' := T694.setTop (mkF m 228 A662 [(.int (1 : Int32)), (.int v2), (.ref b609)])) (fun t k => XS.iconst X694.here hx rfl (hb hby at_227) k) ?_
                          refine Go.op (F := fun z => T694.setTop (mkF m 229 A662 [(.int z), (.ref b609)])) (x := (v2 - (1 : Int32))) (fun t k => XS.isub X694.here hx rfl (hb hby at_228) rfl k) ?_
                          intro v698 hv698
                          refine Go.st (S' := T694.setTop (mkF m 230 A662 [(.long (0 : Int64)), (.int v698), (.ref b609)])) (fun t k => XS.lconst X694.here hx rfl (hb hby at_229) k) ?_
                          obtain ⟨r699, T699, L699, X699, hQ699, st699⟩ := own_callV (W := 0) (a := b609) (C := "com/example/hale_ledger/haleledger/bookie/JournalGrouping") X694 hx hZ e694 hown (y := (⟨"com/example/hale_ledger/haleledger/bookie/JournalGrouping", "isFull", "(IJ)Z"⟩ : MethodName)) (z := (⟨"com/example/hale_ledger/haleledger/bookie/JournalGrouping", "isFull", "(IJ)Z"⟩ : MethodName)) (hw _ (List.mem_of_getElem? (i := 25) rfl)) (hw _ (List.mem_of_getElem? (i := 26) rfl)) (notFace_of_selects (args := #[]) (mvT hZ (hw _ (List.mem_of_getElem? (i := 28) rfl)))) (hw _ (List.mem_of_getElem? (i := 28) rfl)) (hw _ (List.mem_of_getElem? (i := 27) rfl)) (hw _ (List.mem_of_getElem? (i := 5) rfl)) (hw _ (List.mem_of_getElem? (i := 29) rfl)) (by decide) (f613) (rm3 l Z a0 hw [] b609 v698 (0 : Int64) v2 v4 T611.heap n0 Z618 (f614) (f615)) (by decide) (by decide) (by decide) (by decide) (g := (mkF m 230 A662 [(.long (0 : Int64)), (.int v698), (.ref b609)])) rfl (by rw [hml]; rfl) (argsL := [(.int v698), (.long (0 : Int64))]) (rest := []) rfl (lenOf pd_2 rfl) rfl (by show 2 * 0 + _ ≤ _; exact Nat.le_of_eq rfl) (hb hby at_230)
                          obtain ⟨r700, hc701, rfl, N699, e699⟩ := hQ699
                          have N699_ := Fr.app N694_ N699
                          refine Go.st (S' := T699.setTop (mkF m 233 A662 [(.int r700)])) st699 ?_
                          by_cases hc702 : (r700 = (0 : Int32))
                          · refine Go.st (S' := T699.setTop (mkF m 238 A662 [])) (fun t k => XS.ifYes X699.here hx rfl (pc0 := 233) (pc' := 238) rfl (hb hby at_233) rfl ((if0 _ _).trans (teq hc702).1) (by decide) (by decide) k) ?_
                            refine Go.st (S' := T699.setTop (mkF m 239 A662 [(.int (1 : Int32))])) (fun t k => XS.iconst X699.here hx rfl (hb hby at_238) k) ?_
                            exact Go.ret X699 (v := some (.int (1 : Int32))) (fun h => by rw [Bd.returns] at h; cases h) Bd.notSynchronized (fun fs hr => retN X699 hx (t := .boolean) Bd.returns (by simp) (hb hby at_239) hr) (by decide) (by decide) ⟨rfl, N699_⟩
                          · exfalso
                            have rv4 := rng64 v4
                            have wv4 := c_maskL q1 (9223372036854775807 : Int64) 63 (by decide) (by decide)
                            rw [← hv4] at wv4
                            have rv603 := rng32 v603
                            have wv603 := c_mask p4 (1 : Int32) 1 (by decide) (by decide)
                            rw [← hv603] at wv603
                            have rv2 := rng32 v2
                            have wv2 := c_mask p0 (2147483647 : Int32) 31 (by decide) (by decide)
                            rw [← hv2] at wv2
                            have rv688 := rng64 v688
                            have wv688 := c_lsub v4 (1 : Int64)
                            rw [← hv688] at wv688
                            have rv698 := rng32 v698
                            have wv698 := c_isub v2 (1 : Int32)
                            rw [← hv698] at wv698
                            have rp0 := rng32 p0
                            have rp2 := rng32 p2
                            have rp4 := rng32 p4
                            have rq1 := rng64 q1
                            have rq3 := rng64 q3
                            have rq5 := rng64 q5
                            have rr606 := rng32 r606
                            have rr621 := rng32 r621
                            have rr627 := rng32 r627
                            have rr640 := rng32 r640
                            have rr647 := rng32 r647
                            have rr652 := rng32 r652
                            have rr656 := rng64 r656
                            have rr660 := rng32 r660
                            have rr685 := rng32 r685
                            have rr690 := rng32 r690
                            have rr695 := rng32 r695
                            have rr700 := rng32 r700
                            have lI0 : (0 : Int32).toInt = 0 := by decide
                            have lI1 : (1 : Int32).toInt = 1 := by decide
                            have lI2147483647 : (2147483647 : Int32).toInt = 2147483647 := by decide
                            have lJ0 : (0 : Int64).toInt = 0 := by decide
                            have lJ1 : (1 : Int64).toInt = 1 := by decide
                            have lJ9223372036854775807 : (9223372036854775807 : Int64).toInt = 9223372036854775807 := by decide
                            simp only [Int32.lt_iff_toInt_lt, Int64.lt_iff_toInt_lt, ← Int32.toInt_inj, ← Int64.toInt_inj] at hc484 hc607 hc622 hc628 hc641 hc648 hc650 hc653 hc657 hc661 hc663 hc683 hc686 hc687 hc691 hc692 hc693 hc696 hc697 hc701 hc702
                            omega
                      · refine Go.st (S' := T689.setTop (mkF m 238 A662 [])) (fun t k => XS.ifYes X689.here hx rfl (pc0 := 207) (pc' := 238) rfl (hb hby at_207) rfl ((if0 _ _).trans (flt hc693).2.2.2) (by decide) (by decide) k) ?_
                        refine Go.st (S' := T689.setTop (mkF m 239 A662 [(.int (1 : Int32))])) (fun t k => XS.iconst X689.here hx rfl (hb hby at_238) k) ?_
                        exact Go.ret X689 (v := some (.int (1 : Int32))) (fun h => by rw [Bd.returns] at h; cases h) Bd.notSynchronized (fun fs hr => retN X689 hx (t := .boolean) Bd.returns (by simp) (hb hby at_239) hr) (by decide) (by decide) ⟨rfl, N689_⟩
                    · exfalso
                      have rv4 := rng64 v4
                      have wv4 := c_maskL q1 (9223372036854775807 : Int64) 63 (by decide) (by decide)
                      rw [← hv4] at wv4
                      have rv603 := rng32 v603
                      have wv603 := c_mask p4 (1 : Int32) 1 (by decide) (by decide)
                      rw [← hv603] at wv603
                      have rv2 := rng32 v2
                      have wv2 := c_mask p0 (2147483647 : Int32) 31 (by decide) (by decide)
                      rw [← hv2] at wv2
                      have rv688 := rng64 v688
                      have wv688 := c_lsub v4 (1 : Int64)
                      rw [← hv688] at wv688
                      have rp0 := rng32 p0
                      have rp2 := rng32 p2
                      have rp4 := rng32 p4
                      have rq1 := rng64 q1
                      have rq3 := rng64 q3
                      have rq5 := rng64 q5
                      have rr606 := rng32 r606
                      have rr621 := rng32 r621
                      have rr627 := rng32 r627
                      have rr640 := rng32 r640
                      have rr647 := rng32 r647
                      have rr652 := rng32 r652
                      have rr656 := rng64 r656
                      have rr660 := rng32 r660
                      have rr685 := rng32 r685
                      have rr690 := rng32 r690
                      have lI0 : (0 : Int32).toInt = 0 := by decide
                      have lI1 : (1 : Int32).toInt = 1 := by decide
                      have lI2147483647 : (2147483647 : Int32).toInt = 2147483647 := by decide
                      have lJ0 : (0 : Int64).toInt = 0 := by decide
                      have lJ1 : (1 : Int64).toInt = 1 := by decide
                      have lJ9223372036854775807 : (9223372036854775807 : Int64).toInt = 9223372036854775807 := by decide
                      simp only [Int32.lt_iff_toInt_lt, Int64.lt_iff_toInt_lt, ← Int32.toInt_inj, ← Int64.toInt_inj] at hc484 hc607 hc622 hc628 hc641 hc648 hc650 hc653 hc657 hc661 hc663 hc683 hc686 hc687 hc691 hc692
                      omega
            · exfalso
              have rv4 := rng64 v4
              have wv4 := c_maskL q1 (9223372036854775807 : Int64) 63 (by decide) (by decide)
              rw [← hv4] at wv4
              have rv2 := rng32 v2
              have wv2 := c_mask p0 (2147483647 : Int32) 31 (by decide) (by decide)
              rw [← hv2] at wv2
              have rp0 := rng32 p0
              have rp2 := rng32 p2
              have rq1 := rng64 q1
              have rq3 := rng64 q3
              have rr621 := rng32 r621
              have rr627 := rng32 r627
              have rr640 := rng32 r640
              have rr647 := rng32 r647
              have lI0 : (0 : Int32).toInt = 0 := by decide
              have lI1 : (1 : Int32).toInt = 1 := by decide
              have lI2147483647 : (2147483647 : Int32).toInt = 2147483647 := by decide
              have lJ0 : (0 : Int64).toInt = 0 := by decide
              have lJ9223372036854775807 : (9223372036854775807 : Int64).toInt = 9223372036854775807 := by decide
              simp only [Int32.lt_iff_toInt_lt, Int64.lt_iff_toInt_lt, ← Int32.toInt_inj, ← Int64.toInt_inj] at hc484 hc622 hc628 hc641 hc648 hc650
              omega
          · intro J703
            by_cases hc704 : (r627 = (0 : Int32))
            · refine Go.st (S' := T620.setTop (mkF m 116 A642 [])) (fun t k => XS.ifNo X620.here hx rfl (hb hby at_113) rfl ((if0 _ _).trans (teq hc704).2) k) ?_
              refine Go.st (S' := T620.setTop (mkF m 118 A642 [(.int r640)])) (fun t k => XS.iload X620.here hx rfl (hb hby at_116) rfl k) ?_
              by_cases hc705 : (r640 = (0 : Int32))
              · refine Go.st (S' := T620.setTop (mkF m 125 A642 [])) (fun t k => XS.ifYes X620.here hx rfl (pc0 := 118) (pc' := 125) rfl (hb hby at_118) rfl ((if0 _ _).trans (teq hc705).1) (by decide) (by decide) k) ?_
                refine Go.st (S' := T620.setTop (mkF m 126 A642 [(.int (0 : Int32))])) (fun t k => XS.iconst X620.here hx rfl (hb hby at_125) k) ?_
                exact J703 ((0 : Int32)) (Or.inl ⟨hc704, hc705, rfl⟩)
              · refine Go.st (S' := T620.setTop (mkF m 121 A642 [])) (fun t k => XS.ifNo X620.here hx rfl (hb hby at_118) rfl ((if0 _ _).trans (feq hc705).1) k) ?_
                refine Go.st (S' := T620.setTop (mkF m 122 A642 [(.int (1 : Int32))])) (fun t k => XS.iconst X620.here hx rfl (hb hby at_121) k) ?_
                refine Go.st (S' := T620.setTop (mkF m 126 A642 [(.int (1 : Int32))])) (fun t k => XS.goto X620.here hx rfl (pc0 := 122) (pc' := 126) rfl (hb hby at_122) (by decide) (by decide) k) ?_
                exact J703 ((1 : Int32)) (Or.inr (Or.inl ⟨hc704, hc705, rfl⟩))
            · refine Go.st (S' := T620.setTop (mkF m 121 A642 [])) (fun t k => XS.ifYes X620.here hx rfl (pc0 := 113) (pc' := 121) rfl (hb hby at_113) rfl ((if0 _ _).trans (feq hc704).2) (by decide) (by decide) k) ?_
              refine Go.st (S' := T620.setTop (mkF m 122 A642 [(.int (1 : Int32))])) (fun t k => XS.iconst X620.here hx rfl (hb hby at_121) k) ?_
              refine Go.st (S' := T620.setTop (mkF m 126 A642 [(.int (1 : Int32))])) (fun t k => XS.goto X620.here hx rfl (pc0 := 122) (pc' := 126) rfl (hb hby at_122) (by decide) (by decide) k) ?_
              exact J703 ((1 : Int32)) (Or.inr (Or.inr ⟨hc704, rfl⟩))
        · intro J706
          by_cases hc707 : (v2 = (0 : Int32))
          · refine Go.st (S' := T620.setTop (mkF m 92 A629 [])) (fun t k => XS.ifNo X620.here hx rfl (hb hby at_89) rfl ((if0 _ _).trans (teq hc707).2) k) ?_
            refine Go.st (S' := T620.setTop (mkF m 93 A629 [(.int (0 : Int32))])) (fun t k => XS.iconst X620.here hx rfl (hb hby at_92) k) ?_
            let A708 : Array Slot := #[.val (.int p0), .val (.long q1), .second, .val (.int p2), .val (.long q3), .second, .val (.int p4), .val (.long q5), .second, .val (.int v2), .val (.long v4), .second, .val (.long v601), .second, .val (.int r606), .val (.ref b609), .val (.int r621), .val (.int r627), .val (.int (0 : Int32)), .unset, .unset, .unset, .unset, .unset]
            refine Go.st (S' := T620.setTop (mkF m 95 A708 [])) (fun t k => XS.istore X620.here hx rfl (hb hby at_93) rfl (l' := A708) rfl k) ?_
            refine Go.st (S' := T620.setTop (mkF m 111 A708 [])) (fun t k => XS.goto X620.here hx rfl (pc0 := 95) (pc' := 111) rfl (hb hby at_95) (by decide) (by decide) k) ?_
            exact J706 ((0 : Int32)) (Or.inl ⟨hc707, rfl⟩)
          · refine Go.st (S' := T620.setTop (mkF m 98 A629 [])) (fun t k => XS.ifYes X620.here hx rfl (pc0 := 89) (pc' := 98) rfl (hb hby at_89) rfl ((if0 _ _).trans (feq hc707).2) (by decide) (by decide) k) ?_
            refine Go.st (S' := T620.setTop (mkF m 99 A629 [(.int p2)])) (fun t k => XS.iloadN X620.here hx rfl (hb hby at_98) rfl k) ?_
            refine Go.st (S' := T620.setTop (mkF m 101 A629 [(.int v2), (.int p2)])) (fun t k => XS.iload X620.here hx rfl (hb hby at_99) rfl k) ?_
            by_cases hc709 : (p2 < v2)
            · refine Go.st (S' := T620.setTop (mkF m 108 A629 [])) (fun t k => XS.icmpYes X620.here hx rfl (pc0 := 101) (pc' := 108) rfl (hb hby at_101) rfl (tlt hc709).1 (by decide) (by decide) k) ?_
              refine Go.st (S' := T620.setTop (mkF m 109 A629 [(.int (0 : Int32))])) (fun t k => XS.iconst X620.here hx rfl (hb hby at_108) k) ?_
              let A710 : Array Slot := #[.val (.int p0), .val (.long q1), .second, .val (.int p2), .val (.long q3), .second, .val (.int p4), .val (.long q5), .second, .val (.int v2), .val (.long v4), .second, .val (.long v601), .second, .val (.int r606), .val (.ref b609), .val (.int r621), .val (.int r627), .val (.int (0 : Int32)), .unset, .unset, .unset, .unset, .unset]
              refine Go.st (S' := T620.setTop (mkF m 111 A710 [])) (fun t k => XS.istore X620.here hx rfl (hb hby at_109) rfl (l' := A710) rfl k) ?_
              exact J706 ((0 : Int32)) (Or.inr (Or.inl ⟨hc707, hc709, rfl⟩))
            · refine Go.st (S' := T620.setTop (mkF m 104 A629 [])) (fun t k => XS.icmpNo X620.here hx rfl (hb hby at_101) rfl (flt hc709).1 k) ?_
              refine Go.st (S' := T620.setTop (mkF m 105 A629 [(.int (1 : Int32))])) (fun t k => XS.iconst X620.here hx rfl (hb hby at_104) k) ?_
              refine Go.st (S' := T620.setTop (mkF m 109 A629 [(.int (1 : Int32))])) (fun t k => XS.goto X620.here hx rfl (pc0 := 105) (pc' := 109) rfl (hb hby at_105) (by decide) (by decide) k) ?_
              let A711 : Array Slot := #[.val (.int p0), .val (.long q1), .second, .val (.int p2), .val (.long q3), .second, .val (.int p4), .val (.long q5), .second, .val (.int v2), .val (.long v4), .second, .val (.long v601), .second, .val (.int r606), .val (.ref b609), .val (.int r621), .val (.int r627), .val (.int (1 : Int32)), .unset, .unset, .unset, .unset, .unset]
              refine Go.st (S' := T620.setTop (mkF m 111 A711 [])) (fun t k => XS.istore X620.here hx rfl (hb hby at_109) rfl (l' := A711) rfl k) ?_
              exact J706 ((1 : Int32)) (Or.inr (Or.inr ⟨hc707, hc709, rfl⟩))
      · intro J712
        by_cases hc713 : (q3 < v4)
        · refine Go.st (S' := T620.setTop (mkF m 84 A623 [])) (fun t k => XS.ifYes X620.here hx rfl (pc0 := 77) (pc' := 84) rfl (hb hby at_77) rfl ((if0 _ _).trans (tlt (by rw [hv624]; exact (lw_lt _ _).2 hc713)).1) (by decide) (by decide) k) ?_
          refine Go.st (S' := T620.setTop (mkF m 85 A623 [(.int (0 : Int32))])) (fun t k => XS.iconst X620.here hx rfl (hb hby at_84) k) ?_
          exact J712 ((0 : Int32)) (Or.inl ⟨hc713, rfl⟩)
        · refine Go.st (S' := T620.setTop (mkF m 80 A623 [])) (fun t k => XS.ifNo X620.here hx rfl (hb hby at_77) rfl ((if0 _ _).trans (flt (by rw [hv624]; exact fun z => hc713 ((lw_lt _ _).1 z))).1) k) ?_
          refine Go.st (S' := T620.setTop (mkF m 81 A623 [(.int (1 : Int32))])) (fun t k => XS.iconst X620.here hx rfl (hb hby at_80) k) ?_
          refine Go.st (S' := T620.setTop (mkF m 85 A623 [(.int (1 : Int32))])) (fun t k => XS.goto X620.here hx rfl (pc0 := 81) (pc' := 85) rfl (hb hby at_81) (by decide) (by decide) k) ?_
          exact J712 ((1 : Int32)) (Or.inr ⟨hc713, rfl⟩)
    · intro J714
      by_cases hc715 : (v603 = (0 : Int32))
      · refine Go.st (S' := s₁.setTop (mkF m 42 A602 [])) (fun t k => XS.ifYes X0.here hx rfl (pc0 := 35) (pc' := 42) rfl (hb hby at_35) rfl ((if0 _ _).trans (teq hc715).1) (by decide) (by decide) k) ?_
        refine Go.st (S' := s₁.setTop (mkF m 43 A602 [(.int (0 : Int32))])) (fun t k => XS.iconst X0.here hx rfl (hb hby at_42) k) ?_
        exact J714 ((0 : Int32)) (Or.inl ⟨hc715, rfl⟩)
      · refine Go.st (S' := s₁.setTop (mkF m 38 A602 [])) (fun t k => XS.ifNo X0.here hx rfl (hb hby at_35) rfl ((if0 _ _).trans (feq hc715).1) k) ?_
        refine Go.st (S' := s₁.setTop (mkF m 39 A602 [(.int (1 : Int32))])) (fun t k => XS.iconst X0.here hx rfl (hb hby at_38) k) ?_
        refine Go.st (S' := s₁.setTop (mkF m 43 A602 [(.int (1 : Int32))])) (fun t k => XS.goto X0.here hx rfl (pc0 := 39) (pc' := 43) rfl (hb hby at_39) (by decide) (by decide) k) ?_
        exact J714 ((1 : Int32)) (Or.inr ⟨hc715, rfl⟩)
set_option maxRecDepth 65536 in
set_option maxHeartbeats 40000000 in
theorem comes_1 {Post : Tables → Env → Array Value → State → Outcome → State → Prop} (hpost : ∀ tb e args s v u, (limb_1_1.after args s (.returned v) u = true ∧ limb_1_2.after args s (.returned v) u = true ∧ True) → FrameEnd s (.returned v) u (Jvm.fieldLocs frame_1_writes args s ++ Jvm.arrayLocs frame_1_arrays args s ++ Jvm.staticLocs frame_1_statics s) 16 128 → Post tb e args s (.returned v) u) :
    ArmFor flags0 classFile x code maxLocals ret World_1 tables_1 room_1 Calls_1 rest_1 Pre_1 Post := by
  intro l hfl _ _ p e ha hc hk s m args below hf hA hF happ hP
  obtain ⟨hcalls, hrest, hpre⟩ := hP
  obtain ⟨-, -, -, hnamed, -, -, -, hat⟩ := (Spec.applies_iff hf).mp happ
  obtain ⟨hg, hn⟩ := and_e (Cond.before_iff.mp (show (Jvm.Cond.and given_1 narrow_1).before args s = true from hpre))
  obtain ⟨h1, h2⟩ := and_e hg
  obtain ⟨w0, w1, w2, w3, w4, w5, rfl⟩ : ∃ w0 w1 w2 w3 w4 w5 : Value, args = #[w0, w1, w2, w3, w4, w5] := by
    have hs : args.size = 6 := by simpa [Cond.value, given_1] using h1
    obtain ⟨L⟩ := args
    match L, hs with
    | [w0, w1, w2, w3, w4, w5], _ => exact ⟨w0, w1, w2, w3, w4, w5, rfl⟩
  have hw := fun d (hd : d ∈ tables_1) => atoms_spec (ws := Jvm.Cond.code x code maxLocals ret :: tables_1) hat d (List.mem_cons_of_mem _ hd)
  have hfit : Fit s := fun {y c} hc i hi => by
    obtain ⟨ha, rfl⟩ := Array.getElem?_eq_some_iff.mp hc
    have q := List.all_eq_true.mp ((Array.all_eq_true_iff_forall_mem.mp hF) _ (Array.getElem_mem ha)) i (List.mem_range.mpr hi)
    simpa [Array.getElem?_eq_getElem hi] using q
  obtain ⟨q0, h2_0⟩ := and_e h2
  obtain ⟨i0, ee0⟩ := is_v q0
  obtain rfl : w0 = (.int i0) := Option.some.inj ee0
  obtain ⟨q1, h2_1⟩ := and_e h2_0
  obtain ⟨i1, ee1⟩ := isL_v q1
  obtain rfl : w1 = (.long i1) := Option.some.inj ee1
  obtain ⟨q2, h2_2⟩ := and_e h2_1
  obtain ⟨i2, ee2⟩ := is_v q2
  obtain rfl : w2 = (.int i2) := Option.some.inj ee2
  obtain ⟨q3, h2_3⟩ := and_e h2_2
  obtain ⟨i3, ee3⟩ := isL_v q3
  obtain rfl : w3 = (.long i3) := Option.some.inj ee3
  obtain ⟨q4, h2_4⟩ := and_e h2_3
  obtain ⟨i4, ee4⟩ := is_v q4
  obtain rfl : w4 = (.int i4) := Option.some.inj ee4
  obtain ⟨i5, ee5⟩ := isL_v h2_4
  obtain rfl : w5 = (.long i5) := Option.some.inj ee5
  obtain ⟨n, o, h1, h2, h3, _, L, rfl, ⟨rfl, N⟩, hq⟩ := rm6 l s _ hw tables_1 i0 i1 i2 i3 i4 i5 s.heap s.heap.size (Nat.le_refl _)  p e ha hc hk s m _ below hf ((Spec.applies_iff_loose hf).mp happ).1 ⟨rfl, State.Warmed39.refl s, rfl⟩ trivial
  refine ⟨n, _, h1, h2, h3, hpost _ _ _ _ _ _ ⟨Cond.after_iff.mpr rfl, Cond.after_iff.mpr (eq_i res_at (Term.int_eval (1)) rfl), trivial⟩ ⟨hq.1, hq.2.1, (hq.2.2.sift fun y hy => Or.inr (N y hy)).mono (by decide) (by decide)⟩⟩
theorem main_1_1 : Claimed_1_1 := comes_1 fun _ _ _ _ _ _ h hF => ⟨h.1, hF⟩
theorem main_1_2 : Claimed_1_2 := comes_1 fun _ _ _ _ _ _ h hF => ⟨h.2.1, hF⟩
end Jvm.Pilot.@@N@@
namespace Jvm.Pilot.@@N@@
open Jvm Jvm.ClassFile Sem Op Lib Jvm.Free Jvm.Stand Jvm.Pilot.@@N@@.Jvm.D
/-! MADE BY PROGRAM (witnessworld.py) out of the Statement's table words and the real class files: 11 classes; the members and pool entries that the words name. The judged class is class 1, her method 1. -/
namespace start1
open Jvm.ClassFile
def u (s : String) : CpInfo := .utf8 (stringToUtf16 s)
/-- a pool by its gaps: so many unusable entries, then the entry; so many at the end -/
def gap : Nat → List CpInfo → List CpInfo
  | 0, r => r
  | n + 1, r => .unusable :: gap n r
def poolList (es : List (Nat × CpInfo)) (last : Nat) : List CpInfo := es.foldr (fun e r => gap e.1 (e.2 :: r)) (gap last [])
def pool (es : List (Nat × CpInfo)) (last : Nat) : Array CpInfo := ⟨poolList es last⟩
def fileOf (pool : Array CpInfo) (this : Nat) (attrs : Array Attribute := #[]) (ms : Array MethodInfo := #[]) (fl : Nat := 33) (sup : Nat := 0) (ifs : Array Nat := #[]) (fds : Array FieldInfo := #[]) : ClassFile where
  minorVersion := 0
  majorVersion := 65
  constantPool := pool
  accessFlags := fl
  thisClass := this
  superClass := sup
  interfaces := ifs
  fields := fds
  methods := ms
  attributes := attrs
def plain (name : String) (sup : Option ClassId) : Class where
  name := name
  kind := .ordinary
  loader := none
  accessFlags := 33
  super := sup
  interfaces := #[]
  cf := none
  fields := #[]
  methods := #[]
  instanceTypes := #[]
  staticTypes := #[]
  resolved := #[]
  callSites := []
  init := .initialized
  statics := none
  mirror := none

def pool0 : Array CpInfo := pool [(5, u "<init>"), (0, u "()V"), (1, .class_ 10), (1, u "java/lang/Object")] 113

def k0c0 : Code := { maxStack := 0, maxLocals := 1, code := object_method_1_code, exceptionTable := #[], attributes := #[] }
def k0m0 : Method := { name := "<init>", desc := "()V", sig := { parameters := [], returnType := none }, accessFlags := 1, code := some k0c0 }
/-- java/lang/Object -/
def k0 : Class := { plain "java/lang/Object" none with
  accessFlags := 33
  interfaces := #[]
  cf := some (fileOf pool0 8 #[] #[{ accessFlags := 1, nameIndex := 5, descriptorIndex := 6, attributes := #[] }] 33 0 #[] #[])
  fields := #[]
  methods := #[k0m0]
  instanceTypes := #[]
  staticTypes := #[]
  resolved := Array.replicate 124 none
  statics := none }

def pool1 : Array CpInfo := pool [(2, .class_ 4), (1, u "java/lang/Object"), (0, u "<init>"), (0, u "()V"), (0, .integer 2147483647), (2, .long 9223372036854775807), (1, .long 65535), (1, .class_ 15), (0, u "com/example/hale_ledger/haleledger/bookie/JournalGrouping"), (0, .methodref 14 17), (0, .nameAndType 5 18), (0, u "(IJJZ)V"), (0, .methodref 14 20), (0, .nameAndType 21 22), (0, u "isFull"), (0, u "(IJ)Z"), (0, .methodref 24 25), (0, .class_ 26), (0, .nameAndType 27 28), (0, u "java/lang/Math"), (0, u "max"), (0, u "(II)I"), (0, .methodref 24 30), (0, .nameAndType 27 31), (0, u "(JJ)J"), (0, .class_ 33), (0, u "com/example/hale_ledger/haleledger/bookie/JournalGroupingIsFullPinLaw"), (2, u "law"), (0, u "(IJIJIJ)Z")] 3

def k1m0 : Method := { name := "<init>", desc := "()V", sig := { parameters := [], returnType := none }, accessFlags := 1, code := none }
def k1c1 : Code := { maxStack := 8, maxLocals := 24, code := code, exceptionTable := #[], attributes := #[] }
def k1m1 : Method := { name := "law", desc := "(IJIJIJ)Z", sig := { parameters := [.int, .long, .int, .long, .int, .long], returnType := some .boolean }, accessFlags := 9, code := some k1c1 }
/-- com/example/hale_ledger/haleledger/bookie/JournalGroupingIsFullPinLaw -/
def k1 : Class := { plain "com/example/hale_ledger/haleledger/bookie/JournalGroupingIsFullPinLaw" (some 0) with
  accessFlags := 49
  interfaces := #[]
  cf := some (fileOf pool1 32 #[] #[{ accessFlags := 1, nameIndex := 5, descriptorIndex := 6, attributes := #[] }, { accessFlags := 9, nameIndex := 36, descriptorIndex := 37, attributes := #[] }] 49 2 #[] #[])
  fields := #[]
  methods := #[k1m0, k1m1]
  instanceTypes := #[]
  staticTypes := #[]
  resolved := Array.replicate 41 none
  statics := none }

def pool2 : Array CpInfo := pool [(1, .methodref 2 3), (0, .class_ 4), (0, .nameAndType 5 6), (0, u "java/lang/Object"), (0, u "<init>"), (0, u "()V"), (0, .class_ 8), (0, u "java/lang/Record")] 13

def k2c0 : Code := { maxStack := 1, maxLocals := 1, code := jdk_30_method_1_code, exceptionTable := #[], attributes := #[] }
def k2m0 : Method := { name := "<init>", desc := "()V", sig := { parameters := [], returnType := none }, accessFlags := 4, code := some k2c0 }
/-- java/lang/Record -/
def k2 : Class := { plain "java/lang/Record" (some 0) with
  accessFlags := 1057
  interfaces := #[]
  cf := some (fileOf pool2 7 #[] #[{ accessFlags := 4, nameIndex := 5, descriptorIndex := 6, attributes := #[] }] 1057 2 #[] #[])
  fields := #[]
  methods := #[k2m0]
  instanceTypes := #[]
  staticTypes := #[]
  resolved := Array.replicate 22 none
  statics := none }

def pool3 : Array CpInfo := pool [(1, .methodref 2 3), (0, .class_ 4), (0, .nameAndType 5 6), (0, u "java/lang/Record"), (0, u "<init>"), (0, u "()V"), (0, .fieldref 8 9), (0, .class_ 10), (0, .nameAndType 11 12), (0, u "com/example/hale_ledger/haleledger/bookie/JournalGrouping"), (0, u "maxEntries"), (0, u "I"), (0, .fieldref 8 14), (0, .nameAndType 15 16), (0, u "maxBytes"), (0, u "J"), (0, .fieldref 8 18), (0, .nameAndType 19 16), (0, u "waitMillis"), (0, .fieldref 8 21), (0, .nameAndType 22 23), (0, u "flushWhenIdle"), (0, u "Z"), (28, u "(IJJZ)V"), (2, u "DEFAULTS"), (0, u "Lcom/example/hale_ledger/haleledger/bookie/JournalGrouping;"), (3, u "isFull"), (0, u "(IJ)Z")] 31

def k3c0 : Code := { maxStack := 3, maxLocals := 7, code := prog_8_method_1_code, exceptionTable := #[], attributes := #[] }
def k3m0 : Method := { name := "<init>", desc := "(IJJZ)V", sig := { parameters := [.int, .long, .long, .boolean], returnType := none }, accessFlags := 1, code := some k3c0 }
def k3c1 : Code := { maxStack := 4, maxLocals := 4, code := prog_8_method_2_code, exceptionTable := #[], attributes := #[] }
def k3m1 : Method := { name := "isFull", desc := "(IJ)Z", sig := { parameters := [.int, .long], returnType := some .boolean }, accessFlags := 0, code := some k3c1 }
/-- com/example/hale_ledger/haleledger/bookie/JournalGrouping -/
def k3 : Class := { plain "com/example/hale_ledger/haleledger/bookie/JournalGrouping" (some 2) with
  accessFlags := 49
  interfaces := #[]
  cf := some (fileOf pool3 8 #[] #[{ accessFlags := 1, nameIndex := 5, descriptorIndex := 52, attributes := #[] }, { accessFlags := 0, nameIndex := 60, descriptorIndex := 61, attributes := #[] }] 49 2 #[] #[{ accessFlags := 18, nameIndex := 11, descriptorIndex := 12, attributes := #[] }, { accessFlags := 18, nameIndex := 15, descriptorIndex := 16, attributes := #[] }, { accessFlags := 18, nameIndex := 19, descriptorIndex := 16, attributes := #[] }, { accessFlags := 18, nameIndex := 22, descriptorIndex := 23, attributes := #[] }, { accessFlags := 25, nameIndex := 55, descriptorIndex := 56, attributes := #[] }])
  fields := #[{ name := "maxEntries", type := .int, accessFlags := 18, slot := 0, constantValue := 0 }, { name := "maxBytes", type := .long, accessFlags := 18, slot := 1, constantValue := 0 }, { name := "waitMillis", type := .long, accessFlags := 18, slot := 2, constantValue := 0 }, { name := "flushWhenIdle", type := .boolean, accessFlags := 18, slot := 3, constantValue := 0 }, { name := "DEFAULTS", type := (.object "com/example/hale_ledger/haleledger/bookie/JournalGrouping"), accessFlags := 25, slot := 0, constantValue := 0 }]
  methods := #[k3m0, k3m1]
  instanceTypes := #[.int, .long, .long, .boolean]
  staticTypes := #[(.object "com/example/hale_ledger/haleledger/bookie/JournalGrouping")]
  resolved := Array.replicate 93 none
  statics := none }

def pool4 : Array CpInfo := pool [(1, .class_ 2), (0, u "java/lang/Math"), (1, .class_ 6), (1, u "java/lang/Object"), (0, u "<init>"), (0, u "()V"), (89, .class_ 100), (1, u "java/lang/Math$RandomNumberGeneratorHolder"), (20, u "(JJ)J"), (50, u "negativeZeroFloatBits"), (0, u "J"), (2, u "negativeZeroDoubleBits"), (21, u "max"), (46, u "$assertionsDisabled"), (0, u "Z"), (88, u "(II)I"), (2, u "twoToTheDoubleScaleDown"), (0, u "D"), (4, u "twoToTheDoubleScaleUp"), (9, u "E"), (3, u "PI"), (2, u "TAU"), (2, u "DEGREES_TO_RADIANS"), (0, u "RADIANS_TO_DEGREES")] 94

def k4m0 : Method := { name := "<init>", desc := "()V", sig := { parameters := [], returnType := none }, accessFlags := 2, code := none }
def k4c1 : Code := { maxStack := 2, maxLocals := 2, code := jdk_29_method_65_code, exceptionTable := #[], attributes := #[] }
def k4m1 : Method := { name := "max", desc := "(II)I", sig := { parameters := [.int, .int], returnType := some .int }, accessFlags := 9, code := some k4c1 }
def k4c2 : Code := { maxStack := 4, maxLocals := 4, code := jdk_29_method_66_code, exceptionTable := #[], attributes := #[] }
def k4m2 : Method := { name := "max", desc := "(JJ)J", sig := { parameters := [.long, .long], returnType := some .long }, accessFlags := 9, code := some k4c2 }
/-- java/lang/Math -/
def k4 : Class := { plain "java/lang/Math" (some 0) with
  accessFlags := 49
  interfaces := #[]
  cf := some (fileOf pool4 1 #[.nestMembers #[98]] #[{ accessFlags := 2, nameIndex := 7, descriptorIndex := 8, attributes := #[] }, { accessFlags := 9, nameIndex := 198, descriptorIndex := 335, attributes := #[] }, { accessFlags := 9, nameIndex := 198, descriptorIndex := 121, attributes := #[] }] 49 4 #[] #[{ accessFlags := 25, nameIndex := 354, descriptorIndex := 339, attributes := #[] }, { accessFlags := 25, nameIndex := 358, descriptorIndex := 339, attributes := #[] }, { accessFlags := 25, nameIndex := 361, descriptorIndex := 339, attributes := #[] }, { accessFlags := 26, nameIndex := 364, descriptorIndex := 339, attributes := #[] }, { accessFlags := 26, nameIndex := 365, descriptorIndex := 339, attributes := #[] }, { accessFlags := 26, nameIndex := 172, descriptorIndex := 173, attributes := #[] }, { accessFlags := 26, nameIndex := 176, descriptorIndex := 173, attributes := #[] }, { accessFlags := 8, nameIndex := 344, descriptorIndex := 339, attributes := #[] }, { accessFlags := 8, nameIndex := 338, descriptorIndex := 339, attributes := #[] }, { accessFlags := 4120, nameIndex := 245, descriptorIndex := 246, attributes := #[] }])
  fields := #[{ name := "E", type := .double, accessFlags := 25, slot := 0, constantValue := 0 }, { name := "PI", type := .double, accessFlags := 25, slot := 1, constantValue := 0 }, { name := "TAU", type := .double, accessFlags := 25, slot := 2, constantValue := 0 }, { name := "DEGREES_TO_RADIANS", type := .double, accessFlags := 26, slot := 3, constantValue := 0 }, { name := "RADIANS_TO_DEGREES", type := .double, accessFlags := 26, slot := 4, constantValue := 0 }, { name := "negativeZeroFloatBits", type := .long, accessFlags := 26, slot := 5, constantValue := 0 }, { name := "negativeZeroDoubleBits", type := .long, accessFlags := 26, slot := 6, constantValue := 0 }, { name := "twoToTheDoubleScaleUp", type := .double, accessFlags := 8, slot := 7, constantValue := 0 }, { name := "twoToTheDoubleScaleDown", type := .double, accessFlags := 8, slot := 8, constantValue := 0 }, { name := "$assertionsDisabled", type := .boolean, accessFlags := 4120, slot := 9, constantValue := 0 }]
  methods := #[k4m0, k4m1, k4m2]
  instanceTypes := #[]
  staticTypes := #[.double, .double, .double, .double, .double, .long, .long, .double, .double, .boolean]
  resolved := Array.replicate 460 none
  statics := none }

def pool5 : Array CpInfo := pool [(1, u "java/lang/Cloneable"), (0, .class_ 1), (0, u "java/lang/Object"), (0, .class_ 3)] 3

/-- java/lang/Cloneable -/
def k5 : Class := { plain "java/lang/Cloneable" (some 0) with
  accessFlags := 1537
  interfaces := #[]
  cf := some (fileOf pool5 2 #[] #[] 1537 4 #[] #[])
  fields := #[]
  methods := #[]
  instanceTypes := #[]
  staticTypes := #[]
  resolved := Array.replicate 8 none
  statics := none }

def pool6 : Array CpInfo := pool [(1, u "java/io/Serializable"), (0, .class_ 1), (0, u "java/lang/Object"), (0, .class_ 3)] 3

/-- java/io/Serializable -/
def k6 : Class := { plain "java/io/Serializable" (some 0) with
  accessFlags := 1537
  interfaces := #[]
  cf := some (fileOf pool6 2 #[] #[] 1537 4 #[] #[])
  fields := #[]
  methods := #[]
  instanceTypes := #[]
  staticTypes := #[]
  resolved := Array.replicate 8 none
  statics := none }

/-- the primitive byte -/
def k7 : Class := { plain "byte" none with kind := .primitive 'B', accessFlags := 0x411 }
/-- [B -/
def k8 : Class := { plain "[B" (some 0) with kind := .array 7 .byte, interfaces := #[5, 6], accessFlags := 1041 }

/-- the primitive int -/
def k9 : Class := { plain "int" none with kind := .primitive 'I', accessFlags := 0x411 }
/-- [I -/
def k10 : Class := { plain "[I" (some 0) with kind := .array 9 .int, interfaces := #[5, 6], accessFlags := 1041 }

def heap : Heap := #[]
def classes : Array Class := #[k0, k1, k2, k3, k4, k5, k6, k7, k8, k9, k10]
def interned : List (Array UInt16 × Addr) := []
def slotsUsed : Nat := 0
def theMethod : MethodId := ⟨1, 1⟩
def args0 : Array Value := #[.int 5, .long 300, .int 7, .long 2, .int 3, .long 9]
def aboutOver (below : List Frame) : State where
  vm := { classes := classes, interned := interned.toArray }
  heap := heap
  slotsUsed := slotsUsed
  threads := #[{ frames := .invoking theMethod args0 :: below }]
def below0 : List Frame := [.native { method := ⟨0, 0⟩, args := #[] }]
def about1 : State := aboutOver below0
def p0 : Program := .bare "" "" ""
def e0 : Env := launch0.env 0 0 0
theorem w_frames : about1.frames = Frame.invoking theMethod args0 :: below0 := rfl
set_option maxRecDepth 65536 in
theorem w_args : argsFit about1.vm theMethod args0 = true := by decide +kernel
set_option maxRecDepth 65536 in
theorem w_heap : heapFits about1 = true := by decide +kernel
set_option maxRecDepth 65536 in
theorem w_runnable : about1.curStatus? = some .runnable := by decide +kernel
set_option maxRecDepth 65536 in
theorem w_alone : about1.alone = true := by decide +kernel
set_option maxRecDepth 65536 in
theorem w_named : about1.methodNamed? x = some theMethod := by decide +kernel
set_option maxRecDepth 65536 in
theorem w_hears : about1.hears theMethod below0 = true := by decide +kernel
set_option maxRecDepth 65536 in
theorem w_ripe : about1.ripe theMethod args0 below0 = true := by decide +kernel
theorem w_running : about1.status = .running := rfl
set_option maxRecDepth 65536 in
theorem w_room : about1.hasRoom e0.platform room_1 = true :=
  launch0.hasRoom_least _ room_1 (by decide +kernel) (by decide +kernel) (by decide +kernel) (by decide +kernel) (by decide +kernel) (by decide +kernel)
theorem allAtoms_all (ts : List Jvm.Cond) (a : Array Jvm.Value) (st : Jvm.State) : (allAtoms ts).before a st = ts.all (fun c => c.before a st) := by
  induction ts with
  | nil => rfl
  | cons c t ih =>
    show (Jvm.Cond.and c (allAtoms t)).before a st = _
    rw [Jvm.Cond.before_and, ih, List.all_cons]
def words1 : List Jvm.Cond := Jvm.Cond.code x code maxLocals ret :: tables_1
/-- a 'code' word, met by the world's own term for the bytes: nothing is compared byte by byte -/
theorem code_word {y : MethodName} {bytes : ByteArray} {mx : Nat} {rt : Option FieldType} {a : Array Value} {s : State} {m : MethodId} {meth : Method} {c : Code} (h1 : s.methodNamed? y = some m) (h2 : s.vm.method? m = some meth) (h3 : meth.code = some c) (h4 : c.code = bytes)
    (h5 : (c.maxLocals == mx && c.exceptionTable.isEmpty && decide (c.maxStack ≤ mostOperands) && decide (meth.sig.returnType = rt) && !meth.locks && decide (parseMethodDescriptor y.desc = some meth.sig)) = true) : (Jvm.Cond.code y bytes mx rt).before a s = true := by
  simp only [Bool.and_eq_true, beq_iff_eq, Bool.not_eq_true', decide_eq_true_eq] at h5
  obtain ⟨⟨⟨⟨⟨g1, g2⟩, g3⟩, g4⟩, g5⟩, g6⟩ := h5
  simp [Cond.before, Cond.holds, Cond.value, h1, h2, h3, h4, g1, g2, g3, g4, g5, g6]
def isCode : Jvm.Cond → Bool
  | .code _ _ _ _ => true
  | _ => false
theorem all_split {L : List Jvm.Cond} {P : Jvm.Cond → Bool} (h1 : L.all (fun c => isCode c || P c) = true) (h2 : ∀ c ∈ L.filter isCode, P c = true) : L.all P = true := by
  refine List.all_eq_true.mpr fun c hc => ?_
  have h := List.all_eq_true.mp h1 c hc
  rcases Bool.eq_false_or_eq_true (isCode c) with hi | hi
  · exact h2 c (List.mem_filter.mpr ⟨hc, hi⟩)
  · simpa [hi] using h
set_option maxRecDepth 65536 in
theorem w_c0 : (Jvm.Cond.code x code maxLocals ret).before args0 about1 = true := code_word (m := ⟨1, 1⟩) (meth := k1m1) (c := k1c1) (by decide +kernel) rfl rfl rfl (by decide +kernel)
set_option maxRecDepth 65536 in
theorem w_c1 : (Jvm.Cond.code ({ cls := "com/example/hale_ledger/haleledger/bookie/JournalGrouping", name := "<init>", desc := "(IJJZ)V" } : Jvm.MethodName) prog_8_method_1_code (7 : Nat) (Option.none : Option Jvm.ClassFile.FieldType)).before args0 about1 = true := code_word (m := ⟨3, 0⟩) (meth := k3m0) (c := k3c0) (by decide +kernel) rfl rfl rfl (by decide +kernel)
set_option maxRecDepth 65536 in
theorem w_c2 : (Jvm.Cond.code ({ cls := "java/lang/Record", name := "<init>", desc := "()V" } : Jvm.MethodName) jdk_30_method_1_code (1 : Nat) (Option.none : Option Jvm.ClassFile.FieldType)).before args0 about1 = true := code_word (m := ⟨2, 0⟩) (meth := k2m0) (c := k2c0) (by decide +kernel) rfl rfl rfl (by decide +kernel)
set_option maxRecDepth 65536 in
theorem w_c3 : (Jvm.Cond.code ({ cls := "java/lang/Object", name := "<init>", desc := "()V" } : Jvm.MethodName) object_method_1_code (1 : Nat) (Option.none : Option Jvm.ClassFile.FieldType)).before args0 about1 = true := code_word (m := ⟨0, 0⟩) (meth := k0m0) (c := k0c0) (by decide +kernel) rfl rfl rfl (by decide +kernel)
set_option maxRecDepth 65536 in
theorem w_c4 : (Jvm.Cond.code ({ cls := "com/example/hale_ledger/haleledger/bookie/JournalGrouping", name := "isFull", desc := "(IJ)Z" } : Jvm.MethodName) prog_8_method_2_code (4 : Nat) (Option.some Jvm.ClassFile.FieldType.boolean)).before args0 about1 = true := code_word (m := ⟨3, 1⟩) (meth := k3m1) (c := k3c1) (by decide +kernel) rfl rfl rfl (by decide +kernel)
set_option maxRecDepth 65536 in
theorem w_c5 : (Jvm.Cond.code ({ cls := "java/lang/Math", name := "max", desc := "(II)I" } : Jvm.MethodName) jdk_29_method_65_code (2 : Nat) (Option.some Jvm.ClassFile.FieldType.int)).before args0 about1 = true := code_word (m := ⟨4, 1⟩) (meth := k4m1) (c := k4c1) (by decide +kernel) rfl rfl rfl (by decide +kernel)
set_option maxRecDepth 65536 in
theorem w_c6 : (Jvm.Cond.code ({ cls := "java/lang/Math", name := "max", desc := "(JJ)J" } : Jvm.MethodName) jdk_29_method_66_code (4 : Nat) (Option.some Jvm.ClassFile.FieldType.long)).before args0 about1 = true := code_word (m := ⟨4, 2⟩) (meth := k4m2) (c := k4c2) (by decide +kernel) rfl rfl rfl (by decide +kernel)
def codes1 : List Jvm.Cond := [Jvm.Cond.code x code maxLocals ret, Jvm.Cond.code ({ cls := "com/example/hale_ledger/haleledger/bookie/JournalGrouping", name := "<init>", desc := "(IJJZ)V" } : Jvm.MethodName) prog_8_method_1_code (7 : Nat) (Option.none : Option Jvm.ClassFile.FieldType), Jvm.Cond.code ({ cls := "java/lang/Record", name := "<init>", desc := "()V" } : Jvm.MethodName) jdk_30_method_1_code (1 : Nat) (Option.none : Option Jvm.ClassFile.FieldType), Jvm.Cond.code ({ cls := "java/lang/Object", name := "<init>", desc := "()V" } : Jvm.MethodName) object_method_1_code (1 : Nat) (Option.none : Option Jvm.ClassFile.FieldType), Jvm.Cond.code ({ cls := "com/example/hale_ledger/haleledger/bookie/JournalGrouping", name := "isFull", desc := "(IJ)Z" } : Jvm.MethodName) prog_8_method_2_code (4 : Nat) (Option.some Jvm.ClassFile.FieldType.boolean), Jvm.Cond.code ({ cls := "java/lang/Math", name := "max", desc := "(II)I" } : Jvm.MethodName) jdk_29_method_65_code (2 : Nat) (Option.some Jvm.ClassFile.FieldType.int), Jvm.Cond.code ({ cls := "java/lang/Math", name := "max", desc := "(JJ)J" } : Jvm.MethodName) jdk_29_method_66_code (4 : Nat) (Option.some Jvm.ClassFile.FieldType.long)]
set_option maxRecDepth 65536 in
theorem codes_eq : words1.filter isCode = codes1 := rfl
theorem w_codes : ∀ c ∈ words1.filter isCode, c.before args0 about1 = true := by
  rw [codes_eq]
  intro c hc
  simp only [codes1, List.mem_cons, List.not_mem_nil, or_false] at hc
  rcases hc with rfl | rfl | rfl | rfl | rfl | rfl | rfl
  · exact w_c0
  · exact w_c1
  · exact w_c2
  · exact w_c3
  · exact w_c4
  · exact w_c5
  · exact w_c6
set_option maxRecDepth 65536 in
theorem w_t1 : (words1.take 24).all (fun c => isCode c || c.before args0 about1) = true := by decide +kernel
set_option maxRecDepth 65536 in
theorem w_t2 : (words1.drop 24).all (fun c => isCode c || c.before args0 about1) = true := by decide +kernel
theorem w_tables : (allAtoms (Jvm.Cond.code x code maxLocals ret :: tables_1)).before args0 about1 = true := by
  rw [allAtoms_all]
  show words1.all (fun c => c.before args0 about1) = true
  refine all_split ?_ w_codes
  rw [← List.take_append_drop 24 words1, List.all_append, w_t1, w_t2]
  rfl
set_option maxRecDepth 65536 in
theorem w_case : (Jvm.Cond.and given_1 narrow_1).before args0 about1 = true := by decide +kernel
theorem w_applies : (headSpec (Jvm.Cond.code x code maxLocals ret :: tables_1) room_1).applies x e0.platform about1 = true :=
  (Spec.applies_iff w_frames).mpr ⟨w_running, w_runnable, w_alone, w_named, w_hears, w_ripe, w_room, w_tables⟩
theorem atStart : AtStart classFile x code maxLocals ret World_1 tables_1 room_1 Calls_1 rest_1 Pre_1 launch0 p0 e0 about1 theMethod args0 below0 :=
  ⟨lists_1, trivial, launch0.admits_env _ _ _, launch0.least_env, fairChoices_fair.cas, fairChoices_fair.clock, w_frames, w_args, w_heap, w_applies, trivial, trivial, w_case⟩
end start1
theorem witness_1 : WitnessClaimed_1 := ⟨start1.p0, start1.e0, start1.about1, start1.theMethod, start1.args0, start1.below0, start1.atStart⟩
end Jvm.Pilot.@@N@@
